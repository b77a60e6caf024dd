import JvmDerived
import JvmDerived.Pilot.@@N@@Statement
import JvmDerived.Pilot.@@N@@Code
set_option linter.unusedVariables false
set_option linter.unusedSimpArgs false
namespace Jvm.RoadKit
open Sem ClassFile Op Lib Jvm.Stand Jvm.Free Jvm.LawKit
section Own
variable {p : Program} {l : Launch} {e : Env} {R : Room} {s : State} {m : MethodId} {args : Array Value} {below : List Frame} {meth : Method} {c : Code} {T : State} {locs : List Loc} {cells slots : Nat} {Z : State} {a0 : Array Value} {h : Heap}
/-- what is left of a body: from the frame g on it ends, and Q holds of what it returns, the heap and the places written -/
def Goes (p : Program) (e : Env) (below : List Frame) (s : State) (K N : Nat) (Q : Option Value → Heap → List Loc → Prop) (T : State) (g : JFrame) : Prop :=
  ∃ s₂ o, Steps p.tables e below (T.setTop g) s₂ ∧ s₂.status = .running ∧ Ended s₂ below o ∧ ∃ v L, o = .returned v ∧ Q v s₂.heap L ∧ FrameEnd s o s₂ L K N
theorem Goes.step {K N : Nat} {Q : Option Value → Heap → List Loc → Prop} {T' : State} {g g' : JFrame} (k : ∀ t, Steps p.tables e below (T'.setTop g') t → Steps p.tables e below (T.setTop g) t) (h : Goes p e below s K N Q T' g') : Goes p e below s K N Q T g := by
  obtain ⟨s₂, o, h1, h2⟩ := h
  exact ⟨s₂, o, k _ h1, h2⟩
theorem Goes.ite {K N : Nat} {α : Type} {Q : α → Option Value → Heap → List Loc → Prop} {g : JFrame} {a b : α} {d : Prop} [Decidable d] (h1 : d → Goes p e below s K N (Q a) T g) (h2 : ¬ d → Goes p e below s K N (Q b) T g) : Goes p e below s K N (Q (if d then a else b)) T g := by
  split
  · next q => exact h1 q
  · next q => exact h2 q
theorem retI (X : Stand p l e R s m args below meth c T locs cells slots) (hx : p.tables.exec = Jvm.exec) {pc : Nat} {Ls : Array Slot} {z : Int32} {rest : List Value} (hret : meth.sig.returnType = some .int) (hd : decode c.code pc = .ok (.ireturn, 1)) {fs : List Frame}
    (hl : ∀ (f : JFrame) (acts : List Action), f.method = m → f.locked = none → f.entered = [] → (doReturn e (T.setTop f) acts (some (.int z))).1 = T.setFrames fs) : Steps p.tables e below (T.setTop (mkF m pc Ls (.int z :: rest))) (T.setFrames fs) := by
  have hm' : T.vm.method? m = some meth := X.method'
  have hn : narrow .int (.int z) = .int z := rfl
  show Steps p.tables e below (T.setTop { method := m, pc := pc, locals := Ls, stack := _ :: rest, locked := none }) _
  jvm_step X.here [X.here.top, hx, hd, hm', hret, hn]
  first | (intro acts; rw [hl _ acts rfl rfl rfl]) | rw [hl _ _ rfl rfl rfl]
  exact Steps.refl _
theorem Goes.outI (X : Stand p l e R s m args below meth c T locs cells slots) (hx : p.tables.exec = Jvm.exec) (hlk : meth.locks = false) (hret : meth.sig.returnType = some .int) {pc : Nat} (hd : decode c.code pc = .ok (.ireturn, 1)) {Ls : Array Slot} {z : Int32} {rest : List Value} {K N : Nat} {Q : Option Value → Heap → List Loc → Prop}
    (hq : Q (some (.int z)) T.heap locs) (hk : cells ≤ K) (hn : slots ≤ N) : Goes p e below s K N Q T (mkF m pc Ls (.int z :: rest)) := by
  obtain ⟨fs, hr, hrun, hended, hW, hsame⟩ := X.leave (v := some (.int z)) (fun h => by rw [hret] at h; cases h) hlk
  exact ⟨_, _, retI X hx hret hd hr, hrun, hended, _, _, rfl, hq, ⟨_, rfl⟩, hW, hsame.mono hk hn⟩
theorem Goes.outN (X : Stand p l e R s m args below meth c T locs cells slots) (hx : p.tables.exec = Jvm.exec) (hlk : meth.locks = false) {t : FieldType} (hret : meth.sig.returnType = some t) (ht : t = .boolean ∨ t = .byte ∨ t = .char ∨ t = .short) {pc : Nat} (hd : decode c.code pc = .ok (.ireturn, 1)) {Ls : Array Slot} {z : Int32} {rest : List Value} {K N : Nat} {Q : Option Value → Heap → List Loc → Prop}
    (hq : Q (some (.int (nar t z))) T.heap locs) (hk : cells ≤ K) (hn : slots ≤ N) : Goes p e below s K N Q T (mkF m pc Ls (.int z :: rest)) := by
  obtain ⟨fs, hr, hrun, hended, hW, hsame⟩ := X.leave (v := some (.int (nar t z))) (fun h => by rw [hret] at h; cases h) hlk
  exact ⟨_, _, retN X hx hret ht hd hr, hrun, hended, _, _, rfl, hq, ⟨_, rfl⟩, hW, hsame.mono hk hn⟩
theorem Goes.outV (X : Stand p l e R s m args below meth c T locs cells slots) (hx : p.tables.exec = Jvm.exec) (hlk : meth.locks = false) (hret : meth.sig.returnType = none) {pc : Nat} (hd : decode c.code pc = .ok (.return_, 1)) {Ls : Array Slot} {K N : Nat} {Q : Option Value → Heap → List Loc → Prop}
    (hq : Q none T.heap locs) (hk : cells ≤ K) (hn : slots ≤ N) : Goes p e below s K N Q T (mkF m pc Ls []) := by
  obtain ⟨fs, hr, hrun, hended, hW, hsame⟩ := X.leave (v := none) (fun _ => rfl) hlk
  exact ⟨_, _, X.returnOut hx hret hd hr, hrun, hended, _, _, rfl, hq, ⟨_, rfl⟩, hW, hsame.mono hk hn⟩
theorem Goes.outR (X : Stand p l e R s m args below meth c T locs cells slots) (hx : p.tables.exec = Jvm.exec) (hlk : meth.locks = false) {t : FieldType} (hret : meth.sig.returnType = some t) (ht : t.isReference = true) {w : Value} (hw : w.isRef = true) {pc : Nat} (hd : decode c.code pc = .ok (.areturn, 1)) {Ls : Array Slot} {K N : Nat} {Q : Option Value → Heap → List Loc → Prop}
    (hq : Q (some w) T.heap locs) (hk : cells ≤ K) (hn : slots ≤ N) : Goes p e below s K N Q T (mkF m pc Ls [w]) := by
  obtain ⟨fs, hr, hrun, hended, hW, hsame⟩ := X.leave (v := some w) (fun h => by rw [hret] at h; cases h) hlk
  exact ⟨_, _, X.areturnOut hx hw hret ht hd hr, hrun, hended, _, _, rfl, hq, ⟨_, rfl⟩, hW, hsame.mono hk hn⟩
/-- a body that returns v and leaves the heap as it was -/
def PV (h0 : Heap) (r : Value) (v : Option Value) (h : Heap) (L : List Loc) : Prop := v = some r ∧ L = [] ∧ h = h0
def PI (h0 : Heap) (r : Int32) (v : Option Value) (h : Heap) (L : List Loc) : Prop := PV h0 (.int r) v h L
/-- a reference that may be null -/
def ov : Option Addr → Value
  | none => .null
  | some b => .ref b
/-- a static call of a body that leaves the heap as it was -/
theorem callPure (X : Stand p l e R s m args below meth c T locs cells slots) (hx : p.tables.exec = Jvm.exec) (hZ : Z.Warmed39 s.vm) {own : String} {index : Nat} {y : MethodName} {bytes : ByteArray} {maxL : Nat} {ret : Option FieldType} (hown : s.vm.findClass own = some m.cls)
    (w1 : (Cond.methodLink own index y).before a0 Z = true) (w2 : (Cond.static y).before a0 Z = true) (w3 : (Cond.initialized y.cls).before a0 Z = true) (w4 : (Cond.code y bytes maxL ret).before a0 Z = true) (hy : y.cls ≠ "java/lang/invoke/MethodHandle" ∧ y.cls ≠ "java/lang/invoke/VarHandle")
    {F W0 W : Nat} {argsL rest : List Value} {r : Value} {Q : Option Value → Heap → List Loc → Prop} (hQ : ∀ v h' L, Q v h' L → PV h r v h' L)
    (hM : MetFree l y (head1 [Cond.code y bytes maxL ret] ({ frames := F, cells := 0, slots := 0, locals := W0 } : Room)) (fun a U => a = argsL.toArray ∧ Z.Warmed39 U.vm ∧ U.heap = h) (fun _ _ _ _ _ => True) (fun _ U o U' => ∃ v L, o = .returned v ∧ Q v U'.heap L ∧ FrameEnd U o U' L ({ frames := F, cells := 0, slots := 0, locals := W0 } : Room).cells ({ frames := F, cells := 0, slots := 0, locals := W0 } : Room).slots))
    (hf : F + 1 ≤ R.frames) (hl : W + (maxL + 11) + W0 ≤ R.locals) (hc : cells ≤ R.cells) (hs : slots ≤ R.slots) (eT : T.heap = h) {g : JFrame} (hg : g.method = m) (hsize : g.locals.size = c.maxLocals) (hlen : ∀ sig, parseMethodDescriptor y.desc = some sig → argsL.length = sig.parameters.length)
    (hstack : g.stack = argsL.reverse ++ rest) (hW : 2 * g.monitorRoom + (rest.map fun v => v.category).sum ≤ W) (hd : decode c.code g.pc = .ok (.invokestatic index, 3)) :
    ∃ T', Stand p l e R s m args below meth c T' locs cells slots ∧ T'.heap = h ∧ ∀ target, Steps p.tables e below (T'.setTop { g with pc := g.pc + 3, stack := r :: rest }) target → Steps p.tables e below (T.setTop g) target := by
  obtain ⟨_, _, ⟨T18, L18, k18, n18⟩, -, X18, ⟨Lc, hq, l18, y18, z18⟩, st⟩ := Jvm.LawKit.callS X hx hown (mvT hZ w1) (mvT hZ w2) (mvT hZ w3) (mvT hZ w4) hy (backOf (W := W) hM hZ w4 w3 hf hl) hg hsize hlen hstack hW hd (fun _ _ => ⟨rfl, eT, hc, hs⟩)
  dsimp only [Pt.U, Pt.locs, Pt.cells, Pt.slots] at X18 l18 y18 z18 st hq
  subst l18 y18 z18
  obtain ⟨rfl, rfl, e18⟩ := hQ _ _ _ hq
  rw [List.append_nil] at X18
  exact ⟨T18, X18, e18, st⟩
end Own
end Jvm.RoadKit
namespace Jvm.RoadKit
open Sem ClassFile Op Lib Jvm.Stand Jvm.Free Jvm.LawKit
section OwnHeap
variable {p : Program} {l : Launch} {e : Env} {R : Room} {s : State} {m : MethodId} {args : Array Value} {below : List Frame} {meth : Method} {c : Code} {T : State} {locs : List Loc} {cells slots : Nat} {Z : State} {a0 : Array Value} {h h' : Heap} {a b : Addr} {ty : FieldType} {n : Nat} {f : Nat → Int32}
/-- an array of n ints (bytes, chars ..): place j holds f j -/
def Ari (Z : State) (h : Heap) (a : Addr) (ty : FieldType) (n : Nat) (f : Nat → Int32) : Prop := ∃ c : Cell, Arr Z h a c ty ∧ c.slots.size = n ∧ n < 2 ^ 31 ∧ ∀ j, j < n → c.slots[j]? = some (.int (f j)) ∧ fits ty (.int (f j)) = true
theorem Ari.lt (F : Ari Z h a ty n f) : a < h.size := by obtain ⟨c, A, -⟩ := F; exact A.lt
theorem Ari.ext (F : Ari Z h a ty n f) (E : Ext h h') : Ari Z h' a ty n f := by obtain ⟨c, A, r⟩ := F; exact ⟨c, A.ext E, r⟩
theorem Ari.other {v : Value} {sl : Nat} (F : Ari Z h b ty n f) (W : Wr h h' a sl v) (q : b ≠ a) : Ari Z h' b ty n f := by obtain ⟨c, A, r⟩ := F; exact ⟨c, A.other W q, r⟩
theorem Ari.keep {ws : List Addr} (F : Ari Z h a ty n f) (K : Keep h h' ws) (q : a ∉ ws) : Ari Z h' a ty n f := by obtain ⟨c, A, r⟩ := F; exact ⟨c, ⟨K.2.1 a c A.1 q, A.2⟩, r⟩
def updI (f : Nat → Int32) (i : Nat) (x : Int32) : Nat → Int32 := fun j => if j = i then x else f j
theorem Ari.store {i : Nat} {x : Int32} (F : Ari Z h a ty n f) (W : Wr h h' a i (.int x)) (hi : i < n) (hx : fits ty (.int x) = true) : Ari Z h' a ty n (updI f i x) := by
  obtain ⟨c, A, h1, h2, h3⟩ := F
  refine ⟨c.setSlot i (.int x), A.same W, by rw [sz_set]; exact h1, h2, fun j hj => ?_⟩
  by_cases e : j = i
  · subst e
    simp only [updI, if_true]
    exact ⟨by simp [Cell.setSlot, h1, hj], hx⟩
  · simp only [updI, e, if_false]
    exact ⟨by rw [← (h3 j hj).1]; simp [Cell.setSlot, Array.getElem?_setIfInBounds, Ne.symm e], (h3 j hj).2⟩
/-- newarray of N places -/
theorem newI (X : Stand p l e R s m args below meth c T locs cells slots) (hx : p.tables.exec = Jvm.exec) (hZ : Z.Warmed39 s.vm) {aty : ArrayType} (w : (Cond.arrayClass (newarray.typeOf aty)).before a0 Z = true) (eT : T.heap = h) {g : JFrame} (hg : g.method = m) (hd : decode c.code g.pc = .ok (.newarray aty, 2)) {z : Int32} {rest : List Value} (hs : g.stack = .int z :: rest)
    {N : Nat} (hz : z = Int32.ofNat N) {cap : Nat} (hcap : N ≤ cap) (hb : cap * 8 ≤ 536870912) (hc : cells + 1 ≤ R.cells) (hl : slots + cap ≤ R.slots) (hdv : defaultValue (newarray.typeOf aty) = .int 0) (hft : fits (newarray.typeOf aty) (.int 0) = true) :
    ∃ T' h', Stand p l e R s m args below meth c T' locs (cells + 1) (slots + cap) ∧ T'.heap = h' ∧ Ext h h' ∧ Ari Z h' h.size (newarray.typeOf aty) N (fun _ => 0) ∧ ∀ target, Steps p.tables e below (T'.setTop { g with pc := g.pc + 2, stack := .ref h.size :: rest }) target → Steps p.tables e below (T.setTop g) target := by
  have hN : N < 2 ^ 31 := by omega
  have ez : z.toInt = N := by rw [hz]; exact Int32.toInt_ofNat_of_lt hN
  have h0 : ¬ z < 0 := by rw [Int32.lt_iff_toInt_lt, ez]; have : (0 : Int32).toInt = 0 := rfl; omega
  have hn : z.toNatClampNeg = N := by have := nat_of h0; omega
  obtain ⟨T', h', cA, X', e', E, A, st⟩ := newP X hx hZ w eT hg hd hs h0 (cap := cap) (by omega) hb hc hl
  refine ⟨T', h', X', e', E, ⟨_, A, by rw [sz_new, hn], hN, fun j hj => ⟨?_, hft⟩⟩, st⟩
  simp [newA, hn, hj, hdv]
/-- iastore, bastore, castore at place i -/
theorem own_in {j : Int32} {i n : Nat} (hj : j = Int32.ofNat i) (hi : i < n) (hn : n < 2 ^ 31) : ¬ (j < 0 ∨ n ≤ j.toNatClampNeg) ∧ j.toNatClampNeg = i := by
  have ez : j.toInt = i := by rw [hj]; exact Int32.toInt_ofNat_of_lt (by omega)
  have h0 : ¬ j < 0 := by rw [Int32.lt_iff_toInt_lt, ez]; have : (0 : Int32).toInt = 0 := rfl; omega
  have hk : j.toNatClampNeg = i := by have := nat_of h0; omega
  exact ⟨by rintro (q | q); exact h0 q; omega, hk⟩
theorem stoB (X : Stand p l e R s m args below meth c T locs cells slots) (hx : p.tables.exec = Jvm.exec) (hZ : Z.Warmed39 s.vm) (eT : T.heap = h) (A : Ari Z h a .byte n f) {j x : Int32} (i : Nat) (hj : j = Int32.ofNat i) (hi : i < n) {g : JFrame} (hg : g.method = m) {rest : List Value} (hs : g.stack = .int x :: .int j :: .ref a :: rest) (hd : decode c.code g.pc = .ok (.bastore, 1)) :
    ∃ T' h', Stand p l e R s m args below meth c T' (locs ++ [⟨a, i⟩]) cells slots ∧ T'.heap = h' ∧ Wr h h' a i (.int x.toInt8.toInt32) ∧ Ari Z h' a .byte n (updI f i x.toInt8.toInt32) ∧ ∀ target, Steps p.tables e below (T'.setTop { g with pc := g.pc + 1, stack := rest }) target → Steps p.tables e below (T.setTop g) target := by
  have A' := A
  obtain ⟨cl, A1, h1, h2, h3⟩ := A
  obtain ⟨q1, q2⟩ := own_in hj hi h2
  obtain ⟨T', h', X', e', W, st⟩ := stB X hx hZ eT A1 (j := j) (by rw [h1]; exact q1) hg hs hd
  rw [q2] at X' W
  exact ⟨T', h', X', e', W, A'.store W hi (fits_nar_byte x), st⟩
theorem rdB (X : Stand p l e R s m args below meth c T locs cells slots) (hx : p.tables.exec = Jvm.exec) (hZ : Z.Warmed39 s.vm) (eT : T.heap = h) (A : Ari Z h a .byte n f) {j : Int32} (i : Nat) (hj : j = Int32.ofNat i) (hi : i < n) {g : JFrame} (hg : g.method = m) {rest : List Value} (hs : g.stack = .int j :: .ref a :: rest) (hd : decode c.code g.pc = .ok (.baload, 1)) :
    ∀ target, Steps p.tables e below (T.setTop { g with pc := g.pc + 1, stack := .int (f i) :: rest }) target → Steps p.tables e below (T.setTop g) target := by
  obtain ⟨cl, A1, h1, h2, h3⟩ := A
  obtain ⟨q1, q2⟩ := own_in hj hi h2
  intro target k
  exact X.baloadBytes hx (by rw [eT]; exact A1.1) (State.isArrayOf_alike hZ.alike A1.2.1) A1.2.2 (by rw [h1]; exact q1) (by rw [q2]; exact (h3 i hi).1) hg hs hd _ k
theorem rdL (X : Stand p l e R s m args below meth c T locs cells slots) (hx : p.tables.exec = Jvm.exec) (hZ : Z.Warmed39 s.vm) (eT : T.heap = h) (A : Ari Z h a ty n f) {g : JFrame} (hg : g.method = m) {rest : List Value} (hs : g.stack = .ref a :: rest) (hd : decode c.code g.pc = .ok (.arraylength, 1)) :
    ∀ target, Steps p.tables e below (T.setTop { g with pc := g.pc + 1, stack := .int (Int32.ofNat n) :: rest }) target → Steps p.tables e below (T.setTop g) target := by
  obtain ⟨cl, A1, h1, h2, h3⟩ := A
  intro target k
  refine X.arraylength hx (by rw [eT]; exact A1.1) (State.isArrayOf_alike hZ.alike A1.2.1) hg hs hd _ ?_
  rw [h1]
  exact k
/-- calls by a contract that may make and write -/
theorem callX (X : Stand p l e R s m args below meth c T locs cells slots) (hx : p.tables.exec = Jvm.exec) (hZ : Z.Warmed39 s.vm) {own : String} {index : Nat} {y : MethodName} {bytes : ByteArray} {maxL : Nat} {ret : Option FieldType} (hown : s.vm.findClass own = some m.cls)
    (w1 : (Cond.methodLink own index y).before a0 Z = true) (w2 : (Cond.static y).before a0 Z = true) (w3 : (Cond.initialized y.cls).before a0 Z = true) (w4 : (Cond.code y bytes maxL ret).before a0 Z = true) (hy : y.cls ≠ "java/lang/invoke/MethodHandle" ∧ y.cls ≠ "java/lang/invoke/VarHandle")
    {rm : Room} {W : Nat} {argsL rest : List Value} {Q : Option Value → Heap → List Loc → Prop}
    (hM : MetFree l y (head1 [Cond.code y bytes maxL ret] rm) (fun a U => a = argsL.toArray ∧ Z.Warmed39 U.vm ∧ U.heap = h) (fun _ _ _ _ _ => True) (fun _ U o U' => ∃ v L, o = .returned v ∧ Q v U'.heap L ∧ FrameEnd U o U' L rm.cells rm.slots))
    (hf : rm.frames + 1 ≤ R.frames) (hl : W + (maxL + 11) + rm.locals ≤ R.locals) (hc : cells + rm.cells ≤ R.cells) (hs : slots + rm.slots ≤ R.slots) (eT : T.heap = h) {g : JFrame} (hg : g.method = m) (hsize : g.locals.size = c.maxLocals) (hlen : ∀ sig, parseMethodDescriptor y.desc = some sig → argsL.length = sig.parameters.length)
    (hstack : g.stack = argsL.reverse ++ rest) (hW : 2 * g.monitorRoom + (rest.map fun v => v.category).sum ≤ W) (hd : decode c.code g.pc = .ok (.invokestatic index, 3)) :
    ∃ v T' h' L, Stand p l e R s m args below meth c T' (locs ++ L) (cells + rm.cells) (slots + rm.slots) ∧ T'.heap = h' ∧ Q v h' L ∧ ∀ target, Steps p.tables e below (T'.setTop { g with pc := g.pc + 3, stack := v.toList ++ rest }) target → Steps p.tables e below (T.setTop g) target := by
  obtain ⟨v, _, ⟨T18, L18, k18, n18⟩, -, X18, ⟨Lc, hq, l18, y18, z18⟩, st⟩ := Jvm.LawKit.callS X hx hown (mvT hZ w1) (mvT hZ w2) (mvT hZ w3) (mvT hZ w4) hy (backOf (W := W) hM hZ w4 w3 hf hl) hg hsize hlen hstack hW hd (fun _ _ => ⟨rfl, eT, hc, hs⟩)
  dsimp only [Pt.U, Pt.locs, Pt.cells, Pt.slots] at X18 l18 y18 z18 st hq
  subst l18 y18 z18
  exact ⟨v, T18, _, Lc, X18, rfl, hq, st⟩
theorem callXV (X : Stand p l e R s m args below meth c T locs cells slots) (hx : p.tables.exec = Jvm.exec) (hZ : Z.Warmed39 s.vm) {own C : String} {index : Nat} {y z : MethodName} {bytes : ByteArray} {maxL : Nat} {ret : Option FieldType} (hown : s.vm.findClass own = some m.cls)
    (w1 : (Cond.methodLink own index y).before a0 Z = true) (w2 : (Cond.declares y).before a0 Z = true) (w3 : (Cond.selects C y z).before a0 Z = true) (w4 : (Cond.instanceMethod z).before a0 Z = true) (w5 : (Cond.code z bytes maxL ret).before a0 Z = true) (w6 : (Cond.initialized z.cls).before a0 Z = true) (hnf : NotFace s y) (hy : y.cls ≠ "java/lang/invoke/MethodHandle" ∧ y.cls ≠ "java/lang/invoke/VarHandle")
    {rm : Room} {W : Nat} {argsL rest : List Value} {Q : Option Value → Heap → List Loc → Prop}
    (hM : MetFree l z (head1 [Cond.code z bytes maxL ret] rm) (fun a U => a = (.ref b :: argsL).toArray ∧ Z.Warmed39 U.vm ∧ U.heap = h) (fun _ _ _ _ _ => True) (fun _ U o U' => ∃ v L, o = .returned v ∧ Q v U'.heap L ∧ FrameEnd U o U' L rm.cells rm.slots))
    (hf : rm.frames + 1 ≤ R.frames) (hl : W + (maxL + 11) + rm.locals ≤ R.locals) (hc : cells + rm.cells ≤ R.cells) (hs : slots + rm.slots ≤ R.slots) (eT : T.heap = h) (E : Exa Z h b C) {g : JFrame} (hg : g.method = m) (hsize : g.locals.size = c.maxLocals) (hlen : ∀ sig, parseMethodDescriptor y.desc = some sig → argsL.length = sig.parameters.length)
    (hstack : g.stack = argsL.reverse ++ .ref b :: rest) (hW : 2 * g.monitorRoom + (rest.map fun v => v.category).sum ≤ W) (hd : decode c.code g.pc = .ok (.invokevirtual index, 3)) :
    ∃ v T' h' L, Stand p l e R s m args below meth c T' (locs ++ L) (cells + rm.cells) (slots + rm.slots) ∧ T'.heap = h' ∧ Q v h' L ∧ ∀ target, Steps p.tables e below (T'.setTop { g with pc := g.pc + 3, stack := v.toList ++ rest }) target → Steps p.tables e below (T.setTop g) target := by
  obtain ⟨cq, kq, qa, qb, qc⟩ := isOf hZ eT E
  obtain ⟨v, _, ⟨T18, L18, k18, n18⟩, -, X18, ⟨Lc, hq, l18, y18, z18⟩, st⟩ := X.virtualBack hx hown (mvT hZ w1) (mvT hZ w2) hnf (mvT hZ w3) (mvT hZ w4) hy (backOf (W := W) hM hZ w5 w6 hf hl) qa qc hg hsize (Steps.refl _) hlen hstack hW hd (fun _ _ => ⟨rfl, eT, hc, hs⟩)
  dsimp only [Pt.U, Pt.locs, Pt.cells, Pt.slots] at X18 l18 y18 z18 st hq
  subst l18 y18 z18
  exact ⟨v, T18, _, Lc, X18, rfl, hq, fun _ k => st.trans k⟩
theorem callXP (X : Stand p l e R s m args below meth c T locs cells slots) (hx : p.tables.exec = Jvm.exec) (hZ : Z.Warmed39 s.vm) {own C : String} {index ki : Nat} {y : MethodName} {bytes : ByteArray} {maxL : Nat} {ret : Option FieldType} (hown : s.vm.findClass own = some m.cls)
    (w1 : (Cond.methodLink own index y).before a0 Z = true) (w4 : (Cond.instanceMethod y).before a0 Z = true) (wp : (Cond.privateMethod y).before a0 Z = true) (wi : (Cond.instantiable y.cls ki).before a0 Z = true) (w5 : (Cond.code y bytes maxL ret).before a0 Z = true) (w6 : (Cond.initialized y.cls).before a0 Z = true) (hy : y.cls ≠ "java/lang/invoke/MethodHandle" ∧ y.cls ≠ "java/lang/invoke/VarHandle")
    {rm : Room} {W : Nat} {argsL rest : List Value} {Q : Option Value → Heap → List Loc → Prop}
    (hM : MetFree l y (head1 [Cond.code y bytes maxL ret] rm) (fun a U => a = (.ref b :: argsL).toArray ∧ Z.Warmed39 U.vm ∧ U.heap = h) (fun _ _ _ _ _ => True) (fun _ U o U' => ∃ v L, o = .returned v ∧ Q v U'.heap L ∧ FrameEnd U o U' L rm.cells rm.slots))
    (hf : rm.frames + 1 ≤ R.frames) (hl : W + (maxL + 11) + rm.locals ≤ R.locals) (hc : cells + rm.cells ≤ R.cells) (hs : slots + rm.slots ≤ R.slots) (eT : T.heap = h) (E : Exa Z h b C) {g : JFrame} (hg : g.method = m) (hsize : g.locals.size = c.maxLocals) (hlen : ∀ sig, parseMethodDescriptor y.desc = some sig → argsL.length = sig.parameters.length)
    (hstack : g.stack = argsL.reverse ++ .ref b :: rest) (hW : 2 * g.monitorRoom + (rest.map fun v => v.category).sum ≤ W) (hd : decode c.code g.pc = .ok (.invokevirtual index, 3)) :
    ∃ v T' h' L, Stand p l e R s m args below meth c T' (locs ++ L) (cells + rm.cells) (slots + rm.slots) ∧ T'.heap = h' ∧ Q v h' L ∧ ∀ target, Steps p.tables e below (T'.setTop { g with pc := g.pc + 3, stack := v.toList ++ rest }) target → Steps p.tables e below (T.setTop g) target := by
  have hp : s.PrivateAt y := Cond.privateMethod_at (mvP hZ wp (args := #[]))
  obtain ⟨cc, kk, hcc, hkk, -, hni, -, -⟩ := Cond.instantiable_spec (args := #[]) (mvT hZ wi)
  have hsel : (Cond.selects y.cls y y).before args s = true := selects_self_of_private hcc hkk (Bool.or_eq_false_iff.mp hni).1 hp (mvT hZ w4) hy
  obtain ⟨cq, q3, q3'⟩ := E.cell
  obtain ⟨v, _, ⟨T18, L18, k18, n18⟩, -, X18, ⟨Lc, hq, l18, y18, z18⟩, st⟩ := X.privateBack hx hown (mvT hZ w1) (mvT hZ w4) hsel hp (mvT hZ w5) hy (backOf (W := W) hM hZ w5 w6 hf hl) hg hsize (Steps.refl _) (a := b) (by rw [eT]; exact q3) q3' hlen hstack hW hd (fun _ _ => ⟨rfl, eT, hc, hs⟩)
  dsimp only [Pt.U, Pt.locs, Pt.cells, Pt.slots] at X18 l18 y18 z18 st hq
  subst l18 y18 z18
  exact ⟨v, T18, _, Lc, X18, rfl, hq, fun _ k => st.trans k⟩
theorem callXI (X : Stand p l e R s m args below meth c T locs cells slots) (hx : p.tables.exec = Jvm.exec) (hZ : Z.Warmed39 s.vm) {own : String} {index : Nat} {y : MethodName} {bytes : ByteArray} {maxL : Nat} (hown : s.vm.findClass own = some m.cls) (hy1 : y.name = "<init>")
    (w1 : (Cond.methodLink own index y).before a0 Z = true) (w4 : (Cond.instanceMethod y).before a0 Z = true) (w5 : (Cond.code y bytes maxL none).before a0 Z = true) (w6 : (Cond.initialized y.cls).before a0 Z = true) (hy : y.cls ≠ "java/lang/invoke/MethodHandle" ∧ y.cls ≠ "java/lang/invoke/VarHandle")
    {rm : Room} {W : Nat} {argsL rest : List Value} {Q : Option Value → Heap → List Loc → Prop}
    (hM : MetFree l y (head1 [Cond.code y bytes maxL none] rm) (fun a U => a = (.ref b :: argsL).toArray ∧ Z.Warmed39 U.vm ∧ U.heap = h) (fun _ _ _ _ _ => True) (fun _ U o U' => ∃ v L, o = .returned v ∧ Q v U'.heap L ∧ FrameEnd U o U' L rm.cells rm.slots))
    (hf : rm.frames + 1 ≤ R.frames) (hl : W + (maxL + 11) + rm.locals ≤ R.locals) (hc : cells + rm.cells ≤ R.cells) (hs : slots + rm.slots ≤ R.slots) (eT : T.heap = h) {g : JFrame} (hg : g.method = m) (hsize : g.locals.size = c.maxLocals) (hlen : ∀ sig, parseMethodDescriptor y.desc = some sig → argsL.length = sig.parameters.length)
    (hstack : g.stack = argsL.reverse ++ .ref b :: rest) (hW : 2 * g.monitorRoom + (rest.map fun v => v.category).sum ≤ W) (hd : decode c.code g.pc = .ok (.invokespecial index, 3)) :
    ∃ v T' h' L, Stand p l e R s m args below meth c T' (locs ++ L) (cells + rm.cells) (slots + rm.slots) ∧ T'.heap = h' ∧ Q v h' L ∧ ∀ target, Steps p.tables e below (T'.setTop { g with pc := g.pc + 3, stack := v.toList ++ rest }) target → Steps p.tables e below (T.setTop g) target := by
  obtain ⟨v, _, ⟨T18, L18, k18, n18⟩, -, X18, ⟨Lc, hq, l18, y18, z18⟩, st⟩ := X.specialBack hx hy1 hown (mvT hZ w1) (mvT hZ w4) (mvT hZ w5) hy (backOf (W := W) hM hZ w5 w6 hf hl) hg hsize (Steps.refl _) hlen hstack hW hd (fun _ _ => ⟨rfl, eT, hc, hs⟩)
  dsimp only [Pt.U, Pt.locs, Pt.cells, Pt.slots] at X18 l18 y18 z18 st hq
  subst l18 y18 z18
  exact ⟨v, T18, _, Lc, X18, rfl, hq, fun _ k => st.trans k⟩
/-- arrays as lists, for System.arraycopy -/
theorem Ari.arv (F : Ari Z h a ty n f) : ∃ k, Arv Z h a k ty (Int32.ofNat n) ((List.range n).map fun j => Value.int (f j)) (.int 0) := by
  obtain ⟨cl, A, h1, h2, h3⟩ := F
  have ez : (Int32.ofNat n).toInt = n := Int32.toInt_ofNat_of_lt h2
  have h0 : ¬ Int32.ofNat n < 0 := by rw [Int32.lt_iff_toInt_lt, ez]; have : (0 : Int32).toInt = 0 := rfl; omega
  have hk : (Int32.ofNat n).toNatClampNeg = n := by have := nat_of h0; omega
  have q : ∀ i, i < n → ((List.range n).map fun j => Value.int (f j)).getD i (.int 0) = .int (f i) := fun i hi => by simp [List.getD_eq_getElem?_getD, hi]
  exact ⟨cl.cls, cl, A, rfl, by rw [hk]; exact h1, h0, fun i hi => by rw [q i (h1 ▸ hi)]; exact (h3 i (h1 ▸ hi)).1, fun i hi => by rw [q i (h1 ▸ hi)]; exact (h3 i (h1 ▸ hi)).2⟩
theorem Ari.of_arv {k : ClassId} {vs : List Value} {d : Value} {g : Nat → Int32} (F : Arv Z h a k ty (Int32.ofNat n) vs d) (hn : n < 2 ^ 31) (q : ∀ j, j < n → vs.getD j d = .int (g j)) : Ari Z h a ty n g := by
  obtain ⟨cl, A, -, h1, h0, H, G⟩ := F
  have ez : (Int32.ofNat n).toInt = n := Int32.toInt_ofNat_of_lt hn
  have hk : (Int32.ofNat n).toNatClampNeg = n := by have := nat_of h0; omega
  rw [hk] at h1
  exact ⟨cl, A, h1, hn, fun j hj => by rw [← q j hj]; exact ⟨H j (h1 ▸ hj), G j (h1 ▸ hj)⟩⟩
def blit (f g : Nat → Int32) (sp dp k : Nat) : Nat → Int32 := fun j => if dp ≤ j ∧ j < dp + k then f (sp + (j - dp)) else g j
theorem own_blit (f g : Nat → Int32) (n N sp dp k : Nat) (h1 : sp + k ≤ n) (h2 : dp + k ≤ N) (j : Nat) (hj : j < N) :
    (((List.range N).map fun j => Value.int (g j)).take dp ++ ((List.range k).map fun i => ((List.range n).map fun j => Value.int (f j)).getD (sp + i) (.int 0)) ++ ((List.range N).map fun j => Value.int (g j)).drop (dp + k)).getD j (.int 0) = .int (blit f g sp dp k j) := by
  simp only [blit, List.getD_eq_getElem?_getD]
  by_cases q1 : j < dp
  · have e : ¬ (dp ≤ j ∧ j < dp + k) := by omega
    rw [if_neg e, List.append_assoc, List.getElem?_append_left (by simp; omega)]
    simp [List.getElem?_take, q1, hj]
  · by_cases q2 : j < dp + k
    · rw [if_pos ⟨by omega, q2⟩, List.append_assoc, List.getElem?_append_right (by simp; omega), List.getElem?_append_left (by simp; omega)]
      have e1 : min dp N = dp := by omega
      have e2 : j - dp < k := by omega
      have e3 : sp + (j - dp) < n := by omega
      simp [e1, e2, e3]
    · have e : ¬ (dp ≤ j ∧ j < dp + k) := by omega
      rw [if_neg e, List.append_assoc, List.getElem?_append_right (by simp; omega), List.getElem?_append_right (by simp; omega)]
      have e1 : min dp N = dp := by omega
      have e2 : dp + k + (j - dp - k) = j := by omega
      simp [e1, e2, hj]
theorem copyI (X : Stand p l e R s m args below meth c T locs cells slots) (hx : p.tables.exec = Jvm.exec) (hZ : Z.Warmed39 s.vm) {own : String} {index : Nat} (hown : s.vm.findClass own = some m.cls)
    (w1 : (Cond.methodLink own index Jvm.Stand.acN).before a0 Z = true) (w2 : (Cond.native Jvm.Stand.acN).before a0 Z = true) (w3 : (Cond.static Jvm.Stand.acN).before a0 Z = true) (w4 : (Cond.initialized "java/lang/System").before a0 Z = true) (eT : T.heap = h)
    {N sp dp k : Nat} {g' : Nat → Int32} {zs zd zk : Int32} (A : Ari Z h a ty n f) (B : Ari Z h b ty N g') (hty : refKind ty = false) (es : zs = Int32.ofNat sp) (ed : zd = Int32.ofNat dp) (ek : zk = Int32.ofNat k) (h1 : sp + k ≤ n) (h2 : dp + k ≤ N) {n0 : Nat} (NF : Fr n0 locs) (ge : n0 ≤ b)
    {g : JFrame} (hg : g.method = m) (hsize : g.locals.size = c.maxLocals) {rest : List Value} (hs : g.stack = .int zk :: .int zd :: .ref b :: .int zs :: .ref a :: rest) (hd : decode c.code g.pc = .ok (.invokestatic index, 3))
    (hf : 1 ≤ R.frames) {W : Nat} (hW : 2 * g.monitorRoom + (rest.map fun v => v.category).sum ≤ W) (hlo : W + (nativeFrameWords "java/lang/System" "arraycopy" 5 + 11) ≤ R.locals) :
    ∃ T' h' L, Stand p l e R s m args below meth c T' L cells slots ∧ T'.heap = h' ∧ Fr n0 L ∧ Keep h h' [b] ∧ Ari Z h' b ty N (blit f g' sp dp k) ∧
      ∀ target, Steps p.tables e below (T'.setTop { g with pc := g.pc + 3, stack := rest }) target → Steps p.tables e below (T.setTop g) target := by
  have hn : n < 2 ^ 31 := by obtain ⟨_, _, _, q, _⟩ := A; exact q
  have hN : N < 2 ^ 31 := by obtain ⟨_, _, _, q, _⟩ := B; exact q
  have nz : ∀ {z : Int32} {i : Nat}, z = Int32.ofNat i → i < 2 ^ 31 → ¬ z < 0 ∧ z.toNatClampNeg = i := fun {z i} e hi => by
    have ez : z.toInt = i := by rw [e]; exact Int32.toInt_ofNat_of_lt hi
    have h0 : ¬ z < 0 := by rw [Int32.lt_iff_toInt_lt, ez]; have : (0 : Int32).toInt = 0 := rfl; omega
    exact ⟨h0, by have := nat_of h0; omega⟩
  obtain ⟨ka, VA⟩ := A.arv
  obtain ⟨kb, VB⟩ := B.arv
  obtain ⟨s1, s2⟩ := nz es (by omega)
  obtain ⟨d1, d2⟩ := nz ed (by omega)
  obtain ⟨k1, k2⟩ := nz ek (by omega)
  have n2 := (nz (rfl : Int32.ofNat n = Int32.ofNat n) hn).2
  have N2 := (nz (rfl : Int32.ofNat N = Int32.ofNat N) hN).2
  obtain ⟨T', h', L, X', e', F', K', V', st⟩ := cpA X hx hZ hown w1 w2 w3 w4 eT (sp := zs) (dp := zd) (nn := zk) VA VB (Or.inl ⟨rfl, hty⟩) s1 d1 k1 (by rw [s2, k2, n2]; exact h1) (by rw [d2, k2, N2]; exact h2) rfl (by rw [d2, k2]; simp; exact h2) NF ge hg hsize hs hd hf hW hlo
  refine ⟨T', h', L, X', e', F', K', Ari.of_arv V' hN fun j hj => ?_, st⟩
  rw [s2, d2, k2]
  exact own_blit f g' n N sp dp k h1 h2 j hj
end OwnHeap
end Jvm.RoadKit
namespace Jvm.RoadKit
open Sem ClassFile Op Lib Jvm.Stand Jvm.Free Jvm.LawKit
section OwnStr
variable {p : Program} {l : Launch} {e : Env} {R : Room} {s : State} {m : MethodId} {args : Array Value} {below : List Frame} {meth : Method} {c : Code} {T : State} {locs : List Loc} {cells slots : Nat} {Z : State} {a0 : Array Value} {h h' : Heap} {a b : Addr} {ty : FieldType} {n : Nat} {f : Nat → Int32}
theorem own_declares {y : MethodName} {bytes : ByteArray} {maxL : Nat} {ret : Option FieldType} (w4 : (Cond.instanceMethod y).before a0 Z = true) (w5 : (Cond.code y bytes maxL ret).before a0 Z = true) : (Cond.declares y).before a0 Z = true := by
  obtain ⟨mk, methM, hnamed, hmethM, hst, hab⟩ := Cond.instanceMethod_spec w4
  obtain ⟨methM', cM, q1, -, -, -, -, -, -, hsig⟩ := Cond.code_spec hnamed w5
  cases hmethM.symm.trans q1
  simp [Cond.before, Cond.holds, Cond.value, hnamed, hmethM, hst, hsig]
/-- a body that returns r (or nothing) and leaves the heap as it was -/
def PQ (h0 : Heap) (r : Option Value) (v : Option Value) (h : Heap) (L : List Loc) : Prop := v = r ∧ L = [] ∧ h = h0
/-- what a call of such a body leaves -/
theorem own_pure {F W0 : Nat} {g : JFrame} {rest : List Value} {r : Option Value} {Q : Option Value → Heap → List Loc → Prop} (hQ : ∀ v h' L, Q v h' L → PQ h r v h' L)
    (q : ∃ v T' h' L, Stand p l e R s m args below meth c T' (locs ++ L) (cells + ({ frames := F, cells := 0, slots := 0, locals := W0 } : Room).cells) (slots + ({ frames := F, cells := 0, slots := 0, locals := W0 } : Room).slots) ∧ T'.heap = h' ∧ Q v h' L ∧ ∀ target, Steps p.tables e below (T'.setTop { g with pc := g.pc + 3, stack := v.toList ++ rest }) target → Steps p.tables e below (T.setTop g) target) :
    ∃ T', Stand p l e R s m args below meth c T' locs cells slots ∧ T'.heap = h ∧ ∀ target, Steps p.tables e below (T'.setTop { g with pc := g.pc + 3, stack := r.toList ++ rest }) target → Steps p.tables e below (T.setTop g) target := by
  obtain ⟨v, T', h', L, X', e', hq, st⟩ := q
  obtain ⟨rfl, rfl, rfl⟩ := hQ _ _ _ hq
  rw [List.append_nil] at X'
  exact ⟨T', X', e', st⟩
/-- what is left of a body that may intern a constant -/
def GoesW (p : Program) (e : Env) (below : List Frame) (s : State) (K N : Nat) (Q : Option Value → Heap → List Loc → Prop) (T : State) (g : JFrame) : Prop :=
  ∃ s₂ o, Steps p.tables e below (T.setTop g) s₂ ∧ s₂.status = .running ∧ Ended s₂ below o ∧ ∃ v L, o = .returned v ∧ Q v s₂.heap L ∧ ReturnedEndW s o s₂ L K N
theorem GoesW.step {K N : Nat} {Q : Option Value → Heap → List Loc → Prop} {T' : State} {g g' : JFrame} (k : ∀ t, Steps p.tables e below (T'.setTop g') t → Steps p.tables e below (T.setTop g) t) (h : GoesW p e below s K N Q T' g') : GoesW p e below s K N Q T g := by
  obtain ⟨s₂, o, h1, h2⟩ := h
  exact ⟨s₂, o, k _ h1, h2⟩
theorem GoesW.outN {vm₁ : Vm} {k1 : Nat} (X : Stand p l e R (s.setVm vm₁) m args below meth c T locs cells slots) (hS : s.Since vm₁ k1) (hn1 : k1 ≤ T.heap.size) (hx : p.tables.exec = Jvm.exec) (hlk : meth.locks = false) {t : FieldType} (hret : meth.sig.returnType = some t) (ht : t = .boolean ∨ t = .byte ∨ t = .char ∨ t = .short) {pc : Nat} (hd : decode c.code pc = .ok (.ireturn, 1)) {Ls : Array Slot} {z : Int32} {rest : List Value} {K N : Nat} {Q : Option Value → Heap → List Loc → Prop}
    (hq : Q (some (.int (nar t z))) T.heap locs) (hk : cells ≤ K) (hn : slots ≤ N) : GoesW p e below s K N Q T (mkF m pc Ls (.int z :: rest)) := by
  obtain ⟨fs, hr, hrun, hended, w1, w2, w3, w4⟩ := X.leaveW hS hn1 (v := some (.int (nar t z))) (fun h => by rw [hret] at h; cases h) hlk
  exact ⟨_, _, retN X hx hret ht hd hr, hrun, hended, _, _, rfl, hq, w1, w2, w3, w4.mono hk hn⟩
theorem GoesW.outR {vm₁ : Vm} {k1 : Nat} (X : Stand p l e R (s.setVm vm₁) m args below meth c T locs cells slots) (hS : s.Since vm₁ k1) (hn1 : k1 ≤ T.heap.size) (hx : p.tables.exec = Jvm.exec) (hlk : meth.locks = false) {t : FieldType} (hret : meth.sig.returnType = some t) (ht : t.isReference = true) {w : Value} (hw : w.isRef = true) {pc : Nat} (hd : decode c.code pc = .ok (.areturn, 1)) {Ls : Array Slot} {K N : Nat} {Q : Option Value → Heap → List Loc → Prop}
    (hq : Q (some w) T.heap locs) (hk : cells ≤ K) (hn : slots ≤ N) : GoesW p e below s K N Q T (mkF m pc Ls [w]) := by
  obtain ⟨fs, hr, hrun, hended, w1, w2, w3, w4⟩ := X.leaveW hS hn1 (v := some w) (fun h => by rw [hret] at h; cases h) hlk
  exact ⟨_, _, X.areturnOut hx hw hret ht hd hr, hrun, hended, _, _, rfl, hq, w1, w2, w3, w4.mono hk hn⟩
/-- a String constant: place j of its bytes -/
def strF (text : String) : Nat → Int32 := fun j => (text.toList.map fun c => Jvm.Lit.byteI c.toNat.toUInt16).getD j 0
theorem ldcI {vm0 : Vm} {own text : String} {index k0 : Nat} {Ts : List String} (X : Stand p l e R (s.setVm vm0) m args below meth c T locs cells slots) (hx : p.tables.exec = Jvm.exec) (hZ : Z.Warmed39 vm0) (hown : vm0.findClass own = some m.cls) (w : (Cond.stringLink own index text).before a0 Z = true) (wS : ∀ a ∈ Bundle.stringAtoms, a.before a0 Z = true)
    (eT : T.heap = h) (hS : s.Since vm0 k0) (hk : k0 ≤ h.size) (N : Fr s.heap.size locs) (hkeep : ∀ (b : Addr) (cl : Cell), Z.heap[b]? = some cl → s.heap[b]? = some cl) (I : IB Z vm0 Ts) (hnot : text ∉ Ts) (hh : Jvm.Lit.constHeld Z own index) (hcw : Jvm.Lit.compactW.before a0 Z = true)
    (ht : ∀ c ∈ text.toList, c.toNat < 256) (hlen : text.toList.length = n) (hN : n < 2 ^ 31)
    {g : JFrame} (hg : g.method = m) (hd : decode c.code g.pc = .ok (.ldc index, 2)) {q : Nat} (hn : 4 * text.toList.length ≤ q) (hbig : q ≤ 536870912) (hc : cells + 2 ≤ R.cells) (hl' : slots + (q + 4) ≤ R.slots) :
    ∃ (a : Addr) (T' : State) (h' : Heap) (k1 : Nat) (b : Addr), Stand p l e R (s.setVm T'.vm) m args below meth c T' locs (cells + 2) (slots + (q + 4)) ∧ T'.heap = h' ∧ Ext h h' ∧ s.Since T'.vm k1 ∧ k1 ≤ h'.size ∧ Z.Warmed39 (s.setVm T'.vm).vm ∧ (s.setVm T'.vm).vm.findClass own = some m.cls ∧
      Exa Z h' a "java/lang/String" ∧ Fld Z h' a "java/lang/String" "coder" "B" (.int 0) ∧ Fld Z h' a "java/lang/String" "value" "[B" (.ref b) ∧ Ari Z h' b .byte n (strF text) ∧ IB Z T'.vm (text :: Ts) ∧ Lit (s.setVm T'.vm) own index a ∧
      ∀ target, Steps p.tables e below (T'.setTop { g with pc := g.pc + 2, stack := .ref a :: g.stack }) target → Steps p.tables e below (T.setTop g) target := by
  have ez : (Int32.ofNat n).toInt = n := Int32.toInt_ofNat_of_lt hN
  have h0 : ¬ Int32.ofNat n < 0 := by rw [Int32.lt_iff_toInt_lt, ez]; have : (0 : Int32).toInt = 0 := rfl; omega
  have hk' : (Int32.ofNat n).toNatClampNeg = n := by have := nat_of h0; omega
  obtain ⟨a, T', h', k1, b, k, r1, r2, r3, r4, r5, r6, r7, r8, r9, r10, r11, r12, r13, r14, r15, r16⟩ := ldcSVL X hx hZ hown w wS eT hS hk N hkeep I hnot hh hcw (z := Int32.ofNat n) ⟨ht, rfl⟩ h0 (by rw [hk']; simp [hlen]) hg hd hn hbig hc hl'
  refine ⟨a, T', h', k1, b, r1, r2, r3, r4, r5, r6, r7, r8, r9, r10, Ari.of_arv r11 hN fun j hj => ?_, r14, r15, r16⟩
  have hj' : j < text.toList.length := by omega
  simp [strF, List.getD_eq_getElem?_getD, hj']
end OwnStr
end Jvm.RoadKit
namespace Jvm.RoadKit
open Sem ClassFile Op Lib Jvm.Stand Jvm.Free Jvm.LawKit
section OwnObj
variable {p : Program} {l : Launch} {e : Env} {R : Room} {s : State} {m : MethodId} {args : Array Value} {below : List Frame} {meth : Method} {c : Code} {T : State} {locs : List Loc} {cells slots : Nat} {Z : State} {a0 : Array Value} {h h' : Heap} {a b : Addr} {ty : FieldType} {n : Nat} {f : Nat → Int32}
/-- getfield through an entry that is resolved already -/
theorem getFR (X : Stand p l e R s m args below meth c T locs cells slots) (hx : p.tables.exec = Jvm.exec) (hZ : Z.Warmed39 s.vm) {own R0 nm d : String} {index : Nat} (hown : s.vm.findClass own = some m.cls) (w : (Cond.fieldRef own index R0 nm d).before a0 Z = true)
    (eT : T.heap = h) {v : Value} (F : Fld Z h a R0 nm d v) {g : JFrame} (hg : g.method = m) {rest : List Value} (hs : g.stack = .ref a :: rest) (hd : decode c.code g.pc = .ok (.getfield index, 3)) :
    ∀ target, Steps p.tables e below (T.setTop { g with pc := g.pc + 3, stack := v :: rest }) target → Steps p.tables e below (T.setTop g) target := by
  have hT : Z.Warmed39 T.vm := wtrans hZ X.warmed
  obtain ⟨c1, k1, i1, f1, q1, q2⟩ := Cond.fieldRef_spec (s := Z.setVm T.vm) (cur := m.cls) (by show T.vm.findClass own = _; rw [X.warmed.alike.findClass]; exact hown) (Cond.fieldRef_warmed39 hT w)
  obtain ⟨cell, cf, k, i, f, h1, h2, h3, h4, -, -, h7⟩ := F
  obtain ⟨k', hi, -⟩ := State.fieldFound?_setVm (s := Z) hT.alike h2
  cases hi.symm.trans q1
  intro target kk
  exact (X.getfieldR hx hg q2 h3 hs (by rw [eT]; exact h1) h4 h7 hd (Steps.refl _)).trans kk
theorem putFR (X : Stand p l e R s m args below meth c T locs cells slots) (hx : p.tables.exec = Jvm.exec) (hZ : Z.Warmed39 s.vm) {own O nm d C : String} {index kk : Nat} {ty : FieldType} (hown : s.vm.findClass own = some m.cls) (w : (Cond.fieldRef own index O nm d).before a0 Z = true)
    (eT : T.heap = h) {v old : Value} (F : Fld Z h a O nm d old) (E : Exa Z h a C) (L : (Cond.lays C O nm d).before a0 Z = true) (wi : (Cond.instantiable C kk).before a0 Z = true)
    (hty : parseFieldDescriptor d = some ty) (hn : narrow ty v = v) (hf : fits ty v = true) {g : JFrame} (hg : g.method = m) {rest : List Value} (hs : g.stack = v :: .ref a :: rest) (hd : decode c.code g.pc = .ok (.putfield index, 3)) :
    ∃ T' h', Stand p l e R s m args below meth c T' (locs ++ [⟨a, slotOf Z O nm d⟩]) cells slots ∧ T'.heap = h' ∧ Wr h h' a (slotOf Z O nm d) v ∧ ∀ target, Steps p.tables e below (T'.setTop { g with pc := g.pc + 3, stack := rest }) target → Steps p.tables e below (T.setTop g) target := by
  have hT : Z.Warmed39 T.vm := wtrans hZ X.warmed
  obtain ⟨cq, kq, iq, fq, q1, q2⟩ := Cond.fieldRef_spec (s := Z.setVm T.vm) (cur := m.cls) (by show T.vm.findClass own = _; rw [X.warmed.alike.findClass]; exact hown) (Cond.fieldRef_warmed39 hT w)
  obtain ⟨cell, cf, k, i, f, h1, h2, h3, h4, h5, -, h7⟩ := F
  obtain ⟨cell', kc, e1, e2, e3, -⟩ := E
  cases h1.symm.trans e1
  have hfin : hasFlag f.accessFlags Acc.final = false := by
    obtain ⟨_, _, _, _, _, _, -, -, b3, -, b5, -⟩ := Cond.lays_spec L
    cases h2.symm.trans b3
    exact b5
  obtain ⟨c3, k3, cf3, kf3, i3', f3, a1, a2, a3, -, -, a6, -⟩ := Laid.spec (Or.inl L)
  cases h2.symm.trans a3
  cases e2.symm.trans a1
  obtain ⟨c2, k2, i1, i2, i3, -⟩ := Cond.instantiable_spec wi
  cases e2.symm.trans i1
  cases a2.symm.trans i2
  have ht := (State.fieldFound?_type h2 hty).2
  have hfit : Z.fitsSlot cell.cls cell.vm f.slot v = true := by
    have q : Z.slotType? cell.cls cell.vm f.slot = some ty := by
      simp only [State.slotType?, a2, Option.bind_eq_bind, Option.bind_some, i3]
      cases hq : cell.vm <;> first | (rw [hq] at h5; exact Bool.noConfusion h5) | (rw [a6, ht])
    simp [State.fitsSlot, q, hf]
  have hfit' : T.fitsSlot cell.cls cell.vm f.slot v = true := by rw [← State.fitsSlot_setVm hT.alike] at hfit; exact hfit
  obtain ⟨k', hi, -⟩ := State.fieldFound?_setVm (s := Z) hT.alike h2
  cases hi.symm.trans q1
  have hlt := (Array.getElem?_eq_some_iff.mp h7).1
  have es : slotOf Z O nm d = fq.slot := by simp [slotOf, h2]
  rw [es]
  obtain ⟨X', st⟩ := X.putfieldReady hx q2 h3 (Or.inl hfin) (by rw [eT]; exact h1) h4 hlt (by rw [ht]; exact hn) hfit' hg hs hd
  exact ⟨_, _, X', rfl, ⟨cell, h1, h5, hlt, by rw [← eT]; rfl⟩, st⟩
/-- a constructor's call through an entry that is resolved already -/
theorem callXIR (X : Stand p l e R s m args below meth c T locs cells slots) (hx : p.tables.exec = Jvm.exec) (hZ : Z.Warmed39 s.vm) {own : String} {index : Nat} {y : MethodName} {bytes : ByteArray} {maxL : Nat} (hown : s.vm.findClass own = some m.cls) (hy1 : y.name = "<init>")
    (w1 : (Cond.methodRef own index y).before a0 Z = true) (w4 : (Cond.instanceMethod y).before a0 Z = true) (w5 : (Cond.code y bytes maxL none).before a0 Z = true) (w6 : (Cond.initialized y.cls).before a0 Z = true) (hy : y.cls ≠ "java/lang/invoke/MethodHandle" ∧ y.cls ≠ "java/lang/invoke/VarHandle")
    {rm : Room} {W : Nat} {argsL rest : List Value} {Q : Option Value → Heap → List Loc → Prop}
    (hM : MetFree l y (head1 [Cond.code y bytes maxL none] rm) (fun a U => a = (.ref b :: argsL).toArray ∧ Z.Warmed39 U.vm ∧ U.heap = h) (fun _ _ _ _ _ => True) (fun _ U o U' => ∃ v L, o = .returned v ∧ Q v U'.heap L ∧ FrameEnd U o U' L rm.cells rm.slots))
    (hf : rm.frames + 1 ≤ R.frames) (hl : W + (maxL + 11) + rm.locals ≤ R.locals) (hc : cells + rm.cells ≤ R.cells) (hs : slots + rm.slots ≤ R.slots) (eT : T.heap = h) {g : JFrame} (hg : g.method = m) (hsize : g.locals.size = c.maxLocals) (hlen : ∀ sig, parseMethodDescriptor y.desc = some sig → argsL.length = sig.parameters.length)
    (hstack : g.stack = argsL.reverse ++ .ref b :: rest) (hW : 2 * g.monitorRoom + (rest.map fun v => v.category).sum ≤ W) (hd : decode c.code g.pc = .ok (.invokespecial index, 3)) :
    ∃ v T' h' L, Stand p l e R s m args below meth c T' (locs ++ L) (cells + rm.cells) (slots + rm.slots) ∧ T'.heap = h' ∧ Q v h' L ∧ ∀ target, Steps p.tables e below (T'.setTop { g with pc := g.pc + 3, stack := v.toList ++ rest }) target → Steps p.tables e below (T.setTop g) target := by
  have hT : Z.Warmed39 T.vm := wtrans hZ X.warmed
  obtain ⟨obj, methO, hnO, hmO, hstO, habO⟩ := Cond.instanceMethod_spec w4
  obtain ⟨methO', cO, hmO', hcO, -, -, -, -, -, hsigO⟩ := Cond.code_spec hnO w5
  cases hmO.symm.trans hmO'
  obtain ⟨hnameMO, hdescO⟩ := name_of_methodNamed hnO hmO
  obtain ⟨kO, hkO, hnameO⟩ := className_of_methodNamed hnO
  obtain ⟨m2, c2, hf2, hready, hfind, hnamed⟩ := Cond.methodRef_named (s := Z.setVm T.vm) e (cur := m.cls) (by show T.vm.findClass own = _; rw [X.warmed.alike.findClass]; exact hown) (Cond.methodRef_warmed39 hT hnO hy w1)
  have hnT : (Z.setVm T.vm).methodNamed? y = some obj := by rw [State.methodNamed?_setVm hT.alike]; exact hnO
  cases (State.methodFound?_of_named hnT hy).symm.trans hf2
  have hcls : obj.cls = c2 := Option.some.inj ((findClass_of_methodNamed hnT).symm.trans hfind)
  subst hcls
  obtain ⟨kT, hkT, -⟩ := hT.alike.2.2 _ _ hkO
  have hmT : T.vm.method? obj = some methO := by rw [hT.alike.method?]; exact hmO
  have hfound : lookupSpecial T.vm obj.cls "<init>" methO.desc = .method obj := by
    rw [hT.alike.lookupSpecial, hdescO, ← hy1]; exact lookupSpecial_of_named hnO hmO hstO
  have B := backOf (R := R) (p := p) (e := e) (below := below) (s := s) (args := args) (len := 3) (W := W) hM hZ w5 w6 hf hl
  have hns : s.methodNamed? y = some obj := by rw [State.methodNamed?_of_vm (U := s) (V := Z.setVm s.vm) rfl, State.methodNamed?_setVm hZ.alike]; exact hnO
  obtain ⟨v, Bp, X', hpost, hsteps⟩ := B m meth c ⟨T, locs, cells, slots⟩ { g with stack := rest } (.invokespecial index) obj (.ref b :: argsL).toArray X hg hsize hd hW (X.named hns) ⟨rfl, eT, hc, hs⟩
  obtain ⟨T18, L18, k18, n18⟩ := Bp
  obtain ⟨Lc, hq, l18, y18, z18⟩ := hpost
  dsimp only [Pt.U, Pt.locs, Pt.cells, Pt.slots] at X' l18 y18 z18 hq hsteps
  subst l18 y18 z18
  refine ⟨v, T18, _, Lc, X', rfl, hq, fun target kk => ?_⟩
  subst hg
  jvm_step X.here [hx, hd, invokespecial.wp_init (e := e) (s := T) (k := kT) (meth := methO) (m := obj) (a := b) (args := argsL) (rest := rest) (f := g) X.here.top hnamed hready hkT hmT (by rw [hnameMO]; exact hy1) hstO habO hfound (hlen _ hsigO) hstack]
  intro acts
  rw [doInvoke_state]
  exact hsteps.trans kk
theorem mvF {y : MethodName} {r : MethodId} (hZ : Z.Warmed39 s.vm) (hn : Z.methodNamed? y = some r) (hy : y.cls ≠ "java/lang/invoke/MethodHandle" ∧ y.cls ≠ "java/lang/invoke/VarHandle") (w : (Cond.interfaceMethod y.cls y.cls y.name y.desc).before a0 Z = true) : (Cond.interfaceMethod y.cls y.cls y.name y.desc).before args s = true := by
  have h1 := (Cond.interfaceMethod_setVm (args := a0) hZ.alike (ref := y.cls) (name := y.name) (desc := y.desc) hn hy).trans w
  exact h1
/-- a call through an interface -/
theorem callXF (X : Stand p l e R s m args below meth c T locs cells slots) (hx : p.tables.exec = Jvm.exec) (hZ : Z.Warmed39 s.vm) {own C : String} {index count : Nat} {y z : MethodName} {bytes : ByteArray} {maxL : Nat} {ret : Option FieldType} (hown : s.vm.findClass own = some m.cls)
    (w1 : (Cond.methodLink own index y).before a0 Z = true) (w2 : (Cond.declares y).before a0 Z = true) (wf : (Cond.interfaceMethod y.cls y.cls y.name y.desc).before a0 Z = true) (w3 : (Cond.selects C y z).before a0 Z = true) (w4 : (Cond.instanceMethod z).before a0 Z = true) (wp : (Cond.publicMethod z).before a0 Z = true) (wu : (Cond.unhidden C y.name y.desc).before a0 Z = true) (wc : (Cond.castable C y.cls).before a0 Z = true)
    (w5 : (Cond.code z bytes maxL ret).before a0 Z = true) (w6 : (Cond.initialized z.cls).before a0 Z = true) (hy : y.cls ≠ "java/lang/invoke/MethodHandle" ∧ y.cls ≠ "java/lang/invoke/VarHandle")
    {rm : Room} {W : Nat} {argsL rest : List Value} {Q : Option Value → Heap → List Loc → Prop}
    (hM : MetFree l z (head1 [Cond.code z bytes maxL ret] rm) (fun a U => a = (.ref b :: argsL).toArray ∧ Z.Warmed39 U.vm ∧ U.heap = h) (fun _ _ _ _ _ => True) (fun _ U o U' => ∃ v L, o = .returned v ∧ Q v U'.heap L ∧ FrameEnd U o U' L rm.cells rm.slots))
    (hf : rm.frames + 1 ≤ R.frames) (hl : W + (maxL + 11) + rm.locals ≤ R.locals) (hc : cells + rm.cells ≤ R.cells) (hs : slots + rm.slots ≤ R.slots) (eT : T.heap = h) (E : Exa Z h b C) {g : JFrame} (hg : g.method = m) (hsize : g.locals.size = c.maxLocals) (hlen : ∀ sig, parseMethodDescriptor y.desc = some sig → argsL.length = sig.parameters.length)
    (hstack : g.stack = argsL.reverse ++ .ref b :: rest) (hW : 2 * g.monitorRoom + (rest.map fun v => v.category).sum ≤ W) (hd : decode c.code g.pc = .ok (.invokeinterface index count, 5)) :
    ∃ v T' h' L, Stand p l e R s m args below meth c T' (locs ++ L) (cells + rm.cells) (slots + rm.slots) ∧ T'.heap = h' ∧ Q v h' L ∧ ∀ target, Steps p.tables e below (T'.setTop { g with pc := g.pc + 5, stack := v.toList ++ rest }) target → Steps p.tables e below (T.setTop g) target := by
  obtain ⟨cq, kq, qa, qb, qc⟩ := isOf hZ eT E
  obtain ⟨r0, _, hn0, -⟩ := Cond.declares_spec w2
  obtain ⟨v, _, ⟨T18, L18, k18, n18⟩, -, X18, ⟨Lc, hq, l18, y18, z18⟩, st⟩ := X.interfaceBack hx hown (mvT hZ w1) (mvT hZ w2) (mvF hZ hn0 hy wf) (mvT hZ w3) (mvT hZ w4) (mvT hZ wp) (mvT hZ wu) (mvT hZ wc) hy (backOf (W := W) hM hZ w5 w6 hf hl) qa qb qc hg hsize (Steps.refl _) hlen hstack hW hd (fun _ _ => ⟨rfl, eT, hc, hs⟩)
  dsimp only [Pt.U, Pt.locs, Pt.cells, Pt.slots] at X18 l18 y18 z18 st hq
  subst l18 y18 z18
  exact ⟨v, T18, _, Lc, X18, rfl, hq, fun _ k => st.trans k⟩
theorem own_pure5 {F W0 : Nat} {g : JFrame} {rest : List Value} {r : Option Value} {Q : Option Value → Heap → List Loc → Prop} (hQ : ∀ v h' L, Q v h' L → PQ h r v h' L)
    (q : ∃ v T' h' L, Stand p l e R s m args below meth c T' (locs ++ L) (cells + ({ frames := F, cells := 0, slots := 0, locals := W0 } : Room).cells) (slots + ({ frames := F, cells := 0, slots := 0, locals := W0 } : Room).slots) ∧ T'.heap = h' ∧ Q v h' L ∧ ∀ target, Steps p.tables e below (T'.setTop { g with pc := g.pc + 5, stack := v.toList ++ rest }) target → Steps p.tables e below (T.setTop g) target) :
    ∃ T', Stand p l e R s m args below meth c T' locs cells slots ∧ T'.heap = h ∧ ∀ target, Steps p.tables e below (T'.setTop { g with pc := g.pc + 5, stack := r.toList ++ rest }) target → Steps p.tables e below (T.setTop g) target := by
  obtain ⟨v, T', h', L, X', e', hq, st⟩ := q
  obtain ⟨rfl, rfl, rfl⟩ := hQ _ _ _ hq
  rw [List.append_nil] at X'
  exact ⟨T', X', e', st⟩
/-- an array of n references: place j holds v j -/
def Arf (Z : State) (h : Heap) (a : Addr) (C : String) (n : Nat) (v : Nat → Value) : Prop := ∃ c : Cell, Arr Z h a c (.object C) ∧ Ovr Z c.cls C ∧ c.slots.size = n ∧ n < 2 ^ 31 ∧ ∀ j, j < n → c.slots[j]? = some (v j)
theorem Arf.lt {C : String} {v : Nat → Value} (F : Arf Z h a C n v) : a < h.size := by obtain ⟨c, A, -⟩ := F; exact A.lt
theorem Arf.ext {C : String} {v : Nat → Value} (F : Arf Z h a C n v) (E : Ext h h') : Arf Z h' a C n v := by obtain ⟨c, A, r⟩ := F; exact ⟨c, A.ext E, r⟩
theorem Arf.other {C : String} {v : Nat → Value} {w : Value} {sl : Nat} (F : Arf Z h b C n v) (W : Wr h h' a sl w) (q : b ≠ a) : Arf Z h' b C n v := by obtain ⟨c, A, r⟩ := F; exact ⟨c, A.other W q, r⟩
theorem Arf.keep {C : String} {v : Nat → Value} {ws : List Addr} (F : Arf Z h a C n v) (K : Keep h h' ws) (q : a ∉ ws) : Arf Z h' a C n v := by obtain ⟨c, A, r⟩ := F; exact ⟨c, ⟨K.2.1 a c A.1 q, A.2⟩, r⟩
def updV (v : Nat → Value) (i : Nat) (w : Value) : Nat → Value := fun j => if j = i then w else v j
theorem Arf.store {C : String} {v : Nat → Value} {i : Nat} {w : Value} (F : Arf Z h a C n v) (W : Wr h h' a i w) (hi : i < n) : Arf Z h' a C n (updV v i w) := by
  obtain ⟨c, A, O, h1, h2, h3⟩ := F
  refine ⟨c.setSlot i w, A.same W, O, by rw [sz_set]; exact h1, h2, fun j hj => ?_⟩
  by_cases e : j = i
  · subst e
    simp only [updV, if_true]
    simp [Cell.setSlot, h1, hj]
  · simp only [updV, e, if_false]
    rw [← h3 j hj]; simp [Cell.setSlot, Array.getElem?_setIfInBounds, Ne.symm e]
theorem newRf (X : Stand p l e R s m args below meth c T locs cells slots) (hx : p.tables.exec = Jvm.exec) (hZ : Z.Warmed39 s.vm) {own C : String} {index : Nat} (hown : s.vm.findClass own = some m.cls) (w1 : (Cond.classLink own index C).before a0 Z = true) (w2 : (Cond.arrayOver (.object C)).before a0 Z = true)
    (eT : T.heap = h) {g : JFrame} (hg : g.method = m) (hd : decode c.code g.pc = .ok (.anewarray index, 3)) {z : Int32} {rest : List Value} (hs : g.stack = .int z :: rest) {N : Nat} (hz : z = Int32.ofNat N) {cap : Nat} (hcap : N ≤ cap) (hb : cap * 8 ≤ 536870912) (hc : cells + 1 ≤ R.cells) (hl : slots + cap ≤ R.slots) :
    ∃ T' h', Stand p l e R s m args below meth c T' locs (cells + 1) (slots + cap) ∧ T'.heap = h' ∧ Ext h h' ∧ Arf Z h' h.size C N (fun _ => .null) ∧ ∀ target, Steps p.tables e below (T'.setTop { g with pc := g.pc + 3, stack := .ref h.size :: rest }) target → Steps p.tables e below (T.setTop g) target := by
  have hN : N < 2 ^ 31 := by omega
  have ez : z.toInt = N := by rw [hz]; exact Int32.toInt_ofNat_of_lt hN
  have h0 : ¬ z < 0 := by rw [Int32.lt_iff_toInt_lt, ez]; have : (0 : Int32).toInt = 0 := rfl; omega
  have hn : z.toNatClampNeg = N := by have := nat_of h0; omega
  obtain ⟨T', h', cA, X', e', E, A, O, st⟩ := newR X hx hZ hown w1 w2 eT hg hd hs h0 (cap := cap) (by omega) hb hc hl
  refine ⟨T', h', X', e', E, ⟨_, A, O, by rw [sz_new, hn], hN, fun j hj => ?_⟩, st⟩
  simp [newA, hn, hj, defaultValue]
theorem stRf (X : Stand p l e R s m args below meth c T locs cells slots) (hx : p.tables.exec = Jvm.exec) (hZ : Z.Warmed39 s.vm) (eT : T.heap = h) {C D : String} {v : Nat → Value} (A : Arf Z h a C n v) {j : Int32} (i : Nat) (hj : j = Int32.ofNat i) (hi : i < n) (E : Exa Z h b D) (wc : (Cond.castable D C).before a0 Z = true)
    {g : JFrame} (hg : g.method = m) {rest : List Value} (hs : g.stack = .ref b :: .int j :: .ref a :: rest) (hd : decode c.code g.pc = .ok (.aastore, 1)) :
    ∃ T' h', Stand p l e R s m args below meth c T' (locs ++ [⟨a, i⟩]) cells slots ∧ T'.heap = h' ∧ Wr h h' a i (.ref b) ∧ Arf Z h' a C n (updV v i (.ref b)) ∧ ∀ target, Steps p.tables e below (T'.setTop { g with pc := g.pc + 1, stack := rest }) target → Steps p.tables e below (T.setTop g) target := by
  have A' := A
  obtain ⟨cl, A1, O, h1, h2, h3⟩ := A
  obtain ⟨q1, q2⟩ := own_in hj hi h2
  obtain ⟨T', h', X', e', W, st⟩ := stR X hx hZ eT A1 (j := j) (v := .ref b) (by rw [h1]; exact q1) rfl (Sto.of A1 O (Ins.of_exa E wc)) hg hs hd
  rw [q2] at X' W
  exact ⟨T', h', X', e', W, A'.store W hi, st⟩
theorem rdRf (X : Stand p l e R s m args below meth c T locs cells slots) (hx : p.tables.exec = Jvm.exec) (hZ : Z.Warmed39 s.vm) (eT : T.heap = h) {C : String} {v : Nat → Value} (A : Arf Z h a C n v) {j : Int32} (i : Nat) (hj : j = Int32.ofNat i) (hi : i < n) {g : JFrame} (hg : g.method = m) {rest : List Value} (hs : g.stack = .int j :: .ref a :: rest) (hd : decode c.code g.pc = .ok (.aaload, 1)) :
    ∀ target, Steps p.tables e below (T.setTop { g with pc := g.pc + 1, stack := v i :: rest }) target → Steps p.tables e below (T.setTop g) target := by
  obtain ⟨cl, A1, O, h1, h2, h3⟩ := A
  obtain ⟨q1, q2⟩ := own_in hj hi h2
  intro target k
  exact X.aaload hx (by rw [eT]; exact A1.1) (State.isArrayOf_alike hZ.alike A1.2.1) rfl A1.2.2 (by rw [h1]; exact q1) (by rw [q2]; exact h3 i hi) hg hs hd _ k
theorem rdLf (X : Stand p l e R s m args below meth c T locs cells slots) (hx : p.tables.exec = Jvm.exec) (hZ : Z.Warmed39 s.vm) (eT : T.heap = h) {C : String} {v : Nat → Value} (A : Arf Z h a C n v) {g : JFrame} (hg : g.method = m) {rest : List Value} (hs : g.stack = .ref a :: rest) (hd : decode c.code g.pc = .ok (.arraylength, 1)) :
    ∀ target, Steps p.tables e below (T.setTop { g with pc := g.pc + 1, stack := .int (Int32.ofNat n) :: rest }) target → Steps p.tables e below (T.setTop g) target := by
  obtain ⟨cl, A1, O, h1, h2, h3⟩ := A
  intro target k
  refine X.arraylength hx (by rw [eT]; exact A1.1) (State.isArrayOf_alike hZ.alike A1.2.1) hg hs hd _ ?_
  rw [h1]
  exact k
end OwnObj
end Jvm.RoadKit
namespace Jvm.Pilot.@@N@@
open Jvm Jvm.ClassFile Sem Op Lib Jvm.Free Jvm.Stand Jvm.LawKit Jvm.RoadKit Bundle Jvm.Pilot.@@N@@.Jvm.D
theorem wof {a0 : Array Value} {Z : State} (hw : ∀ d ∈ tables_1, d.before a0 Z = true) (i : Nat) {d : Jvm.Cond} (h : tables_1[i]? = some d) : d.before a0 Z = true := hw d (List.mem_of_getElem? h)
abbrev vI (x : Int32) : Slot := .val (.int x)
abbrev vR (a : Addr) : Slot := .val (.ref a)
abbrev vU : Slot := .unset
def y_47 : MethodName := ⟨"com/example/proxysmith/proxysmith/BytecodePlacePinLaw", "len", "(I)I"⟩
def y_21 : MethodName := ⟨"com/example/proxysmith/proxysmith/ClassFileWriter$Bytes", "room", "(I)V"⟩
def y_20 : MethodName := ⟨"com/example/proxysmith/proxysmith/ClassFileWriter$Bytes", "u1", "(I)V"⟩
def y_36 : MethodName := ⟨"com/example/proxysmith/proxysmith/ClassFileWriter$Bytes", "u2", "(I)V"⟩
def y_24 : MethodName := ⟨"com/example/proxysmith/proxysmith/ClassFileWriter$Bytes", "size", "()I"⟩
def y_46 : MethodName := ⟨"com/example/proxysmith/proxysmith/ClassFileWriter$Bytes", "toByteArray", "()[B"⟩
def y_37 : MethodName := ⟨"com/example/proxysmith/proxysmith/ClassFileWriter$Bytes", "u4", "(I)V"⟩
def y_38 : MethodName := ⟨"com/example/proxysmith/proxysmith/ClassFileWriter$Bytes", "bytes", "(Lcom/example/proxysmith/proxysmith/ClassFileWriter$Bytes;)V"⟩
def y_3 : MethodName := ⟨"com/example/proxysmith/proxysmith/ClassFileWriter$Bytes", "<init>", "(I)V"⟩
def y_6 : MethodName := ⟨"java/util/AbstractCollection", "<init>", "()V"⟩
def y_5 : MethodName := ⟨"java/util/AbstractList", "<init>", "()V"⟩
def y_4 : MethodName := ⟨"java/util/ArrayList", "<init>", "(I)V"⟩
def y_13 : MethodName := ⟨"com/example/proxysmith/proxysmith/Bytecode$Label", "<init>", "()V"⟩
def y_12 : MethodName := ⟨"com/example/proxysmith/proxysmith/Bytecode", "label", "()Lcom/example/proxysmith/proxysmith/Bytecode$Label;"⟩
def y_8 : MethodName := ⟨"java/lang/String", "isLatin1", "()Z"⟩
def y_11 : MethodName := ⟨"jdk/internal/util/Preconditions", "checkIndex", "(IILjava/util/function/BiFunction;)I"⟩
def y_10 : MethodName := ⟨"java/lang/String", "checkIndex", "(II)V"⟩
def y_9 : MethodName := ⟨"java/lang/StringLatin1", "charAt", "([BI)C"⟩
def y_7 : MethodName := ⟨"java/lang/String", "charAt", "(I)C"⟩
def y_16 : MethodName := ⟨"com/example/proxysmith/proxysmith/Bytecode", "slots", "(C)I"⟩
def y_18 : MethodName := ⟨"com/example/proxysmith/proxysmith/Bytecode", "kind", "(Ljava/lang/String;)I"⟩
def y_17 : MethodName := ⟨"java/lang/Math", "max", "(II)I"⟩
def y_22 : MethodName := ⟨"com/example/proxysmith/proxysmith/Bytecode", "push", "(I)V"⟩
def y_19 : MethodName := ⟨"com/example/proxysmith/proxysmith/Bytecode", "op", "(II)V"⟩
def y_15 : MethodName := ⟨"com/example/proxysmith/proxysmith/Bytecode", "local", "(IIILjava/lang/String;)V"⟩
def y_14 : MethodName := ⟨"com/example/proxysmith/proxysmith/Bytecode", "load", "(Ljava/lang/String;I)V"⟩
def y_23 : MethodName := ⟨"com/example/proxysmith/proxysmith/Bytecode", "place", "(Lcom/example/proxysmith/proxysmith/Bytecode$Label;)V"⟩
def y_1 : MethodName := ⟨"com/example/proxysmith/proxysmith/Bytecode", "<init>", "(Lcom/example/proxysmith/proxysmith/ClassFileWriter;Ljava/lang/String;Ljava/lang/String;)V"⟩
def y_27 : MethodName := ⟨"java/lang/Record", "<init>", "()V"⟩
def y_26 : MethodName := ⟨"com/example/proxysmith/proxysmith/Bytecode$Handler", "<init>", "(Lcom/example/proxysmith/proxysmith/Bytecode$Label;Lcom/example/proxysmith/proxysmith/Bytecode$Label;Lcom/example/proxysmith/proxysmith/Bytecode$Label;Ljava/lang/String;)V"⟩
def y_29 : MethodName := ⟨"java/util/ArrayList", "add", "(Ljava/lang/Object;[Ljava/lang/Object;I)V"⟩
def y_28 : MethodName := ⟨"java/util/ArrayList", "add", "(Ljava/lang/Object;)Z"⟩
def y_132 : MethodName := ⟨"java/util/List", "add", "(Ljava/lang/Object;)Z"⟩
def y_25 : MethodName := ⟨"com/example/proxysmith/proxysmith/Bytecode", "handle", "(Lcom/example/proxysmith/proxysmith/Bytecode$Label;Lcom/example/proxysmith/proxysmith/Bytecode$Label;Lcom/example/proxysmith/proxysmith/Bytecode$Label;Ljava/lang/String;)V"⟩
def y_32 : MethodName := ⟨"java/util/ArrayList$Itr", "<init>", "(Ljava/util/ArrayList;)V"⟩
def y_31 : MethodName := ⟨"java/util/ArrayList", "iterator", "()Ljava/util/Iterator;"⟩
def y_33 : MethodName := ⟨"java/util/ArrayList$Itr", "hasNext", "()Z"⟩
def y_40 : MethodName := ⟨"java/util/ArrayList$Itr", "checkForComodification", "()V"⟩
def y_39 : MethodName := ⟨"java/util/ArrayList$Itr", "next", "()Ljava/lang/Object;"⟩
def y_34 : MethodName := ⟨"java/util/ArrayList", "isEmpty", "()Z"⟩
def y_35 : MethodName := ⟨"java/util/ArrayList", "size", "()I"⟩
def y_42 : MethodName := ⟨"com/example/proxysmith/proxysmith/Bytecode", "offsetOf", "(Lcom/example/proxysmith/proxysmith/Bytecode$Label;)I"⟩
def y_41 : MethodName := ⟨"com/example/proxysmith/proxysmith/Bytecode$Handler", "start", "()Lcom/example/proxysmith/proxysmith/Bytecode$Label;"⟩
def y_43 : MethodName := ⟨"com/example/proxysmith/proxysmith/Bytecode$Handler", "end", "()Lcom/example/proxysmith/proxysmith/Bytecode$Label;"⟩
def y_44 : MethodName := ⟨"com/example/proxysmith/proxysmith/Bytecode$Handler", "handler", "()Lcom/example/proxysmith/proxysmith/Bytecode$Label;"⟩
def y_45 : MethodName := ⟨"com/example/proxysmith/proxysmith/Bytecode$Handler", "catchType", "()Ljava/lang/String;"⟩
def y_48 : MethodName := ⟨"com/example/proxysmith/proxysmith/BytecodePlacePinLaw", "u2", "([BI)I"⟩
def y_147 : MethodName := ⟨"java/util/List", "iterator", "()Ljava/util/Iterator;"⟩
def y_148 : MethodName := ⟨"java/util/Iterator", "hasNext", "()Z"⟩
def y_149 : MethodName := ⟨"java/util/List", "isEmpty", "()Z"⟩
def y_150 : MethodName := ⟨"java/util/List", "size", "()I"⟩
def y_151 : MethodName := ⟨"java/util/Iterator", "next", "()Ljava/lang/Object;"⟩
def y_30 : MethodName := ⟨"com/example/proxysmith/proxysmith/Bytecode", "toAttribute", "()[B"⟩
theorem d47_0 : decode method_2_code 0 = .ok (.iload_n 0, 1) := by decide +kernel
theorem d47_1 : decode method_2_code 1 = .ok (.iconst 3, 1) := by decide +kernel
theorem d47_2 : decode method_2_code 2 = .ok (.if_icmp .gt 5, 3) := by decide +kernel
theorem d47_5 : decode method_2_code 5 = .ok (.iconst 1, 1) := by decide +kernel
theorem d47_6 : decode method_2_code 6 = .ok (.ireturn, 1) := by decide +kernel
theorem d47_7 : decode method_2_code 7 = .ok (.iload_n 0, 1) := by decide +kernel
theorem d47_8 : decode method_2_code 8 = .ok (.sipush 255, 3) := by decide +kernel
theorem d47_11 : decode method_2_code 11 = .ok (.if_icmp .gt 5, 3) := by decide +kernel
theorem d47_14 : decode method_2_code 14 = .ok (.iconst 2, 1) := by decide +kernel
theorem d47_15 : decode method_2_code 15 = .ok (.ireturn, 1) := by decide +kernel
theorem d47_16 : decode method_2_code 16 = .ok (.iconst 4, 1) := by decide +kernel
theorem d47_17 : decode method_2_code 17 = .ok (.ireturn, 1) := by decide +kernel
theorem pn_47 : plainName "com/example/proxysmith/proxysmith/BytecodePlacePinLaw" = true := by first | (simp [plainName, overriddenIn]; done) | decide +kernel
theorem ef_47 (m : MethodId) (p1 : Int32) : entryFrame m #[(.int p1)] 1 = mkF m 0 #[.val (.int p1)] [] := by first | (simp [entryFrame, mkF, argsToLocals, Value.category]; done) | rfl
def f47 (p1 : Int32) : Int32 := (if ((3 : Int32) < p1) then (if ((255 : Int32) < p1) then (4 : Int32) else (2 : Int32)) else (1 : Int32))
set_option maxRecDepth 65536 in
set_option maxHeartbeats 40000000 in
theorem rm47 (l : Launch) (Z : State) (a0 : Array Value) (hw : ∀ d ∈ tables_1, d.before a0 Z = true) (ws : List Jvm.Cond) (p1 : Int32) (h0 : Heap)  :
    MetFree l y_47 (head1 (Jvm.Cond.code y_47 method_2_code 1 (some .int) :: ws) ({ frames := 0, cells := 0, slots := 0, locals := 0 } : Room)) (fun a U => a = #[(.int p1)] ∧ Z.Warmed39 U.vm ∧ U.heap = h0) (fun _ _ _ _ _ => True) (fun _ U o U' => ∃ v L, o = .returned v ∧ PI h0 (f47 p1) v U'.heap L ∧ FrameEnd U o U' L ({ frames := 0, cells := 0, slots := 0, locals := 0 } : Room).cells ({ frames := 0, cells := 0, slots := 0, locals := 0 } : Room).slots) := by
  refine MetFree.of_bodySF (plainFor_of_name pn_47) hisR ?_
  intro p e s m args below meth c s₁ Bd hml0 hP hK
  obtain ⟨rfl, hZ, hh⟩ := hP
  have hx := Bd.exec
  have hby := Bd.bytes
  have hlk := Bd.notSynchronized
  have hml : c.maxLocals = 1 := hml0
  have hown : s.vm.findClass "com/example/proxysmith/proxysmith/BytecodePlacePinLaw" = some m.cls := findClass_of_methodNamed Bd.named
  have X0 : Stand p l e ({ frames := 0, cells := 0, slots := 0, locals := 0 } : Room) s m #[(.int p1)] below meth c s₁ [] 0 0 := Stand.of_body Bd
  have e0 : s₁.heap = h0 := by rw [← hh, Bd.state]; rfl
  show Goes p e below s ({ frames := 0, cells := 0, slots := 0, locals := 0 } : Room).cells ({ frames := 0, cells := 0, slots := 0, locals := 0 } : Room).slots (PI h0 (f47 p1)) s₁ (entryFrame m #[(.int p1)] 1)
  refine Goes.step (fun t k => castTop (ef_47 m p1) k) ?_
  refine Goes.step (fun _ k => XS.iloadN X0.here hx rfl (hb hby d47_0) rfl k) ?_
  show Goes p e below s _ _ _ s₁ (mkF m 1 #[.val (.int p1)] [(.int p1)])
  refine Goes.step (fun _ k => XS.iconst X0.here hx rfl (hb hby d47_1) k) ?_
  show Goes p e below s _ _ _ s₁ (mkF m 2 #[.val (.int p1)] [(.int (3 : Int32)), (.int p1)])
  refine Goes.ite (Q := PI h0) (fun hc2 => ?_) (fun hc2 => ?_)
  · refine Goes.step (fun _ k => XS.icmpYes X0.here hx rfl (pc0 := 2) (pc' := 7) rfl (hb hby d47_2) rfl (tlt hc2).2.2.1 (by decide) (by decide) k) ?_
    show Goes p e below s _ _ _ s₁ (mkF m 7 #[.val (.int p1)] [])
    refine Goes.step (fun _ k => XS.iloadN X0.here hx rfl (hb hby d47_7) rfl k) ?_
    show Goes p e below s _ _ _ s₁ (mkF m 8 #[.val (.int p1)] [(.int p1)])
    refine Goes.step (fun _ k => XS.sipush X0.here hx rfl (hb hby d47_8) k) ?_
    show Goes p e below s _ _ _ s₁ (mkF m 11 #[.val (.int p1)] [(.int (255 : Int32)), (.int p1)])
    refine Goes.ite (Q := PI h0) (fun hc11 => ?_) (fun hc11 => ?_)
    · refine Goes.step (fun _ k => XS.icmpYes X0.here hx rfl (pc0 := 11) (pc' := 16) rfl (hb hby d47_11) rfl (tlt hc11).2.2.1 (by decide) (by decide) k) ?_
      show Goes p e below s _ _ _ s₁ (mkF m 16 #[.val (.int p1)] [])
      refine Goes.step (fun _ k => XS.iconst X0.here hx rfl (hb hby d47_16) k) ?_
      show Goes p e below s _ _ _ s₁ (mkF m 17 #[.val (.int p1)] [(.int (4 : Int32))])
      exact Goes.outI X0 hx hlk Bd.returns (hb hby d47_17) ⟨rfl, rfl, e0⟩ (by decide) (by decide)
    · refine Goes.step (fun _ k => XS.icmpNo X0.here hx rfl (hb hby d47_11) rfl (flt hc11).2.2.1 k) ?_
      show Goes p e below s _ _ _ s₁ (mkF m 14 #[.val (.int p1)] [])
      refine Goes.step (fun _ k => XS.iconst X0.here hx rfl (hb hby d47_14) k) ?_
      show Goes p e below s _ _ _ s₁ (mkF m 15 #[.val (.int p1)] [(.int (2 : Int32))])
      exact Goes.outI X0 hx hlk Bd.returns (hb hby d47_15) ⟨rfl, rfl, e0⟩ (by decide) (by decide)
  · refine Goes.step (fun _ k => XS.icmpNo X0.here hx rfl (hb hby d47_2) rfl (flt hc2).2.2.1 k) ?_
    show Goes p e below s _ _ _ s₁ (mkF m 5 #[.val (.int p1)] [])
    refine Goes.step (fun _ k => XS.iconst X0.here hx rfl (hb hby d47_5) k) ?_
    show Goes p e below s _ _ _ s₁ (mkF m 6 #[.val (.int p1)] [(.int (1 : Int32))])
    exact Goes.outI X0 hx hlk Bd.returns (hb hby d47_6) ⟨rfl, rfl, e0⟩ (by decide) (by decide)
/-- what the law's u2 reads -/
def own_u2 (g : Nat → Int32) (i : Nat) : Int32 := ((g i &&& (255 : Int32)) <<< ((8 : Int32) &&& 31)) ||| (g (i + 1) &&& (255 : Int32))
/-- one byte stored -/
def own_bb (x : Int32) : Int32 := (x.toInt8.toInt32).toInt8.toInt32
def own_w2 (f : Nat → Int32) (q : Nat) (p : Int32) : Nat → Int32 := updI (updI f q (own_bb ((p.toUInt32 >>> ((8 : Int32) &&& 31).toUInt32).toInt32))) (q + 1) (own_bb p)
theorem own_m255 (x : Int32) : (x &&& 255).toInt = x.toInt % 256 := c_mask x 255 8 (by decide) (by decide)
theorem own_bbm (x : Int32) : (own_bb x &&& (255 : Int32)).toInt = x.toInt % 256 := by
  rw [own_m255]
  have q1 := (c_i2b (x.toInt8.toInt32)).1
  have q2 := (c_i2b x).1
  simp only [own_bb]
  omega
theorem own_orN (a d : Nat) : Int32.ofNat a ||| Int32.ofNat d = Int32.ofNat (a ||| d) := by
  apply Int32.toBitVec_inj.mp
  simp [Int32.toBitVec_or, Int32.toBitVec_ofNat']
theorem own_or8 {x y : Int32} (hx : x.toInt < 256) (hx0 : 0 ≤ x.toInt) (hy : y.toInt < 256) (hy0 : 0 ≤ y.toInt) : ((y <<< ((8 : Int32) &&& 31)) ||| x).toInt = y.toInt * 256 + x.toInt := by
  obtain ⟨a, ha, rfl⟩ : ∃ a : Nat, a < 256 ∧ x = Int32.ofNat a := ⟨x.toInt.toNat, by omega, Int32.toInt_inj.mp (by rw [Int32.toInt_ofNat_of_lt (by omega)]; omega)⟩
  obtain ⟨b, hb, rfl⟩ : ∃ b : Nat, b < 256 ∧ y = Int32.ofNat b := ⟨y.toInt.toNat, by omega, Int32.toInt_inj.mp (by rw [Int32.toInt_ofNat_of_lt (by omega)]; omega)⟩
  rw [Int32.toInt_ofNat_of_lt (by omega), Int32.toInt_ofNat_of_lt (by omega)]
  have e1 : (Int32.ofNat b) <<< ((8 : Int32) &&& 31) = Int32.ofNat (256 * b) := by
    apply Int32.toInt_inj.mp
    have q := c_ishl (Int32.ofNat b) 8 8 (by decide)
    have r := rng32 ((Int32.ofNat b) <<< ((8 : Int32) &&& 31))
    rw [Int32.toInt_ofNat_of_lt (by omega)] at q
    rw [Int32.toInt_ofNat_of_lt (by omega)]
    simp only [Nat.reducePow] at q
    omega
  rw [e1]
  have e3 : 256 * b ||| a = 256 * b + a := by
    have := Nat.two_pow_add_eq_or_of_lt (i := 8) ha b
    simp only [Nat.reducePow] at this
    omega
  rw [own_orN, e3, Int32.toInt_ofNat_of_lt (by omega)]
  omega
theorem own_u2w (f : Nat → Int32) (q : Nat) {p : Int32} (h0 : 0 ≤ p.toInt) (h1 : p.toInt < 65536) : own_u2 (own_w2 f q p) q = p := by
  have e1 : own_w2 f q p q = own_bb ((p.toUInt32 >>> ((8 : Int32) &&& 31).toUInt32).toInt32) := by simp [own_w2, updI]
  have e2 : own_w2 f q p (q + 1) = own_bb p := by simp [own_w2, updI]
  have k1 := own_bbm ((p.toUInt32 >>> ((8 : Int32) &&& 31).toUInt32).toInt32)
  have k2 := own_bbm p
  have k3 := c_iushr p 8 8 (by decide) (by decide)
  simp only [Nat.reducePow] at k3
  simp only [own_u2, e1, e2]
  apply Int32.toInt_inj.mp
  rw [own_or8 (by omega) (by omega) (by omega) (by omega)]
  omega
theorem own_w2k (f : Nat → Int32) (q : Nat) (p : Int32) (j : Nat) (hj : j < q) : own_w2 f q p j = f j := by
  simp only [own_w2, updI]
  rw [if_neg (by omega), if_neg (by omega)]
theorem own_u2k {f g : Nat → Int32} {n i : Nat} (k : ∀ j, j < n → g j = f j) (hi : i + 1 < n) : own_u2 g i = own_u2 f i := by
  simp only [own_u2, k i (by omega), k (i + 1) hi]
/-- how many bytes a load takes -/
def own_len (p : Int32) : Nat := if (3 : Int32) < p then (if (255 : Int32) < p then 4 else 2) else 1
theorem own_len4 (p : Int32) : own_len p ≤ 4 := by simp only [own_len]; split <;> (try split) <;> omega
theorem own_lenF (p : Int32) : f47 p = Int32.ofNat (own_len p) := by
  simp only [f47, own_len]
  split <;> (try split) <;> rfl
theorem own_add (a b : Nat) : Int32.ofNat a + Int32.ofNat b = Int32.ofNat (a + b) := (Int32.ofNat_add a b).symm
theorem own_le {n k : Nat} {x : Int32} (hx : x = Int32.ofNat k) (hk : k ≤ n) (hn : n < 2 ^ 31) : ¬ (Int32.ofNat n < x) := by
  rw [hx, Int32.lt_iff_toInt_lt, Int32.toInt_ofNat_of_lt hn, Int32.toInt_ofNat_of_lt (by omega)]
  omega
theorem own_rg {k : Nat} (hk : k < 65536) : 0 ≤ (Int32.ofNat k).toInt ∧ (Int32.ofNat k).toInt < 65536 := by
  rw [Int32.toInt_ofNat_of_lt (by omega)]
  omega
theorem own_hi16 {k : Nat} (hk : k < 65536) : ((Int32.ofNat k).toUInt32 >>> ((16 : Int32) &&& 31).toUInt32).toInt32 = (0 : Int32) := by
  apply Int32.toInt_inj.mp
  rw [c_iushr _ 16 16 (by decide) (by decide), Int32.toInt_ofNat_of_lt (by omega)]
  simp only [Nat.reducePow, show (0 : Int32).toInt = 0 from rfl]
  omega
theorem own_succ (k : Nat) : Int32.ofNat k + (1 : Int32) = Int32.ofNat (k + 1) := (Int32.ofNat_add k 1).symm
theorem own_blk (g f : Nat → Int32) (q k j : Nat) (hj : j < q) : blit g f 0 q k j = f j := by
  simp only [blit]
  rw [if_neg (by omega)]
/-- String.charAt's answer for the byte x -/
def own_c1 (x : Int32) : Int32 := nar .char ((x &&& (255 : Int32)).toUInt32.toUInt16.toUInt32.toInt32)
def own_ch (x : Int32) : Int32 := nar .char (own_c1 x)
theorem own_ix0 {Z : State} {h : Heap} {a : Addr} {ty : FieldType} {n i : Nat} {f : Nat → Int32} {p : Int32} (A : Ari Z h a ty n f) (hi : p = Int32.ofNat i) (hin : i < n) : ¬ (p < (0 : Int32)) := by
  obtain ⟨_, _, _, q, _⟩ := A
  rw [hi, Int32.lt_iff_toInt_lt, Int32.toInt_ofNat_of_lt (by omega)]
  have : (0 : Int32).toInt = 0 := rfl
  omega
theorem own_ix1 {Z : State} {h : Heap} {a : Addr} {ty : FieldType} {n i : Nat} {f : Nat → Int32} {p : Int32} (A : Ari Z h a ty n f) (hi : p = Int32.ofNat i) (hin : i < n) : p < Int32.ofNat n := by
  obtain ⟨_, _, _, q, _⟩ := A
  rw [hi, Int32.lt_iff_toInt_lt, Int32.toInt_ofNat_of_lt (by omega), Int32.toInt_ofNat_of_lt q]
  omega
theorem Ari.neLen {Z : State} {h : Heap} {a b : Addr} {t1 t2 : FieldType} {n1 n2 : Nat} {f1 f2 : Nat → Int32} (A : Ari Z h a t1 n1 f1) (B : Ari Z h b t2 n2 f2) (q : n1 ≠ n2) : a ≠ b := fun e => by
  subst e
  obtain ⟨c1, A1, s1, -⟩ := A
  obtain ⟨c2, A2, s2, -⟩ := B
  cases A1.1.symm.trans A2.1
  exact q (s1.symm.trans s2)
theorem Ari.neExa {Z : State} {a0 : Array Value} {h : Heap} {a x : Addr} {t1 : FieldType} {n1 ki : Nat} {f1 : Nat → Int32} {C : String} (A : Ari Z h a t1 n1 f1) (E : Exa Z h x C) (w : (Cond.instantiable C ki).before a0 Z = true) : a ≠ x := by
  obtain ⟨k, V⟩ := A.arv
  exact Ne.symm (E.neArv V w)
theorem own_isref {t : Term} {args : Array Value} {first s : State} {o : Option Outcome} {idx : List Nat} (h : (Cond.isRef t).value args first o s idx = some true) : ∃ oF : Option Addr, t.eval args first o idx s = some (ov oF) := by
  obtain ⟨x, e, r⟩ := isR_v h
  rcases ref_cases r with rfl | ⟨a, rfl⟩
  · exact ⟨none, e⟩
  · exact ⟨some a, e⟩
theorem own_ltN {a b : Nat} (h : a < b) (hb : b < 2 ^ 31) : Int32.ofNat a < Int32.ofNat b := by
  rw [Int32.lt_iff_toInt_lt, Int32.toInt_ofNat_of_lt (by omega), Int32.toInt_ofNat_of_lt hb]
  omega
theorem own_nn {a : Nat} (h : a < 2 ^ 31) : ¬ (Int32.ofNat a < (0 : Int32)) := by
  rw [Int32.lt_iff_toInt_lt, Int32.toInt_ofNat_of_lt h]
  have : (0 : Int32).toInt = 0 := rfl
  omega
theorem own_lt65 {a : Nat} (h : a ≤ 12) : ¬ ((65535 : Int32) < Int32.ofNat a) := by
  rw [Int32.lt_iff_toInt_lt, Int32.toInt_ofNat_of_lt (by omega)]
  have : (65535 : Int32).toInt = 65535 := rfl
  omega
theorem own_tot (a : Nat) : (((((8 : Int32) + (Int32.ofNat a)) + (2 : Int32)) + (8 : Int32)) + (2 : Int32)) = Int32.ofNat (a + 20) := by
  rw [show (8 : Int32) + Int32.ofNat a = Int32.ofNat (8 + a) from own_add 8 a, show Int32.ofNat (8 + a) + (2 : Int32) = Int32.ofNat (8 + a + 2) from own_add _ 2, show Int32.ofNat (8 + a + 2) + (8 : Int32) = Int32.ofNat (8 + a + 2 + 8) from own_add _ 8, show Int32.ofNat (8 + a + 2 + 8) + (2 : Int32) = Int32.ofNat (8 + a + 2 + 8 + 2) from own_add _ 2]
  exact congrArg Int32.ofNat (by omega)
theorem own_lenN (p : Int32) : ∃ n : Nat, own_len p = n ∧ n ≤ 4 := ⟨_, rfl, own_len4 p⟩
theorem d21_0 : decode prog_13_method_11_code 0 = .ok (.aload_n 0, 1) := by decide +kernel
theorem d21_1 : decode prog_13_method_11_code 1 = .ok (.getfield 19, 3) := by decide +kernel
theorem d21_4 : decode prog_13_method_11_code 4 = .ok (.iload_n 1, 1) := by decide +kernel
theorem d21_5 : decode prog_13_method_11_code 5 = .ok (.iadd, 1) := by decide +kernel
theorem d21_6 : decode prog_13_method_11_code 6 = .ok (.aload_n 0, 1) := by decide +kernel
theorem d21_7 : decode prog_13_method_11_code 7 = .ok (.getfield 9, 3) := by decide +kernel
theorem d21_10 : decode prog_13_method_11_code 10 = .ok (.arraylength, 1) := by decide +kernel
theorem d21_11 : decode prog_13_method_11_code 11 = .ok (.if_icmp .le 30, 3) := by decide +kernel
theorem d21_41 : decode prog_13_method_11_code 41 = .ok (.return_, 1) := by decide +kernel
theorem pn_21 : plainName "com/example/proxysmith/proxysmith/ClassFileWriter$Bytes" = true := by first | (simp [plainName, overriddenIn]; done) | decide +kernel
theorem ef_21 (m : MethodId) (a1 : Addr) (p2 : Int32) : entryFrame m #[(.ref a1), (.int p2)] 2 = mkF m 0 #[.val (.ref a1), .val (.int p2)] [] := by first | (simp [entryFrame, mkF, argsToLocals, Value.category]; done) | rfl
def Q21 (Z : State) (a1 : Addr) (p2 : Int32) (b : Addr) (n : Nat) (sz : Nat) (f : Nat → Int32) (k : Nat) (h0 : Heap) (n0 : Nat) (v : Option Value) (h : Heap) (L : List Loc) : Prop := PQ h0 none v h L
set_option maxRecDepth 65536 in
set_option maxHeartbeats 40000000 in
theorem rm21 (l : Launch) (Z : State) (a0 : Array Value) (hw : ∀ d ∈ tables_1, d.before a0 Z = true) (ws : List Jvm.Cond) (a1 : Addr) (p2 : Int32) (b : Addr) (n : Nat) (sz : Nat) (f : Nat → Int32) (k : Nat) (h0 : Heap) (n0 : Nat) (Z0 : n0 ≤ h0.size) (E_a1_0 : Exa Z h0 a1 "com/example/proxysmith/proxysmith/ClassFileWriter$Bytes") (F_a1_bytes_0 : Fld Z h0 a1 "com/example/proxysmith/proxysmith/ClassFileWriter$Bytes" "bytes" "[B" (.ref b)) (F_a1_size_0 : Fld Z h0 a1 "com/example/proxysmith/proxysmith/ClassFileWriter$Bytes" "size" "I" (.int (Int32.ofNat sz))) (A_b_0 : Ari Z h0 b .byte n f) (hk : p2 = Int32.ofNat k) (hfit : sz + k ≤ n) (hn : n ≤ 64) :
    MetFree l y_21 (head1 (Jvm.Cond.code y_21 prog_13_method_11_code 2 none :: ws) ({ frames := 0, cells := 0, slots := 0, locals := 0 } : Room)) (fun a U => a = #[(.ref a1), (.int p2)] ∧ Z.Warmed39 U.vm ∧ U.heap = h0) (fun _ _ _ _ _ => True) (fun _ U o U' => ∃ v L, o = .returned v ∧ Q21 Z a1 p2 b n sz f k h0 n0 v U'.heap L ∧ FrameEnd U o U' L ({ frames := 0, cells := 0, slots := 0, locals := 0 } : Room).cells ({ frames := 0, cells := 0, slots := 0, locals := 0 } : Room).slots) := by
  refine MetFree.of_bodySF (plainFor_of_name pn_21) hisR ?_
  intro p e s m args below meth c s₁ Bd hml0 hP hK
  obtain ⟨rfl, hZ, hh⟩ := hP
  have hx := Bd.exec
  have hby := Bd.bytes
  have hlk := Bd.notSynchronized
  have hml : c.maxLocals = 2 := hml0
  have hown : s.vm.findClass "com/example/proxysmith/proxysmith/ClassFileWriter$Bytes" = some m.cls := findClass_of_methodNamed Bd.named
  have hnm := (name_of_methodNamed Bd.named Bd.method).1
  have X0 : Stand p l e ({ frames := 0, cells := 0, slots := 0, locals := 0 } : Room) s m #[(.ref a1), (.int p2)] below meth c s₁ [] 0 0 := Stand.of_body Bd
  have e0 : s₁.heap = h0 := by rw [← hh, Bd.state]; rfl
  have N0 := Fr.nil n0
  have K0 : Keep h0 h0 [] := Keep.refl h0 _
  show Goes p e below s ({ frames := 0, cells := 0, slots := 0, locals := 0 } : Room).cells ({ frames := 0, cells := 0, slots := 0, locals := 0 } : Room).slots (Q21 Z a1 p2 b n sz f k h0 n0) s₁ (entryFrame m #[(.ref a1), (.int p2)] 2)
  refine Goes.step (fun t k => castTop (ef_21 m a1 p2) k) ?_
  refine Goes.step (fun _ k => XS.aloadN X0.here hx rfl (hb hby d21_0) rfl rfl k) ?_
  obtain ⟨T1, X1, e1, st1⟩ := getF X0 hx hZ hown (host := "") (Or.inl (wof hw 145 rfl)) Via.refl e0 F_a1_size_0 (g := (mkF m 1 #[vR a1, vI p2] [(.ref a1)])) rfl rfl (hb hby d21_1)
  refine Goes.step st1 ?_
  show Goes p e below s _ _ _ T1 (mkF m 4 #[vR a1, vI p2] [(.int (Int32.ofNat sz))])
  refine Goes.step (fun _ k => XS.iloadN X1.here hx rfl (hb hby d21_4) rfl k) ?_
  refine Goes.step (fun _ k => XS.iadd X1.here hx rfl (hb hby d21_5) rfl k) ?_
  show Goes p e below s _ _ _ T1 (mkF m 6 #[vR a1, vI p2] [(.int ((Int32.ofNat sz) + p2))])
  refine Goes.step (fun _ k => XS.aloadN X1.here hx rfl (hb hby d21_6) rfl rfl k) ?_
  obtain ⟨T2, X2, e2, st2⟩ := getF X1 hx hZ hown (host := "") (Or.inl (wof hw 25 rfl)) Via.refl e1 F_a1_bytes_0 (g := (mkF m 7 #[vR a1, vI p2] [(.ref a1), (.int ((Int32.ofNat sz) + p2))])) rfl rfl (hb hby d21_7)
  refine Goes.step st2 ?_
  show Goes p e below s _ _ _ T2 (mkF m 10 #[vR a1, vI p2] [(.ref b), (.int ((Int32.ofNat sz) + p2))])
  refine Goes.step (fun _ k => rdL X2 hx hZ e2 A_b_0 (g := (mkF m 10 #[vR a1, vI p2] [(.ref b), (.int ((Int32.ofNat sz) + p2))])) rfl rfl (hb hby d21_10) _ k) ?_
  show Goes p e below s _ _ _ T2 (mkF m 11 #[vR a1, vI p2] [(.int (Int32.ofNat n)), (.int ((Int32.ofNat sz) + p2))])
  refine Goes.step (fun _ k => XS.icmpYes X2.here hx rfl (pc0 := 11) (pc' := 41) rfl (hb hby d21_11) rfl (flt (own_le (by rw [hk, own_add]) hfit (by omega))).2.2.2 (by decide) (by decide) k) ?_
  show Goes p e below s _ _ _ T2 (mkF m 41 #[vR a1, vI p2] [])
  exact Goes.outV X2 hx hlk Bd.returns (hb hby d21_41) (by rw [e2]; exact ⟨rfl, rfl, rfl⟩) (by decide) (by decide)
theorem d20_0 : decode prog_13_method_2_code 0 = .ok (.aload_n 0, 1) := by decide +kernel
theorem d20_1 : decode prog_13_method_2_code 1 = .ok (.iconst 1, 1) := by decide +kernel
theorem d20_2 : decode prog_13_method_2_code 2 = .ok (.invokevirtual 15, 3) := by decide +kernel
theorem d20_5 : decode prog_13_method_2_code 5 = .ok (.aload_n 0, 1) := by decide +kernel
theorem d20_6 : decode prog_13_method_2_code 6 = .ok (.getfield 9, 3) := by decide +kernel
theorem d20_9 : decode prog_13_method_2_code 9 = .ok (.aload_n 0, 1) := by decide +kernel
theorem d20_10 : decode prog_13_method_2_code 10 = .ok (.dup, 1) := by decide +kernel
theorem d20_11 : decode prog_13_method_2_code 11 = .ok (.getfield 19, 3) := by decide +kernel
theorem d20_14 : decode prog_13_method_2_code 14 = .ok (.dup_x1, 1) := by decide +kernel
theorem d20_15 : decode prog_13_method_2_code 15 = .ok (.iconst 1, 1) := by decide +kernel
theorem d20_16 : decode prog_13_method_2_code 16 = .ok (.iadd, 1) := by decide +kernel
theorem d20_17 : decode prog_13_method_2_code 17 = .ok (.putfield 19, 3) := by decide +kernel
theorem d20_20 : decode prog_13_method_2_code 20 = .ok (.iload_n 1, 1) := by decide +kernel
theorem d20_21 : decode prog_13_method_2_code 21 = .ok (.i2b, 1) := by decide +kernel
theorem d20_22 : decode prog_13_method_2_code 22 = .ok (.bastore, 1) := by decide +kernel
theorem d20_23 : decode prog_13_method_2_code 23 = .ok (.return_, 1) := by decide +kernel
theorem pn_20 : plainName "com/example/proxysmith/proxysmith/ClassFileWriter$Bytes" = true := by first | (simp [plainName, overriddenIn]; done) | decide +kernel
theorem pd_20_0 : parseMethodDescriptor "(I)V" = some ⟨[.int], none⟩ := by decide +kernel
theorem ef_20 (m : MethodId) (a1 : Addr) (p2 : Int32) : entryFrame m #[(.ref a1), (.int p2)] 2 = mkF m 0 #[.val (.ref a1), .val (.int p2)] [] := by first | (simp [entryFrame, mkF, argsToLocals, Value.category]; done) | rfl
def Q20 (Z : State) (a1 : Addr) (p2 : Int32) (b : Addr) (n : Nat) (sz : Nat) (f : Nat → Int32) (h0 : Heap) (n0 : Nat) (v : Option Value) (h : Heap) (L : List Loc) : Prop := v = none ∧ Fr n0 L ∧ Keep h0 h [a1, b] ∧ Fld Z h a1 "com/example/proxysmith/proxysmith/ClassFileWriter$Bytes" "bytes" "[B" (.ref b) ∧ Fld Z h a1 "com/example/proxysmith/proxysmith/ClassFileWriter$Bytes" "size" "I" (.int (Int32.ofNat (sz + 1))) ∧ ∃ f', Ari Z h b .byte n f' ∧ (∀ j, j < sz → f' j = f j)
set_option maxRecDepth 65536 in
set_option maxHeartbeats 40000000 in
theorem rm20 (l : Launch) (Z : State) (a0 : Array Value) (hw : ∀ d ∈ tables_1, d.before a0 Z = true) (ws : List Jvm.Cond) (a1 : Addr) (p2 : Int32) (b : Addr) (n : Nat) (sz : Nat) (f : Nat → Int32) (h0 : Heap) (n0 : Nat) (Z0 : n0 ≤ h0.size) (E_a1_0 : Exa Z h0 a1 "com/example/proxysmith/proxysmith/ClassFileWriter$Bytes") (F_a1_bytes_0 : Fld Z h0 a1 "com/example/proxysmith/proxysmith/ClassFileWriter$Bytes" "bytes" "[B" (.ref b)) (F_a1_size_0 : Fld Z h0 a1 "com/example/proxysmith/proxysmith/ClassFileWriter$Bytes" "size" "I" (.int (Int32.ofNat sz))) (A_b_0 : Ari Z h0 b .byte n f) (ne_a1_b : a1 ≠ b) (ge_a1 : n0 ≤ a1) (ge_b : n0 ≤ b) (hfit : sz + 1 ≤ n) (hn : n ≤ 64) :
    MetFree l y_20 (head1 (Jvm.Cond.code y_20 prog_13_method_2_code 2 none :: ws) ({ frames := 1, cells := 0, slots := 0, locals := 13 } : Room)) (fun a U => a = #[(.ref a1), (.int p2)] ∧ Z.Warmed39 U.vm ∧ U.heap = h0) (fun _ _ _ _ _ => True) (fun _ U o U' => ∃ v L, o = .returned v ∧ Q20 Z a1 p2 b n sz f h0 n0 v U'.heap L ∧ FrameEnd U o U' L ({ frames := 1, cells := 0, slots := 0, locals := 13 } : Room).cells ({ frames := 1, cells := 0, slots := 0, locals := 13 } : Room).slots) := by
  refine MetFree.of_bodySF (plainFor_of_name pn_20) hisR ?_
  intro p e s m args below meth c s₁ Bd hml0 hP hK
  obtain ⟨rfl, hZ, hh⟩ := hP
  have hx := Bd.exec
  have hby := Bd.bytes
  have hlk := Bd.notSynchronized
  have hml : c.maxLocals = 2 := hml0
  have hown : s.vm.findClass "com/example/proxysmith/proxysmith/ClassFileWriter$Bytes" = some m.cls := findClass_of_methodNamed Bd.named
  have hnm := (name_of_methodNamed Bd.named Bd.method).1
  have X0 : Stand p l e ({ frames := 1, cells := 0, slots := 0, locals := 13 } : Room) s m #[(.ref a1), (.int p2)] below meth c s₁ [] 0 0 := Stand.of_body Bd
  have e0 : s₁.heap = h0 := by rw [← hh, Bd.state]; rfl
  have N0 := Fr.nil n0
  have K0 : Keep h0 h0 [a1, b] := Keep.refl h0 _
  show Goes p e below s ({ frames := 1, cells := 0, slots := 0, locals := 13 } : Room).cells ({ frames := 1, cells := 0, slots := 0, locals := 13 } : Room).slots (Q20 Z a1 p2 b n sz f h0 n0) s₁ (entryFrame m #[(.ref a1), (.int p2)] 2)
  refine Goes.step (fun t k => castTop (ef_20 m a1 p2) k) ?_
  refine Goes.step (fun _ k => XS.aloadN X0.here hx rfl (hb hby d20_0) rfl rfl k) ?_
  refine Goes.step (fun _ k => XS.iconst X0.here hx rfl (hb hby d20_1) k) ?_
  obtain ⟨T1, X1, e1, st1⟩ := own_pure (r := none) (fun _ _ _ q => q) (callXP X0 hx hZ (b := a1) (y := y_21) hown (wof hw 141 rfl) (wof hw 142 rfl) (wof hw 143 rfl) (wof hw 19 rfl) (wof hw 144 rfl) (wof hw 20 rfl) (by decide) (W := 0) (argsL := [(.int (1 : Int32))]) (rest := []) (rm21 l Z a0 hw [] a1 (1 : Int32) b n sz f 1 h0 n0 Z0 E_a1_0 F_a1_bytes_0 F_a1_size_0 A_b_0 rfl hfit hn) (by decide) (by decide) (by decide) (by decide) e0 E_a1_0 (g := (mkF m 2 #[vR a1, vI p2] [(.int (1 : Int32)), (.ref a1)])) rfl (by rw [hml]; rfl) (lenOf pd_20_0 rfl) rfl (by show 2 * 0 + _ ≤ _; exact Nat.le_of_eq rfl) (hb hby d20_2))
  refine Goes.step st1 ?_
  show Goes p e below s _ _ _ T1 (mkF m 5 #[vR a1, vI p2] [])
  refine Goes.step (fun _ k => XS.aloadN X1.here hx rfl (hb hby d20_5) rfl rfl k) ?_
  obtain ⟨T2, X2, e2, st2⟩ := getF X1 hx hZ hown (host := "") (Or.inl (wof hw 25 rfl)) Via.refl e1 F_a1_bytes_0 (g := (mkF m 6 #[vR a1, vI p2] [(.ref a1)])) rfl rfl (hb hby d20_6)
  refine Goes.step st2 ?_
  show Goes p e below s _ _ _ T2 (mkF m 9 #[vR a1, vI p2] [(.ref b)])
  refine Goes.step (fun _ k => XS.aloadN X2.here hx rfl (hb hby d20_9) rfl rfl k) ?_
  refine Goes.step (fun _ k => XS.dup X2.here hx rfl (hb hby d20_10) rfl rfl k) ?_
  obtain ⟨T3, X3, e3, st3⟩ := getF X2 hx hZ hown (host := "") (Or.inl (wof hw 145 rfl)) Via.refl e2 F_a1_size_0 (g := (mkF m 11 #[vR a1, vI p2] [(.ref a1), (.ref a1), (.ref b)])) rfl rfl (hb hby d20_11)
  refine Goes.step st3 ?_
  show Goes p e below s _ _ _ T3 (mkF m 14 #[vR a1, vI p2] [(.int (Int32.ofNat sz)), (.ref a1), (.ref b)])
  refine Goes.step (fun _ k => XS.dupX1 X3.here hx rfl (hb hby d20_14) rfl rfl rfl k) ?_
  show Goes p e below s _ _ _ T3 (mkF m 15 #[vR a1, vI p2] [(.int (Int32.ofNat sz)), (.ref a1), (.int (Int32.ofNat sz)), (.ref b)])
  refine Goes.step (fun _ k => XS.iconst X3.here hx rfl (hb hby d20_15) k) ?_
  refine Goes.step (fun _ k => XS.iadd X3.here hx rfl (hb hby d20_16) rfl k) ?_
  show Goes p e below s _ _ _ T3 (mkF m 17 #[vR a1, vI p2] [(.int ((Int32.ofNat sz) + (1 : Int32))), (.ref a1), (.int (Int32.ofNat sz)), (.ref b)])
  obtain ⟨T4, h4, X4, e4, W4, st4⟩ := putF X3 hx hZ hown (host := "") (Or.inl (wof hw 145 rfl)) Via.refl e3 F_a1_size_0 E_a1_0 (Or.inl (wof hw 146 rfl)) (wof hw 19 rfl) (ty := .int) (by decide) rfl rfl (g := (mkF m 17 #[vR a1, vI p2] [(.int ((Int32.ofNat sz) + (1 : Int32))), (.ref a1), (.int (Int32.ofNat sz)), (.ref b)])) rfl rfl (hb hby d20_17)
  refine Goes.step st4 ?_
  have E_a1_4 := E_a1_0.wr W4
  have F_a1_bytes_4 := F_a1_bytes_0.other W4 (Or.inr (slot_ne (Or.inl (wof hw 26 rfl)) (Or.inl (wof hw 146 rfl)) (by decide) (t := (.array .byte)) (t' := .int) (by decide) (by decide)))
  have A_b_4 := A_b_0.other W4 (Ne.symm ne_a1_b)
  have z_4 : n0 ≤ h4.size := by rw [W4.size]; exact Z0
  have K_4 : Keep h0 h4 [a1, b] := K0.wr W4 (Or.inl (List.mem_of_getElem? (i := 0) rfl))
  have N_4 := Fr.snoc X4 N0 ge_a1
  have F_a1_size_4 : Fld Z h4 a1 "com/example/proxysmith/proxysmith/ClassFileWriter$Bytes" "size" "I" (.int ((Int32.ofNat sz) + (1 : Int32))) := F_a1_size_0.same W4
  show Goes p e below s _ _ _ T4 (mkF m 20 #[vR a1, vI p2] [(.int (Int32.ofNat sz)), (.ref b)])
  refine Goes.step (fun _ k => XS.iloadN X4.here hx rfl (hb hby d20_20) rfl k) ?_
  refine Goes.step (fun _ k => XS.i2b X4.here hx rfl (hb hby d20_21) rfl k) ?_
  show Goes p e below s _ _ _ T4 (mkF m 22 #[vR a1, vI p2] [(.int (p2.toInt8.toInt32)), (.int (Int32.ofNat sz)), (.ref b)])
  obtain ⟨T5, h5, X5, e5, W5, A5, st5⟩ := stoB X4 hx hZ e4 A_b_4 (sz) rfl (by omega) (g := (mkF m 22 #[vR a1, vI p2] [(.int (p2.toInt8.toInt32)), (.int (Int32.ofNat sz)), (.ref b)])) rfl rfl (hb hby d20_22)
  refine Goes.step st5 ?_
  have E_a1_5 := E_a1_4.wr W5
  have F_a1_bytes_5 := F_a1_bytes_4.other W5 (Or.inl ne_a1_b)
  have F_a1_size_5 := F_a1_size_4.other W5 (Or.inl ne_a1_b)
  have z_5 : n0 ≤ h5.size := by rw [W5.size]; exact z_4
  have K_5 : Keep h0 h5 [a1, b] := K_4.wr W5 (Or.inl (List.mem_of_getElem? (i := 1) rfl))
  have N_5 := Fr.snoc X5 N_4 ge_b
  have A_b_5 : Ari Z h5 b .byte (n) (updI f (sz) ((p2.toInt8.toInt32).toInt8.toInt32)) := A5
  show Goes p e below s _ _ _ T5 (mkF m 23 #[vR a1, vI p2] [])
  have hsz : Fld Z h5 a1 "com/example/proxysmith/proxysmith/ClassFileWriter$Bytes" "size" "I" (.int (Int32.ofNat (sz + 1))) := by have q := F_a1_size_5; rw [own_succ] at q; exact q
  exact Goes.outV X5 hx hlk Bd.returns (hb hby d20_23) (by rw [e5]; exact ⟨rfl, N_5, K_5, F_a1_bytes_5, hsz, _, A_b_5, fun j hj => by simp only [updI]; rw [if_neg (by omega)]⟩) (by decide) (by decide)
theorem d36_0 : decode prog_13_method_3_code 0 = .ok (.aload_n 0, 1) := by decide +kernel
theorem d36_1 : decode prog_13_method_3_code 1 = .ok (.iconst 2, 1) := by decide +kernel
theorem d36_2 : decode prog_13_method_3_code 2 = .ok (.invokevirtual 15, 3) := by decide +kernel
theorem d36_5 : decode prog_13_method_3_code 5 = .ok (.aload_n 0, 1) := by decide +kernel
theorem d36_6 : decode prog_13_method_3_code 6 = .ok (.getfield 9, 3) := by decide +kernel
theorem d36_9 : decode prog_13_method_3_code 9 = .ok (.aload_n 0, 1) := by decide +kernel
theorem d36_10 : decode prog_13_method_3_code 10 = .ok (.dup, 1) := by decide +kernel
theorem d36_11 : decode prog_13_method_3_code 11 = .ok (.getfield 19, 3) := by decide +kernel
theorem d36_14 : decode prog_13_method_3_code 14 = .ok (.dup_x1, 1) := by decide +kernel
theorem d36_15 : decode prog_13_method_3_code 15 = .ok (.iconst 1, 1) := by decide +kernel
theorem d36_16 : decode prog_13_method_3_code 16 = .ok (.iadd, 1) := by decide +kernel
theorem d36_17 : decode prog_13_method_3_code 17 = .ok (.putfield 19, 3) := by decide +kernel
theorem d36_20 : decode prog_13_method_3_code 20 = .ok (.iload_n 1, 1) := by decide +kernel
theorem d36_21 : decode prog_13_method_3_code 21 = .ok (.bipush 8, 2) := by decide +kernel
theorem d36_23 : decode prog_13_method_3_code 23 = .ok (.iushr, 1) := by decide +kernel
theorem d36_24 : decode prog_13_method_3_code 24 = .ok (.i2b, 1) := by decide +kernel
theorem d36_25 : decode prog_13_method_3_code 25 = .ok (.bastore, 1) := by decide +kernel
theorem d36_26 : decode prog_13_method_3_code 26 = .ok (.aload_n 0, 1) := by decide +kernel
theorem d36_27 : decode prog_13_method_3_code 27 = .ok (.getfield 9, 3) := by decide +kernel
theorem d36_30 : decode prog_13_method_3_code 30 = .ok (.aload_n 0, 1) := by decide +kernel
theorem d36_31 : decode prog_13_method_3_code 31 = .ok (.dup, 1) := by decide +kernel
theorem d36_32 : decode prog_13_method_3_code 32 = .ok (.getfield 19, 3) := by decide +kernel
theorem d36_35 : decode prog_13_method_3_code 35 = .ok (.dup_x1, 1) := by decide +kernel
theorem d36_36 : decode prog_13_method_3_code 36 = .ok (.iconst 1, 1) := by decide +kernel
theorem d36_37 : decode prog_13_method_3_code 37 = .ok (.iadd, 1) := by decide +kernel
theorem d36_38 : decode prog_13_method_3_code 38 = .ok (.putfield 19, 3) := by decide +kernel
theorem d36_41 : decode prog_13_method_3_code 41 = .ok (.iload_n 1, 1) := by decide +kernel
theorem d36_42 : decode prog_13_method_3_code 42 = .ok (.i2b, 1) := by decide +kernel
theorem d36_43 : decode prog_13_method_3_code 43 = .ok (.bastore, 1) := by decide +kernel
theorem d36_44 : decode prog_13_method_3_code 44 = .ok (.return_, 1) := by decide +kernel
theorem pn_36 : plainName "com/example/proxysmith/proxysmith/ClassFileWriter$Bytes" = true := by first | (simp [plainName, overriddenIn]; done) | decide +kernel
theorem pd_36_0 : parseMethodDescriptor "(I)V" = some ⟨[.int], none⟩ := by decide +kernel
theorem ef_36 (m : MethodId) (a1 : Addr) (p2 : Int32) : entryFrame m #[(.ref a1), (.int p2)] 2 = mkF m 0 #[.val (.ref a1), .val (.int p2)] [] := by first | (simp [entryFrame, mkF, argsToLocals, Value.category]; done) | rfl
def Q36 (Z : State) (a1 : Addr) (p2 : Int32) (b : Addr) (n : Nat) (sz : Nat) (f : Nat → Int32) (h0 : Heap) (n0 : Nat) (v : Option Value) (h : Heap) (L : List Loc) : Prop := v = none ∧ Fr n0 L ∧ Keep h0 h [a1, b] ∧ Fld Z h a1 "com/example/proxysmith/proxysmith/ClassFileWriter$Bytes" "bytes" "[B" (.ref b) ∧ Fld Z h a1 "com/example/proxysmith/proxysmith/ClassFileWriter$Bytes" "size" "I" (.int (Int32.ofNat (sz + 1 + 1))) ∧ ∃ f', Ari Z h b .byte n f' ∧ (∀ j, j < sz → f' j = f j) ∧ (0 ≤ p2.toInt → p2.toInt < 65536 → own_u2 f' sz = p2)
set_option maxRecDepth 65536 in
set_option maxHeartbeats 40000000 in
theorem rm36 (l : Launch) (Z : State) (a0 : Array Value) (hw : ∀ d ∈ tables_1, d.before a0 Z = true) (ws : List Jvm.Cond) (a1 : Addr) (p2 : Int32) (b : Addr) (n : Nat) (sz : Nat) (f : Nat → Int32) (h0 : Heap) (n0 : Nat) (Z0 : n0 ≤ h0.size) (E_a1_0 : Exa Z h0 a1 "com/example/proxysmith/proxysmith/ClassFileWriter$Bytes") (F_a1_bytes_0 : Fld Z h0 a1 "com/example/proxysmith/proxysmith/ClassFileWriter$Bytes" "bytes" "[B" (.ref b)) (F_a1_size_0 : Fld Z h0 a1 "com/example/proxysmith/proxysmith/ClassFileWriter$Bytes" "size" "I" (.int (Int32.ofNat sz))) (A_b_0 : Ari Z h0 b .byte n f) (ne_a1_b : a1 ≠ b) (ge_a1 : n0 ≤ a1) (ge_b : n0 ≤ b) (hfit : sz + 2 ≤ n) (hn : n ≤ 64) :
    MetFree l y_36 (head1 (Jvm.Cond.code y_36 prog_13_method_3_code 2 none :: ws) ({ frames := 1, cells := 0, slots := 0, locals := 13 } : Room)) (fun a U => a = #[(.ref a1), (.int p2)] ∧ Z.Warmed39 U.vm ∧ U.heap = h0) (fun _ _ _ _ _ => True) (fun _ U o U' => ∃ v L, o = .returned v ∧ Q36 Z a1 p2 b n sz f h0 n0 v U'.heap L ∧ FrameEnd U o U' L ({ frames := 1, cells := 0, slots := 0, locals := 13 } : Room).cells ({ frames := 1, cells := 0, slots := 0, locals := 13 } : Room).slots) := by
  refine MetFree.of_bodySF (plainFor_of_name pn_36) hisR ?_
  intro p e s m args below meth c s₁ Bd hml0 hP hK
  obtain ⟨rfl, hZ, hh⟩ := hP
  have hx := Bd.exec
  have hby := Bd.bytes
  have hlk := Bd.notSynchronized
  have hml : c.maxLocals = 2 := hml0
  have hown : s.vm.findClass "com/example/proxysmith/proxysmith/ClassFileWriter$Bytes" = some m.cls := findClass_of_methodNamed Bd.named
  have hnm := (name_of_methodNamed Bd.named Bd.method).1
  have X0 : Stand p l e ({ frames := 1, cells := 0, slots := 0, locals := 13 } : Room) s m #[(.ref a1), (.int p2)] below meth c s₁ [] 0 0 := Stand.of_body Bd
  have e0 : s₁.heap = h0 := by rw [← hh, Bd.state]; rfl
  have N0 := Fr.nil n0
  have K0 : Keep h0 h0 [a1, b] := Keep.refl h0 _
  show Goes p e below s ({ frames := 1, cells := 0, slots := 0, locals := 13 } : Room).cells ({ frames := 1, cells := 0, slots := 0, locals := 13 } : Room).slots (Q36 Z a1 p2 b n sz f h0 n0) s₁ (entryFrame m #[(.ref a1), (.int p2)] 2)
  refine Goes.step (fun t k => castTop (ef_36 m a1 p2) k) ?_
  refine Goes.step (fun _ k => XS.aloadN X0.here hx rfl (hb hby d36_0) rfl rfl k) ?_
  refine Goes.step (fun _ k => XS.iconst X0.here hx rfl (hb hby d36_1) k) ?_
  obtain ⟨T1, X1, e1, st1⟩ := own_pure (r := none) (fun _ _ _ q => q) (callXP X0 hx hZ (b := a1) (y := y_21) hown (wof hw 141 rfl) (wof hw 142 rfl) (wof hw 143 rfl) (wof hw 19 rfl) (wof hw 144 rfl) (wof hw 20 rfl) (by decide) (W := 0) (argsL := [(.int (2 : Int32))]) (rest := []) (rm21 l Z a0 hw [] a1 (2 : Int32) b n sz f 2 h0 n0 Z0 E_a1_0 F_a1_bytes_0 F_a1_size_0 A_b_0 rfl hfit hn) (by decide) (by decide) (by decide) (by decide) e0 E_a1_0 (g := (mkF m 2 #[vR a1, vI p2] [(.int (2 : Int32)), (.ref a1)])) rfl (by rw [hml]; rfl) (lenOf pd_36_0 rfl) rfl (by show 2 * 0 + _ ≤ _; exact Nat.le_of_eq rfl) (hb hby d36_2))
  refine Goes.step st1 ?_
  show Goes p e below s _ _ _ T1 (mkF m 5 #[vR a1, vI p2] [])
  refine Goes.step (fun _ k => XS.aloadN X1.here hx rfl (hb hby d36_5) rfl rfl k) ?_
  obtain ⟨T2, X2, e2, st2⟩ := getF X1 hx hZ hown (host := "") (Or.inl (wof hw 25 rfl)) Via.refl e1 F_a1_bytes_0 (g := (mkF m 6 #[vR a1, vI p2] [(.ref a1)])) rfl rfl (hb hby d36_6)
  refine Goes.step st2 ?_
  show Goes p e below s _ _ _ T2 (mkF m 9 #[vR a1, vI p2] [(.ref b)])
  refine Goes.step (fun _ k => XS.aloadN X2.here hx rfl (hb hby d36_9) rfl rfl k) ?_
  refine Goes.step (fun _ k => XS.dup X2.here hx rfl (hb hby d36_10) rfl rfl k) ?_
  obtain ⟨T3, X3, e3, st3⟩ := getF X2 hx hZ hown (host := "") (Or.inl (wof hw 145 rfl)) Via.refl e2 F_a1_size_0 (g := (mkF m 11 #[vR a1, vI p2] [(.ref a1), (.ref a1), (.ref b)])) rfl rfl (hb hby d36_11)
  refine Goes.step st3 ?_
  show Goes p e below s _ _ _ T3 (mkF m 14 #[vR a1, vI p2] [(.int (Int32.ofNat sz)), (.ref a1), (.ref b)])
  refine Goes.step (fun _ k => XS.dupX1 X3.here hx rfl (hb hby d36_14) rfl rfl rfl k) ?_
  show Goes p e below s _ _ _ T3 (mkF m 15 #[vR a1, vI p2] [(.int (Int32.ofNat sz)), (.ref a1), (.int (Int32.ofNat sz)), (.ref b)])
  refine Goes.step (fun _ k => XS.iconst X3.here hx rfl (hb hby d36_15) k) ?_
  refine Goes.step (fun _ k => XS.iadd X3.here hx rfl (hb hby d36_16) rfl k) ?_
  show Goes p e below s _ _ _ T3 (mkF m 17 #[vR a1, vI p2] [(.int ((Int32.ofNat sz) + (1 : Int32))), (.ref a1), (.int (Int32.ofNat sz)), (.ref b)])
  obtain ⟨T4, h4, X4, e4, W4, st4⟩ := putF X3 hx hZ hown (host := "") (Or.inl (wof hw 145 rfl)) Via.refl e3 F_a1_size_0 E_a1_0 (Or.inl (wof hw 146 rfl)) (wof hw 19 rfl) (ty := .int) (by decide) rfl rfl (g := (mkF m 17 #[vR a1, vI p2] [(.int ((Int32.ofNat sz) + (1 : Int32))), (.ref a1), (.int (Int32.ofNat sz)), (.ref b)])) rfl rfl (hb hby d36_17)
  refine Goes.step st4 ?_
  have E_a1_4 := E_a1_0.wr W4
  have F_a1_bytes_4 := F_a1_bytes_0.other W4 (Or.inr (slot_ne (Or.inl (wof hw 26 rfl)) (Or.inl (wof hw 146 rfl)) (by decide) (t := (.array .byte)) (t' := .int) (by decide) (by decide)))
  have A_b_4 := A_b_0.other W4 (Ne.symm ne_a1_b)
  have z_4 : n0 ≤ h4.size := by rw [W4.size]; exact Z0
  have K_4 : Keep h0 h4 [a1, b] := K0.wr W4 (Or.inl (List.mem_of_getElem? (i := 0) rfl))
  have N_4 := Fr.snoc X4 N0 ge_a1
  have F_a1_size_4 : Fld Z h4 a1 "com/example/proxysmith/proxysmith/ClassFileWriter$Bytes" "size" "I" (.int ((Int32.ofNat sz) + (1 : Int32))) := F_a1_size_0.same W4
  show Goes p e below s _ _ _ T4 (mkF m 20 #[vR a1, vI p2] [(.int (Int32.ofNat sz)), (.ref b)])
  refine Goes.step (fun _ k => XS.iloadN X4.here hx rfl (hb hby d36_20) rfl k) ?_
  refine Goes.step (fun _ k => XS.bipush X4.here hx rfl (hb hby d36_21) k) ?_
  refine Goes.step (fun _ k => XS.iushr X4.here hx rfl (hb hby d36_23) rfl k) ?_
  show Goes p e below s _ _ _ T4 (mkF m 24 #[vR a1, vI p2] [(.int ((p2.toUInt32 >>> ((8 : Int32) &&& 31).toUInt32).toInt32)), (.int (Int32.ofNat sz)), (.ref b)])
  refine Goes.step (fun _ k => XS.i2b X4.here hx rfl (hb hby d36_24) rfl k) ?_
  show Goes p e below s _ _ _ T4 (mkF m 25 #[vR a1, vI p2] [(.int (((p2.toUInt32 >>> ((8 : Int32) &&& 31).toUInt32).toInt32).toInt8.toInt32)), (.int (Int32.ofNat sz)), (.ref b)])
  obtain ⟨T5, h5, X5, e5, W5, A5, st5⟩ := stoB X4 hx hZ e4 A_b_4 (sz) rfl (by omega) (g := (mkF m 25 #[vR a1, vI p2] [(.int (((p2.toUInt32 >>> ((8 : Int32) &&& 31).toUInt32).toInt32).toInt8.toInt32)), (.int (Int32.ofNat sz)), (.ref b)])) rfl rfl (hb hby d36_25)
  refine Goes.step st5 ?_
  have E_a1_5 := E_a1_4.wr W5
  have F_a1_bytes_5 := F_a1_bytes_4.other W5 (Or.inl ne_a1_b)
  have F_a1_size_5 := F_a1_size_4.other W5 (Or.inl ne_a1_b)
  have z_5 : n0 ≤ h5.size := by rw [W5.size]; exact z_4
  have K_5 : Keep h0 h5 [a1, b] := K_4.wr W5 (Or.inl (List.mem_of_getElem? (i := 1) rfl))
  have N_5 := Fr.snoc X5 N_4 ge_b
  have A_b_5 : Ari Z h5 b .byte (n) (updI f (sz) ((((p2.toUInt32 >>> ((8 : Int32) &&& 31).toUInt32).toInt32).toInt8.toInt32).toInt8.toInt32)) := A5
  show Goes p e below s _ _ _ T5 (mkF m 26 #[vR a1, vI p2] [])
  refine Goes.step (fun _ k => XS.aloadN X5.here hx rfl (hb hby d36_26) rfl rfl k) ?_
  obtain ⟨T6, X6, e6, st6⟩ := getF X5 hx hZ hown (host := "") (Or.inl (wof hw 25 rfl)) Via.refl e5 F_a1_bytes_5 (g := (mkF m 27 #[vR a1, vI p2] [(.ref a1)])) rfl rfl (hb hby d36_27)
  refine Goes.step st6 ?_
  show Goes p e below s _ _ _ T6 (mkF m 30 #[vR a1, vI p2] [(.ref b)])
  refine Goes.step (fun _ k => XS.aloadN X6.here hx rfl (hb hby d36_30) rfl rfl k) ?_
  refine Goes.step (fun _ k => XS.dup X6.here hx rfl (hb hby d36_31) rfl rfl k) ?_
  obtain ⟨T7, X7, e7, st7⟩ := getF X6 hx hZ hown (host := "") (Or.inl (wof hw 145 rfl)) Via.refl e6 F_a1_size_5 (g := (mkF m 32 #[vR a1, vI p2] [(.ref a1), (.ref a1), (.ref b)])) rfl rfl (hb hby d36_32)
  refine Goes.step st7 ?_
  show Goes p e below s _ _ _ T7 (mkF m 35 #[vR a1, vI p2] [(.int ((Int32.ofNat sz) + (1 : Int32))), (.ref a1), (.ref b)])
  refine Goes.step (fun _ k => XS.dupX1 X7.here hx rfl (hb hby d36_35) rfl rfl rfl k) ?_
  show Goes p e below s _ _ _ T7 (mkF m 36 #[vR a1, vI p2] [(.int ((Int32.ofNat sz) + (1 : Int32))), (.ref a1), (.int ((Int32.ofNat sz) + (1 : Int32))), (.ref b)])
  refine Goes.step (fun _ k => XS.iconst X7.here hx rfl (hb hby d36_36) k) ?_
  refine Goes.step (fun _ k => XS.iadd X7.here hx rfl (hb hby d36_37) rfl k) ?_
  show Goes p e below s _ _ _ T7 (mkF m 38 #[vR a1, vI p2] [(.int (((Int32.ofNat sz) + (1 : Int32)) + (1 : Int32))), (.ref a1), (.int ((Int32.ofNat sz) + (1 : Int32))), (.ref b)])
  obtain ⟨T8, h8, X8, e8, W8, st8⟩ := putF X7 hx hZ hown (host := "") (Or.inl (wof hw 145 rfl)) Via.refl e7 F_a1_size_5 E_a1_5 (Or.inl (wof hw 146 rfl)) (wof hw 19 rfl) (ty := .int) (by decide) rfl rfl (g := (mkF m 38 #[vR a1, vI p2] [(.int (((Int32.ofNat sz) + (1 : Int32)) + (1 : Int32))), (.ref a1), (.int ((Int32.ofNat sz) + (1 : Int32))), (.ref b)])) rfl rfl (hb hby d36_38)
  refine Goes.step st8 ?_
  have E_a1_8 := E_a1_5.wr W8
  have F_a1_bytes_8 := F_a1_bytes_5.other W8 (Or.inr (slot_ne (Or.inl (wof hw 26 rfl)) (Or.inl (wof hw 146 rfl)) (by decide) (t := (.array .byte)) (t' := .int) (by decide) (by decide)))
  have A_b_8 := A_b_5.other W8 (Ne.symm ne_a1_b)
  have z_8 : n0 ≤ h8.size := by rw [W8.size]; exact z_5
  have K_8 : Keep h0 h8 [a1, b] := K_5.wr W8 (Or.inl (List.mem_of_getElem? (i := 0) rfl))
  have N_8 := Fr.snoc X8 N_5 ge_a1
  have F_a1_size_8 : Fld Z h8 a1 "com/example/proxysmith/proxysmith/ClassFileWriter$Bytes" "size" "I" (.int (((Int32.ofNat sz) + (1 : Int32)) + (1 : Int32))) := F_a1_size_5.same W8
  show Goes p e below s _ _ _ T8 (mkF m 41 #[vR a1, vI p2] [(.int ((Int32.ofNat sz) + (1 : Int32))), (.ref b)])
  refine Goes.step (fun _ k => XS.iloadN X8.here hx rfl (hb hby d36_41) rfl k) ?_
  refine Goes.step (fun _ k => XS.i2b X8.here hx rfl (hb hby d36_42) rfl k) ?_
  show Goes p e below s _ _ _ T8 (mkF m 43 #[vR a1, vI p2] [(.int (p2.toInt8.toInt32)), (.int ((Int32.ofNat sz) + (1 : Int32))), (.ref b)])
  obtain ⟨T9, h9, X9, e9, W9, A9, st9⟩ := stoB X8 hx hZ e8 A_b_8 (sz + 1) (own_succ sz) (by omega) (g := (mkF m 43 #[vR a1, vI p2] [(.int (p2.toInt8.toInt32)), (.int ((Int32.ofNat sz) + (1 : Int32))), (.ref b)])) rfl rfl (hb hby d36_43)
  refine Goes.step st9 ?_
  have E_a1_9 := E_a1_8.wr W9
  have F_a1_bytes_9 := F_a1_bytes_8.other W9 (Or.inl ne_a1_b)
  have F_a1_size_9 := F_a1_size_8.other W9 (Or.inl ne_a1_b)
  have z_9 : n0 ≤ h9.size := by rw [W9.size]; exact z_8
  have K_9 : Keep h0 h9 [a1, b] := K_8.wr W9 (Or.inl (List.mem_of_getElem? (i := 1) rfl))
  have N_9 := Fr.snoc X9 N_8 ge_b
  have A_b_9 : Ari Z h9 b .byte (n) (updI (updI f (sz) ((((p2.toUInt32 >>> ((8 : Int32) &&& 31).toUInt32).toInt32).toInt8.toInt32).toInt8.toInt32)) (sz + 1) ((p2.toInt8.toInt32).toInt8.toInt32)) := A9
  show Goes p e below s _ _ _ T9 (mkF m 44 #[vR a1, vI p2] [])
  have hsz : Fld Z h9 a1 "com/example/proxysmith/proxysmith/ClassFileWriter$Bytes" "size" "I" (.int (Int32.ofNat (sz + 1 + 1))) := by have q := F_a1_size_9; rw [own_succ, own_succ] at q; exact q
  exact Goes.outV X9 hx hlk Bd.returns (hb hby d36_44) (by rw [e9]; exact ⟨rfl, N_9, K_9, F_a1_bytes_9, hsz, own_w2 f sz p2, A_b_9, own_w2k f sz p2, fun h0 h1 => own_u2w f sz h0 h1⟩) (by decide) (by decide)
theorem d24_0 : decode prog_13_method_9_code 0 = .ok (.aload_n 0, 1) := by decide +kernel
theorem d24_1 : decode prog_13_method_9_code 1 = .ok (.getfield 19, 3) := by decide +kernel
theorem d24_4 : decode prog_13_method_9_code 4 = .ok (.ireturn, 1) := by decide +kernel
theorem pn_24 : plainName "com/example/proxysmith/proxysmith/ClassFileWriter$Bytes" = true := by first | (simp [plainName, overriddenIn]; done) | decide +kernel
theorem ef_24 (m : MethodId) (a1 : Addr) : entryFrame m #[(.ref a1)] 1 = mkF m 0 #[.val (.ref a1)] [] := by first | (simp [entryFrame, mkF, argsToLocals, Value.category]; done) | rfl
def Q24 (Z : State) (a1 : Addr) (sz : Nat) (h0 : Heap) (n0 : Nat) (v : Option Value) (h : Heap) (L : List Loc) : Prop := PQ h0 (some (.int (Int32.ofNat sz))) v h L
set_option maxRecDepth 65536 in
set_option maxHeartbeats 40000000 in
theorem rm24 (l : Launch) (Z : State) (a0 : Array Value) (hw : ∀ d ∈ tables_1, d.before a0 Z = true) (ws : List Jvm.Cond) (a1 : Addr) (sz : Nat) (h0 : Heap) (n0 : Nat) (Z0 : n0 ≤ h0.size) (F_a1_size_0 : Fld Z h0 a1 "com/example/proxysmith/proxysmith/ClassFileWriter$Bytes" "size" "I" (.int (Int32.ofNat sz))) :
    MetFree l y_24 (head1 (Jvm.Cond.code y_24 prog_13_method_9_code 1 (some .int) :: ws) ({ frames := 0, cells := 0, slots := 0, locals := 0 } : Room)) (fun a U => a = #[(.ref a1)] ∧ Z.Warmed39 U.vm ∧ U.heap = h0) (fun _ _ _ _ _ => True) (fun _ U o U' => ∃ v L, o = .returned v ∧ Q24 Z a1 sz h0 n0 v U'.heap L ∧ FrameEnd U o U' L ({ frames := 0, cells := 0, slots := 0, locals := 0 } : Room).cells ({ frames := 0, cells := 0, slots := 0, locals := 0 } : Room).slots) := by
  refine MetFree.of_bodySF (plainFor_of_name pn_24) hisR ?_
  intro p e s m args below meth c s₁ Bd hml0 hP hK
  obtain ⟨rfl, hZ, hh⟩ := hP
  have hx := Bd.exec
  have hby := Bd.bytes
  have hlk := Bd.notSynchronized
  have hml : c.maxLocals = 1 := hml0
  have hown : s.vm.findClass "com/example/proxysmith/proxysmith/ClassFileWriter$Bytes" = some m.cls := findClass_of_methodNamed Bd.named
  have hnm := (name_of_methodNamed Bd.named Bd.method).1
  have X0 : Stand p l e ({ frames := 0, cells := 0, slots := 0, locals := 0 } : Room) s m #[(.ref a1)] below meth c s₁ [] 0 0 := Stand.of_body Bd
  have e0 : s₁.heap = h0 := by rw [← hh, Bd.state]; rfl
  have N0 := Fr.nil n0
  have K0 : Keep h0 h0 [] := Keep.refl h0 _
  show Goes p e below s ({ frames := 0, cells := 0, slots := 0, locals := 0 } : Room).cells ({ frames := 0, cells := 0, slots := 0, locals := 0 } : Room).slots (Q24 Z a1 sz h0 n0) s₁ (entryFrame m #[(.ref a1)] 1)
  refine Goes.step (fun t k => castTop (ef_24 m a1) k) ?_
  refine Goes.step (fun _ k => XS.aloadN X0.here hx rfl (hb hby d24_0) rfl rfl k) ?_
  obtain ⟨T1, X1, e1, st1⟩ := getF X0 hx hZ hown (host := "") (Or.inl (wof hw 145 rfl)) Via.refl e0 F_a1_size_0 (g := (mkF m 1 #[vR a1] [(.ref a1)])) rfl rfl (hb hby d24_1)
  refine Goes.step st1 ?_
  show Goes p e below s _ _ _ T1 (mkF m 4 #[vR a1] [(.int (Int32.ofNat sz))])
  exact Goes.outI X1 hx hlk Bd.returns (hb hby d24_4) (by rw [e1]; exact ⟨rfl, rfl, rfl⟩) (by decide) (by decide)
theorem d46_0 : decode prog_13_method_10_code 0 = .ok (.aload_n 0, 1) := by decide +kernel
theorem d46_1 : decode prog_13_method_10_code 1 = .ok (.getfield 19, 3) := by decide +kernel
theorem d46_4 : decode prog_13_method_10_code 4 = .ok (.aload_n 0, 1) := by decide +kernel
theorem d46_5 : decode prog_13_method_10_code 5 = .ok (.getfield 9, 3) := by decide +kernel
theorem d46_8 : decode prog_13_method_10_code 8 = .ok (.arraylength, 1) := by decide +kernel
theorem d46_9 : decode prog_13_method_10_code 9 = .ok (.if_icmp .ne 10, 3) := by decide +kernel
theorem d46_12 : decode prog_13_method_10_code 12 = .ok (.aload_n 0, 1) := by decide +kernel
theorem d46_13 : decode prog_13_method_10_code 13 = .ok (.getfield 9, 3) := by decide +kernel
theorem d46_16 : decode prog_13_method_10_code 16 = .ok (.goto 14, 3) := by decide +kernel
theorem d46_30 : decode prog_13_method_10_code 30 = .ok (.areturn, 1) := by decide +kernel
theorem pn_46 : plainName "com/example/proxysmith/proxysmith/ClassFileWriter$Bytes" = true := by first | (simp [plainName, overriddenIn]; done) | decide +kernel
theorem ef_46 (m : MethodId) (a1 : Addr) : entryFrame m #[(.ref a1)] 1 = mkF m 0 #[.val (.ref a1)] [] := by first | (simp [entryFrame, mkF, argsToLocals, Value.category]; done) | rfl
def Q46 (Z : State) (a1 : Addr) (b : Addr) (n : Nat) (f : Nat → Int32) (h0 : Heap) (n0 : Nat) (v : Option Value) (h : Heap) (L : List Loc) : Prop := PQ h0 (some (.ref b)) v h L
set_option maxRecDepth 65536 in
set_option maxHeartbeats 40000000 in
theorem rm46 (l : Launch) (Z : State) (a0 : Array Value) (hw : ∀ d ∈ tables_1, d.before a0 Z = true) (ws : List Jvm.Cond) (a1 : Addr) (b : Addr) (n : Nat) (f : Nat → Int32) (h0 : Heap) (n0 : Nat) (Z0 : n0 ≤ h0.size) (E_a1_0 : Exa Z h0 a1 "com/example/proxysmith/proxysmith/ClassFileWriter$Bytes") (F_a1_bytes_0 : Fld Z h0 a1 "com/example/proxysmith/proxysmith/ClassFileWriter$Bytes" "bytes" "[B" (.ref b)) (F_a1_size_0 : Fld Z h0 a1 "com/example/proxysmith/proxysmith/ClassFileWriter$Bytes" "size" "I" (.int (Int32.ofNat n))) (A_b_0 : Ari Z h0 b .byte n f) :
    MetFree l y_46 (head1 (Jvm.Cond.code y_46 prog_13_method_10_code 1 (some (.array .byte)) :: ws) ({ frames := 0, cells := 0, slots := 0, locals := 0 } : Room)) (fun a U => a = #[(.ref a1)] ∧ Z.Warmed39 U.vm ∧ U.heap = h0) (fun _ _ _ _ _ => True) (fun _ U o U' => ∃ v L, o = .returned v ∧ Q46 Z a1 b n f h0 n0 v U'.heap L ∧ FrameEnd U o U' L ({ frames := 0, cells := 0, slots := 0, locals := 0 } : Room).cells ({ frames := 0, cells := 0, slots := 0, locals := 0 } : Room).slots) := by
  refine MetFree.of_bodySF (plainFor_of_name pn_46) hisR ?_
  intro p e s m args below meth c s₁ Bd hml0 hP hK
  obtain ⟨rfl, hZ, hh⟩ := hP
  have hx := Bd.exec
  have hby := Bd.bytes
  have hlk := Bd.notSynchronized
  have hml : c.maxLocals = 1 := hml0
  have hown : s.vm.findClass "com/example/proxysmith/proxysmith/ClassFileWriter$Bytes" = some m.cls := findClass_of_methodNamed Bd.named
  have hnm := (name_of_methodNamed Bd.named Bd.method).1
  have X0 : Stand p l e ({ frames := 0, cells := 0, slots := 0, locals := 0 } : Room) s m #[(.ref a1)] below meth c s₁ [] 0 0 := Stand.of_body Bd
  have e0 : s₁.heap = h0 := by rw [← hh, Bd.state]; rfl
  have N0 := Fr.nil n0
  have K0 : Keep h0 h0 [] := Keep.refl h0 _
  show Goes p e below s ({ frames := 0, cells := 0, slots := 0, locals := 0 } : Room).cells ({ frames := 0, cells := 0, slots := 0, locals := 0 } : Room).slots (Q46 Z a1 b n f h0 n0) s₁ (entryFrame m #[(.ref a1)] 1)
  refine Goes.step (fun t k => castTop (ef_46 m a1) k) ?_
  refine Goes.step (fun _ k => XS.aloadN X0.here hx rfl (hb hby d46_0) rfl rfl k) ?_
  obtain ⟨T1, X1, e1, st1⟩ := getF X0 hx hZ hown (host := "") (Or.inl (wof hw 145 rfl)) Via.refl e0 F_a1_size_0 (g := (mkF m 1 #[vR a1] [(.ref a1)])) rfl rfl (hb hby d46_1)
  refine Goes.step st1 ?_
  show Goes p e below s _ _ _ T1 (mkF m 4 #[vR a1] [(.int (Int32.ofNat n))])
  refine Goes.step (fun _ k => XS.aloadN X1.here hx rfl (hb hby d46_4) rfl rfl k) ?_
  obtain ⟨T2, X2, e2, st2⟩ := getF X1 hx hZ hown (host := "") (Or.inl (wof hw 25 rfl)) Via.refl e1 F_a1_bytes_0 (g := (mkF m 5 #[vR a1] [(.ref a1), (.int (Int32.ofNat n))])) rfl rfl (hb hby d46_5)
  refine Goes.step st2 ?_
  show Goes p e below s _ _ _ T2 (mkF m 8 #[vR a1] [(.ref b), (.int (Int32.ofNat n))])
  refine Goes.step (fun _ k => rdL X2 hx hZ e2 A_b_0 (g := (mkF m 8 #[vR a1] [(.ref b), (.int (Int32.ofNat n))])) rfl rfl (hb hby d46_8) _ k) ?_
  show Goes p e below s _ _ _ T2 (mkF m 9 #[vR a1] [(.int (Int32.ofNat n)), (.int (Int32.ofNat n))])
  refine Goes.step (fun _ k => XS.icmpNo X2.here hx rfl (hb hby d46_9) rfl (teq rfl).2 k) ?_
  show Goes p e below s _ _ _ T2 (mkF m 12 #[vR a1] [])
  refine Goes.step (fun _ k => XS.aloadN X2.here hx rfl (hb hby d46_12) rfl rfl k) ?_
  obtain ⟨T3, X3, e3, st3⟩ := getF X2 hx hZ hown (host := "") (Or.inl (wof hw 25 rfl)) Via.refl e2 F_a1_bytes_0 (g := (mkF m 13 #[vR a1] [(.ref a1)])) rfl rfl (hb hby d46_13)
  refine Goes.step st3 ?_
  show Goes p e below s _ _ _ T3 (mkF m 16 #[vR a1] [(.ref b)])
  refine Goes.step (fun _ k => XS.goto X3.here hx rfl (pc0 := 16) (pc' := 30) rfl (hb hby d46_16) (by decide) (by decide) k) ?_
  show Goes p e below s _ _ _ T3 (mkF m 30 #[vR a1] [(.ref b)])
  exact Goes.outR X3 hx hlk Bd.returns rfl rfl (hb hby d46_30) (by rw [e3]; exact ⟨rfl, rfl, rfl⟩) (by decide) (by decide)
theorem d37_0 : decode prog_13_method_4_code 0 = .ok (.aload_n 0, 1) := by decide +kernel
theorem d37_1 : decode prog_13_method_4_code 1 = .ok (.iload_n 1, 1) := by decide +kernel
theorem d37_2 : decode prog_13_method_4_code 2 = .ok (.bipush 16, 2) := by decide +kernel
theorem d37_4 : decode prog_13_method_4_code 4 = .ok (.iushr, 1) := by decide +kernel
theorem d37_5 : decode prog_13_method_4_code 5 = .ok (.invokevirtual 23, 3) := by decide +kernel
theorem d37_8 : decode prog_13_method_4_code 8 = .ok (.aload_n 0, 1) := by decide +kernel
theorem d37_9 : decode prog_13_method_4_code 9 = .ok (.iload_n 1, 1) := by decide +kernel
theorem d37_10 : decode prog_13_method_4_code 10 = .ok (.invokevirtual 23, 3) := by decide +kernel
theorem d37_13 : decode prog_13_method_4_code 13 = .ok (.return_, 1) := by decide +kernel
theorem pn_37 : plainName "com/example/proxysmith/proxysmith/ClassFileWriter$Bytes" = true := by first | (simp [plainName, overriddenIn]; done) | decide +kernel
theorem pd_37_0 : parseMethodDescriptor "(I)V" = some ⟨[.int], none⟩ := by decide +kernel
theorem ef_37 (m : MethodId) (a1 : Addr) (p2 : Int32) : entryFrame m #[(.ref a1), (.int p2)] 2 = mkF m 0 #[.val (.ref a1), .val (.int p2)] [] := by first | (simp [entryFrame, mkF, argsToLocals, Value.category]; done) | rfl
def Q37 (Z : State) (a1 : Addr) (p2 : Int32) (b : Addr) (n : Nat) (sz : Nat) (f : Nat → Int32) (k : Nat) (h0 : Heap) (n0 : Nat) (v : Option Value) (h : Heap) (L : List Loc) : Prop := v = none ∧ Fr n0 L ∧ Keep h0 h [a1, b] ∧ Fld Z h a1 "com/example/proxysmith/proxysmith/ClassFileWriter$Bytes" "bytes" "[B" (.ref b) ∧ Fld Z h a1 "com/example/proxysmith/proxysmith/ClassFileWriter$Bytes" "size" "I" (.int (Int32.ofNat (sz + 1 + 1 + 1 + 1))) ∧ ∃ f', Ari Z h b .byte n f' ∧ (∀ j, j < sz → f' j = f j) ∧ own_u2 f' sz = 0 ∧ own_u2 f' (sz + 1 + 1) = p2
set_option maxRecDepth 65536 in
set_option maxHeartbeats 40000000 in
theorem rm37 (l : Launch) (Z : State) (a0 : Array Value) (hw : ∀ d ∈ tables_1, d.before a0 Z = true) (ws : List Jvm.Cond) (a1 : Addr) (p2 : Int32) (b : Addr) (n : Nat) (sz : Nat) (f : Nat → Int32) (k : Nat) (h0 : Heap) (n0 : Nat) (Z0 : n0 ≤ h0.size) (E_a1_0 : Exa Z h0 a1 "com/example/proxysmith/proxysmith/ClassFileWriter$Bytes") (F_a1_bytes_0 : Fld Z h0 a1 "com/example/proxysmith/proxysmith/ClassFileWriter$Bytes" "bytes" "[B" (.ref b)) (F_a1_size_0 : Fld Z h0 a1 "com/example/proxysmith/proxysmith/ClassFileWriter$Bytes" "size" "I" (.int (Int32.ofNat sz))) (A_b_0 : Ari Z h0 b .byte n f) (ne_a1_b : a1 ≠ b) (ge_a1 : n0 ≤ a1) (ge_b : n0 ≤ b) (hfit : sz + 4 ≤ n) (hn : n ≤ 64) (hk : p2 = Int32.ofNat k) (hk6 : k < 65536) :
    MetFree l y_37 (head1 (Jvm.Cond.code y_37 prog_13_method_4_code 2 none :: ws) ({ frames := 2, cells := 0, slots := 0, locals := 26 } : Room)) (fun a U => a = #[(.ref a1), (.int p2)] ∧ Z.Warmed39 U.vm ∧ U.heap = h0) (fun _ _ _ _ _ => True) (fun _ U o U' => ∃ v L, o = .returned v ∧ Q37 Z a1 p2 b n sz f k h0 n0 v U'.heap L ∧ FrameEnd U o U' L ({ frames := 2, cells := 0, slots := 0, locals := 26 } : Room).cells ({ frames := 2, cells := 0, slots := 0, locals := 26 } : Room).slots) := by
  refine MetFree.of_bodySF (plainFor_of_name pn_37) hisR ?_
  intro p e s m args below meth c s₁ Bd hml0 hP hK
  obtain ⟨rfl, hZ, hh⟩ := hP
  have hx := Bd.exec
  have hby := Bd.bytes
  have hlk := Bd.notSynchronized
  have hml : c.maxLocals = 2 := hml0
  have hown : s.vm.findClass "com/example/proxysmith/proxysmith/ClassFileWriter$Bytes" = some m.cls := findClass_of_methodNamed Bd.named
  have hnm := (name_of_methodNamed Bd.named Bd.method).1
  have X0 : Stand p l e ({ frames := 2, cells := 0, slots := 0, locals := 26 } : Room) s m #[(.ref a1), (.int p2)] below meth c s₁ [] 0 0 := Stand.of_body Bd
  have e0 : s₁.heap = h0 := by rw [← hh, Bd.state]; rfl
  have N0 := Fr.nil n0
  have K0 : Keep h0 h0 [a1, b] := Keep.refl h0 _
  show Goes p e below s ({ frames := 2, cells := 0, slots := 0, locals := 26 } : Room).cells ({ frames := 2, cells := 0, slots := 0, locals := 26 } : Room).slots (Q37 Z a1 p2 b n sz f k h0 n0) s₁ (entryFrame m #[(.ref a1), (.int p2)] 2)
  refine Goes.step (fun t k => castTop (ef_37 m a1 p2) k) ?_
  refine Goes.step (fun _ k => XS.aloadN X0.here hx rfl (hb hby d37_0) rfl rfl k) ?_
  refine Goes.step (fun _ k => XS.iloadN X0.here hx rfl (hb hby d37_1) rfl k) ?_
  refine Goes.step (fun _ k => XS.bipush X0.here hx rfl (hb hby d37_2) k) ?_
  refine Goes.step (fun _ k => XS.iushr X0.here hx rfl (hb hby d37_4) rfl k) ?_
  show Goes p e below s _ _ _ s₁ (mkF m 5 #[vR a1, vI p2] [(.int ((p2.toUInt32 >>> ((16 : Int32) &&& 31).toUInt32).toInt32)), (.ref a1)])
  rw [show ((p2.toUInt32 >>> ((16 : Int32) &&& 31).toUInt32).toInt32) = (0 : Int32) from by rw [hk]; exact own_hi16 hk6]
  obtain ⟨v1, T1, h1, L1, X1, e1, Q1, st1⟩ := callXV X0 hx hZ (C := "com/example/proxysmith/proxysmith/ClassFileWriter$Bytes") (b := a1) (y := y_36) (z := y_36) hown (wof hw 277 rfl) (wof hw 268 rfl) (wof hw 270 rfl) (wof hw 269 rfl) (wof hw 271 rfl) (wof hw 20 rfl) (notFace_of_selects (args := #[]) (mvT hZ (wof hw 270 rfl))) (by decide) (W := 0) (argsL := [(.int (0 : Int32))]) (rest := []) (rm36 l Z a0 hw [] a1 (0 : Int32) b n sz f h0 n0 Z0 E_a1_0 F_a1_bytes_0 F_a1_size_0 A_b_0 ne_a1_b ge_a1 ge_b (by omega) hn) (by decide) (by decide) (by decide) (by decide) e0 E_a1_0 (g := (mkF m 5 #[vR a1, vI p2] [(.int (0 : Int32)), (.ref a1)])) rfl (by rw [hml]; rfl) (lenOf pd_37_0 rfl) rfl (by show 2 * 0 + _ ≤ _; exact Nat.le_of_eq rfl) (hb hby d37_5)
  obtain ⟨rfl, NQ1, KQ1, hFb1, hFs1, f1, hA1, hp1, hv1⟩ := Q1
  refine Goes.step st1 ?_
  have E_a1_1 := E_a1_0.keep KQ1
  have z_1 : n0 ≤ h1.size := Nat.le_trans Z0 KQ1.1
  have K_1 : Keep h0 h1 [a1, b] := Keep.trans K0 KQ1 (allS (Or.inl (List.mem_of_getElem? (i := 0) rfl)) (allS (Or.inl (List.mem_of_getElem? (i := 1) rfl)) all0))
  have N_1 := Fr.app N0 NQ1
  show Goes p e below s _ _ _ T1 (mkF m 8 #[vR a1, vI p2] [])
  refine Goes.step (fun _ k => XS.aloadN X1.here hx rfl (hb hby d37_8) rfl rfl k) ?_
  refine Goes.step (fun _ k => XS.iloadN X1.here hx rfl (hb hby d37_9) rfl k) ?_
  obtain ⟨v2, T2, h2, L2, X2, e2, Q2, st2⟩ := callXV X1 hx hZ (C := "com/example/proxysmith/proxysmith/ClassFileWriter$Bytes") (b := a1) (y := y_36) (z := y_36) hown (wof hw 277 rfl) (wof hw 268 rfl) (wof hw 270 rfl) (wof hw 269 rfl) (wof hw 271 rfl) (wof hw 20 rfl) (notFace_of_selects (args := #[]) (mvT hZ (wof hw 270 rfl))) (by decide) (W := 0) (argsL := [(.int p2)]) (rest := []) (rm36 l Z a0 hw [] a1 p2 b n ((sz + 1 + 1)) f1 h1 n0 z_1 E_a1_1 hFb1 hFs1 hA1 ne_a1_b ge_a1 ge_b (by omega) hn) (by decide) (by decide) (by decide) (by decide) e1 E_a1_1 (g := (mkF m 10 #[vR a1, vI p2] [(.int p2), (.ref a1)])) rfl (by rw [hml]; rfl) (lenOf pd_37_0 rfl) rfl (by show 2 * 0 + _ ≤ _; exact Nat.le_of_eq rfl) (hb hby d37_10)
  obtain ⟨rfl, NQ2, KQ2, hFb2, hFs2, f2, hA2, hp2, hv2⟩ := Q2
  refine Goes.step st2 ?_
  have E_a1_2 := E_a1_1.keep KQ2
  have z_2 : n0 ≤ h2.size := Nat.le_trans z_1 KQ2.1
  have K_2 : Keep h0 h2 [a1, b] := Keep.trans K_1 KQ2 (allS (Or.inl (List.mem_of_getElem? (i := 0) rfl)) (allS (Or.inl (List.mem_of_getElem? (i := 1) rfl)) all0))
  have N_2 := Fr.app N_1 NQ2
  show Goes p e below s _ _ _ T2 (mkF m 13 #[vR a1, vI p2] [])
  exact Goes.outV X2 hx hlk Bd.returns (hb hby d37_13) (by rw [e2]; exact ⟨rfl, N_2, K_2, hFb2, hFs2, _, hA2, fun j hj => (hp2 j (by omega)).trans (hp1 j hj), (own_u2k hp2 (by omega)).trans (hv1 (by decide) (by decide)), hv2 (by rw [hk]; exact (own_rg hk6).1) (by rw [hk]; exact (own_rg hk6).2)⟩) (by decide) (by decide)
theorem d38_0 : decode prog_13_method_6_code 0 = .ok (.aload_n 0, 1) := by decide +kernel
theorem d38_1 : decode prog_13_method_6_code 1 = .ok (.aload_n 1, 1) := by decide +kernel
theorem d38_2 : decode prog_13_method_6_code 2 = .ok (.getfield 19, 3) := by decide +kernel
theorem d38_5 : decode prog_13_method_6_code 5 = .ok (.invokevirtual 15, 3) := by decide +kernel
theorem d38_8 : decode prog_13_method_6_code 8 = .ok (.aload_n 1, 1) := by decide +kernel
theorem d38_9 : decode prog_13_method_6_code 9 = .ok (.getfield 9, 3) := by decide +kernel
theorem d38_12 : decode prog_13_method_6_code 12 = .ok (.iconst 0, 1) := by decide +kernel
theorem d38_13 : decode prog_13_method_6_code 13 = .ok (.aload_n 0, 1) := by decide +kernel
theorem d38_14 : decode prog_13_method_6_code 14 = .ok (.getfield 9, 3) := by decide +kernel
theorem d38_17 : decode prog_13_method_6_code 17 = .ok (.aload_n 0, 1) := by decide +kernel
theorem d38_18 : decode prog_13_method_6_code 18 = .ok (.getfield 19, 3) := by decide +kernel
theorem d38_21 : decode prog_13_method_6_code 21 = .ok (.aload_n 1, 1) := by decide +kernel
theorem d38_22 : decode prog_13_method_6_code 22 = .ok (.getfield 19, 3) := by decide +kernel
theorem d38_25 : decode prog_13_method_6_code 25 = .ok (.invokestatic 26, 3) := by decide +kernel
theorem d38_28 : decode prog_13_method_6_code 28 = .ok (.aload_n 0, 1) := by decide +kernel
theorem d38_29 : decode prog_13_method_6_code 29 = .ok (.dup, 1) := by decide +kernel
theorem d38_30 : decode prog_13_method_6_code 30 = .ok (.getfield 19, 3) := by decide +kernel
theorem d38_33 : decode prog_13_method_6_code 33 = .ok (.aload_n 1, 1) := by decide +kernel
theorem d38_34 : decode prog_13_method_6_code 34 = .ok (.getfield 19, 3) := by decide +kernel
theorem d38_37 : decode prog_13_method_6_code 37 = .ok (.iadd, 1) := by decide +kernel
theorem d38_38 : decode prog_13_method_6_code 38 = .ok (.putfield 19, 3) := by decide +kernel
theorem d38_41 : decode prog_13_method_6_code 41 = .ok (.return_, 1) := by decide +kernel
theorem pn_38 : plainName "com/example/proxysmith/proxysmith/ClassFileWriter$Bytes" = true := by first | (simp [plainName, overriddenIn]; done) | decide +kernel
theorem pd_38_0 : parseMethodDescriptor "(I)V" = some ⟨[.int], none⟩ := by decide +kernel
theorem ef_38 (m : MethodId) (a1 : Addr) (a2 : Addr) : entryFrame m #[(.ref a1), (.ref a2)] 2 = mkF m 0 #[.val (.ref a1), .val (.ref a2)] [] := by first | (simp [entryFrame, mkF, argsToLocals, Value.category]; done) | rfl
def Q38 (Z : State) (a1 : Addr) (a2 : Addr) (b : Addr) (n : Nat) (sz : Nat) (f : Nat → Int32) (b2 : Addr) (n2 : Nat) (s2 : Nat) (f2 : Nat → Int32) (h0 : Heap) (n0 : Nat) (v : Option Value) (h : Heap) (L : List Loc) : Prop := v = none ∧ Fr n0 L ∧ Keep h0 h [a1, b] ∧ Fld Z h a1 "com/example/proxysmith/proxysmith/ClassFileWriter$Bytes" "bytes" "[B" (.ref b) ∧ Fld Z h a1 "com/example/proxysmith/proxysmith/ClassFileWriter$Bytes" "size" "I" (.int (Int32.ofNat (sz + s2))) ∧ ∃ f', Ari Z h b .byte n f' ∧ (∀ j, j < sz → f' j = f j)
set_option maxRecDepth 65536 in
set_option maxHeartbeats 40000000 in
theorem rm38 (l : Launch) (Z : State) (a0 : Array Value) (hw : ∀ d ∈ tables_1, d.before a0 Z = true) (ws : List Jvm.Cond) (a1 : Addr) (a2 : Addr) (b : Addr) (n : Nat) (sz : Nat) (f : Nat → Int32) (b2 : Addr) (n2 : Nat) (s2 : Nat) (f2 : Nat → Int32) (h0 : Heap) (n0 : Nat) (Z0 : n0 ≤ h0.size) (E_a1_0 : Exa Z h0 a1 "com/example/proxysmith/proxysmith/ClassFileWriter$Bytes") (F_a1_bytes_0 : Fld Z h0 a1 "com/example/proxysmith/proxysmith/ClassFileWriter$Bytes" "bytes" "[B" (.ref b)) (F_a1_size_0 : Fld Z h0 a1 "com/example/proxysmith/proxysmith/ClassFileWriter$Bytes" "size" "I" (.int (Int32.ofNat sz))) (A_b_0 : Ari Z h0 b .byte n f) (ne_a1_b : a1 ≠ b) (ge_a1 : n0 ≤ a1) (ge_b : n0 ≤ b) (E_a2_0 : Exa Z h0 a2 "com/example/proxysmith/proxysmith/ClassFileWriter$Bytes") (F_a2_bytes_0 : Fld Z h0 a2 "com/example/proxysmith/proxysmith/ClassFileWriter$Bytes" "bytes" "[B" (.ref b2)) (F_a2_size_0 : Fld Z h0 a2 "com/example/proxysmith/proxysmith/ClassFileWriter$Bytes" "size" "I" (.int (Int32.ofNat s2))) (A_b2_0 : Ari Z h0 b2 .byte n2 f2) (ne_a2_a1 : a2 ≠ a1) (ne_a2_b : a2 ≠ b) (ne_b2_a1 : b2 ≠ a1) (ne_b2_b : b2 ≠ b) (hfit : sz + s2 ≤ n) (hn : n ≤ 64) (hs2 : s2 ≤ n2) :
    MetFree l y_38 (head1 (Jvm.Cond.code y_38 prog_13_method_6_code 2 none :: ws) ({ frames := 1, cells := 0, slots := 0, locals := 27 } : Room)) (fun a U => a = #[(.ref a1), (.ref a2)] ∧ Z.Warmed39 U.vm ∧ U.heap = h0) (fun _ _ _ _ _ => True) (fun _ U o U' => ∃ v L, o = .returned v ∧ Q38 Z a1 a2 b n sz f b2 n2 s2 f2 h0 n0 v U'.heap L ∧ FrameEnd U o U' L ({ frames := 1, cells := 0, slots := 0, locals := 27 } : Room).cells ({ frames := 1, cells := 0, slots := 0, locals := 27 } : Room).slots) := by
  refine MetFree.of_bodySF (plainFor_of_name pn_38) hisR ?_
  intro p e s m args below meth c s₁ Bd hml0 hP hK
  obtain ⟨rfl, hZ, hh⟩ := hP
  have hx := Bd.exec
  have hby := Bd.bytes
  have hlk := Bd.notSynchronized
  have hml : c.maxLocals = 2 := hml0
  have hown : s.vm.findClass "com/example/proxysmith/proxysmith/ClassFileWriter$Bytes" = some m.cls := findClass_of_methodNamed Bd.named
  have hnm := (name_of_methodNamed Bd.named Bd.method).1
  have X0 : Stand p l e ({ frames := 1, cells := 0, slots := 0, locals := 27 } : Room) s m #[(.ref a1), (.ref a2)] below meth c s₁ [] 0 0 := Stand.of_body Bd
  have e0 : s₁.heap = h0 := by rw [← hh, Bd.state]; rfl
  have N0 := Fr.nil n0
  have K0 : Keep h0 h0 [a1, b] := Keep.refl h0 _
  show Goes p e below s ({ frames := 1, cells := 0, slots := 0, locals := 27 } : Room).cells ({ frames := 1, cells := 0, slots := 0, locals := 27 } : Room).slots (Q38 Z a1 a2 b n sz f b2 n2 s2 f2 h0 n0) s₁ (entryFrame m #[(.ref a1), (.ref a2)] 2)
  refine Goes.step (fun t k => castTop (ef_38 m a1 a2) k) ?_
  refine Goes.step (fun _ k => XS.aloadN X0.here hx rfl (hb hby d38_0) rfl rfl k) ?_
  refine Goes.step (fun _ k => XS.aloadN X0.here hx rfl (hb hby d38_1) rfl rfl k) ?_
  obtain ⟨T1, X1, e1, st1⟩ := getF X0 hx hZ hown (host := "") (Or.inl (wof hw 145 rfl)) Via.refl e0 F_a2_size_0 (g := (mkF m 2 #[vR a1, vR a2] [(.ref a2), (.ref a1)])) rfl rfl (hb hby d38_2)
  refine Goes.step st1 ?_
  show Goes p e below s _ _ _ T1 (mkF m 5 #[vR a1, vR a2] [(.int (Int32.ofNat s2)), (.ref a1)])
  obtain ⟨T2, X2, e2, st2⟩ := own_pure (r := none) (fun _ _ _ q => q) (callXP X1 hx hZ (b := a1) (y := y_21) hown (wof hw 141 rfl) (wof hw 142 rfl) (wof hw 143 rfl) (wof hw 19 rfl) (wof hw 144 rfl) (wof hw 20 rfl) (by decide) (W := 0) (argsL := [(.int (Int32.ofNat s2))]) (rest := []) (rm21 l Z a0 hw [] a1 (Int32.ofNat s2) b n sz f s2 h0 n0 Z0 E_a1_0 F_a1_bytes_0 F_a1_size_0 A_b_0 rfl hfit hn) (by decide) (by decide) (by decide) (by decide) e1 E_a1_0 (g := (mkF m 5 #[vR a1, vR a2] [(.int (Int32.ofNat s2)), (.ref a1)])) rfl (by rw [hml]; rfl) (lenOf pd_38_0 rfl) rfl (by show 2 * 0 + _ ≤ _; exact Nat.le_of_eq rfl) (hb hby d38_5))
  refine Goes.step st2 ?_
  show Goes p e below s _ _ _ T2 (mkF m 8 #[vR a1, vR a2] [])
  refine Goes.step (fun _ k => XS.aloadN X2.here hx rfl (hb hby d38_8) rfl rfl k) ?_
  obtain ⟨T3, X3, e3, st3⟩ := getF X2 hx hZ hown (host := "") (Or.inl (wof hw 25 rfl)) Via.refl e2 F_a2_bytes_0 (g := (mkF m 9 #[vR a1, vR a2] [(.ref a2)])) rfl rfl (hb hby d38_9)
  refine Goes.step st3 ?_
  show Goes p e below s _ _ _ T3 (mkF m 12 #[vR a1, vR a2] [(.ref b2)])
  refine Goes.step (fun _ k => XS.iconst X3.here hx rfl (hb hby d38_12) k) ?_
  refine Goes.step (fun _ k => XS.aloadN X3.here hx rfl (hb hby d38_13) rfl rfl k) ?_
  obtain ⟨T4, X4, e4, st4⟩ := getF X3 hx hZ hown (host := "") (Or.inl (wof hw 25 rfl)) Via.refl e3 F_a1_bytes_0 (g := (mkF m 14 #[vR a1, vR a2] [(.ref a1), (.int (0 : Int32)), (.ref b2)])) rfl rfl (hb hby d38_14)
  refine Goes.step st4 ?_
  show Goes p e below s _ _ _ T4 (mkF m 17 #[vR a1, vR a2] [(.ref b), (.int (0 : Int32)), (.ref b2)])
  refine Goes.step (fun _ k => XS.aloadN X4.here hx rfl (hb hby d38_17) rfl rfl k) ?_
  obtain ⟨T5, X5, e5, st5⟩ := getF X4 hx hZ hown (host := "") (Or.inl (wof hw 145 rfl)) Via.refl e4 F_a1_size_0 (g := (mkF m 18 #[vR a1, vR a2] [(.ref a1), (.ref b), (.int (0 : Int32)), (.ref b2)])) rfl rfl (hb hby d38_18)
  refine Goes.step st5 ?_
  show Goes p e below s _ _ _ T5 (mkF m 21 #[vR a1, vR a2] [(.int (Int32.ofNat sz)), (.ref b), (.int (0 : Int32)), (.ref b2)])
  refine Goes.step (fun _ k => XS.aloadN X5.here hx rfl (hb hby d38_21) rfl rfl k) ?_
  obtain ⟨T6, X6, e6, st6⟩ := getF X5 hx hZ hown (host := "") (Or.inl (wof hw 145 rfl)) Via.refl e5 F_a2_size_0 (g := (mkF m 22 #[vR a1, vR a2] [(.ref a2), (.int (Int32.ofNat sz)), (.ref b), (.int (0 : Int32)), (.ref b2)])) rfl rfl (hb hby d38_22)
  refine Goes.step st6 ?_
  show Goes p e below s _ _ _ T6 (mkF m 25 #[vR a1, vR a2] [(.int (Int32.ofNat s2)), (.int (Int32.ofNat sz)), (.ref b), (.int (0 : Int32)), (.ref b2)])
  obtain ⟨T7, h7, L7, X7, e7, N_7, KQ7, A7, st7⟩ := copyI X6 hx hZ hown (wof hw 283 rfl) (wof hw 286 rfl) (wof hw 284 rfl) (wof hw 285 rfl) e6 (sp := 0) (dp := sz) (k := s2) A_b2_0 A_b_0 rfl rfl rfl rfl (by omega) (by omega) N0 ge_b (g := (mkF m 25 #[vR a1, vR a2] [(.int (Int32.ofNat s2)), (.int (Int32.ofNat sz)), (.ref b), (.int (0 : Int32)), (.ref b2)])) rfl (by rw [hml]; rfl) (rest := []) rfl (hb hby d38_25) (by decide) (W := 0) (by show 2 * 0 + _ ≤ _; exact Nat.le_of_eq rfl) (by decide)
  refine Goes.step st7 ?_
  have E_a2_7 := E_a2_0.keep KQ7
  have F_a2_bytes_7 := F_a2_bytes_0.keep KQ7 (ninS ne_a2_b nin0)
  have F_a2_size_7 := F_a2_size_0.keep KQ7 (ninS ne_a2_b nin0)
  have A_b2_7 := A_b2_0.keep KQ7 (ninS ne_b2_b nin0)
  have E_a1_7 := E_a1_0.keep KQ7
  have F_a1_bytes_7 := F_a1_bytes_0.keep KQ7 (ninS ne_a1_b nin0)
  have F_a1_size_7 := F_a1_size_0.keep KQ7 (ninS ne_a1_b nin0)
  have z_7 : n0 ≤ h7.size := Nat.le_trans Z0 KQ7.1
  have K_7 : Keep h0 h7 [a1, b] := Keep.trans K0 KQ7 (allS (Or.inl (List.mem_of_getElem? (i := 1) rfl)) all0)
  show Goes p e below s _ _ _ T7 (mkF m 28 #[vR a1, vR a2] [])
  refine Goes.step (fun _ k => XS.aloadN X7.here hx rfl (hb hby d38_28) rfl rfl k) ?_
  refine Goes.step (fun _ k => XS.dup X7.here hx rfl (hb hby d38_29) rfl rfl k) ?_
  obtain ⟨T8, X8, e8, st8⟩ := getF X7 hx hZ hown (host := "") (Or.inl (wof hw 145 rfl)) Via.refl e7 F_a1_size_7 (g := (mkF m 30 #[vR a1, vR a2] [(.ref a1), (.ref a1)])) rfl rfl (hb hby d38_30)
  refine Goes.step st8 ?_
  show Goes p e below s _ _ _ T8 (mkF m 33 #[vR a1, vR a2] [(.int (Int32.ofNat sz)), (.ref a1)])
  refine Goes.step (fun _ k => XS.aloadN X8.here hx rfl (hb hby d38_33) rfl rfl k) ?_
  obtain ⟨T9, X9, e9, st9⟩ := getF X8 hx hZ hown (host := "") (Or.inl (wof hw 145 rfl)) Via.refl e8 F_a2_size_7 (g := (mkF m 34 #[vR a1, vR a2] [(.ref a2), (.int (Int32.ofNat sz)), (.ref a1)])) rfl rfl (hb hby d38_34)
  refine Goes.step st9 ?_
  show Goes p e below s _ _ _ T9 (mkF m 37 #[vR a1, vR a2] [(.int (Int32.ofNat s2)), (.int (Int32.ofNat sz)), (.ref a1)])
  refine Goes.step (fun _ k => XS.iadd X9.here hx rfl (hb hby d38_37) rfl k) ?_
  show Goes p e below s _ _ _ T9 (mkF m 38 #[vR a1, vR a2] [(.int ((Int32.ofNat sz) + (Int32.ofNat s2))), (.ref a1)])
  obtain ⟨T10, h10, X10, e10, W10, st10⟩ := putF X9 hx hZ hown (host := "") (Or.inl (wof hw 145 rfl)) Via.refl e9 F_a1_size_7 E_a1_7 (Or.inl (wof hw 146 rfl)) (wof hw 19 rfl) (ty := .int) (by decide) rfl rfl (g := (mkF m 38 #[vR a1, vR a2] [(.int ((Int32.ofNat sz) + (Int32.ofNat s2))), (.ref a1)])) rfl rfl (hb hby d38_38)
  refine Goes.step st10 ?_
  have E_a2_10 := E_a2_7.wr W10
  have F_a2_bytes_10 := F_a2_bytes_7.other W10 (Or.inl ne_a2_a1)
  have F_a2_size_10 := F_a2_size_7.other W10 (Or.inl ne_a2_a1)
  have A_b2_10 := A_b2_7.other W10 ne_b2_a1
  have E_a1_10 := E_a1_7.wr W10
  have F_a1_bytes_10 := F_a1_bytes_7.other W10 (Or.inr (slot_ne (Or.inl (wof hw 26 rfl)) (Or.inl (wof hw 146 rfl)) (by decide) (t := (.array .byte)) (t' := .int) (by decide) (by decide)))
  have A7_10 := A7.other W10 (Ne.symm ne_a1_b)
  have z_10 : n0 ≤ h10.size := by rw [W10.size]; exact z_7
  have K_10 : Keep h0 h10 [a1, b] := K_7.wr W10 (Or.inl (List.mem_of_getElem? (i := 0) rfl))
  have N_10 := Fr.snoc X10 N_7 ge_a1
  have F_a1_size_10 : Fld Z h10 a1 "com/example/proxysmith/proxysmith/ClassFileWriter$Bytes" "size" "I" (.int ((Int32.ofNat sz) + (Int32.ofNat s2))) := F_a1_size_7.same W10
  show Goes p e below s _ _ _ T10 (mkF m 41 #[vR a1, vR a2] [])
  have hsz : Fld Z h10 a1 "com/example/proxysmith/proxysmith/ClassFileWriter$Bytes" "size" "I" (.int (Int32.ofNat (sz + s2))) := by have q := F_a1_size_10; rw [own_add] at q; exact q
  exact Goes.outV X10 hx hlk Bd.returns (hb hby d38_41) (by rw [e10]; exact ⟨rfl, N_10, K_10, F_a1_bytes_10, hsz, _, A7_10, own_blk f2 f sz s2⟩) (by decide) (by decide)
theorem d3_0 : decode prog_13_method_1_code 0 = .ok (.aload_n 0, 1) := by decide +kernel
theorem d3_1 : decode prog_13_method_1_code 1 = .ok (.invokespecial 3, 3) := by decide +kernel
theorem d3_4 : decode prog_13_method_1_code 4 = .ok (.aload_n 0, 1) := by decide +kernel
theorem d3_5 : decode prog_13_method_1_code 5 = .ok (.iload_n 1, 1) := by decide +kernel
theorem d3_6 : decode prog_13_method_1_code 6 = .ok (.newarray .byte, 2) := by decide +kernel
theorem d3_8 : decode prog_13_method_1_code 8 = .ok (.putfield 9, 3) := by decide +kernel
theorem d3_11 : decode prog_13_method_1_code 11 = .ok (.return_, 1) := by decide +kernel
theorem pn_3 : plainName "com/example/proxysmith/proxysmith/ClassFileWriter$Bytes" = true := by first | (simp [plainName, overriddenIn]; done) | decide +kernel
theorem ef_3 (m : MethodId) (a1 : Addr) : entryFrame m #[(.ref a1), (.int (Int32.ofNat n))] 2 = mkF m 0 #[.val (.ref a1), .val (.int (Int32.ofNat n))] [] := by first | (simp [entryFrame, mkF, argsToLocals, Value.category]; done) | rfl
def Q3 (Z : State) (a1 : Addr) (n : Nat) (h0 : Heap) (n0 : Nat) (v : Option Value) (h : Heap) (L : List Loc) : Prop := ∃ b, v = none ∧ Fr n0 L ∧ Keep h0 h [a1] ∧ Exa Z h a1 "com/example/proxysmith/proxysmith/ClassFileWriter$Bytes" ∧ Fld Z h a1 "com/example/proxysmith/proxysmith/ClassFileWriter$Bytes" "bytes" "[B" (.ref b) ∧ Fld Z h a1 "com/example/proxysmith/proxysmith/ClassFileWriter$Bytes" "size" "I" (.int (Int32.ofNat 0)) ∧ Ari Z h b .byte n (fun _ => 0) ∧ a1 ≠ b ∧ n0 ≤ b ∧ h0.size ≤ b
set_option maxRecDepth 65536 in
set_option maxHeartbeats 40000000 in
theorem rm3 (l : Launch) (Z : State) (a0 : Array Value) (hw : ∀ d ∈ tables_1, d.before a0 Z = true) (ws : List Jvm.Cond) (a1 : Addr) (n : Nat) (h0 : Heap) (n0 : Nat) (Z0 : n0 ≤ h0.size) (E_a1_0 : Exa Z h0 a1 "com/example/proxysmith/proxysmith/ClassFileWriter$Bytes") (F_a1_bytes_0 : Fld Z h0 a1 "com/example/proxysmith/proxysmith/ClassFileWriter$Bytes" "bytes" "[B" .null) (F_a1_size_0 : Fld Z h0 a1 "com/example/proxysmith/proxysmith/ClassFileWriter$Bytes" "size" "I" (.int (0 : Int32))) (ge_a1 : n0 ≤ a1) (hn : n ≤ 32) :
    MetFree l y_3 (head1 (Jvm.Cond.code y_3 prog_13_method_1_code 2 none :: ws) ({ frames := 1, cells := 1, slots := 32, locals := 12 } : Room)) (fun a U => a = #[(.ref a1), (.int (Int32.ofNat n))] ∧ Z.Warmed39 U.vm ∧ U.heap = h0) (fun _ _ _ _ _ => True) (fun _ U o U' => ∃ v L, o = .returned v ∧ Q3 Z a1 n h0 n0 v U'.heap L ∧ FrameEnd U o U' L ({ frames := 1, cells := 1, slots := 32, locals := 12 } : Room).cells ({ frames := 1, cells := 1, slots := 32, locals := 12 } : Room).slots) := by
  refine MetFree.of_bodySF (plainFor_of_name pn_3) hisR ?_
  intro p e s m args below meth c s₁ Bd hml0 hP hK
  obtain ⟨rfl, hZ, hh⟩ := hP
  have hx := Bd.exec
  have hby := Bd.bytes
  have hlk := Bd.notSynchronized
  have hml : c.maxLocals = 2 := hml0
  have hown : s.vm.findClass "com/example/proxysmith/proxysmith/ClassFileWriter$Bytes" = some m.cls := findClass_of_methodNamed Bd.named
  have hnm := (name_of_methodNamed Bd.named Bd.method).1
  have X0 : Stand p l e ({ frames := 1, cells := 1, slots := 32, locals := 12 } : Room) s m #[(.ref a1), (.int (Int32.ofNat n))] below meth c s₁ [] 0 0 := Stand.of_body Bd
  have e0 : s₁.heap = h0 := by rw [← hh, Bd.state]; rfl
  have N0 := Fr.nil n0
  have K0 : Keep h0 h0 [a1] := Keep.refl h0 _
  show Goes p e below s ({ frames := 1, cells := 1, slots := 32, locals := 12 } : Room).cells ({ frames := 1, cells := 1, slots := 32, locals := 12 } : Room).slots (Q3 Z a1 n h0 n0) s₁ (entryFrame m #[(.ref a1), (.int (Int32.ofNat n))] 2)
  refine Goes.step (fun t k => castTop (ef_3 m a1) k) ?_
  refine Goes.step (fun _ k => XS.aloadN X0.here hx rfl (hb hby d3_0) rfl rfl k) ?_
  show Goes p e below s _ _ _ s₁ (mkF m 1 #[vR a1, vI (Int32.ofNat n)] [(.ref a1)])
  obtain ⟨T1, X1, e1, st1⟩ := initO X0 hx hZ hown (wof hw 24 rfl) (wof hw 16 rfl) (wof hw 17 rfl) e0 (g := (mkF m 1 #[vR a1, vI (Int32.ofNat n)] [(.ref a1)])) rfl (by rw [hml]; rfl) rfl (hb hby d3_1) (by decide) (W := 0) (by show 2 * 0 + _ ≤ _; exact Nat.le_of_eq rfl) (by decide)
  refine Goes.step st1 ?_
  show Goes p e below s _ _ _ T1 (mkF m 4 #[vR a1, vI (Int32.ofNat n)] [])
  refine Goes.step (fun _ k => XS.aloadN X1.here hx rfl (hb hby d3_4) rfl rfl k) ?_
  show Goes p e below s _ _ _ T1 (mkF m 5 #[vR a1, vI (Int32.ofNat n)] [(.ref a1)])
  refine Goes.step (fun _ k => XS.iloadN X1.here hx rfl (hb hby d3_5) rfl k) ?_
  show Goes p e below s _ _ _ T1 (mkF m 6 #[vR a1, vI (Int32.ofNat n)] [(.int (Int32.ofNat n)), (.ref a1)])
  obtain ⟨T2, h2, X2, e2, E2, A2, st2⟩ := newI X1 hx hZ (wof hw 7 rfl) e1 (g := (mkF m 6 #[vR a1, vI (Int32.ofNat n)] [(.int (Int32.ofNat n)), (.ref a1)])) rfl (hb hby d3_6) rfl (N := n) rfl (cap := 32) hn (by decide) (by decide) (by decide) rfl (by decide)
  obtain ⟨b2, g_2⟩ : ∃ z, z = h0.size := ⟨_, rfl⟩
  rw [← g_2] at A2 st2
  refine Goes.step st2 ?_
  have ne_a1_b2 : a1 ≠ b2 := Nat.ne_of_lt (by rw [g_2]; exact E_a1_0.lt)
  have ge_b2 : n0 ≤ b2 := by rw [g_2]; exact Z0
  have sz_b2 : h0.size ≤ b2 := by rw [g_2]; exact K0.1
  have E_a1_2 := E_a1_0.ext E2
  have F_a1_bytes_2 := F_a1_bytes_0.ext E2
  have F_a1_size_2 := F_a1_size_0.ext E2
  have z_2 : n0 ≤ h2.size := Nat.le_trans Z0 E2.1
  have K_2 : Keep h0 h2 [a1] := K0.ext E2
  have A_b2_2 : Ari Z h2 b2 .byte (n) (fun _ => 0) := A2
  show Goes p e below s _ _ _ T2 (mkF m 8 #[vR a1, vI (Int32.ofNat n)] [(.ref b2), (.ref a1)])
  obtain ⟨T3, h3, X3, e3, W3, st3⟩ := putF X2 hx hZ hown (host := "") (Or.inl (wof hw 25 rfl)) Via.refl e2 F_a1_bytes_2 E_a1_2 (Or.inl (wof hw 26 rfl)) (wof hw 19 rfl) (ty := (.array .byte)) (by decide) rfl rfl (g := (mkF m 8 #[vR a1, vI (Int32.ofNat n)] [(.ref b2), (.ref a1)])) rfl rfl (hb hby d3_8)
  refine Goes.step st3 ?_
  have E_a1_3 := E_a1_2.wr W3
  have F_a1_size_3 := F_a1_size_2.other W3 (Or.inr (slot_ne (Or.inl (wof hw 146 rfl)) (Or.inl (wof hw 26 rfl)) (by decide) (t := .int) (t' := (.array .byte)) (by decide) (by decide)))
  have A_b2_3 := A_b2_2.other W3 (Ne.symm ne_a1_b2)
  have z_3 : n0 ≤ h3.size := by rw [W3.size]; exact z_2
  have K_3 : Keep h0 h3 [a1] := K_2.wr W3 (Or.inl (List.mem_of_getElem? (i := 0) rfl))
  have N_3 := Fr.snoc X3 N0 ge_a1
  have F_a1_bytes_3 : Fld Z h3 a1 "com/example/proxysmith/proxysmith/ClassFileWriter$Bytes" "bytes" "[B" (.ref b2) := F_a1_bytes_2.same W3
  show Goes p e below s _ _ _ T3 (mkF m 11 #[vR a1, vI (Int32.ofNat n)] [])
  exact Goes.outV X3 hx hlk Bd.returns (hb hby d3_11) (by rw [e3]; exact ⟨b2, rfl, N_3, K_3, E_a1_3, F_a1_bytes_3, F_a1_size_3, A_b2_3, ne_a1_b2, ge_b2, sz_b2⟩) (by decide) (by decide)
theorem d6_0 : decode jdk_22_method_1_code 0 = .ok (.aload_n 0, 1) := by decide +kernel
theorem d6_1 : decode jdk_22_method_1_code 1 = .ok (.invokespecial 1, 3) := by decide +kernel
theorem d6_4 : decode jdk_22_method_1_code 4 = .ok (.return_, 1) := by decide +kernel
theorem pn_6 : plainName "java/util/AbstractCollection" = true := by first | (simp [plainName, overriddenIn]; done) | decide +kernel
theorem ef_6 (m : MethodId) (a1 : Addr) : entryFrame m #[(.ref a1)] 1 = mkF m 0 #[.val (.ref a1)] [] := by first | (simp [entryFrame, mkF, argsToLocals, Value.category]; done) | rfl
def Q6 (Z : State) (a1 : Addr)  (h0 : Heap) (n0 : Nat) (v : Option Value) (h : Heap) (L : List Loc) : Prop := PQ h0 none v h L
set_option maxRecDepth 65536 in
set_option maxHeartbeats 40000000 in
theorem rm6 (l : Launch) (Z : State) (a0 : Array Value) (hw : ∀ d ∈ tables_1, d.before a0 Z = true) (ws : List Jvm.Cond) (a1 : Addr)  (h0 : Heap) (n0 : Nat) (Z0 : n0 ≤ h0.size)  :
    MetFree l y_6 (head1 (Jvm.Cond.code y_6 jdk_22_method_1_code 1 none :: ws) ({ frames := 1, cells := 0, slots := 0, locals := 12 } : Room)) (fun a U => a = #[(.ref a1)] ∧ Z.Warmed39 U.vm ∧ U.heap = h0) (fun _ _ _ _ _ => True) (fun _ U o U' => ∃ v L, o = .returned v ∧ Q6 Z a1 h0 n0 v U'.heap L ∧ FrameEnd U o U' L ({ frames := 1, cells := 0, slots := 0, locals := 12 } : Room).cells ({ frames := 1, cells := 0, slots := 0, locals := 12 } : Room).slots) := by
  refine MetFree.of_bodySF (plainFor_of_name pn_6) hisR ?_
  intro p e s m args below meth c s₁ Bd hml0 hP hK
  obtain ⟨rfl, hZ, hh⟩ := hP
  have hx := Bd.exec
  have hby := Bd.bytes
  have hlk := Bd.notSynchronized
  have hml : c.maxLocals = 1 := hml0
  have hown : s.vm.findClass "java/util/AbstractCollection" = some m.cls := findClass_of_methodNamed Bd.named
  have hnm := (name_of_methodNamed Bd.named Bd.method).1
  have X0 : Stand p l e ({ frames := 1, cells := 0, slots := 0, locals := 12 } : Room) s m #[(.ref a1)] below meth c s₁ [] 0 0 := Stand.of_body Bd
  have e0 : s₁.heap = h0 := by rw [← hh, Bd.state]; rfl
  have N0 := Fr.nil n0
  have K0 : Keep h0 h0 [] := Keep.refl h0 _
  show Goes p e below s ({ frames := 1, cells := 0, slots := 0, locals := 12 } : Room).cells ({ frames := 1, cells := 0, slots := 0, locals := 12 } : Room).slots (Q6 Z a1 h0 n0) s₁ (entryFrame m #[(.ref a1)] 1)
  refine Goes.step (fun t k => castTop (ef_6 m a1) k) ?_
  refine Goes.step (fun _ k => XS.aloadN X0.here hx rfl (hb hby d6_0) rfl rfl k) ?_
  obtain ⟨T1, X1, e1, st1⟩ := initO X0 hx hZ hown (wof hw 47 rfl) (wof hw 16 rfl) (wof hw 17 rfl) e0 (g := (mkF m 1 #[vR a1] [(.ref a1)])) rfl (by rw [hml]; rfl) rfl (hb hby d6_1) (by decide) (W := 0) (by show 2 * 0 + _ ≤ _; exact Nat.le_of_eq rfl) (by decide)
  refine Goes.step st1 ?_
  show Goes p e below s _ _ _ T1 (mkF m 4 #[vR a1] [])
  exact Goes.outV X1 hx hlk Bd.returns (hb hby d6_4) (by rw [e1]; exact ⟨rfl, rfl, rfl⟩) (by decide) (by decide)
theorem d5_0 : decode jdk_39_method_1_code 0 = .ok (.aload_n 0, 1) := by decide +kernel
theorem d5_1 : decode jdk_39_method_1_code 1 = .ok (.invokespecial 1, 3) := by decide +kernel
theorem d5_4 : decode jdk_39_method_1_code 4 = .ok (.aload_n 0, 1) := by decide +kernel
theorem d5_5 : decode jdk_39_method_1_code 5 = .ok (.iconst 0, 1) := by decide +kernel
theorem d5_6 : decode jdk_39_method_1_code 6 = .ok (.putfield 7, 3) := by decide +kernel
theorem d5_9 : decode jdk_39_method_1_code 9 = .ok (.return_, 1) := by decide +kernel
theorem pn_5 : plainName "java/util/AbstractList" = true := by first | (simp [plainName, overriddenIn]; done) | decide +kernel
theorem pd_5_0 : parseMethodDescriptor "()V" = some ⟨[], none⟩ := by decide +kernel
theorem ef_5 (m : MethodId) (a1 : Addr) : entryFrame m #[(.ref a1)] 1 = mkF m 0 #[.val (.ref a1)] [] := by first | (simp [entryFrame, mkF, argsToLocals, Value.category]; done) | rfl
def Q5 (Z : State) (a1 : Addr)  (h0 : Heap) (n0 : Nat) (v : Option Value) (h : Heap) (L : List Loc) : Prop := v = none ∧ Fr n0 L ∧ Keep h0 h [a1] ∧ Fld Z h a1 "java/util/AbstractList" "modCount" "I" (.int (0 : Int32)) ∧ Fld Z h a1 "java/util/ArrayList" "size" "I" (.int (0 : Int32)) ∧ Fld Z h a1 "java/util/ArrayList" "elementData" "[Ljava/lang/Object;" .null
set_option maxRecDepth 65536 in
set_option maxHeartbeats 40000000 in
theorem rm5 (l : Launch) (Z : State) (a0 : Array Value) (hw : ∀ d ∈ tables_1, d.before a0 Z = true) (ws : List Jvm.Cond) (a1 : Addr)  (h0 : Heap) (n0 : Nat) (Z0 : n0 ≤ h0.size) (E_a1_0 : Exa Z h0 a1 "java/util/ArrayList") (F_a1_modCount_0 : Fld Z h0 a1 "java/util/AbstractList" "modCount" "I" (.int (0 : Int32))) (ge_a1 : n0 ≤ a1) (F_a1_size_0 : Fld Z h0 a1 "java/util/ArrayList" "size" "I" (.int (0 : Int32))) (F_a1_elementData_0 : Fld Z h0 a1 "java/util/ArrayList" "elementData" "[Ljava/lang/Object;" .null) :
    MetFree l y_5 (head1 (Jvm.Cond.code y_5 jdk_39_method_1_code 1 none :: ws) ({ frames := 2, cells := 0, slots := 0, locals := 24 } : Room)) (fun a U => a = #[(.ref a1)] ∧ Z.Warmed39 U.vm ∧ U.heap = h0) (fun _ _ _ _ _ => True) (fun _ U o U' => ∃ v L, o = .returned v ∧ Q5 Z a1 h0 n0 v U'.heap L ∧ FrameEnd U o U' L ({ frames := 2, cells := 0, slots := 0, locals := 24 } : Room).cells ({ frames := 2, cells := 0, slots := 0, locals := 24 } : Room).slots) := by
  refine MetFree.of_bodySF (plainFor_of_name pn_5) hisR ?_
  intro p e s m args below meth c s₁ Bd hml0 hP hK
  obtain ⟨rfl, hZ, hh⟩ := hP
  have hx := Bd.exec
  have hby := Bd.bytes
  have hlk := Bd.notSynchronized
  have hml : c.maxLocals = 1 := hml0
  have hown : s.vm.findClass "java/util/AbstractList" = some m.cls := findClass_of_methodNamed Bd.named
  have hnm := (name_of_methodNamed Bd.named Bd.method).1
  have X0 : Stand p l e ({ frames := 2, cells := 0, slots := 0, locals := 24 } : Room) s m #[(.ref a1)] below meth c s₁ [] 0 0 := Stand.of_body Bd
  have e0 : s₁.heap = h0 := by rw [← hh, Bd.state]; rfl
  have N0 := Fr.nil n0
  have K0 : Keep h0 h0 [a1] := Keep.refl h0 _
  show Goes p e below s ({ frames := 2, cells := 0, slots := 0, locals := 24 } : Room).cells ({ frames := 2, cells := 0, slots := 0, locals := 24 } : Room).slots (Q5 Z a1 h0 n0) s₁ (entryFrame m #[(.ref a1)] 1)
  refine Goes.step (fun t k => castTop (ef_5 m a1) k) ?_
  refine Goes.step (fun _ k => XS.aloadN X0.here hx rfl (hb hby d5_0) rfl rfl k) ?_
  obtain ⟨T1, X1, e1, st1⟩ := own_pure (r := none) (fun _ _ _ q => q) (callXI X0 hx hZ (b := a1) (y := y_6) hown rfl (wof hw 41 rfl) (wof hw 42 rfl) (wof hw 46 rfl) (wof hw 45 rfl) (by decide) (W := 0) (argsL := []) (rest := []) (rm6 l Z a0 hw [] a1 h0 n0 Z0) (by decide) (by decide) (by decide) (by decide) e0 (g := (mkF m 1 #[vR a1] [(.ref a1)])) rfl (by rw [hml]; rfl) (lenOf pd_5_0 rfl) rfl (by show 2 * 0 + _ ≤ _; exact Nat.le_of_eq rfl) (hb hby d5_1))
  refine Goes.step st1 ?_
  show Goes p e below s _ _ _ T1 (mkF m 4 #[vR a1] [])
  refine Goes.step (fun _ k => XS.aloadN X1.here hx rfl (hb hby d5_4) rfl rfl k) ?_
  refine Goes.step (fun _ k => XS.iconst X1.here hx rfl (hb hby d5_5) k) ?_
  obtain ⟨T2, h2, X2, e2, W2, st2⟩ := putF X1 hx hZ hown (host := "") (Or.inl (wof hw 48 rfl)) Via.refl e1 F_a1_modCount_0 E_a1_0 (Or.inl (wof hw 49 rfl)) (wof hw 30 rfl) (ty := .int) (by decide) rfl rfl (g := (mkF m 6 #[vR a1] [(.int (0 : Int32)), (.ref a1)])) rfl rfl (hb hby d5_6)
  refine Goes.step st2 ?_
  have E_a1_2 := E_a1_0.wr W2
  have F_a1_size_2 := F_a1_size_0.other W2 (Or.inr (slot_ne (Or.inl (wof hw 203 rfl)) (Or.inl (wof hw 49 rfl)) (by decide) (t := .int) (t' := .int) (by decide) (by decide)))
  have F_a1_elementData_2 := F_a1_elementData_0.other W2 (Or.inr (slot_ne (Or.inl (wof hw 53 rfl)) (Or.inl (wof hw 49 rfl)) (by decide) (t := (.array (.object "java/lang/Object"))) (t' := .int) (by decide) (by decide)))
  have z_2 : n0 ≤ h2.size := by rw [W2.size]; exact Z0
  have K_2 : Keep h0 h2 [a1] := K0.wr W2 (Or.inl (List.mem_of_getElem? (i := 0) rfl))
  have N_2 := Fr.snoc X2 N0 ge_a1
  have F_a1_modCount_2 : Fld Z h2 a1 "java/util/AbstractList" "modCount" "I" (.int (0 : Int32)) := F_a1_modCount_0.same W2
  show Goes p e below s _ _ _ T2 (mkF m 9 #[vR a1] [])
  exact Goes.outV X2 hx hlk Bd.returns (hb hby d5_9) (by rw [e2]; exact ⟨rfl, N_2, K_2, F_a1_modCount_2, F_a1_size_2, F_a1_elementData_2⟩) (by decide) (by decide)
theorem d4_0 : decode jdk_38_method_1_code 0 = .ok (.aload_n 0, 1) := by decide +kernel
theorem d4_1 : decode jdk_38_method_1_code 1 = .ok (.invokespecial 1, 3) := by decide +kernel
theorem d4_4 : decode jdk_38_method_1_code 4 = .ok (.iload_n 1, 1) := by decide +kernel
theorem d4_5 : decode jdk_38_method_1_code 5 = .ok (.ifCond .le 14, 3) := by decide +kernel
theorem d4_8 : decode jdk_38_method_1_code 8 = .ok (.aload_n 0, 1) := by decide +kernel
theorem d4_9 : decode jdk_38_method_1_code 9 = .ok (.iload_n 1, 1) := by decide +kernel
theorem d4_10 : decode jdk_38_method_1_code 10 = .ok (.anewarray 7, 3) := by decide +kernel
theorem d4_13 : decode jdk_38_method_1_code 13 = .ok (.putfield 9, 3) := by decide +kernel
theorem d4_16 : decode jdk_38_method_1_code 16 = .ok (.goto 44, 3) := by decide +kernel
theorem d4_60 : decode jdk_38_method_1_code 60 = .ok (.return_, 1) := by decide +kernel
theorem pn_4 : plainName "java/util/ArrayList" = true := by first | (simp [plainName, overriddenIn]; done) | decide +kernel
theorem pd_4k4_0 : parseMethodDescriptor "()V" = some ⟨[], none⟩ := by decide +kernel
theorem ef_4k4 (m : MethodId) (a1 : Addr) : entryFrame m #[(.ref a1), (.int (4 : Int32))] 2 = mkF m 0 #[.val (.ref a1), .val (.int (4 : Int32))] [] := by first | (simp [entryFrame, mkF, argsToLocals, Value.category]; done) | rfl
def Q4k4 (Z : State) (a1 : Addr)  (h0 : Heap) (n0 : Nat) (v : Option Value) (h : Heap) (L : List Loc) : Prop := v = none ∧ Fr n0 L ∧ Keep h0 h [a1] ∧ Fld Z h a1 "java/util/AbstractList" "modCount" "I" (.int (0 : Int32)) ∧ Fld Z h a1 "java/util/ArrayList" "size" "I" (.int (0 : Int32)) ∧ ∃ o, h0.size ≤ o ∧ Fld Z h a1 "java/util/ArrayList" "elementData" "[Ljava/lang/Object;" (.ref o) ∧ Arf Z h o "java/lang/Object" 4 (fun _ => .null)
set_option maxRecDepth 65536 in
set_option maxHeartbeats 40000000 in
theorem rm4k4 (l : Launch) (Z : State) (a0 : Array Value) (hw : ∀ d ∈ tables_1, d.before a0 Z = true) (ws : List Jvm.Cond) (a1 : Addr)  (h0 : Heap) (n0 : Nat) (Z0 : n0 ≤ h0.size) (E_a1_0 : Exa Z h0 a1 "java/util/ArrayList") (F_a1_modCount_0 : Fld Z h0 a1 "java/util/AbstractList" "modCount" "I" (.int (0 : Int32))) (ge_a1 : n0 ≤ a1) (F_a1_size_0 : Fld Z h0 a1 "java/util/ArrayList" "size" "I" (.int (0 : Int32))) (F_a1_elementData_0 : Fld Z h0 a1 "java/util/ArrayList" "elementData" "[Ljava/lang/Object;" .null) :
    MetFree l y_4 (head1 (Jvm.Cond.code y_4 jdk_38_method_1_code 2 none :: ws) ({ frames := 3, cells := 1, slots := 4, locals := 36 } : Room)) (fun a U => a = #[(.ref a1), (.int (4 : Int32))] ∧ Z.Warmed39 U.vm ∧ U.heap = h0) (fun _ _ _ _ _ => True) (fun _ U o U' => ∃ v L, o = .returned v ∧ Q4k4 Z a1 h0 n0 v U'.heap L ∧ FrameEnd U o U' L ({ frames := 3, cells := 1, slots := 4, locals := 36 } : Room).cells ({ frames := 3, cells := 1, slots := 4, locals := 36 } : Room).slots) := by
  refine MetFree.of_bodySF (plainFor_of_name pn_4) hisR ?_
  intro p e s m args below meth c s₁ Bd hml0 hP hK
  obtain ⟨rfl, hZ, hh⟩ := hP
  have hx := Bd.exec
  have hby := Bd.bytes
  have hlk := Bd.notSynchronized
  have hml : c.maxLocals = 2 := hml0
  have hown : s.vm.findClass "java/util/ArrayList" = some m.cls := findClass_of_methodNamed Bd.named
  have hnm := (name_of_methodNamed Bd.named Bd.method).1
  have X0 : Stand p l e ({ frames := 3, cells := 1, slots := 4, locals := 36 } : Room) s m #[(.ref a1), (.int (4 : Int32))] below meth c s₁ [] 0 0 := Stand.of_body Bd
  have e0 : s₁.heap = h0 := by rw [← hh, Bd.state]; rfl
  have N0 := Fr.nil n0
  have K0 : Keep h0 h0 [a1] := Keep.refl h0 _
  show Goes p e below s ({ frames := 3, cells := 1, slots := 4, locals := 36 } : Room).cells ({ frames := 3, cells := 1, slots := 4, locals := 36 } : Room).slots (Q4k4 Z a1 h0 n0) s₁ (entryFrame m #[(.ref a1), (.int (4 : Int32))] 2)
  refine Goes.step (fun t k => castTop (ef_4k4 m a1) k) ?_
  refine Goes.step (fun _ k => XS.aloadN X0.here hx rfl (hb hby d4_0) rfl rfl k) ?_
  obtain ⟨v1, T1, h1, L1, X1, e1, Q1, st1⟩ := callXI X0 hx hZ (b := a1) (y := y_5) hown rfl (wof hw 35 rfl) (wof hw 36 rfl) (wof hw 40 rfl) (wof hw 39 rfl) (by decide) (W := 0) (argsL := []) (rest := []) (rm5 l Z a0 hw [] a1 h0 n0 Z0 E_a1_0 F_a1_modCount_0 ge_a1 F_a1_size_0 F_a1_elementData_0) (by decide) (by decide) (by decide) (by decide) e0 (g := (mkF m 1 #[vR a1, vI (4 : Int32)] [(.ref a1)])) rfl (by rw [hml]; rfl) (lenOf pd_4k4_0 rfl) rfl (by show 2 * 0 + _ ≤ _; exact Nat.le_of_eq rfl) (hb hby d4_1)
  obtain ⟨rfl, NQ1, KQ1, hM1, hS1, hD1⟩ := Q1
  refine Goes.step st1 ?_
  have E_a1_1 := E_a1_0.keep KQ1
  have z_1 : n0 ≤ h1.size := Nat.le_trans Z0 KQ1.1
  have K_1 : Keep h0 h1 [a1] := Keep.trans K0 KQ1 (allS (Or.inl (List.mem_of_getElem? (i := 0) rfl)) all0)
  have N_1 := Fr.app N0 NQ1
  show Goes p e below s _ _ _ T1 (mkF m 4 #[vR a1, vI (4 : Int32)] [])
  refine Goes.step (fun _ k => XS.iloadN X1.here hx rfl (hb hby d4_4) rfl k) ?_
  refine Goes.step (fun _ k => XS.ifNo X1.here hx rfl (hb hby d4_5) rfl ((if0 _ _).trans (tlt (by decide : (0 : Int32) < (4 : Int32))).2.2.2) k) ?_
  show Goes p e below s _ _ _ T1 (mkF m 8 #[vR a1, vI (4 : Int32)] [])
  refine Goes.step (fun _ k => XS.aloadN X1.here hx rfl (hb hby d4_8) rfl rfl k) ?_
  refine Goes.step (fun _ k => XS.iloadN X1.here hx rfl (hb hby d4_9) rfl k) ?_
  obtain ⟨T2, h2, X2, e2, E2, A2, st2⟩ := newRf X1 hx hZ hown (wof hw 50 rfl) (wof hw 51 rfl) e1 (g := (mkF m 10 #[vR a1, vI (4 : Int32)] [(.int (4 : Int32)), (.ref a1)])) rfl (hb hby d4_10) rfl (N := 4) rfl (cap := 4) (by decide) (by decide) (by decide) (by decide)
  obtain ⟨b2, g_2⟩ : ∃ z, z = h1.size := ⟨_, rfl⟩
  rw [← g_2] at A2 st2
  refine Goes.step st2 ?_
  have ne_a1_b2 : a1 ≠ b2 := Nat.ne_of_lt (by rw [g_2]; exact E_a1_1.lt)
  have ge_b2 : n0 ≤ b2 := by rw [g_2]; exact z_1
  have sz_b2 : h0.size ≤ b2 := by rw [g_2]; exact K_1.1
  have E_a1_2 := E_a1_1.ext E2
  have hM1_2 := hM1.ext E2
  have hS1_2 := hS1.ext E2
  have hD1_2 := hD1.ext E2
  have z_2 : n0 ≤ h2.size := Nat.le_trans z_1 E2.1
  have K_2 : Keep h0 h2 [a1] := K_1.ext E2
  have B_b2_2 : Arf Z h2 b2 "java/lang/Object" 4 (fun _ => .null) := A2
  show Goes p e below s _ _ _ T2 (mkF m 13 #[vR a1, vI (4 : Int32)] [(.ref b2), (.ref a1)])
  obtain ⟨T3, h3, X3, e3, W3, st3⟩ := putF X2 hx hZ hown (host := "") (Or.inl (wof hw 52 rfl)) Via.refl e2 hD1_2 E_a1_2 (Or.inl (wof hw 53 rfl)) (wof hw 30 rfl) (ty := (.array (.object "java/lang/Object"))) (by decide) rfl rfl (g := (mkF m 13 #[vR a1, vI (4 : Int32)] [(.ref b2), (.ref a1)])) rfl rfl (hb hby d4_13)
  refine Goes.step st3 ?_
  have E_a1_3 := E_a1_2.wr W3
  have hM1_3 := hM1_2.other W3 (Or.inr (slot_ne (Or.inl (wof hw 49 rfl)) (Or.inl (wof hw 53 rfl)) (by decide) (t := .int) (t' := (.array (.object "java/lang/Object"))) (by decide) (by decide)))
  have hS1_3 := hS1_2.other W3 (Or.inr (slot_ne (Or.inl (wof hw 203 rfl)) (Or.inl (wof hw 53 rfl)) (by decide) (t := .int) (t' := (.array (.object "java/lang/Object"))) (by decide) (by decide)))
  have B_b2_3 := B_b2_2.other W3 (Ne.symm ne_a1_b2)
  have z_3 : n0 ≤ h3.size := by rw [W3.size]; exact z_2
  have K_3 : Keep h0 h3 [a1] := K_2.wr W3 (Or.inl (List.mem_of_getElem? (i := 0) rfl))
  have N_3 := Fr.snoc X3 N_1 ge_a1
  have hD1_3 : Fld Z h3 a1 "java/util/ArrayList" "elementData" "[Ljava/lang/Object;" (.ref b2) := hD1_2.same W3
  show Goes p e below s _ _ _ T3 (mkF m 16 #[vR a1, vI (4 : Int32)] [])
  refine Goes.step (fun _ k => XS.goto X3.here hx rfl (pc0 := 16) (pc' := 60) rfl (hb hby d4_16) (by decide) (by decide) k) ?_
  show Goes p e below s _ _ _ T3 (mkF m 60 #[vR a1, vI (4 : Int32)] [])
  exact Goes.outV X3 hx hlk Bd.returns (hb hby d4_60) (by rw [e3]; exact ⟨rfl, N_3, K_3, hM1_3, hS1_3, b2, sz_b2, hD1_3, B_b2_3⟩) (by decide) (by decide)
theorem pd_4k2_0 : parseMethodDescriptor "()V" = some ⟨[], none⟩ := by decide +kernel
theorem ef_4k2 (m : MethodId) (a1 : Addr) : entryFrame m #[(.ref a1), (.int (2 : Int32))] 2 = mkF m 0 #[.val (.ref a1), .val (.int (2 : Int32))] [] := by first | (simp [entryFrame, mkF, argsToLocals, Value.category]; done) | rfl
def Q4k2 (Z : State) (a1 : Addr)  (h0 : Heap) (n0 : Nat) (v : Option Value) (h : Heap) (L : List Loc) : Prop := v = none ∧ Fr n0 L ∧ Keep h0 h [a1] ∧ Fld Z h a1 "java/util/AbstractList" "modCount" "I" (.int (0 : Int32)) ∧ Fld Z h a1 "java/util/ArrayList" "size" "I" (.int (0 : Int32)) ∧ ∃ o, h0.size ≤ o ∧ Fld Z h a1 "java/util/ArrayList" "elementData" "[Ljava/lang/Object;" (.ref o) ∧ Arf Z h o "java/lang/Object" 2 (fun _ => .null)
set_option maxRecDepth 65536 in
set_option maxHeartbeats 40000000 in
theorem rm4k2 (l : Launch) (Z : State) (a0 : Array Value) (hw : ∀ d ∈ tables_1, d.before a0 Z = true) (ws : List Jvm.Cond) (a1 : Addr)  (h0 : Heap) (n0 : Nat) (Z0 : n0 ≤ h0.size) (E_a1_0 : Exa Z h0 a1 "java/util/ArrayList") (F_a1_modCount_0 : Fld Z h0 a1 "java/util/AbstractList" "modCount" "I" (.int (0 : Int32))) (ge_a1 : n0 ≤ a1) (F_a1_size_0 : Fld Z h0 a1 "java/util/ArrayList" "size" "I" (.int (0 : Int32))) (F_a1_elementData_0 : Fld Z h0 a1 "java/util/ArrayList" "elementData" "[Ljava/lang/Object;" .null) :
    MetFree l y_4 (head1 (Jvm.Cond.code y_4 jdk_38_method_1_code 2 none :: ws) ({ frames := 3, cells := 1, slots := 2, locals := 36 } : Room)) (fun a U => a = #[(.ref a1), (.int (2 : Int32))] ∧ Z.Warmed39 U.vm ∧ U.heap = h0) (fun _ _ _ _ _ => True) (fun _ U o U' => ∃ v L, o = .returned v ∧ Q4k2 Z a1 h0 n0 v U'.heap L ∧ FrameEnd U o U' L ({ frames := 3, cells := 1, slots := 2, locals := 36 } : Room).cells ({ frames := 3, cells := 1, slots := 2, locals := 36 } : Room).slots) := by
  refine MetFree.of_bodySF (plainFor_of_name pn_4) hisR ?_
  intro p e s m args below meth c s₁ Bd hml0 hP hK
  obtain ⟨rfl, hZ, hh⟩ := hP
  have hx := Bd.exec
  have hby := Bd.bytes
  have hlk := Bd.notSynchronized
  have hml : c.maxLocals = 2 := hml0
  have hown : s.vm.findClass "java/util/ArrayList" = some m.cls := findClass_of_methodNamed Bd.named
  have hnm := (name_of_methodNamed Bd.named Bd.method).1
  have X0 : Stand p l e ({ frames := 3, cells := 1, slots := 2, locals := 36 } : Room) s m #[(.ref a1), (.int (2 : Int32))] below meth c s₁ [] 0 0 := Stand.of_body Bd
  have e0 : s₁.heap = h0 := by rw [← hh, Bd.state]; rfl
  have N0 := Fr.nil n0
  have K0 : Keep h0 h0 [a1] := Keep.refl h0 _
  show Goes p e below s ({ frames := 3, cells := 1, slots := 2, locals := 36 } : Room).cells ({ frames := 3, cells := 1, slots := 2, locals := 36 } : Room).slots (Q4k2 Z a1 h0 n0) s₁ (entryFrame m #[(.ref a1), (.int (2 : Int32))] 2)
  refine Goes.step (fun t k => castTop (ef_4k2 m a1) k) ?_
  refine Goes.step (fun _ k => XS.aloadN X0.here hx rfl (hb hby d4_0) rfl rfl k) ?_
  obtain ⟨v1, T1, h1, L1, X1, e1, Q1, st1⟩ := callXI X0 hx hZ (b := a1) (y := y_5) hown rfl (wof hw 35 rfl) (wof hw 36 rfl) (wof hw 40 rfl) (wof hw 39 rfl) (by decide) (W := 0) (argsL := []) (rest := []) (rm5 l Z a0 hw [] a1 h0 n0 Z0 E_a1_0 F_a1_modCount_0 ge_a1 F_a1_size_0 F_a1_elementData_0) (by decide) (by decide) (by decide) (by decide) e0 (g := (mkF m 1 #[vR a1, vI (2 : Int32)] [(.ref a1)])) rfl (by rw [hml]; rfl) (lenOf pd_4k2_0 rfl) rfl (by show 2 * 0 + _ ≤ _; exact Nat.le_of_eq rfl) (hb hby d4_1)
  obtain ⟨rfl, NQ1, KQ1, hM1, hS1, hD1⟩ := Q1
  refine Goes.step st1 ?_
  have E_a1_1 := E_a1_0.keep KQ1
  have z_1 : n0 ≤ h1.size := Nat.le_trans Z0 KQ1.1
  have K_1 : Keep h0 h1 [a1] := Keep.trans K0 KQ1 (allS (Or.inl (List.mem_of_getElem? (i := 0) rfl)) all0)
  have N_1 := Fr.app N0 NQ1
  show Goes p e below s _ _ _ T1 (mkF m 4 #[vR a1, vI (2 : Int32)] [])
  refine Goes.step (fun _ k => XS.iloadN X1.here hx rfl (hb hby d4_4) rfl k) ?_
  refine Goes.step (fun _ k => XS.ifNo X1.here hx rfl (hb hby d4_5) rfl ((if0 _ _).trans (tlt (by decide : (0 : Int32) < (2 : Int32))).2.2.2) k) ?_
  show Goes p e below s _ _ _ T1 (mkF m 8 #[vR a1, vI (2 : Int32)] [])
  refine Goes.step (fun _ k => XS.aloadN X1.here hx rfl (hb hby d4_8) rfl rfl k) ?_
  refine Goes.step (fun _ k => XS.iloadN X1.here hx rfl (hb hby d4_9) rfl k) ?_
  obtain ⟨T2, h2, X2, e2, E2, A2, st2⟩ := newRf X1 hx hZ hown (wof hw 50 rfl) (wof hw 51 rfl) e1 (g := (mkF m 10 #[vR a1, vI (2 : Int32)] [(.int (2 : Int32)), (.ref a1)])) rfl (hb hby d4_10) rfl (N := 2) rfl (cap := 2) (by decide) (by decide) (by decide) (by decide)
  obtain ⟨b2, g_2⟩ : ∃ z, z = h1.size := ⟨_, rfl⟩
  rw [← g_2] at A2 st2
  refine Goes.step st2 ?_
  have ne_a1_b2 : a1 ≠ b2 := Nat.ne_of_lt (by rw [g_2]; exact E_a1_1.lt)
  have ge_b2 : n0 ≤ b2 := by rw [g_2]; exact z_1
  have sz_b2 : h0.size ≤ b2 := by rw [g_2]; exact K_1.1
  have E_a1_2 := E_a1_1.ext E2
  have hM1_2 := hM1.ext E2
  have hS1_2 := hS1.ext E2
  have hD1_2 := hD1.ext E2
  have z_2 : n0 ≤ h2.size := Nat.le_trans z_1 E2.1
  have K_2 : Keep h0 h2 [a1] := K_1.ext E2
  have B_b2_2 : Arf Z h2 b2 "java/lang/Object" 2 (fun _ => .null) := A2
  show Goes p e below s _ _ _ T2 (mkF m 13 #[vR a1, vI (2 : Int32)] [(.ref b2), (.ref a1)])
  obtain ⟨T3, h3, X3, e3, W3, st3⟩ := putF X2 hx hZ hown (host := "") (Or.inl (wof hw 52 rfl)) Via.refl e2 hD1_2 E_a1_2 (Or.inl (wof hw 53 rfl)) (wof hw 30 rfl) (ty := (.array (.object "java/lang/Object"))) (by decide) rfl rfl (g := (mkF m 13 #[vR a1, vI (2 : Int32)] [(.ref b2), (.ref a1)])) rfl rfl (hb hby d4_13)
  refine Goes.step st3 ?_
  have E_a1_3 := E_a1_2.wr W3
  have hM1_3 := hM1_2.other W3 (Or.inr (slot_ne (Or.inl (wof hw 49 rfl)) (Or.inl (wof hw 53 rfl)) (by decide) (t := .int) (t' := (.array (.object "java/lang/Object"))) (by decide) (by decide)))
  have hS1_3 := hS1_2.other W3 (Or.inr (slot_ne (Or.inl (wof hw 203 rfl)) (Or.inl (wof hw 53 rfl)) (by decide) (t := .int) (t' := (.array (.object "java/lang/Object"))) (by decide) (by decide)))
  have B_b2_3 := B_b2_2.other W3 (Ne.symm ne_a1_b2)
  have z_3 : n0 ≤ h3.size := by rw [W3.size]; exact z_2
  have K_3 : Keep h0 h3 [a1] := K_2.wr W3 (Or.inl (List.mem_of_getElem? (i := 0) rfl))
  have N_3 := Fr.snoc X3 N_1 ge_a1
  have hD1_3 : Fld Z h3 a1 "java/util/ArrayList" "elementData" "[Ljava/lang/Object;" (.ref b2) := hD1_2.same W3
  show Goes p e below s _ _ _ T3 (mkF m 16 #[vR a1, vI (2 : Int32)] [])
  refine Goes.step (fun _ k => XS.goto X3.here hx rfl (pc0 := 16) (pc' := 60) rfl (hb hby d4_16) (by decide) (by decide) k) ?_
  show Goes p e below s _ _ _ T3 (mkF m 60 #[vR a1, vI (2 : Int32)] [])
  exact Goes.outV X3 hx hlk Bd.returns (hb hby d4_60) (by rw [e3]; exact ⟨rfl, N_3, K_3, hM1_3, hS1_3, b2, sz_b2, hD1_3, B_b2_3⟩) (by decide) (by decide)
theorem d13_0 : decode prog_6_method_1_code 0 = .ok (.aload_n 0, 1) := by decide +kernel
theorem d13_1 : decode prog_6_method_1_code 1 = .ok (.invokespecial 1, 3) := by decide +kernel
theorem d13_4 : decode prog_6_method_1_code 4 = .ok (.aload_n 0, 1) := by decide +kernel
theorem d13_5 : decode prog_6_method_1_code 5 = .ok (.iconst (-1), 1) := by decide +kernel
theorem d13_6 : decode prog_6_method_1_code 6 = .ok (.putfield 7, 3) := by decide +kernel
theorem d13_9 : decode prog_6_method_1_code 9 = .ok (.return_, 1) := by decide +kernel
theorem pn_13 : plainName "com/example/proxysmith/proxysmith/Bytecode$Label" = true := by first | (simp [plainName, overriddenIn]; done) | decide +kernel
theorem ef_13 (m : MethodId) (a1 : Addr) : entryFrame m #[(.ref a1)] 1 = mkF m 0 #[.val (.ref a1)] [] := by first | (simp [entryFrame, mkF, argsToLocals, Value.category]; done) | rfl
def Q13 (Z : State) (a1 : Addr)  (h0 : Heap) (n0 : Nat) (v : Option Value) (h : Heap) (L : List Loc) : Prop := v = none ∧ Fr n0 L ∧ Keep h0 h [a1] ∧ Fld Z h a1 "com/example/proxysmith/proxysmith/Bytecode$Label" "offset" "I" (.int (-1 : Int32))
set_option maxRecDepth 65536 in
set_option maxHeartbeats 40000000 in
theorem rm13 (l : Launch) (Z : State) (a0 : Array Value) (hw : ∀ d ∈ tables_1, d.before a0 Z = true) (ws : List Jvm.Cond) (a1 : Addr)  (h0 : Heap) (n0 : Nat) (Z0 : n0 ≤ h0.size) (E_a1_0 : Exa Z h0 a1 "com/example/proxysmith/proxysmith/Bytecode$Label") (F_a1_offset_0 : Fld Z h0 a1 "com/example/proxysmith/proxysmith/Bytecode$Label" "offset" "I" (.int (0 : Int32))) (ge_a1 : n0 ≤ a1) :
    MetFree l y_13 (head1 (Jvm.Cond.code y_13 prog_6_method_1_code 1 none :: ws) ({ frames := 1, cells := 0, slots := 0, locals := 12 } : Room)) (fun a U => a = #[(.ref a1)] ∧ Z.Warmed39 U.vm ∧ U.heap = h0) (fun _ _ _ _ _ => True) (fun _ U o U' => ∃ v L, o = .returned v ∧ Q13 Z a1 h0 n0 v U'.heap L ∧ FrameEnd U o U' L ({ frames := 1, cells := 0, slots := 0, locals := 12 } : Room).cells ({ frames := 1, cells := 0, slots := 0, locals := 12 } : Room).slots) := by
  refine MetFree.of_bodySF (plainFor_of_name pn_13) hisR ?_
  intro p e s m args below meth c s₁ Bd hml0 hP hK
  obtain ⟨rfl, hZ, hh⟩ := hP
  have hx := Bd.exec
  have hby := Bd.bytes
  have hlk := Bd.notSynchronized
  have hml : c.maxLocals = 1 := hml0
  have hown : s.vm.findClass "com/example/proxysmith/proxysmith/Bytecode$Label" = some m.cls := findClass_of_methodNamed Bd.named
  have hnm := (name_of_methodNamed Bd.named Bd.method).1
  have X0 : Stand p l e ({ frames := 1, cells := 0, slots := 0, locals := 12 } : Room) s m #[(.ref a1)] below meth c s₁ [] 0 0 := Stand.of_body Bd
  have e0 : s₁.heap = h0 := by rw [← hh, Bd.state]; rfl
  have N0 := Fr.nil n0
  have K0 : Keep h0 h0 [a1] := Keep.refl h0 _
  show Goes p e below s ({ frames := 1, cells := 0, slots := 0, locals := 12 } : Room).cells ({ frames := 1, cells := 0, slots := 0, locals := 12 } : Room).slots (Q13 Z a1 h0 n0) s₁ (entryFrame m #[(.ref a1)] 1)
  refine Goes.step (fun t k => castTop (ef_13 m a1) k) ?_
  refine Goes.step (fun _ k => XS.aloadN X0.here hx rfl (hb hby d13_0) rfl rfl k) ?_
  obtain ⟨T1, X1, e1, st1⟩ := initO X0 hx hZ hown (wof hw 109 rfl) (wof hw 16 rfl) (wof hw 17 rfl) e0 (g := (mkF m 1 #[vR a1] [(.ref a1)])) rfl (by rw [hml]; rfl) rfl (hb hby d13_1) (by decide) (W := 0) (by show 2 * 0 + _ ≤ _; exact Nat.le_of_eq rfl) (by decide)
  refine Goes.step st1 ?_
  show Goes p e below s _ _ _ T1 (mkF m 4 #[vR a1] [])
  refine Goes.step (fun _ k => XS.aloadN X1.here hx rfl (hb hby d13_4) rfl rfl k) ?_
  refine Goes.step (fun _ k => XS.iconst X1.here hx rfl (hb hby d13_5) k) ?_
  obtain ⟨T2, h2, X2, e2, W2, st2⟩ := putF X1 hx hZ hown (host := "") (Or.inl (wof hw 110 rfl)) Via.refl e1 F_a1_offset_0 E_a1_0 (Or.inl (wof hw 111 rfl)) (wof hw 104 rfl) (ty := .int) (by decide) rfl rfl (g := (mkF m 6 #[vR a1] [(.int (-1 : Int32)), (.ref a1)])) rfl rfl (hb hby d13_6)
  refine Goes.step st2 ?_
  have E_a1_2 := E_a1_0.wr W2
  have z_2 : n0 ≤ h2.size := by rw [W2.size]; exact Z0
  have K_2 : Keep h0 h2 [a1] := K0.wr W2 (Or.inl (List.mem_of_getElem? (i := 0) rfl))
  have N_2 := Fr.snoc X2 N0 ge_a1
  have F_a1_offset_2 : Fld Z h2 a1 "com/example/proxysmith/proxysmith/Bytecode$Label" "offset" "I" (.int (-1 : Int32)) := F_a1_offset_0.same W2
  show Goes p e below s _ _ _ T2 (mkF m 9 #[vR a1] [])
  exact Goes.outV X2 hx hlk Bd.returns (hb hby d13_9) (by rw [e2]; exact ⟨rfl, N_2, K_2, F_a1_offset_2⟩) (by decide) (by decide)
theorem d12_0 : decode prog_2_method_4_code 0 = .ok (.new 87, 3) := by decide +kernel
theorem d12_3 : decode prog_2_method_4_code 3 = .ok (.dup, 1) := by decide +kernel
theorem d12_4 : decode prog_2_method_4_code 4 = .ok (.invokespecial 89, 3) := by decide +kernel
theorem d12_7 : decode prog_2_method_4_code 7 = .ok (.areturn, 1) := by decide +kernel
theorem pn_12 : plainName "com/example/proxysmith/proxysmith/Bytecode" = true := by first | (simp [plainName, overriddenIn]; done) | decide +kernel
theorem pd_12_0 : parseMethodDescriptor "()V" = some ⟨[], none⟩ := by decide +kernel
theorem ef_12 (m : MethodId) (a1 : Addr) : entryFrame m #[(.ref a1)] 1 = mkF m 0 #[.val (.ref a1)] [] := by first | (simp [entryFrame, mkF, argsToLocals, Value.category]; done) | rfl
def Q12 (Z : State) (a1 : Addr)  (h0 : Heap) (n0 : Nat) (v : Option Value) (h : Heap) (L : List Loc) : Prop := ∃ o, v = some (.ref o) ∧ Fr n0 L ∧ Keep h0 h [] ∧ h0.size ≤ o ∧ Exa Z h o "com/example/proxysmith/proxysmith/Bytecode$Label" ∧ Fld Z h o "com/example/proxysmith/proxysmith/Bytecode$Label" "offset" "I" (.int (-1 : Int32))
set_option maxRecDepth 65536 in
set_option maxHeartbeats 40000000 in
theorem rm12 (l : Launch) (Z : State) (a0 : Array Value) (hw : ∀ d ∈ tables_1, d.before a0 Z = true) (ws : List Jvm.Cond) (a1 : Addr)  (h0 : Heap) (n0 : Nat) (Z0 : n0 ≤ h0.size)  :
    MetFree l y_12 (head1 (Jvm.Cond.code y_12 prog_2_method_4_code 1 (some (.object "com/example/proxysmith/proxysmith/Bytecode$Label")) :: ws) ({ frames := 2, cells := 1, slots := 1, locals := 25 } : Room)) (fun a U => a = #[(.ref a1)] ∧ Z.Warmed39 U.vm ∧ U.heap = h0) (fun _ _ _ _ _ => True) (fun _ U o U' => ∃ v L, o = .returned v ∧ Q12 Z a1 h0 n0 v U'.heap L ∧ FrameEnd U o U' L ({ frames := 2, cells := 1, slots := 1, locals := 25 } : Room).cells ({ frames := 2, cells := 1, slots := 1, locals := 25 } : Room).slots) := by
  refine MetFree.of_bodySF (plainFor_of_name pn_12) hisR ?_
  intro p e s m args below meth c s₁ Bd hml0 hP hK
  obtain ⟨rfl, hZ, hh⟩ := hP
  have hx := Bd.exec
  have hby := Bd.bytes
  have hlk := Bd.notSynchronized
  have hml : c.maxLocals = 1 := hml0
  have hown : s.vm.findClass "com/example/proxysmith/proxysmith/Bytecode" = some m.cls := findClass_of_methodNamed Bd.named
  have hnm := (name_of_methodNamed Bd.named Bd.method).1
  have X0 : Stand p l e ({ frames := 2, cells := 1, slots := 1, locals := 25 } : Room) s m #[(.ref a1)] below meth c s₁ [] 0 0 := Stand.of_body Bd
  have e0 : s₁.heap = h0 := by rw [← hh, Bd.state]; rfl
  have N0 := Fr.nil n0
  have K0 : Keep h0 h0 [] := Keep.refl h0 _
  show Goes p e below s ({ frames := 2, cells := 1, slots := 1, locals := 25 } : Room).cells ({ frames := 2, cells := 1, slots := 1, locals := 25 } : Room).slots (Q12 Z a1 h0 n0) s₁ (entryFrame m #[(.ref a1)] 1)
  refine Goes.step (fun t k => castTop (ef_12 m a1) k) ?_
  obtain ⟨T1, h1, X1, e1, E1, A1, D1, -, st1⟩ := newO X0 hx hZ hown (wof hw 103 rfl) (wof hw 104 rfl) (wof hw 105 rfl) e0 (g := (mkF m 0 #[vR a1] [])) rfl (hb hby d12_0) (by decide) (by decide)
  obtain ⟨b1, g_1⟩ : ∃ z, z = h0.size := ⟨_, rfl⟩
  rw [← g_1] at A1 D1 st1
  refine Goes.step st1 ?_
  have ge_b1 : n0 ≤ b1 := by rw [g_1]; exact Z0
  have sz_b1 : h0.size ≤ b1 := by rw [g_1]; exact K0.1
  have z_1 : n0 ≤ h1.size := Nat.le_trans Z0 E1.1
  have K_1 : Keep h0 h1 [] := K0.ext E1
  have E_b1_1 : Exa Z h1 b1 "com/example/proxysmith/proxysmith/Bytecode$Label" := A1
  have F_b1_offset_1 : Fld Z h1 b1 "com/example/proxysmith/proxysmith/Bytecode$Label" "offset" "I" (.int (0 : Int32)) := D1 (Or.inl (wof hw 111 rfl)) (ty := .int) (by decide)
  show Goes p e below s _ _ _ T1 (mkF m 3 #[vR a1] [(.ref b1)])
  refine Goes.step (fun _ k => XS.dup X1.here hx rfl (hb hby d12_3) rfl rfl k) ?_
  obtain ⟨v2, T2, h2, L2, X2, e2, Q2, st2⟩ := callXI X1 hx hZ (b := b1) (y := y_13) hown rfl (wof hw 106 rfl) (wof hw 107 rfl) (wof hw 108 rfl) (wof hw 105 rfl) (by decide) (W := 1) (argsL := []) (rest := [(.ref b1)]) (rm13 l Z a0 hw [] b1 h1 n0 z_1 E_b1_1 F_b1_offset_1 ge_b1) (by decide) (by decide) (by decide) (by decide) e1 (g := (mkF m 4 #[vR a1] [(.ref b1), (.ref b1)])) rfl (by rw [hml]; rfl) (lenOf pd_12_0 rfl) rfl (by show 2 * 0 + _ ≤ _; exact Nat.le_of_eq rfl) (hb hby d12_4)
  obtain ⟨rfl, NQ2, KQ2, hO2⟩ := Q2
  refine Goes.step st2 ?_
  have E_b1_2 := E_b1_1.keep KQ2
  have z_2 : n0 ≤ h2.size := Nat.le_trans z_1 KQ2.1
  have K_2 : Keep h0 h2 [] := Keep.trans K_1 KQ2 (allS (Or.inr sz_b1) all0)
  have N_2 := Fr.app N0 NQ2
  show Goes p e below s _ _ _ T2 (mkF m 7 #[vR a1] [(.ref b1)])
  exact Goes.outR X2 hx hlk Bd.returns rfl rfl (hb hby d12_7) (by rw [e2]; exact ⟨b1, rfl, N_2, K_2, sz_b1, E_b1_2, hO2⟩) (by decide) (by decide)
theorem d8_0 : decode jdk_42_method_154_code 0 = .ok (.getstatic 38, 3) := by decide +kernel
theorem d8_3 : decode jdk_42_method_154_code 3 = .ok (.ifCond .eq 14, 3) := by decide +kernel
theorem d8_6 : decode jdk_42_method_154_code 6 = .ok (.aload_n 0, 1) := by decide +kernel
theorem d8_7 : decode jdk_42_method_154_code 7 = .ok (.getfield 15, 3) := by decide +kernel
theorem d8_10 : decode jdk_42_method_154_code 10 = .ok (.ifCond .ne 7, 3) := by decide +kernel
theorem d8_13 : decode jdk_42_method_154_code 13 = .ok (.iconst 1, 1) := by decide +kernel
theorem d8_14 : decode jdk_42_method_154_code 14 = .ok (.goto 4, 3) := by decide +kernel
theorem d8_18 : decode jdk_42_method_154_code 18 = .ok (.ireturn, 1) := by decide +kernel
theorem pn_8 : plainName "java/lang/String" = true := by first | (simp [plainName, overriddenIn]; done) | decide +kernel
theorem ef_8 (m : MethodId) (a1 : Addr) : entryFrame m #[(.ref a1)] 1 = mkF m 0 #[.val (.ref a1)] [] := by first | (simp [entryFrame, mkF, argsToLocals, Value.category]; done) | rfl
def Q8 (Z : State) (a1 : Addr) (G1 : Int32) (h0 : Heap) (n0 : Nat) (v : Option Value) (h : Heap) (L : List Loc) : Prop := PQ h0 (some (.int (1 : Int32))) v h L
set_option maxRecDepth 65536 in
set_option maxHeartbeats 40000000 in
theorem rm8 (l : Launch) (Z : State) (a0 : Array Value) (hw : ∀ d ∈ tables_1, d.before a0 Z = true) (ws : List Jvm.Cond) (a1 : Addr) (G1 : Int32) (h0 : Heap) (n0 : Nat) (Z0 : n0 ≤ h0.size) (O2 : Sta Z Z.heap "java/lang/String" "COMPACT_STRINGS" "Z" (.int G1)) (P3 : ¬ (G1 = (0 : Int32))) (OL : Old Z n0 h0) (F_a1_coder_0 : Fld Z h0 a1 "java/lang/String" "coder" "B" (.int (0 : Int32))) :
    MetFree l y_8 (head1 (Jvm.Cond.code y_8 jdk_42_method_154_code 1 (some .boolean) :: ws) ({ frames := 0, cells := 0, slots := 0, locals := 0 } : Room)) (fun a U => a = #[(.ref a1)] ∧ Z.Warmed39 U.vm ∧ U.heap = h0) (fun _ _ _ _ _ => True) (fun _ U o U' => ∃ v L, o = .returned v ∧ Q8 Z a1 G1 h0 n0 v U'.heap L ∧ FrameEnd U o U' L ({ frames := 0, cells := 0, slots := 0, locals := 0 } : Room).cells ({ frames := 0, cells := 0, slots := 0, locals := 0 } : Room).slots) := by
  refine MetFree.of_bodySF (plainFor_of_name pn_8) hisR ?_
  intro p e s m args below meth c s₁ Bd hml0 hP hK
  obtain ⟨rfl, hZ, hh⟩ := hP
  have hx := Bd.exec
  have hby := Bd.bytes
  have hlk := Bd.notSynchronized
  have hml : c.maxLocals = 1 := hml0
  have hown : s.vm.findClass "java/lang/String" = some m.cls := findClass_of_methodNamed Bd.named
  have hnm := (name_of_methodNamed Bd.named Bd.method).1
  have X0 : Stand p l e ({ frames := 0, cells := 0, slots := 0, locals := 0 } : Room) s m #[(.ref a1)] below meth c s₁ [] 0 0 := Stand.of_body Bd
  have e0 : s₁.heap = h0 := by rw [← hh, Bd.state]; rfl
  have N0 := Fr.nil n0
  have K0 : Keep h0 h0 [] := Keep.refl h0 _
  show Goes p e below s ({ frames := 0, cells := 0, slots := 0, locals := 0 } : Room).cells ({ frames := 0, cells := 0, slots := 0, locals := 0 } : Room).slots (Q8 Z a1 G1 h0 n0) s₁ (entryFrame m #[(.ref a1)] 1)
  refine Goes.step (fun t k => castTop (ef_8 m a1) k) ?_
  obtain ⟨T1, X1, e1, st1⟩ := getS2 X0 hx hZ hown (host := "") (Or.inl (wof hw 78 rfl)) Via.refl e0 (O2.ext (OL.keep K0 all0).2) (g := (mkF m 0 #[vR a1] [])) rfl (hb hby d8_0)
  refine Goes.step st1 ?_
  show Goes p e below s _ _ _ T1 (mkF m 3 #[vR a1] [(.int G1)])
  refine Goes.step (fun _ k => XS.ifNo X1.here hx rfl (hb hby d8_3) rfl ((if0 _ _).trans (feq P3).1) k) ?_
  show Goes p e below s _ _ _ T1 (mkF m 6 #[vR a1] [])
  refine Goes.step (fun _ k => XS.aloadN X1.here hx rfl (hb hby d8_6) rfl rfl k) ?_
  obtain ⟨T2, X2, e2, st2⟩ := getF X1 hx hZ hown (host := "") (Or.inl (wof hw 79 rfl)) Via.refl e1 F_a1_coder_0 (g := (mkF m 7 #[vR a1] [(.ref a1)])) rfl rfl (hb hby d8_7)
  refine Goes.step st2 ?_
  show Goes p e below s _ _ _ T2 (mkF m 10 #[vR a1] [(.int (0 : Int32))])
  refine Goes.step (fun _ k => XS.ifNo X2.here hx rfl (hb hby d8_10) rfl ((if0 _ _).trans (teq (by decide : (0 : Int32) = (0 : Int32))).2) k) ?_
  show Goes p e below s _ _ _ T2 (mkF m 13 #[vR a1] [])
  refine Goes.step (fun _ k => XS.iconst X2.here hx rfl (hb hby d8_13) k) ?_
  refine Goes.step (fun _ k => XS.goto X2.here hx rfl (pc0 := 14) (pc' := 18) rfl (hb hby d8_14) (by decide) (by decide) k) ?_
  show Goes p e below s _ _ _ T2 (mkF m 18 #[vR a1] [(.int (1 : Int32))])
  exact Goes.outN X2 hx hlk (t := .boolean) Bd.returns (by simp) (hb hby d8_18) (by rw [e2]; exact ⟨rfl, rfl, rfl⟩) (by decide) (by decide)
theorem d11_0 : decode jdk_41_method_11_code 0 = .ok (.iload_n 0, 1) := by decide +kernel
theorem d11_1 : decode jdk_41_method_11_code 1 = .ok (.ifCond .lt 8, 3) := by decide +kernel
theorem d11_4 : decode jdk_41_method_11_code 4 = .ok (.iload_n 0, 1) := by decide +kernel
theorem d11_5 : decode jdk_41_method_11_code 5 = .ok (.iload_n 1, 1) := by decide +kernel
theorem d11_6 : decode jdk_41_method_11_code 6 = .ok (.if_icmp .lt 10, 3) := by decide +kernel
theorem d11_16 : decode jdk_41_method_11_code 16 = .ok (.iload_n 0, 1) := by decide +kernel
theorem d11_17 : decode jdk_41_method_11_code 17 = .ok (.ireturn, 1) := by decide +kernel
theorem pn_11 : plainName "jdk/internal/util/Preconditions" = true := by first | (simp [plainName, overriddenIn]; done) | decide +kernel
theorem ef_11 (m : MethodId) (p1 : Int32) (p2 : Int32) (o3 : Option Addr) : entryFrame m #[(.int p1), (.int p2), (ov o3)] 3 = mkF m 0 #[.val (.int p1), .val (.int p2), .val (ov o3)] [] := by cases o3 <;> rfl
def Q11 (Z : State) (p1 : Int32) (p2 : Int32) (o3 : Option Addr)  (h0 : Heap) (n0 : Nat) (v : Option Value) (h : Heap) (L : List Loc) : Prop := PQ h0 (some (.int p1)) v h L
set_option maxRecDepth 65536 in
set_option maxHeartbeats 40000000 in
theorem rm11 (l : Launch) (Z : State) (a0 : Array Value) (hw : ∀ d ∈ tables_1, d.before a0 Z = true) (ws : List Jvm.Cond) (p1 : Int32) (p2 : Int32) (o3 : Option Addr)  (h0 : Heap) (n0 : Nat) (Z0 : n0 ≤ h0.size) (h1 : ¬ (p1 < (0 : Int32))) (h2 : p1 < p2) :
    MetFree l y_11 (head1 (Jvm.Cond.code y_11 jdk_41_method_11_code 3 (some .int) :: ws) ({ frames := 0, cells := 0, slots := 0, locals := 0 } : Room)) (fun a U => a = #[(.int p1), (.int p2), (ov o3)] ∧ Z.Warmed39 U.vm ∧ U.heap = h0) (fun _ _ _ _ _ => True) (fun _ U o U' => ∃ v L, o = .returned v ∧ Q11 Z p1 p2 o3 h0 n0 v U'.heap L ∧ FrameEnd U o U' L ({ frames := 0, cells := 0, slots := 0, locals := 0 } : Room).cells ({ frames := 0, cells := 0, slots := 0, locals := 0 } : Room).slots) := by
  refine MetFree.of_bodySF (plainFor_of_name pn_11) hisR ?_
  intro p e s m args below meth c s₁ Bd hml0 hP hK
  obtain ⟨rfl, hZ, hh⟩ := hP
  have hx := Bd.exec
  have hby := Bd.bytes
  have hlk := Bd.notSynchronized
  have hml : c.maxLocals = 3 := hml0
  have hown : s.vm.findClass "jdk/internal/util/Preconditions" = some m.cls := findClass_of_methodNamed Bd.named
  have hnm := (name_of_methodNamed Bd.named Bd.method).1
  have X0 : Stand p l e ({ frames := 0, cells := 0, slots := 0, locals := 0 } : Room) s m #[(.int p1), (.int p2), (ov o3)] below meth c s₁ [] 0 0 := Stand.of_body Bd
  have e0 : s₁.heap = h0 := by rw [← hh, Bd.state]; rfl
  have N0 := Fr.nil n0
  have K0 : Keep h0 h0 [] := Keep.refl h0 _
  show Goes p e below s ({ frames := 0, cells := 0, slots := 0, locals := 0 } : Room).cells ({ frames := 0, cells := 0, slots := 0, locals := 0 } : Room).slots (Q11 Z p1 p2 o3 h0 n0) s₁ (entryFrame m #[(.int p1), (.int p2), (ov o3)] 3)
  refine Goes.step (fun t k => castTop (ef_11 m p1 p2 o3) k) ?_
  refine Goes.step (fun _ k => XS.iloadN X0.here hx rfl (hb hby d11_0) rfl k) ?_
  refine Goes.step (fun _ k => XS.ifNo X0.here hx rfl (hb hby d11_1) rfl ((if0 _ _).trans (flt h1).1) k) ?_
  show Goes p e below s _ _ _ s₁ (mkF m 4 #[vI p1, vI p2, .val (ov o3)] [])
  refine Goes.step (fun _ k => XS.iloadN X0.here hx rfl (hb hby d11_4) rfl k) ?_
  refine Goes.step (fun _ k => XS.iloadN X0.here hx rfl (hb hby d11_5) rfl k) ?_
  refine Goes.step (fun _ k => XS.icmpYes X0.here hx rfl (pc0 := 6) (pc' := 16) rfl (hb hby d11_6) rfl (tlt h2).1 (by decide) (by decide) k) ?_
  show Goes p e below s _ _ _ s₁ (mkF m 16 #[vI p1, vI p2, .val (ov o3)] [])
  refine Goes.step (fun _ k => XS.iloadN X0.here hx rfl (hb hby d11_16) rfl k) ?_
  show Goes p e below s _ _ _ s₁ (mkF m 17 #[vI p1, vI p2, .val (ov o3)] [(.int p1)])
  exact Goes.outI X0 hx hlk Bd.returns (hb hby d11_17) (by rw [e0]; exact ⟨rfl, rfl, rfl⟩) (by decide) (by decide)
theorem d10_0 : decode jdk_42_method_155_code 0 = .ok (.iload_n 0, 1) := by decide +kernel
theorem d10_1 : decode jdk_42_method_155_code 1 = .ok (.iload_n 1, 1) := by decide +kernel
theorem d10_2 : decode jdk_42_method_155_code 2 = .ok (.getstatic 1053, 3) := by decide +kernel
theorem d10_5 : decode jdk_42_method_155_code 5 = .ok (.invokestatic 1059, 3) := by decide +kernel
theorem d10_8 : decode jdk_42_method_155_code 8 = .ok (.pop, 1) := by decide +kernel
theorem d10_9 : decode jdk_42_method_155_code 9 = .ok (.return_, 1) := by decide +kernel
theorem pn_10 : plainName "java/lang/String" = true := by first | (simp [plainName, overriddenIn]; done) | decide +kernel
theorem pd_10_0 : parseMethodDescriptor "(IILjava/util/function/BiFunction;)I" = some ⟨[.int, .int, (.object "java/util/function/BiFunction")], some .int⟩ := by decide +kernel
theorem ef_10 (m : MethodId) (p1 : Int32) (p2 : Int32) : entryFrame m #[(.int p1), (.int p2)] 2 = mkF m 0 #[.val (.int p1), .val (.int p2)] [] := by first | (simp [entryFrame, mkF, argsToLocals, Value.category]; done) | rfl
def Q10 (Z : State) (p1 : Int32) (p2 : Int32) (oF : Option Addr) (h0 : Heap) (n0 : Nat) (v : Option Value) (h : Heap) (L : List Loc) : Prop := PQ h0 none v h L
set_option maxRecDepth 65536 in
set_option maxHeartbeats 40000000 in
theorem rm10 (l : Launch) (Z : State) (a0 : Array Value) (hw : ∀ d ∈ tables_1, d.before a0 Z = true) (ws : List Jvm.Cond) (p1 : Int32) (p2 : Int32) (oF : Option Addr) (h0 : Heap) (n0 : Nat) (Z0 : n0 ≤ h0.size) (OL : Old Z n0 h0) (O4 : Sta Z Z.heap "jdk/internal/util/Preconditions" "SIOOBE_FORMATTER" "Ljava/util/function/BiFunction;" (ov oF)) (h1 : ¬ (p1 < (0 : Int32))) (h2 : p1 < p2) :
    MetFree l y_10 (head1 (Jvm.Cond.code y_10 jdk_42_method_155_code 2 none :: ws) ({ frames := 1, cells := 0, slots := 0, locals := 14 } : Room)) (fun a U => a = #[(.int p1), (.int p2)] ∧ Z.Warmed39 U.vm ∧ U.heap = h0) (fun _ _ _ _ _ => True) (fun _ U o U' => ∃ v L, o = .returned v ∧ Q10 Z p1 p2 oF h0 n0 v U'.heap L ∧ FrameEnd U o U' L ({ frames := 1, cells := 0, slots := 0, locals := 14 } : Room).cells ({ frames := 1, cells := 0, slots := 0, locals := 14 } : Room).slots) := by
  refine MetFree.of_bodySF (plainFor_of_name pn_10) hisR ?_
  intro p e s m args below meth c s₁ Bd hml0 hP hK
  obtain ⟨rfl, hZ, hh⟩ := hP
  have hx := Bd.exec
  have hby := Bd.bytes
  have hlk := Bd.notSynchronized
  have hml : c.maxLocals = 2 := hml0
  have hown : s.vm.findClass "java/lang/String" = some m.cls := findClass_of_methodNamed Bd.named
  have hnm := (name_of_methodNamed Bd.named Bd.method).1
  have X0 : Stand p l e ({ frames := 1, cells := 0, slots := 0, locals := 14 } : Room) s m #[(.int p1), (.int p2)] below meth c s₁ [] 0 0 := Stand.of_body Bd
  have e0 : s₁.heap = h0 := by rw [← hh, Bd.state]; rfl
  have N0 := Fr.nil n0
  have K0 : Keep h0 h0 [] := Keep.refl h0 _
  show Goes p e below s ({ frames := 1, cells := 0, slots := 0, locals := 14 } : Room).cells ({ frames := 1, cells := 0, slots := 0, locals := 14 } : Room).slots (Q10 Z p1 p2 oF h0 n0) s₁ (entryFrame m #[(.int p1), (.int p2)] 2)
  refine Goes.step (fun t k => castTop (ef_10 m p1 p2) k) ?_
  refine Goes.step (fun _ k => XS.iloadN X0.here hx rfl (hb hby d10_0) rfl k) ?_
  refine Goes.step (fun _ k => XS.iloadN X0.here hx rfl (hb hby d10_1) rfl k) ?_
  obtain ⟨T1, X1, e1, st1⟩ := getS2 X0 hx hZ hown (host := "") (Or.inl (wof hw 88 rfl)) Via.refl e0 (O4.ext (OL.keep K0 all0).2) (g := (mkF m 2 #[vI p1, vI p2] [(.int p2), (.int p1)])) rfl (hb hby d10_2)
  refine Goes.step st1 ?_
  show Goes p e below s _ _ _ T1 (mkF m 5 #[vI p1, vI p2] [(ov oF), (.int p2), (.int p1)])
  obtain ⟨T2, X2, e2, st2⟩ := own_pure (r := some (.int p1)) (fun _ _ _ q => q) (callX X1 hx hZ (y := y_11) hown (wof hw 90 rfl) (wof hw 91 rfl) (wof hw 89 rfl) (wof hw 92 rfl) (by decide) (W := 0) (argsL := [(.int p1), (.int p2), (ov oF)]) (rest := []) (rm11 l Z a0 hw [] p1 p2 oF h0 n0 Z0 h1 h2) (by decide) (by decide) (by decide) (by decide) e1 (g := (mkF m 5 #[vI p1, vI p2] [(ov oF), (.int p2), (.int p1)])) rfl (by rw [hml]; rfl) (lenOf pd_10_0 rfl) rfl (by show 2 * 0 + _ ≤ _; exact Nat.le_of_eq rfl) (hb hby d10_5))
  refine Goes.step st2 ?_
  show Goes p e below s _ _ _ T2 (mkF m 8 #[vI p1, vI p2] [(.int p1)])
  refine Goes.step (fun _ k => XS.pop X2.here hx rfl (hb hby d10_8) rfl rfl k) ?_
  show Goes p e below s _ _ _ T2 (mkF m 9 #[vI p1, vI p2] [])
  exact Goes.outV X2 hx hlk Bd.returns (hb hby d10_9) (by rw [e2]; exact ⟨rfl, rfl, rfl⟩) (by decide) (by decide)
theorem d9_0 : decode jdk_43_method_2_code 0 = .ok (.iload_n 1, 1) := by decide +kernel
theorem d9_1 : decode jdk_43_method_2_code 1 = .ok (.aload_n 0, 1) := by decide +kernel
theorem d9_2 : decode jdk_43_method_2_code 2 = .ok (.arraylength, 1) := by decide +kernel
theorem d9_3 : decode jdk_43_method_2_code 3 = .ok (.invokestatic 9, 3) := by decide +kernel
theorem d9_6 : decode jdk_43_method_2_code 6 = .ok (.aload_n 0, 1) := by decide +kernel
theorem d9_7 : decode jdk_43_method_2_code 7 = .ok (.iload_n 1, 1) := by decide +kernel
theorem d9_8 : decode jdk_43_method_2_code 8 = .ok (.baload, 1) := by decide +kernel
theorem d9_9 : decode jdk_43_method_2_code 9 = .ok (.sipush 255, 3) := by decide +kernel
theorem d9_12 : decode jdk_43_method_2_code 12 = .ok (.iand, 1) := by decide +kernel
theorem d9_13 : decode jdk_43_method_2_code 13 = .ok (.i2c, 1) := by decide +kernel
theorem d9_14 : decode jdk_43_method_2_code 14 = .ok (.ireturn, 1) := by decide +kernel
theorem pn_9 : plainName "java/lang/StringLatin1" = true := by first | (simp [plainName, overriddenIn]; done) | decide +kernel
theorem pd_9_0 : parseMethodDescriptor "(II)V" = some ⟨[.int, .int], none⟩ := by decide +kernel
theorem ef_9 (m : MethodId) (a1 : Addr) (p2 : Int32) : entryFrame m #[(.ref a1), (.int p2)] 2 = mkF m 0 #[.val (.ref a1), .val (.int p2)] [] := by first | (simp [entryFrame, mkF, argsToLocals, Value.category]; done) | rfl
def Q9 (Z : State) (a1 : Addr) (p2 : Int32) (oF : Option Addr) (i : Nat) (n : Nat) (f : Nat → Int32) (h0 : Heap) (n0 : Nat) (v : Option Value) (h : Heap) (L : List Loc) : Prop := PQ h0 (some (.int (own_c1 (f i)))) v h L
set_option maxRecDepth 65536 in
set_option maxHeartbeats 40000000 in
theorem rm9 (l : Launch) (Z : State) (a0 : Array Value) (hw : ∀ d ∈ tables_1, d.before a0 Z = true) (ws : List Jvm.Cond) (a1 : Addr) (p2 : Int32) (oF : Option Addr) (i : Nat) (n : Nat) (f : Nat → Int32) (h0 : Heap) (n0 : Nat) (Z0 : n0 ≤ h0.size) (OL : Old Z n0 h0) (O4 : Sta Z Z.heap "jdk/internal/util/Preconditions" "SIOOBE_FORMATTER" "Ljava/util/function/BiFunction;" (ov oF)) (A_a1_0 : Ari Z h0 a1 .byte n f) (hi : p2 = Int32.ofNat i) (hin : i < n) :
    MetFree l y_9 (head1 (Jvm.Cond.code y_9 jdk_43_method_2_code 2 (some .char) :: ws) ({ frames := 2, cells := 0, slots := 0, locals := 27 } : Room)) (fun a U => a = #[(.ref a1), (.int p2)] ∧ Z.Warmed39 U.vm ∧ U.heap = h0) (fun _ _ _ _ _ => True) (fun _ U o U' => ∃ v L, o = .returned v ∧ Q9 Z a1 p2 oF i n f h0 n0 v U'.heap L ∧ FrameEnd U o U' L ({ frames := 2, cells := 0, slots := 0, locals := 27 } : Room).cells ({ frames := 2, cells := 0, slots := 0, locals := 27 } : Room).slots) := by
  refine MetFree.of_bodySF (plainFor_of_name pn_9) hisR ?_
  intro p e s m args below meth c s₁ Bd hml0 hP hK
  obtain ⟨rfl, hZ, hh⟩ := hP
  have hx := Bd.exec
  have hby := Bd.bytes
  have hlk := Bd.notSynchronized
  have hml : c.maxLocals = 2 := hml0
  have hown : s.vm.findClass "java/lang/StringLatin1" = some m.cls := findClass_of_methodNamed Bd.named
  have hnm := (name_of_methodNamed Bd.named Bd.method).1
  have X0 : Stand p l e ({ frames := 2, cells := 0, slots := 0, locals := 27 } : Room) s m #[(.ref a1), (.int p2)] below meth c s₁ [] 0 0 := Stand.of_body Bd
  have e0 : s₁.heap = h0 := by rw [← hh, Bd.state]; rfl
  have N0 := Fr.nil n0
  have K0 : Keep h0 h0 [] := Keep.refl h0 _
  show Goes p e below s ({ frames := 2, cells := 0, slots := 0, locals := 27 } : Room).cells ({ frames := 2, cells := 0, slots := 0, locals := 27 } : Room).slots (Q9 Z a1 p2 oF i n f h0 n0) s₁ (entryFrame m #[(.ref a1), (.int p2)] 2)
  refine Goes.step (fun t k => castTop (ef_9 m a1 p2) k) ?_
  refine Goes.step (fun _ k => XS.iloadN X0.here hx rfl (hb hby d9_0) rfl k) ?_
  refine Goes.step (fun _ k => XS.aloadN X0.here hx rfl (hb hby d9_1) rfl rfl k) ?_
  refine Goes.step (fun _ k => rdL X0 hx hZ e0 A_a1_0 (g := (mkF m 2 #[vR a1, vI p2] [(.ref a1), (.int p2)])) rfl rfl (hb hby d9_2) _ k) ?_
  show Goes p e below s _ _ _ s₁ (mkF m 3 #[vR a1, vI p2] [(.int (Int32.ofNat n)), (.int p2)])
  obtain ⟨T1, X1, e1, st1⟩ := own_pure (r := none) (fun _ _ _ q => q) (callX X0 hx hZ (y := y_10) hown (wof hw 85 rfl) (wof hw 86 rfl) (wof hw 5 rfl) (wof hw 87 rfl) (by decide) (W := 0) (argsL := [(.int p2), (.int (Int32.ofNat n))]) (rest := []) (rm10 l Z a0 hw [] p2 (Int32.ofNat n) oF h0 n0 Z0 (OL.keep K0 all0) O4 (own_ix0 A_a1_0 hi hin) (own_ix1 A_a1_0 hi hin)) (by decide) (by decide) (by decide) (by decide) e0 (g := (mkF m 3 #[vR a1, vI p2] [(.int (Int32.ofNat n)), (.int p2)])) rfl (by rw [hml]; rfl) (lenOf pd_9_0 rfl) rfl (by show 2 * 0 + _ ≤ _; exact Nat.le_of_eq rfl) (hb hby d9_3))
  refine Goes.step st1 ?_
  show Goes p e below s _ _ _ T1 (mkF m 6 #[vR a1, vI p2] [])
  refine Goes.step (fun _ k => XS.aloadN X1.here hx rfl (hb hby d9_6) rfl rfl k) ?_
  refine Goes.step (fun _ k => XS.iloadN X1.here hx rfl (hb hby d9_7) rfl k) ?_
  refine Goes.step (fun _ k => rdB X1 hx hZ e1 A_a1_0 (i) hi hin (g := (mkF m 8 #[vR a1, vI p2] [(.int p2), (.ref a1)])) rfl rfl (hb hby d9_8) _ k) ?_
  show Goes p e below s _ _ _ T1 (mkF m 9 #[vR a1, vI p2] [(.int (f (i)))])
  refine Goes.step (fun _ k => XS.sipush X1.here hx rfl (hb hby d9_9) k) ?_
  refine Goes.step (fun _ k => XS.iand X1.here hx rfl (hb hby d9_12) rfl k) ?_
  refine Goes.step (fun _ k => XS.i2c X1.here hx rfl (hb hby d9_13) rfl k) ?_
  show Goes p e below s _ _ _ T1 (mkF m 14 #[vR a1, vI p2] [(.int (((f (i)) &&& (255 : Int32)).toUInt32.toUInt16.toUInt32.toInt32))])
  exact Goes.outN X1 hx hlk (t := .char) Bd.returns (by simp) (hb hby d9_14) (by rw [e1]; exact ⟨rfl, rfl, rfl⟩) (by decide) (by decide)
theorem d7_0 : decode jdk_42_method_56_code 0 = .ok (.aload_n 0, 1) := by decide +kernel
theorem d7_1 : decode jdk_42_method_56_code 1 = .ok (.invokevirtual 492, 3) := by decide +kernel
theorem d7_4 : decode jdk_42_method_56_code 4 = .ok (.ifCond .eq 12, 3) := by decide +kernel
theorem d7_7 : decode jdk_42_method_56_code 7 = .ok (.aload_n 0, 1) := by decide +kernel
theorem d7_8 : decode jdk_42_method_56_code 8 = .ok (.getfield 9, 3) := by decide +kernel
theorem d7_11 : decode jdk_42_method_56_code 11 = .ok (.iload_n 1, 1) := by decide +kernel
theorem d7_12 : decode jdk_42_method_56_code 12 = .ok (.invokestatic 495, 3) := by decide +kernel
theorem d7_15 : decode jdk_42_method_56_code 15 = .ok (.ireturn, 1) := by decide +kernel
theorem pn_7 : plainName "java/lang/String" = true := by first | (simp [plainName, overriddenIn]; done) | decide +kernel
theorem pd_7_0 : parseMethodDescriptor "()Z" = some ⟨[], some .boolean⟩ := by decide +kernel
theorem pd_7_1 : parseMethodDescriptor "([BI)C" = some ⟨[(.array .byte), .int], some .char⟩ := by decide +kernel
theorem ef_7 (m : MethodId) (a1 : Addr) (p2 : Int32) : entryFrame m #[(.ref a1), (.int p2)] 2 = mkF m 0 #[.val (.ref a1), .val (.int p2)] [] := by first | (simp [entryFrame, mkF, argsToLocals, Value.category]; done) | rfl
def Q7 (Z : State) (a1 : Addr) (p2 : Int32) (G1 : Int32) (oF : Option Addr) (av : Addr) (n : Nat) (f : Nat → Int32) (i : Nat) (cv : Int32) (h0 : Heap) (n0 : Nat) (v : Option Value) (h : Heap) (L : List Loc) : Prop := PQ h0 (some (.int cv)) v h L
set_option maxRecDepth 65536 in
set_option maxHeartbeats 40000000 in
theorem rm7 (l : Launch) (Z : State) (a0 : Array Value) (hw : ∀ d ∈ tables_1, d.before a0 Z = true) (ws : List Jvm.Cond) (a1 : Addr) (p2 : Int32) (G1 : Int32) (oF : Option Addr) (av : Addr) (n : Nat) (f : Nat → Int32) (i : Nat) (cv : Int32) (h0 : Heap) (n0 : Nat) (Z0 : n0 ≤ h0.size) (O2 : Sta Z Z.heap "java/lang/String" "COMPACT_STRINGS" "Z" (.int G1)) (P3 : ¬ (G1 = (0 : Int32))) (OL : Old Z n0 h0) (O4 : Sta Z Z.heap "jdk/internal/util/Preconditions" "SIOOBE_FORMATTER" "Ljava/util/function/BiFunction;" (ov oF)) (E_a1_0 : Exa Z h0 a1 "java/lang/String") (F_a1_value_0 : Fld Z h0 a1 "java/lang/String" "value" "[B" (.ref av)) (F_a1_coder_0 : Fld Z h0 a1 "java/lang/String" "coder" "B" (.int (0 : Int32))) (A_av_0 : Ari Z h0 av .byte n f) (hi : p2 = Int32.ofNat i) (hin : i < n) (hcv : own_ch (f i) = cv) :
    MetFree l y_7 (head1 (Jvm.Cond.code y_7 jdk_42_method_56_code 2 (some .char) :: ws) ({ frames := 3, cells := 0, slots := 0, locals := 40 } : Room)) (fun a U => a = #[(.ref a1), (.int p2)] ∧ Z.Warmed39 U.vm ∧ U.heap = h0) (fun _ _ _ _ _ => True) (fun _ U o U' => ∃ v L, o = .returned v ∧ Q7 Z a1 p2 G1 oF av n f i cv h0 n0 v U'.heap L ∧ FrameEnd U o U' L ({ frames := 3, cells := 0, slots := 0, locals := 40 } : Room).cells ({ frames := 3, cells := 0, slots := 0, locals := 40 } : Room).slots) := by
  refine MetFree.of_bodySF (plainFor_of_name pn_7) hisR ?_
  intro p e s m args below meth c s₁ Bd hml0 hP hK
  obtain ⟨rfl, hZ, hh⟩ := hP
  have hx := Bd.exec
  have hby := Bd.bytes
  have hlk := Bd.notSynchronized
  have hml : c.maxLocals = 2 := hml0
  have hown : s.vm.findClass "java/lang/String" = some m.cls := findClass_of_methodNamed Bd.named
  have hnm := (name_of_methodNamed Bd.named Bd.method).1
  have X0 : Stand p l e ({ frames := 3, cells := 0, slots := 0, locals := 40 } : Room) s m #[(.ref a1), (.int p2)] below meth c s₁ [] 0 0 := Stand.of_body Bd
  have e0 : s₁.heap = h0 := by rw [← hh, Bd.state]; rfl
  have N0 := Fr.nil n0
  have K0 : Keep h0 h0 [] := Keep.refl h0 _
  show Goes p e below s ({ frames := 3, cells := 0, slots := 0, locals := 40 } : Room).cells ({ frames := 3, cells := 0, slots := 0, locals := 40 } : Room).slots (Q7 Z a1 p2 G1 oF av n f i cv h0 n0) s₁ (entryFrame m #[(.ref a1), (.int p2)] 2)
  refine Goes.step (fun t k => castTop (ef_7 m a1 p2) k) ?_
  refine Goes.step (fun _ k => XS.aloadN X0.here hx rfl (hb hby d7_0) rfl rfl k) ?_
  obtain ⟨T1, X1, e1, st1⟩ := own_pure (r := some (.int (1 : Int32))) (fun _ _ _ q => q) (callXV X0 hx hZ (C := "java/lang/String") (b := a1) (y := y_8) (z := y_8) hown (wof hw 73 rfl) (wof hw 74 rfl) (wof hw 76 rfl) (wof hw 75 rfl) (wof hw 77 rfl) (wof hw 5 rfl) (notFace_of_selects (args := #[]) (mvT hZ (wof hw 76 rfl))) (by decide) (W := 0) (argsL := []) (rest := []) (rm8 l Z a0 hw [] a1 G1 h0 n0 Z0 O2 P3 (OL.keep K0 all0) F_a1_coder_0) (by decide) (by decide) (by decide) (by decide) e0 E_a1_0 (g := (mkF m 1 #[vR a1, vI p2] [(.ref a1)])) rfl (by rw [hml]; rfl) (lenOf pd_7_0 rfl) rfl (by show 2 * 0 + _ ≤ _; exact Nat.le_of_eq rfl) (hb hby d7_1))
  refine Goes.step st1 ?_
  show Goes p e below s _ _ _ T1 (mkF m 4 #[vR a1, vI p2] [(.int (1 : Int32))])
  refine Goes.step (fun _ k => XS.ifNo X1.here hx rfl (hb hby d7_4) rfl ((if0 _ _).trans (feq (by decide : ¬ ((1 : Int32) = (0 : Int32)))).1) k) ?_
  show Goes p e below s _ _ _ T1 (mkF m 7 #[vR a1, vI p2] [])
  refine Goes.step (fun _ k => XS.aloadN X1.here hx rfl (hb hby d7_7) rfl rfl k) ?_
  obtain ⟨T2, X2, e2, st2⟩ := getF X1 hx hZ hown (host := "") (Or.inl (wof hw 80 rfl)) Via.refl e1 F_a1_value_0 (g := (mkF m 8 #[vR a1, vI p2] [(.ref a1)])) rfl rfl (hb hby d7_8)
  refine Goes.step st2 ?_
  show Goes p e below s _ _ _ T2 (mkF m 11 #[vR a1, vI p2] [(.ref av)])
  refine Goes.step (fun _ k => XS.iloadN X2.here hx rfl (hb hby d7_11) rfl k) ?_
  obtain ⟨T3, X3, e3, st3⟩ := own_pure (r := some (.int (own_c1 (f i)))) (fun _ _ _ q => q) (callX X2 hx hZ (y := y_9) hown (wof hw 81 rfl) (wof hw 82 rfl) (wof hw 83 rfl) (wof hw 84 rfl) (by decide) (W := 0) (argsL := [(.ref av), (.int p2)]) (rest := []) (rm9 l Z a0 hw [] av p2 oF i n f h0 n0 Z0 (OL.keep K0 all0) O4 A_av_0 hi hin) (by decide) (by decide) (by decide) (by decide) e2 (g := (mkF m 12 #[vR a1, vI p2] [(.int p2), (.ref av)])) rfl (by rw [hml]; rfl) (lenOf pd_7_1 rfl) rfl (by show 2 * 0 + _ ≤ _; exact Nat.le_of_eq rfl) (hb hby d7_12))
  refine Goes.step st3 ?_
  show Goes p e below s _ _ _ T3 (mkF m 15 #[vR a1, vI p2] [(.int (own_c1 (f i)))])
  exact Goes.outN X3 hx hlk (t := .char) Bd.returns (by simp) (hb hby d7_15) (by rw [e3]; exact ⟨by rw [← hcv]; rfl, rfl, rfl⟩) (by decide) (by decide)
theorem d16_0 : decode prog_2_method_36_code 0 = .ok (.iload_n 0, 1) := by decide +kernel
theorem d16_1 : decode prog_2_method_36_code 1 = .ok (.lookupswitch 43 #[(68, 35), (74, 35), (86, 39)], 35) := by decide +kernel
theorem d16_44 : decode prog_2_method_36_code 44 = .ok (.iconst 1, 1) := by decide +kernel
theorem d16_45 : decode prog_2_method_36_code 45 = .ok (.ireturn, 1) := by decide +kernel
theorem pn_16 : plainName "com/example/proxysmith/proxysmith/Bytecode" = true := by first | (simp [plainName, overriddenIn]; done) | decide +kernel
theorem ef_16 (m : MethodId)  : entryFrame m #[(.int (73 : Int32))] 1 = mkF m 0 #[.val (.int (73 : Int32))] [] := by first | (simp [entryFrame, mkF, argsToLocals, Value.category]; done) | rfl
def Q16 (Z : State)   (h0 : Heap) (n0 : Nat) (v : Option Value) (h : Heap) (L : List Loc) : Prop := PQ h0 (some (.int (1 : Int32))) v h L
set_option maxRecDepth 65536 in
set_option maxHeartbeats 40000000 in
theorem rm16 (l : Launch) (Z : State) (a0 : Array Value) (hw : ∀ d ∈ tables_1, d.before a0 Z = true) (ws : List Jvm.Cond)   (h0 : Heap) (n0 : Nat) (Z0 : n0 ≤ h0.size)  :
    MetFree l y_16 (head1 (Jvm.Cond.code y_16 prog_2_method_36_code 1 (some .int) :: ws) ({ frames := 0, cells := 0, slots := 0, locals := 0 } : Room)) (fun a U => a = #[(.int (73 : Int32))] ∧ Z.Warmed39 U.vm ∧ U.heap = h0) (fun _ _ _ _ _ => True) (fun _ U o U' => ∃ v L, o = .returned v ∧ Q16 Z  h0 n0 v U'.heap L ∧ FrameEnd U o U' L ({ frames := 0, cells := 0, slots := 0, locals := 0 } : Room).cells ({ frames := 0, cells := 0, slots := 0, locals := 0 } : Room).slots) := by
  refine MetFree.of_bodySF (plainFor_of_name pn_16) hisR ?_
  intro p e s m args below meth c s₁ Bd hml0 hP hK
  obtain ⟨rfl, hZ, hh⟩ := hP
  have hx := Bd.exec
  have hby := Bd.bytes
  have hlk := Bd.notSynchronized
  have hml : c.maxLocals = 1 := hml0
  have hown : s.vm.findClass "com/example/proxysmith/proxysmith/Bytecode" = some m.cls := findClass_of_methodNamed Bd.named
  have hnm := (name_of_methodNamed Bd.named Bd.method).1
  have X0 : Stand p l e ({ frames := 0, cells := 0, slots := 0, locals := 0 } : Room) s m #[(.int (73 : Int32))] below meth c s₁ [] 0 0 := Stand.of_body Bd
  have e0 : s₁.heap = h0 := by rw [← hh, Bd.state]; rfl
  have N0 := Fr.nil n0
  have K0 : Keep h0 h0 [] := Keep.refl h0 _
  show Goes p e below s ({ frames := 0, cells := 0, slots := 0, locals := 0 } : Room).cells ({ frames := 0, cells := 0, slots := 0, locals := 0 } : Room).slots (Q16 Z  h0 n0) s₁ (entryFrame m #[(.int (73 : Int32))] 1)
  refine Goes.step (fun t k => castTop (ef_16 m ) k) ?_
  refine Goes.step (fun _ k => XS.iloadN X0.here hx rfl (hb hby d16_0) rfl k) ?_
  refine Goes.step (fun _ k => X0.lookupswitchMiss hx (g := (mkF m 1 #[vI (73 : Int32)] [(.int (73 : Int32))])) rfl rfl (hb hby d16_1) (by decide) (by decide) (by show (0 : Int) ≤ ((1 : Nat) : Int) + _; decide) _ k) ?_
  show Goes p e below s _ _ _ s₁ (mkF m 44 #[vI (73 : Int32)] [])
  refine Goes.step (fun _ k => XS.iconst X0.here hx rfl (hb hby d16_44) k) ?_
  show Goes p e below s _ _ _ s₁ (mkF m 45 #[vI (73 : Int32)] [(.int (1 : Int32))])
  exact Goes.outI X0 hx hlk Bd.returns (hb hby d16_45) (by rw [e0]; exact ⟨rfl, rfl, rfl⟩) (by decide) (by decide)
theorem d18_0 : decode prog_2_method_35_code 0 = .ok (.aload_n 0, 1) := by decide +kernel
theorem d18_1 : decode prog_2_method_35_code 1 = .ok (.iconst 0, 1) := by decide +kernel
theorem d18_2 : decode prog_2_method_35_code 2 = .ok (.invokevirtual 46, 3) := by decide +kernel
theorem d18_5 : decode prog_2_method_35_code 5 = .ok (.lookupswitch 67 #[(68, 59), (70, 55), (74, 51), (76, 63), (91, 63)], 51) := by decide +kernel
theorem d18_72 : decode prog_2_method_35_code 72 = .ok (.iconst 0, 1) := by decide +kernel
theorem d18_73 : decode prog_2_method_35_code 73 = .ok (.ireturn, 1) := by decide +kernel
theorem pn_18 : plainName "com/example/proxysmith/proxysmith/Bytecode" = true := by first | (simp [plainName, overriddenIn]; done) | decide +kernel
theorem pd_18_0 : parseMethodDescriptor "(I)C" = some ⟨[.int], some .char⟩ := by decide +kernel
theorem ef_18 (m : MethodId) (a1 : Addr) : entryFrame m #[(.ref a1)] 1 = mkF m 0 #[.val (.ref a1)] [] := by first | (simp [entryFrame, mkF, argsToLocals, Value.category]; done) | rfl
def Q18 (Z : State) (a1 : Addr) (G1 : Int32) (oF : Option Addr) (av : Addr) (h0 : Heap) (n0 : Nat) (v : Option Value) (h : Heap) (L : List Loc) : Prop := PQ h0 (some (.int (0 : Int32))) v h L
set_option maxRecDepth 65536 in
set_option maxHeartbeats 40000000 in
theorem rm18 (l : Launch) (Z : State) (a0 : Array Value) (hw : ∀ d ∈ tables_1, d.before a0 Z = true) (ws : List Jvm.Cond) (a1 : Addr) (G1 : Int32) (oF : Option Addr) (av : Addr) (h0 : Heap) (n0 : Nat) (Z0 : n0 ≤ h0.size) (O2 : Sta Z Z.heap "java/lang/String" "COMPACT_STRINGS" "Z" (.int G1)) (P3 : ¬ (G1 = (0 : Int32))) (OL : Old Z n0 h0) (O4 : Sta Z Z.heap "jdk/internal/util/Preconditions" "SIOOBE_FORMATTER" "Ljava/util/function/BiFunction;" (ov oF)) (E_a1_0 : Exa Z h0 a1 "java/lang/String") (F_a1_value_0 : Fld Z h0 a1 "java/lang/String" "value" "[B" (.ref av)) (F_a1_coder_0 : Fld Z h0 a1 "java/lang/String" "coder" "B" (.int (0 : Int32))) (A_av_0 : Ari Z h0 av .byte 1 (strF "I")) :
    MetFree l y_18 (head1 (Jvm.Cond.code y_18 prog_2_method_35_code 1 (some .int) :: ws) ({ frames := 4, cells := 0, slots := 0, locals := 53 } : Room)) (fun a U => a = #[(.ref a1)] ∧ Z.Warmed39 U.vm ∧ U.heap = h0) (fun _ _ _ _ _ => True) (fun _ U o U' => ∃ v L, o = .returned v ∧ Q18 Z a1 G1 oF av h0 n0 v U'.heap L ∧ FrameEnd U o U' L ({ frames := 4, cells := 0, slots := 0, locals := 53 } : Room).cells ({ frames := 4, cells := 0, slots := 0, locals := 53 } : Room).slots) := by
  refine MetFree.of_bodySF (plainFor_of_name pn_18) hisR ?_
  intro p e s m args below meth c s₁ Bd hml0 hP hK
  obtain ⟨rfl, hZ, hh⟩ := hP
  have hx := Bd.exec
  have hby := Bd.bytes
  have hlk := Bd.notSynchronized
  have hml : c.maxLocals = 1 := hml0
  have hown : s.vm.findClass "com/example/proxysmith/proxysmith/Bytecode" = some m.cls := findClass_of_methodNamed Bd.named
  have hnm := (name_of_methodNamed Bd.named Bd.method).1
  have X0 : Stand p l e ({ frames := 4, cells := 0, slots := 0, locals := 53 } : Room) s m #[(.ref a1)] below meth c s₁ [] 0 0 := Stand.of_body Bd
  have e0 : s₁.heap = h0 := by rw [← hh, Bd.state]; rfl
  have N0 := Fr.nil n0
  have K0 : Keep h0 h0 [] := Keep.refl h0 _
  show Goes p e below s ({ frames := 4, cells := 0, slots := 0, locals := 53 } : Room).cells ({ frames := 4, cells := 0, slots := 0, locals := 53 } : Room).slots (Q18 Z a1 G1 oF av h0 n0) s₁ (entryFrame m #[(.ref a1)] 1)
  refine Goes.step (fun t k => castTop (ef_18 m a1) k) ?_
  refine Goes.step (fun _ k => XS.aloadN X0.here hx rfl (hb hby d18_0) rfl rfl k) ?_
  refine Goes.step (fun _ k => XS.iconst X0.here hx rfl (hb hby d18_1) k) ?_
  obtain ⟨T1, X1, e1, st1⟩ := own_pure (r := some (.int (73 : Int32))) (fun _ _ _ q => q) (callXV X0 hx hZ (C := "java/lang/String") (b := a1) (y := y_7) (z := y_7) hown (wof hw 68 rfl) (wof hw 69 rfl) (wof hw 71 rfl) (wof hw 70 rfl) (wof hw 72 rfl) (wof hw 5 rfl) (notFace_of_selects (args := #[]) (mvT hZ (wof hw 71 rfl))) (by decide) (W := 0) (argsL := [(.int (0 : Int32))]) (rest := []) (rm7 l Z a0 hw [] a1 (0 : Int32) G1 oF av 1 (strF "I") 0 (73 : Int32) h0 n0 Z0 O2 P3 (OL.keep K0 all0) O4 E_a1_0 F_a1_value_0 F_a1_coder_0 A_av_0 rfl (by decide) (by decide)) (by decide) (by decide) (by decide) (by decide) e0 E_a1_0 (g := (mkF m 2 #[vR a1] [(.int (0 : Int32)), (.ref a1)])) rfl (by rw [hml]; rfl) (lenOf pd_18_0 rfl) rfl (by show 2 * 0 + _ ≤ _; exact Nat.le_of_eq rfl) (hb hby d18_2))
  refine Goes.step st1 ?_
  show Goes p e below s _ _ _ T1 (mkF m 5 #[vR a1] [(.int (73 : Int32))])
  refine Goes.step (fun _ k => X1.lookupswitchMiss hx (g := (mkF m 5 #[vR a1] [(.int (73 : Int32))])) rfl rfl (hb hby d18_5) (by decide) (by decide) (by show (0 : Int) ≤ ((5 : Nat) : Int) + _; decide) _ k) ?_
  show Goes p e below s _ _ _ T1 (mkF m 72 #[vR a1] [])
  refine Goes.step (fun _ k => XS.iconst X1.here hx rfl (hb hby d18_72) k) ?_
  show Goes p e below s _ _ _ T1 (mkF m 73 #[vR a1] [(.int (0 : Int32))])
  exact Goes.outI X1 hx hlk Bd.returns (hb hby d18_73) (by rw [e1]; exact ⟨rfl, rfl, rfl⟩) (by decide) (by decide)
theorem d17_0 : decode jdk_29_method_65_code 0 = .ok (.iload_n 0, 1) := by decide +kernel
theorem d17_1 : decode jdk_29_method_65_code 1 = .ok (.iload_n 1, 1) := by decide +kernel
theorem d17_2 : decode jdk_29_method_65_code 2 = .ok (.if_icmp .lt 7, 3) := by decide +kernel
theorem d17_5 : decode jdk_29_method_65_code 5 = .ok (.iload_n 0, 1) := by decide +kernel
theorem d17_6 : decode jdk_29_method_65_code 6 = .ok (.goto 4, 3) := by decide +kernel
theorem d17_9 : decode jdk_29_method_65_code 9 = .ok (.iload_n 1, 1) := by decide +kernel
theorem d17_10 : decode jdk_29_method_65_code 10 = .ok (.ireturn, 1) := by decide +kernel
theorem ef_17 (m : MethodId) (p1 : Int32) (p2 : Int32) : entryFrame m #[(.int p1), (.int p2)] 2 = mkF m 0 #[.val (.int p1), .val (.int p2)] [] := by first | (simp [entryFrame, mkF, argsToLocals, Value.category]; done) | rfl
def f17 (p1 : Int32) (p2 : Int32) : Int32 := (if (p1 < p2) then p2 else p1)
set_option maxRecDepth 65536 in
set_option maxHeartbeats 40000000 in
theorem rm17 (l : Launch) (Z : State) (a0 : Array Value) (hw : ∀ d ∈ tables_1, d.before a0 Z = true) (ws : List Jvm.Cond) (p1 : Int32) (p2 : Int32) (h0 : Heap)  :
    MetFree l y_17 (head1 (Jvm.Cond.code y_17 jdk_29_method_65_code 2 (some .int) :: ws) ({ frames := 0, cells := 0, slots := 0, locals := 0 } : Room)) (fun a U => a = #[(.int p1), (.int p2)] ∧ Z.Warmed39 U.vm ∧ U.heap = h0) (fun _ _ _ _ _ => True) (fun _ U o U' => ∃ v L, o = .returned v ∧ PI h0 (f17 p1 p2) v U'.heap L ∧ FrameEnd U o U' L ({ frames := 0, cells := 0, slots := 0, locals := 0 } : Room).cells ({ frames := 0, cells := 0, slots := 0, locals := 0 } : Room).slots) := by
  refine MetFree.of_bodySF (Jvm.Free.JP.mathPlain rfl (by decide +kernel)) hisR ?_
  intro p e s m args below meth c s₁ Bd hml0 hP hK
  obtain ⟨rfl, hZ, hh⟩ := hP
  have hx := Bd.exec
  have hby := Bd.bytes
  have hlk := Bd.notSynchronized
  have hml : c.maxLocals = 2 := hml0
  have hown : s.vm.findClass "java/lang/Math" = some m.cls := findClass_of_methodNamed Bd.named
  have X0 : Stand p l e ({ frames := 0, cells := 0, slots := 0, locals := 0 } : Room) s m #[(.int p1), (.int p2)] below meth c s₁ [] 0 0 := Stand.of_body Bd
  have e0 : s₁.heap = h0 := by rw [← hh, Bd.state]; rfl
  show Goes p e below s ({ frames := 0, cells := 0, slots := 0, locals := 0 } : Room).cells ({ frames := 0, cells := 0, slots := 0, locals := 0 } : Room).slots (PI h0 (f17 p1 p2)) s₁ (entryFrame m #[(.int p1), (.int p2)] 2)
  refine Goes.step (fun t k => castTop (ef_17 m p1 p2) k) ?_
  refine Goes.step (fun _ k => XS.iloadN X0.here hx rfl (hb hby d17_0) rfl k) ?_
  show Goes p e below s _ _ _ s₁ (mkF m 1 #[.val (.int p1), .val (.int p2)] [(.int p1)])
  refine Goes.step (fun _ k => XS.iloadN X0.here hx rfl (hb hby d17_1) rfl k) ?_
  show Goes p e below s _ _ _ s₁ (mkF m 2 #[.val (.int p1), .val (.int p2)] [(.int p2), (.int p1)])
  refine Goes.ite (Q := PI h0) (fun hc2 => ?_) (fun hc2 => ?_)
  · refine Goes.step (fun _ k => XS.icmpYes X0.here hx rfl (pc0 := 2) (pc' := 9) rfl (hb hby d17_2) rfl (tlt hc2).1 (by decide) (by decide) k) ?_
    show Goes p e below s _ _ _ s₁ (mkF m 9 #[.val (.int p1), .val (.int p2)] [])
    refine Goes.step (fun _ k => XS.iloadN X0.here hx rfl (hb hby d17_9) rfl k) ?_
    show Goes p e below s _ _ _ s₁ (mkF m 10 #[.val (.int p1), .val (.int p2)] [(.int p2)])
    exact Goes.outI X0 hx hlk Bd.returns (hb hby d17_10) ⟨rfl, rfl, e0⟩ (by decide) (by decide)
  · refine Goes.step (fun _ k => XS.icmpNo X0.here hx rfl (hb hby d17_2) rfl (flt hc2).1 k) ?_
    show Goes p e below s _ _ _ s₁ (mkF m 5 #[.val (.int p1), .val (.int p2)] [])
    refine Goes.step (fun _ k => XS.iloadN X0.here hx rfl (hb hby d17_5) rfl k) ?_
    show Goes p e below s _ _ _ s₁ (mkF m 6 #[.val (.int p1), .val (.int p2)] [(.int p1)])
    refine Goes.step (fun _ k => XS.goto X0.here hx rfl (pc0 := 6) (pc' := 10) rfl (hb hby d17_6) (by decide) (by decide) k) ?_
    show Goes p e below s _ _ _ s₁ (mkF m 10 #[.val (.int p1), .val (.int p2)] [(.int p1)])
    exact Goes.outI X0 hx hlk Bd.returns (hb hby d17_10) ⟨rfl, rfl, e0⟩ (by decide) (by decide)
theorem own_max0 (x : Int32) : f17 x x = x := by
  simp only [f17]
  split <;> rfl
theorem own_max1 {k : Nat} (hk : k ≤ 8) : f17 (Int32.ofNat k) (Int32.ofNat (k + 1)) = Int32.ofNat (k + 1) := by
  simp only [f17]
  rw [if_pos (own_ltN (Nat.lt_succ_self k) (by omega))]
def Bya (Z : State) (h : Heap) (a : Addr) (co : Addr) (lj : Addr) (lf : Addr) (lh : Addr) (k : Nat) (ml : Int32) : Prop := Exa Z h a "com/example/proxysmith/proxysmith/Bytecode" ∧ Fld Z h a "com/example/proxysmith/proxysmith/Bytecode" "code" "Lcom/example/proxysmith/proxysmith/ClassFileWriter$Bytes;" (.ref co) ∧ Fld Z h a "com/example/proxysmith/proxysmith/Bytecode" "jumps" "Ljava/util/List;" (.ref lj) ∧ Fld Z h a "com/example/proxysmith/proxysmith/Bytecode" "frames" "Ljava/util/List;" (.ref lf) ∧ Fld Z h a "com/example/proxysmith/proxysmith/Bytecode" "handlers" "Ljava/util/List;" (.ref lh) ∧ Fld Z h a "com/example/proxysmith/proxysmith/Bytecode" "reachable" "Z" (.int (1 : Int32)) ∧ Fld Z h a "com/example/proxysmith/proxysmith/Bytecode" "stack" "I" (.int (Int32.ofNat k)) ∧ Fld Z h a "com/example/proxysmith/proxysmith/Bytecode" "maxStack" "I" (.int (Int32.ofNat k)) ∧ Fld Z h a "com/example/proxysmith/proxysmith/Bytecode" "maxLocals" "I" (.int ml)
theorem Bya.E {Z : State} {h : Heap} {a : Addr} {co : Addr} {lj : Addr} {lf : Addr} {lh : Addr} {k : Nat} {ml : Int32} (B : Bya Z h a co lj lf lh k ml) : Exa Z h a "com/example/proxysmith/proxysmith/Bytecode" := B.1
theorem Bya.Fcode {Z : State} {h : Heap} {a : Addr} {co : Addr} {lj : Addr} {lf : Addr} {lh : Addr} {k : Nat} {ml : Int32} (B : Bya Z h a co lj lf lh k ml) : Fld Z h a "com/example/proxysmith/proxysmith/Bytecode" "code" "Lcom/example/proxysmith/proxysmith/ClassFileWriter$Bytes;" (.ref co) := B.2.1
theorem Bya.Fjumps {Z : State} {h : Heap} {a : Addr} {co : Addr} {lj : Addr} {lf : Addr} {lh : Addr} {k : Nat} {ml : Int32} (B : Bya Z h a co lj lf lh k ml) : Fld Z h a "com/example/proxysmith/proxysmith/Bytecode" "jumps" "Ljava/util/List;" (.ref lj) := B.2.2.1
theorem Bya.Fframes {Z : State} {h : Heap} {a : Addr} {co : Addr} {lj : Addr} {lf : Addr} {lh : Addr} {k : Nat} {ml : Int32} (B : Bya Z h a co lj lf lh k ml) : Fld Z h a "com/example/proxysmith/proxysmith/Bytecode" "frames" "Ljava/util/List;" (.ref lf) := B.2.2.2.1
theorem Bya.Fhandlers {Z : State} {h : Heap} {a : Addr} {co : Addr} {lj : Addr} {lf : Addr} {lh : Addr} {k : Nat} {ml : Int32} (B : Bya Z h a co lj lf lh k ml) : Fld Z h a "com/example/proxysmith/proxysmith/Bytecode" "handlers" "Ljava/util/List;" (.ref lh) := B.2.2.2.2.1
theorem Bya.Freachable {Z : State} {h : Heap} {a : Addr} {co : Addr} {lj : Addr} {lf : Addr} {lh : Addr} {k : Nat} {ml : Int32} (B : Bya Z h a co lj lf lh k ml) : Fld Z h a "com/example/proxysmith/proxysmith/Bytecode" "reachable" "Z" (.int (1 : Int32)) := B.2.2.2.2.2.1
theorem Bya.Fstack {Z : State} {h : Heap} {a : Addr} {co : Addr} {lj : Addr} {lf : Addr} {lh : Addr} {k : Nat} {ml : Int32} (B : Bya Z h a co lj lf lh k ml) : Fld Z h a "com/example/proxysmith/proxysmith/Bytecode" "stack" "I" (.int (Int32.ofNat k)) := B.2.2.2.2.2.2.1
theorem Bya.FmaxStack {Z : State} {h : Heap} {a : Addr} {co : Addr} {lj : Addr} {lf : Addr} {lh : Addr} {k : Nat} {ml : Int32} (B : Bya Z h a co lj lf lh k ml) : Fld Z h a "com/example/proxysmith/proxysmith/Bytecode" "maxStack" "I" (.int (Int32.ofNat k)) := B.2.2.2.2.2.2.2.1
theorem Bya.FmaxLocals {Z : State} {h : Heap} {a : Addr} {co : Addr} {lj : Addr} {lf : Addr} {lh : Addr} {k : Nat} {ml : Int32} (B : Bya Z h a co lj lf lh k ml) : Fld Z h a "com/example/proxysmith/proxysmith/Bytecode" "maxLocals" "I" (.int ml) := B.2.2.2.2.2.2.2.2
theorem Bya.ext {Z : State} {h h' : Heap} {a : Addr} {co : Addr} {lj : Addr} {lf : Addr} {lh : Addr} {k : Nat} {ml : Int32} (B : Bya Z h a co lj lf lh k ml) (E : Ext h h') : Bya Z h' a co lj lf lh k ml := ⟨B.E.ext E, B.Fcode.ext E, B.Fjumps.ext E, B.Fframes.ext E, B.Fhandlers.ext E, B.Freachable.ext E, B.Fstack.ext E, B.FmaxStack.ext E, B.FmaxLocals.ext E⟩
theorem Bya.keep {Z : State} {h h' : Heap} {ws : List Addr} {a : Addr} {co : Addr} {lj : Addr} {lf : Addr} {lh : Addr} {k : Nat} {ml : Int32} (B : Bya Z h a co lj lf lh k ml) (K : Keep h h' ws) (qa : a ∉ ws) : Bya Z h' a co lj lf lh k ml := ⟨B.E.keep K, B.Fcode.keep K qa, B.Fjumps.keep K qa, B.Fframes.keep K qa, B.Fhandlers.keep K qa, B.Freachable.keep K qa, B.Fstack.keep K qa, B.FmaxStack.keep K qa, B.FmaxLocals.keep K qa⟩
def Byb (Z : State) (h : Heap) (co : Addr) (b : Addr) (sz : Nat) (f : Nat → Int32) : Prop := Exa Z h co "com/example/proxysmith/proxysmith/ClassFileWriter$Bytes" ∧ Fld Z h co "com/example/proxysmith/proxysmith/ClassFileWriter$Bytes" "bytes" "[B" (.ref b) ∧ Fld Z h co "com/example/proxysmith/proxysmith/ClassFileWriter$Bytes" "size" "I" (.int (Int32.ofNat sz)) ∧ Ari Z h b .byte 32 f
theorem Byb.E {Z : State} {h : Heap} {co : Addr} {b : Addr} {sz : Nat} {f : Nat → Int32} (B : Byb Z h co b sz f) : Exa Z h co "com/example/proxysmith/proxysmith/ClassFileWriter$Bytes" := B.1
theorem Byb.bytes {Z : State} {h : Heap} {co : Addr} {b : Addr} {sz : Nat} {f : Nat → Int32} (B : Byb Z h co b sz f) : Fld Z h co "com/example/proxysmith/proxysmith/ClassFileWriter$Bytes" "bytes" "[B" (.ref b) := B.2.1
theorem Byb.size {Z : State} {h : Heap} {co : Addr} {b : Addr} {sz : Nat} {f : Nat → Int32} (B : Byb Z h co b sz f) : Fld Z h co "com/example/proxysmith/proxysmith/ClassFileWriter$Bytes" "size" "I" (.int (Int32.ofNat sz)) := B.2.2.1
theorem Byb.A {Z : State} {h : Heap} {co : Addr} {b : Addr} {sz : Nat} {f : Nat → Int32} (B : Byb Z h co b sz f) : Ari Z h b .byte 32 f := B.2.2.2
theorem Byb.ext {Z : State} {h h' : Heap} {co : Addr} {b : Addr} {sz : Nat} {f : Nat → Int32} (B : Byb Z h co b sz f) (E : Ext h h') : Byb Z h' co b sz f := ⟨B.E.ext E, B.bytes.ext E, B.size.ext E, B.A.ext E⟩
theorem Byb.keep {Z : State} {h h' : Heap} {ws : List Addr} {co : Addr} {b : Addr} {sz : Nat} {f : Nat → Int32} (B : Byb Z h co b sz f) (K : Keep h h' ws) (qco : co ∉ ws) (qb : b ∉ ws) : Byb Z h' co b sz f := ⟨B.E.keep K, B.bytes.keep K qco, B.size.keep K qco, B.A.keep K qb⟩
def Byl (Z : State) (h : Heap) (lj : Addr) (lf : Addr) (lh : Addr) (oh : Addr) : Prop := Exa Z h lj "java/util/ArrayList" ∧ Fld Z h lj "java/util/ArrayList" "size" "I" (.int (0 : Int32)) ∧ Fld Z h lj "java/util/AbstractList" "modCount" "I" (.int (0 : Int32)) ∧ Exa Z h lf "java/util/ArrayList" ∧ Fld Z h lf "java/util/ArrayList" "size" "I" (.int (0 : Int32)) ∧ Exa Z h lh "java/util/ArrayList" ∧ Fld Z h lh "java/util/ArrayList" "size" "I" (.int (0 : Int32)) ∧ Fld Z h lh "java/util/AbstractList" "modCount" "I" (.int (0 : Int32)) ∧ Fld Z h lh "java/util/ArrayList" "elementData" "[Ljava/lang/Object;" (.ref oh) ∧ Arf Z h oh "java/lang/Object" 2 (fun _ => .null)
theorem Byl.Elj {Z : State} {h : Heap} {lj : Addr} {lf : Addr} {lh : Addr} {oh : Addr} (B : Byl Z h lj lf lh oh) : Exa Z h lj "java/util/ArrayList" := B.1
theorem Byl.slj {Z : State} {h : Heap} {lj : Addr} {lf : Addr} {lh : Addr} {oh : Addr} (B : Byl Z h lj lf lh oh) : Fld Z h lj "java/util/ArrayList" "size" "I" (.int (0 : Int32)) := B.2.1
theorem Byl.mlj {Z : State} {h : Heap} {lj : Addr} {lf : Addr} {lh : Addr} {oh : Addr} (B : Byl Z h lj lf lh oh) : Fld Z h lj "java/util/AbstractList" "modCount" "I" (.int (0 : Int32)) := B.2.2.1
theorem Byl.Elf {Z : State} {h : Heap} {lj : Addr} {lf : Addr} {lh : Addr} {oh : Addr} (B : Byl Z h lj lf lh oh) : Exa Z h lf "java/util/ArrayList" := B.2.2.2.1
theorem Byl.slf {Z : State} {h : Heap} {lj : Addr} {lf : Addr} {lh : Addr} {oh : Addr} (B : Byl Z h lj lf lh oh) : Fld Z h lf "java/util/ArrayList" "size" "I" (.int (0 : Int32)) := B.2.2.2.2.1
theorem Byl.Elh {Z : State} {h : Heap} {lj : Addr} {lf : Addr} {lh : Addr} {oh : Addr} (B : Byl Z h lj lf lh oh) : Exa Z h lh "java/util/ArrayList" := B.2.2.2.2.2.1
theorem Byl.slh {Z : State} {h : Heap} {lj : Addr} {lf : Addr} {lh : Addr} {oh : Addr} (B : Byl Z h lj lf lh oh) : Fld Z h lh "java/util/ArrayList" "size" "I" (.int (0 : Int32)) := B.2.2.2.2.2.2.1
theorem Byl.mlh {Z : State} {h : Heap} {lj : Addr} {lf : Addr} {lh : Addr} {oh : Addr} (B : Byl Z h lj lf lh oh) : Fld Z h lh "java/util/AbstractList" "modCount" "I" (.int (0 : Int32)) := B.2.2.2.2.2.2.2.1
theorem Byl.dlh {Z : State} {h : Heap} {lj : Addr} {lf : Addr} {lh : Addr} {oh : Addr} (B : Byl Z h lj lf lh oh) : Fld Z h lh "java/util/ArrayList" "elementData" "[Ljava/lang/Object;" (.ref oh) := B.2.2.2.2.2.2.2.2.1
theorem Byl.B {Z : State} {h : Heap} {lj : Addr} {lf : Addr} {lh : Addr} {oh : Addr} (B : Byl Z h lj lf lh oh) : Arf Z h oh "java/lang/Object" 2 (fun _ => .null) := B.2.2.2.2.2.2.2.2.2
theorem Byl.ext {Z : State} {h h' : Heap} {lj : Addr} {lf : Addr} {lh : Addr} {oh : Addr} (B : Byl Z h lj lf lh oh) (E : Ext h h') : Byl Z h' lj lf lh oh := ⟨B.Elj.ext E, B.slj.ext E, B.mlj.ext E, B.Elf.ext E, B.slf.ext E, B.Elh.ext E, B.slh.ext E, B.mlh.ext E, B.dlh.ext E, B.B.ext E⟩
theorem Byl.keep {Z : State} {h h' : Heap} {ws : List Addr} {lj : Addr} {lf : Addr} {lh : Addr} {oh : Addr} (B : Byl Z h lj lf lh oh) (K : Keep h h' ws) (qlj : lj ∉ ws) (qlf : lf ∉ ws) (qlh : lh ∉ ws) (qoh : oh ∉ ws) : Byl Z h' lj lf lh oh := ⟨B.Elj.keep K, B.slj.keep K qlj, B.mlj.keep K qlj, B.Elf.keep K, B.slf.keep K qlf, B.Elh.keep K, B.slh.keep K qlh, B.mlh.keep K qlh, B.dlh.keep K qlh, B.B.keep K qoh⟩
def Bym (Z : State) (h : Heap) (lj : Addr) (lf : Addr) (lh : Addr) (oh : Addr) (ha : Addr) (l1 : Addr) (l2 : Addr) (l3 : Addr) : Prop := Exa Z h lj "java/util/ArrayList" ∧ Fld Z h lj "java/util/ArrayList" "size" "I" (.int (0 : Int32)) ∧ Fld Z h lj "java/util/AbstractList" "modCount" "I" (.int (0 : Int32)) ∧ Exa Z h lf "java/util/ArrayList" ∧ Fld Z h lf "java/util/ArrayList" "size" "I" (.int (0 : Int32)) ∧ Exa Z h lh "java/util/ArrayList" ∧ Fld Z h lh "java/util/ArrayList" "size" "I" (.int (1 : Int32)) ∧ Fld Z h lh "java/util/AbstractList" "modCount" "I" (.int (1 : Int32)) ∧ Fld Z h lh "java/util/ArrayList" "elementData" "[Ljava/lang/Object;" (.ref oh) ∧ Arf Z h oh "java/lang/Object" 2 (updV (fun _ => .null) (0) (.ref ha)) ∧ Exa Z h ha "com/example/proxysmith/proxysmith/Bytecode$Handler" ∧ Fld Z h ha "com/example/proxysmith/proxysmith/Bytecode$Handler" "start" "Lcom/example/proxysmith/proxysmith/Bytecode$Label;" (.ref l1) ∧ Fld Z h ha "com/example/proxysmith/proxysmith/Bytecode$Handler" "end" "Lcom/example/proxysmith/proxysmith/Bytecode$Label;" (.ref l2) ∧ Fld Z h ha "com/example/proxysmith/proxysmith/Bytecode$Handler" "handler" "Lcom/example/proxysmith/proxysmith/Bytecode$Label;" (.ref l3) ∧ Fld Z h ha "com/example/proxysmith/proxysmith/Bytecode$Handler" "catchType" "Ljava/lang/String;" .null
theorem Bym.Elj {Z : State} {h : Heap} {lj : Addr} {lf : Addr} {lh : Addr} {oh : Addr} {ha : Addr} {l1 : Addr} {l2 : Addr} {l3 : Addr} (B : Bym Z h lj lf lh oh ha l1 l2 l3) : Exa Z h lj "java/util/ArrayList" := B.1
theorem Bym.slj {Z : State} {h : Heap} {lj : Addr} {lf : Addr} {lh : Addr} {oh : Addr} {ha : Addr} {l1 : Addr} {l2 : Addr} {l3 : Addr} (B : Bym Z h lj lf lh oh ha l1 l2 l3) : Fld Z h lj "java/util/ArrayList" "size" "I" (.int (0 : Int32)) := B.2.1
theorem Bym.mlj {Z : State} {h : Heap} {lj : Addr} {lf : Addr} {lh : Addr} {oh : Addr} {ha : Addr} {l1 : Addr} {l2 : Addr} {l3 : Addr} (B : Bym Z h lj lf lh oh ha l1 l2 l3) : Fld Z h lj "java/util/AbstractList" "modCount" "I" (.int (0 : Int32)) := B.2.2.1
theorem Bym.Elf {Z : State} {h : Heap} {lj : Addr} {lf : Addr} {lh : Addr} {oh : Addr} {ha : Addr} {l1 : Addr} {l2 : Addr} {l3 : Addr} (B : Bym Z h lj lf lh oh ha l1 l2 l3) : Exa Z h lf "java/util/ArrayList" := B.2.2.2.1
theorem Bym.slf {Z : State} {h : Heap} {lj : Addr} {lf : Addr} {lh : Addr} {oh : Addr} {ha : Addr} {l1 : Addr} {l2 : Addr} {l3 : Addr} (B : Bym Z h lj lf lh oh ha l1 l2 l3) : Fld Z h lf "java/util/ArrayList" "size" "I" (.int (0 : Int32)) := B.2.2.2.2.1
theorem Bym.Elh {Z : State} {h : Heap} {lj : Addr} {lf : Addr} {lh : Addr} {oh : Addr} {ha : Addr} {l1 : Addr} {l2 : Addr} {l3 : Addr} (B : Bym Z h lj lf lh oh ha l1 l2 l3) : Exa Z h lh "java/util/ArrayList" := B.2.2.2.2.2.1
theorem Bym.slh {Z : State} {h : Heap} {lj : Addr} {lf : Addr} {lh : Addr} {oh : Addr} {ha : Addr} {l1 : Addr} {l2 : Addr} {l3 : Addr} (B : Bym Z h lj lf lh oh ha l1 l2 l3) : Fld Z h lh "java/util/ArrayList" "size" "I" (.int (1 : Int32)) := B.2.2.2.2.2.2.1
theorem Bym.mlh {Z : State} {h : Heap} {lj : Addr} {lf : Addr} {lh : Addr} {oh : Addr} {ha : Addr} {l1 : Addr} {l2 : Addr} {l3 : Addr} (B : Bym Z h lj lf lh oh ha l1 l2 l3) : Fld Z h lh "java/util/AbstractList" "modCount" "I" (.int (1 : Int32)) := B.2.2.2.2.2.2.2.1
theorem Bym.dlh {Z : State} {h : Heap} {lj : Addr} {lf : Addr} {lh : Addr} {oh : Addr} {ha : Addr} {l1 : Addr} {l2 : Addr} {l3 : Addr} (B : Bym Z h lj lf lh oh ha l1 l2 l3) : Fld Z h lh "java/util/ArrayList" "elementData" "[Ljava/lang/Object;" (.ref oh) := B.2.2.2.2.2.2.2.2.1
theorem Bym.B {Z : State} {h : Heap} {lj : Addr} {lf : Addr} {lh : Addr} {oh : Addr} {ha : Addr} {l1 : Addr} {l2 : Addr} {l3 : Addr} (B : Bym Z h lj lf lh oh ha l1 l2 l3) : Arf Z h oh "java/lang/Object" 2 (updV (fun _ => .null) (0) (.ref ha)) := B.2.2.2.2.2.2.2.2.2.1
theorem Bym.Eha {Z : State} {h : Heap} {lj : Addr} {lf : Addr} {lh : Addr} {oh : Addr} {ha : Addr} {l1 : Addr} {l2 : Addr} {l3 : Addr} (B : Bym Z h lj lf lh oh ha l1 l2 l3) : Exa Z h ha "com/example/proxysmith/proxysmith/Bytecode$Handler" := B.2.2.2.2.2.2.2.2.2.2.1
theorem Bym.hstart {Z : State} {h : Heap} {lj : Addr} {lf : Addr} {lh : Addr} {oh : Addr} {ha : Addr} {l1 : Addr} {l2 : Addr} {l3 : Addr} (B : Bym Z h lj lf lh oh ha l1 l2 l3) : Fld Z h ha "com/example/proxysmith/proxysmith/Bytecode$Handler" "start" "Lcom/example/proxysmith/proxysmith/Bytecode$Label;" (.ref l1) := B.2.2.2.2.2.2.2.2.2.2.2.1
theorem Bym.hend {Z : State} {h : Heap} {lj : Addr} {lf : Addr} {lh : Addr} {oh : Addr} {ha : Addr} {l1 : Addr} {l2 : Addr} {l3 : Addr} (B : Bym Z h lj lf lh oh ha l1 l2 l3) : Fld Z h ha "com/example/proxysmith/proxysmith/Bytecode$Handler" "end" "Lcom/example/proxysmith/proxysmith/Bytecode$Label;" (.ref l2) := B.2.2.2.2.2.2.2.2.2.2.2.2.1
theorem Bym.hhandler {Z : State} {h : Heap} {lj : Addr} {lf : Addr} {lh : Addr} {oh : Addr} {ha : Addr} {l1 : Addr} {l2 : Addr} {l3 : Addr} (B : Bym Z h lj lf lh oh ha l1 l2 l3) : Fld Z h ha "com/example/proxysmith/proxysmith/Bytecode$Handler" "handler" "Lcom/example/proxysmith/proxysmith/Bytecode$Label;" (.ref l3) := B.2.2.2.2.2.2.2.2.2.2.2.2.2.1
theorem Bym.hcatch {Z : State} {h : Heap} {lj : Addr} {lf : Addr} {lh : Addr} {oh : Addr} {ha : Addr} {l1 : Addr} {l2 : Addr} {l3 : Addr} (B : Bym Z h lj lf lh oh ha l1 l2 l3) : Fld Z h ha "com/example/proxysmith/proxysmith/Bytecode$Handler" "catchType" "Ljava/lang/String;" .null := B.2.2.2.2.2.2.2.2.2.2.2.2.2.2
theorem Bym.ext {Z : State} {h h' : Heap} {lj : Addr} {lf : Addr} {lh : Addr} {oh : Addr} {ha : Addr} {l1 : Addr} {l2 : Addr} {l3 : Addr} (B : Bym Z h lj lf lh oh ha l1 l2 l3) (E : Ext h h') : Bym Z h' lj lf lh oh ha l1 l2 l3 := ⟨B.Elj.ext E, B.slj.ext E, B.mlj.ext E, B.Elf.ext E, B.slf.ext E, B.Elh.ext E, B.slh.ext E, B.mlh.ext E, B.dlh.ext E, B.B.ext E, B.Eha.ext E, B.hstart.ext E, B.hend.ext E, B.hhandler.ext E, B.hcatch.ext E⟩
theorem Bym.keep {Z : State} {h h' : Heap} {ws : List Addr} {lj : Addr} {lf : Addr} {lh : Addr} {oh : Addr} {ha : Addr} {l1 : Addr} {l2 : Addr} {l3 : Addr} (B : Bym Z h lj lf lh oh ha l1 l2 l3) (K : Keep h h' ws) (qlj : lj ∉ ws) (qlf : lf ∉ ws) (qlh : lh ∉ ws) (qoh : oh ∉ ws) (qha : ha ∉ ws) : Bym Z h' lj lf lh oh ha l1 l2 l3 := ⟨B.Elj.keep K, B.slj.keep K qlj, B.mlj.keep K qlj, B.Elf.keep K, B.slf.keep K qlf, B.Elh.keep K, B.slh.keep K qlh, B.mlh.keep K qlh, B.dlh.keep K qlh, B.B.keep K qoh, B.Eha.keep K, B.hstart.keep K qha, B.hend.keep K qha, B.hhandler.keep K qha, B.hcatch.keep K qha⟩
def Byn (a co b lj lf lh oh : Addr) : Prop := a ≠ co ∧ a ≠ b ∧ a ≠ lj ∧ a ≠ lf ∧ a ≠ lh ∧ a ≠ oh ∧ co ≠ b ∧ co ≠ lj ∧ co ≠ lf ∧ co ≠ lh ∧ co ≠ oh ∧ b ≠ lj ∧ b ≠ lf ∧ b ≠ lh ∧ b ≠ oh ∧ lj ≠ lf ∧ lj ≠ lh ∧ lj ≠ oh ∧ lf ≠ lh ∧ lf ≠ oh ∧ lh ≠ oh
theorem Byn.a_co {a co b lj lf lh oh : Addr} (B : Byn a co b lj lf lh oh) : a ≠ co := B.1
theorem Byn.a_b {a co b lj lf lh oh : Addr} (B : Byn a co b lj lf lh oh) : a ≠ b := B.2.1
theorem Byn.a_lj {a co b lj lf lh oh : Addr} (B : Byn a co b lj lf lh oh) : a ≠ lj := B.2.2.1
theorem Byn.a_lf {a co b lj lf lh oh : Addr} (B : Byn a co b lj lf lh oh) : a ≠ lf := B.2.2.2.1
theorem Byn.a_lh {a co b lj lf lh oh : Addr} (B : Byn a co b lj lf lh oh) : a ≠ lh := B.2.2.2.2.1
theorem Byn.a_oh {a co b lj lf lh oh : Addr} (B : Byn a co b lj lf lh oh) : a ≠ oh := B.2.2.2.2.2.1
theorem Byn.co_b {a co b lj lf lh oh : Addr} (B : Byn a co b lj lf lh oh) : co ≠ b := B.2.2.2.2.2.2.1
theorem Byn.co_lj {a co b lj lf lh oh : Addr} (B : Byn a co b lj lf lh oh) : co ≠ lj := B.2.2.2.2.2.2.2.1
theorem Byn.co_lf {a co b lj lf lh oh : Addr} (B : Byn a co b lj lf lh oh) : co ≠ lf := B.2.2.2.2.2.2.2.2.1
theorem Byn.co_lh {a co b lj lf lh oh : Addr} (B : Byn a co b lj lf lh oh) : co ≠ lh := B.2.2.2.2.2.2.2.2.2.1
theorem Byn.co_oh {a co b lj lf lh oh : Addr} (B : Byn a co b lj lf lh oh) : co ≠ oh := B.2.2.2.2.2.2.2.2.2.2.1
theorem Byn.b_lj {a co b lj lf lh oh : Addr} (B : Byn a co b lj lf lh oh) : b ≠ lj := B.2.2.2.2.2.2.2.2.2.2.2.1
theorem Byn.b_lf {a co b lj lf lh oh : Addr} (B : Byn a co b lj lf lh oh) : b ≠ lf := B.2.2.2.2.2.2.2.2.2.2.2.2.1
theorem Byn.b_lh {a co b lj lf lh oh : Addr} (B : Byn a co b lj lf lh oh) : b ≠ lh := B.2.2.2.2.2.2.2.2.2.2.2.2.2.1
theorem Byn.b_oh {a co b lj lf lh oh : Addr} (B : Byn a co b lj lf lh oh) : b ≠ oh := B.2.2.2.2.2.2.2.2.2.2.2.2.2.2.1
theorem Byn.lj_lh {a co b lj lf lh oh : Addr} (B : Byn a co b lj lf lh oh) : lj ≠ lh := B.2.2.2.2.2.2.2.2.2.2.2.2.2.2.2.2.1
theorem Byn.lj_oh {a co b lj lf lh oh : Addr} (B : Byn a co b lj lf lh oh) : lj ≠ oh := B.2.2.2.2.2.2.2.2.2.2.2.2.2.2.2.2.2.1
theorem Byn.lf_lh {a co b lj lf lh oh : Addr} (B : Byn a co b lj lf lh oh) : lf ≠ lh := B.2.2.2.2.2.2.2.2.2.2.2.2.2.2.2.2.2.2.1
theorem Byn.lf_oh {a co b lj lf lh oh : Addr} (B : Byn a co b lj lf lh oh) : lf ≠ oh := B.2.2.2.2.2.2.2.2.2.2.2.2.2.2.2.2.2.2.2.1
theorem Byn.lh_oh {a co b lj lf lh oh : Addr} (B : Byn a co b lj lf lh oh) : lh ≠ oh := B.2.2.2.2.2.2.2.2.2.2.2.2.2.2.2.2.2.2.2.2
theorem d22_0 : decode prog_2_method_44_code 0 = .ok (.aload_n 0, 1) := by decide +kernel
theorem d22_1 : decode prog_2_method_44_code 1 = .ok (.dup, 1) := by decide +kernel
theorem d22_2 : decode prog_2_method_44_code 2 = .ok (.getfield 113, 3) := by decide +kernel
theorem d22_5 : decode prog_2_method_44_code 5 = .ok (.iload_n 1, 1) := by decide +kernel
theorem d22_6 : decode prog_2_method_44_code 6 = .ok (.iadd, 1) := by decide +kernel
theorem d22_7 : decode prog_2_method_44_code 7 = .ok (.putfield 113, 3) := by decide +kernel
theorem d22_10 : decode prog_2_method_44_code 10 = .ok (.aload_n 0, 1) := by decide +kernel
theorem d22_11 : decode prog_2_method_44_code 11 = .ok (.aload_n 0, 1) := by decide +kernel
theorem d22_12 : decode prog_2_method_44_code 12 = .ok (.getfield 220, 3) := by decide +kernel
theorem d22_15 : decode prog_2_method_44_code 15 = .ok (.aload_n 0, 1) := by decide +kernel
theorem d22_16 : decode prog_2_method_44_code 16 = .ok (.getfield 113, 3) := by decide +kernel
theorem d22_19 : decode prog_2_method_44_code 19 = .ok (.invokestatic 286, 3) := by decide +kernel
theorem d22_22 : decode prog_2_method_44_code 22 = .ok (.putfield 220, 3) := by decide +kernel
theorem d22_25 : decode prog_2_method_44_code 25 = .ok (.return_, 1) := by decide +kernel
theorem pn_22 : plainName "com/example/proxysmith/proxysmith/Bytecode" = true := by first | (simp [plainName, overriddenIn]; done) | decide +kernel
theorem pd_22j0_0 : parseMethodDescriptor "(II)I" = some ⟨[.int, .int], some .int⟩ := by decide +kernel
theorem ef_22j0 (m : MethodId) (a1 : Addr) : entryFrame m #[(.ref a1), (.int (0 : Int32))] 2 = mkF m 0 #[.val (.ref a1), .val (.int (0 : Int32))] [] := by first | (simp [entryFrame, mkF, argsToLocals, Value.category]; done) | rfl
def Q22j0 (Z : State) (a1 : Addr) (co : Addr) (lj : Addr) (lf : Addr) (lh : Addr) (k : Nat) (ml : Int32) (h0 : Heap) (n0 : Nat) (v : Option Value) (h : Heap) (L : List Loc) : Prop := v = none ∧ Fr n0 L ∧ Keep h0 h [a1] ∧ Bya Z h a1 co lj lf lh k ml
set_option maxRecDepth 65536 in
set_option maxHeartbeats 40000000 in
theorem rm22j0 (l : Launch) (Z : State) (a0 : Array Value) (hw : ∀ d ∈ tables_1, d.before a0 Z = true) (ws : List Jvm.Cond) (a1 : Addr) (co : Addr) (lj : Addr) (lf : Addr) (lh : Addr) (k : Nat) (ml : Int32) (h0 : Heap) (n0 : Nat) (Z0 : n0 ≤ h0.size) (HA : Bya Z h0 a1 co lj lf lh k ml) (ge_a1 : n0 ≤ a1) (hk : k ≤ 8) :
    MetFree l y_22 (head1 (Jvm.Cond.code y_22 prog_2_method_44_code 2 none :: ws) ({ frames := 1, cells := 0, slots := 0, locals := 14 } : Room)) (fun a U => a = #[(.ref a1), (.int (0 : Int32))] ∧ Z.Warmed39 U.vm ∧ U.heap = h0) (fun _ _ _ _ _ => True) (fun _ U o U' => ∃ v L, o = .returned v ∧ Q22j0 Z a1 co lj lf lh k ml h0 n0 v U'.heap L ∧ FrameEnd U o U' L ({ frames := 1, cells := 0, slots := 0, locals := 14 } : Room).cells ({ frames := 1, cells := 0, slots := 0, locals := 14 } : Room).slots) := by
  refine MetFree.of_bodySF (plainFor_of_name pn_22) hisR ?_
  intro p e s m args below meth c s₁ Bd hml0 hP hK
  obtain ⟨rfl, hZ, hh⟩ := hP
  have hx := Bd.exec
  have hby := Bd.bytes
  have hlk := Bd.notSynchronized
  have hml : c.maxLocals = 2 := hml0
  have hown : s.vm.findClass "com/example/proxysmith/proxysmith/Bytecode" = some m.cls := findClass_of_methodNamed Bd.named
  have hnm := (name_of_methodNamed Bd.named Bd.method).1
  have X0 : Stand p l e ({ frames := 1, cells := 0, slots := 0, locals := 14 } : Room) s m #[(.ref a1), (.int (0 : Int32))] below meth c s₁ [] 0 0 := Stand.of_body Bd
  have e0 : s₁.heap = h0 := by rw [← hh, Bd.state]; rfl
  have N0 := Fr.nil n0
  have K0 : Keep h0 h0 [a1] := Keep.refl h0 _
  show Goes p e below s ({ frames := 1, cells := 0, slots := 0, locals := 14 } : Room).cells ({ frames := 1, cells := 0, slots := 0, locals := 14 } : Room).slots (Q22j0 Z a1 co lj lf lh k ml h0 n0) s₁ (entryFrame m #[(.ref a1), (.int (0 : Int32))] 2)
  refine Goes.step (fun t k => castTop (ef_22j0 m a1) k) ?_
  obtain ⟨E_a1_0, F_a1_code_0, F_a1_jumps_0, F_a1_frames_0, F_a1_handlers_0, F_a1_reachable_0, F_a1_stack_0, F_a1_maxStack_0, F_a1_maxLocals_0⟩ := HA
  refine Goes.step (fun _ k => XS.aloadN X0.here hx rfl (hb hby d22_0) rfl rfl k) ?_
  refine Goes.step (fun _ k => XS.dup X0.here hx rfl (hb hby d22_1) rfl rfl k) ?_
  obtain ⟨T1, X1, e1, st1⟩ := getF X0 hx hZ hown (host := "") (Or.inl (wof hw 151 rfl)) Via.refl e0 F_a1_stack_0 (g := (mkF m 2 #[vR a1, vI (0 : Int32)] [(.ref a1), (.ref a1)])) rfl rfl (hb hby d22_2)
  refine Goes.step st1 ?_
  show Goes p e below s _ _ _ T1 (mkF m 5 #[vR a1, vI (0 : Int32)] [(.int (Int32.ofNat k)), (.ref a1)])
  refine Goes.step (fun _ k => XS.iloadN X1.here hx rfl (hb hby d22_5) rfl k) ?_
  refine Goes.step (fun _ k => XS.iadd X1.here hx rfl (hb hby d22_6) rfl k) ?_
  show Goes p e below s _ _ _ T1 (mkF m 7 #[vR a1, vI (0 : Int32)] [(.int ((Int32.ofNat k) + (0 : Int32))), (.ref a1)])
  rw [show (Int32.ofNat k) + (0 : Int32) = Int32.ofNat k from Int32.add_zero _]
  obtain ⟨T2, h2, X2, e2, W2, st2⟩ := putF X1 hx hZ hown (host := "") (Or.inl (wof hw 151 rfl)) Via.refl e1 F_a1_stack_0 E_a1_0 (Or.inl (wof hw 152 rfl)) (wof hw 2 rfl) (ty := .int) (by decide) rfl rfl (g := (mkF m 7 #[vR a1, vI (0 : Int32)] [(.int (Int32.ofNat k)), (.ref a1)])) rfl rfl (hb hby d22_7)
  refine Goes.step st2 ?_
  have E_a1_2 := E_a1_0.wr W2
  have F_a1_code_2 := F_a1_code_0.other W2 (Or.inr (slot_ne (Or.inr (wof hw 28 rfl)) (Or.inl (wof hw 152 rfl)) (by decide) (t := (.object "com/example/proxysmith/proxysmith/ClassFileWriter$Bytes")) (t' := .int) (by decide) (by decide)))
  have F_a1_jumps_2 := F_a1_jumps_0.other W2 (Or.inr (slot_ne (Or.inr (wof hw 55 rfl)) (Or.inl (wof hw 152 rfl)) (by decide) (t := (.object "java/util/List")) (t' := .int) (by decide) (by decide)))
  have F_a1_frames_2 := F_a1_frames_0.other W2 (Or.inr (slot_ne (Or.inr (wof hw 57 rfl)) (Or.inl (wof hw 152 rfl)) (by decide) (t := (.object "java/util/List")) (t' := .int) (by decide) (by decide)))
  have F_a1_handlers_2 := F_a1_handlers_0.other W2 (Or.inr (slot_ne (Or.inr (wof hw 59 rfl)) (Or.inl (wof hw 152 rfl)) (by decide) (t := (.object "java/util/List")) (t' := .int) (by decide) (by decide)))
  have F_a1_reachable_2 := F_a1_reachable_0.other W2 (Or.inr (slot_ne (Or.inl (wof hw 61 rfl)) (Or.inl (wof hw 152 rfl)) (by decide) (t := .boolean) (t' := .int) (by decide) (by decide)))
  have F_a1_maxStack_2 := F_a1_maxStack_0.other W2 (Or.inr (slot_ne (Or.inl (wof hw 154 rfl)) (Or.inl (wof hw 152 rfl)) (by decide) (t := .int) (t' := .int) (by decide) (by decide)))
  have F_a1_maxLocals_2 := F_a1_maxLocals_0.other W2 (Or.inr (slot_ne (Or.inl (wof hw 97 rfl)) (Or.inl (wof hw 152 rfl)) (by decide) (t := .int) (t' := .int) (by decide) (by decide)))
  have z_2 : n0 ≤ h2.size := by rw [W2.size]; exact Z0
  have K_2 : Keep h0 h2 [a1] := K0.wr W2 (Or.inl (List.mem_of_getElem? (i := 0) rfl))
  have N_2 := Fr.snoc X2 N0 ge_a1
  have F_a1_stack_2 : Fld Z h2 a1 "com/example/proxysmith/proxysmith/Bytecode" "stack" "I" (.int (Int32.ofNat k)) := F_a1_stack_0.same W2
  show Goes p e below s _ _ _ T2 (mkF m 10 #[vR a1, vI (0 : Int32)] [])
  refine Goes.step (fun _ k => XS.aloadN X2.here hx rfl (hb hby d22_10) rfl rfl k) ?_
  refine Goes.step (fun _ k => XS.aloadN X2.here hx rfl (hb hby d22_11) rfl rfl k) ?_
  obtain ⟨T3, X3, e3, st3⟩ := getF X2 hx hZ hown (host := "") (Or.inl (wof hw 153 rfl)) Via.refl e2 F_a1_maxStack_2 (g := (mkF m 12 #[vR a1, vI (0 : Int32)] [(.ref a1), (.ref a1)])) rfl rfl (hb hby d22_12)
  refine Goes.step st3 ?_
  show Goes p e below s _ _ _ T3 (mkF m 15 #[vR a1, vI (0 : Int32)] [(.int (Int32.ofNat k)), (.ref a1)])
  refine Goes.step (fun _ k => XS.aloadN X3.here hx rfl (hb hby d22_15) rfl rfl k) ?_
  obtain ⟨T4, X4, e4, st4⟩ := getF X3 hx hZ hown (host := "") (Or.inl (wof hw 151 rfl)) Via.refl e3 F_a1_stack_2 (g := (mkF m 16 #[vR a1, vI (0 : Int32)] [(.ref a1), (.int (Int32.ofNat k)), (.ref a1)])) rfl rfl (hb hby d22_16)
  refine Goes.step st4 ?_
  show Goes p e below s _ _ _ T4 (mkF m 19 #[vR a1, vI (0 : Int32)] [(.int (Int32.ofNat k)), (.int (Int32.ofNat k)), (.ref a1)])
  obtain ⟨T5, X5, e5, st5⟩ := callPure X4 hx hZ (y := y_17) hown (wof hw 125 rfl) (wof hw 126 rfl) (wof hw 127 rfl) (wof hw 128 rfl) (by decide) (W := 1) (argsL := [(.int (Int32.ofNat k)), (.int (Int32.ofNat k))]) (rest := [(.ref a1)]) (r := (.int (f17 (Int32.ofNat k) (Int32.ofNat k)))) (fun _ _ _ q => q) (rm17 l Z a0 hw [] (Int32.ofNat k) (Int32.ofNat k) h2 ) (by decide) (by decide) (by decide) (by decide) e4 (g := (mkF m 19 #[vR a1, vI (0 : Int32)] [(.int (Int32.ofNat k)), (.int (Int32.ofNat k)), (.ref a1)])) rfl (by rw [hml]; rfl) (lenOf pd_22j0_0 rfl) rfl (by show 2 * 0 + _ ≤ _; exact Nat.le_of_eq rfl) (hb hby d22_19)
  refine Goes.step st5 ?_
  show Goes p e below s _ _ _ T5 (mkF m 22 #[vR a1, vI (0 : Int32)] [(.int (f17 (Int32.ofNat k) (Int32.ofNat k))), (.ref a1)])
  rw [own_max0]
  obtain ⟨T6, h6, X6, e6, W6, st6⟩ := putF X5 hx hZ hown (host := "") (Or.inl (wof hw 153 rfl)) Via.refl e5 F_a1_maxStack_2 E_a1_2 (Or.inl (wof hw 154 rfl)) (wof hw 2 rfl) (ty := .int) (by decide) rfl rfl (g := (mkF m 22 #[vR a1, vI (0 : Int32)] [(.int (Int32.ofNat k)), (.ref a1)])) rfl rfl (hb hby d22_22)
  refine Goes.step st6 ?_
  have E_a1_6 := E_a1_2.wr W6
  have F_a1_code_6 := F_a1_code_2.other W6 (Or.inr (slot_ne (Or.inr (wof hw 28 rfl)) (Or.inl (wof hw 154 rfl)) (by decide) (t := (.object "com/example/proxysmith/proxysmith/ClassFileWriter$Bytes")) (t' := .int) (by decide) (by decide)))
  have F_a1_jumps_6 := F_a1_jumps_2.other W6 (Or.inr (slot_ne (Or.inr (wof hw 55 rfl)) (Or.inl (wof hw 154 rfl)) (by decide) (t := (.object "java/util/List")) (t' := .int) (by decide) (by decide)))
  have F_a1_frames_6 := F_a1_frames_2.other W6 (Or.inr (slot_ne (Or.inr (wof hw 57 rfl)) (Or.inl (wof hw 154 rfl)) (by decide) (t := (.object "java/util/List")) (t' := .int) (by decide) (by decide)))
  have F_a1_handlers_6 := F_a1_handlers_2.other W6 (Or.inr (slot_ne (Or.inr (wof hw 59 rfl)) (Or.inl (wof hw 154 rfl)) (by decide) (t := (.object "java/util/List")) (t' := .int) (by decide) (by decide)))
  have F_a1_reachable_6 := F_a1_reachable_2.other W6 (Or.inr (slot_ne (Or.inl (wof hw 61 rfl)) (Or.inl (wof hw 154 rfl)) (by decide) (t := .boolean) (t' := .int) (by decide) (by decide)))
  have F_a1_stack_6 := F_a1_stack_2.other W6 (Or.inr (slot_ne (Or.inl (wof hw 152 rfl)) (Or.inl (wof hw 154 rfl)) (by decide) (t := .int) (t' := .int) (by decide) (by decide)))
  have F_a1_maxLocals_6 := F_a1_maxLocals_2.other W6 (Or.inr (slot_ne (Or.inl (wof hw 97 rfl)) (Or.inl (wof hw 154 rfl)) (by decide) (t := .int) (t' := .int) (by decide) (by decide)))
  have z_6 : n0 ≤ h6.size := by rw [W6.size]; exact z_2
  have K_6 : Keep h0 h6 [a1] := K_2.wr W6 (Or.inl (List.mem_of_getElem? (i := 0) rfl))
  have N_6 := Fr.snoc X6 N_2 ge_a1
  have F_a1_maxStack_6 : Fld Z h6 a1 "com/example/proxysmith/proxysmith/Bytecode" "maxStack" "I" (.int (Int32.ofNat k)) := F_a1_maxStack_2.same W6
  show Goes p e below s _ _ _ T6 (mkF m 25 #[vR a1, vI (0 : Int32)] [])
  exact Goes.outV X6 hx hlk Bd.returns (hb hby d22_25) (by rw [e6]; exact ⟨rfl, N_6, K_6, ⟨E_a1_6, F_a1_code_6, F_a1_jumps_6, F_a1_frames_6, F_a1_handlers_6, F_a1_reachable_6, F_a1_stack_6, F_a1_maxStack_6, F_a1_maxLocals_6⟩⟩) (by decide) (by decide)
theorem pd_22j1_0 : parseMethodDescriptor "(II)I" = some ⟨[.int, .int], some .int⟩ := by decide +kernel
theorem ef_22j1 (m : MethodId) (a1 : Addr) : entryFrame m #[(.ref a1), (.int (1 : Int32))] 2 = mkF m 0 #[.val (.ref a1), .val (.int (1 : Int32))] [] := by first | (simp [entryFrame, mkF, argsToLocals, Value.category]; done) | rfl
def Q22j1 (Z : State) (a1 : Addr) (co : Addr) (lj : Addr) (lf : Addr) (lh : Addr) (k : Nat) (ml : Int32) (h0 : Heap) (n0 : Nat) (v : Option Value) (h : Heap) (L : List Loc) : Prop := v = none ∧ Fr n0 L ∧ Keep h0 h [a1] ∧ Bya Z h a1 co lj lf lh (k + 1) ml
set_option maxRecDepth 65536 in
set_option maxHeartbeats 40000000 in
theorem rm22j1 (l : Launch) (Z : State) (a0 : Array Value) (hw : ∀ d ∈ tables_1, d.before a0 Z = true) (ws : List Jvm.Cond) (a1 : Addr) (co : Addr) (lj : Addr) (lf : Addr) (lh : Addr) (k : Nat) (ml : Int32) (h0 : Heap) (n0 : Nat) (Z0 : n0 ≤ h0.size) (HA : Bya Z h0 a1 co lj lf lh k ml) (ge_a1 : n0 ≤ a1) (hk : k ≤ 8) :
    MetFree l y_22 (head1 (Jvm.Cond.code y_22 prog_2_method_44_code 2 none :: ws) ({ frames := 1, cells := 0, slots := 0, locals := 14 } : Room)) (fun a U => a = #[(.ref a1), (.int (1 : Int32))] ∧ Z.Warmed39 U.vm ∧ U.heap = h0) (fun _ _ _ _ _ => True) (fun _ U o U' => ∃ v L, o = .returned v ∧ Q22j1 Z a1 co lj lf lh k ml h0 n0 v U'.heap L ∧ FrameEnd U o U' L ({ frames := 1, cells := 0, slots := 0, locals := 14 } : Room).cells ({ frames := 1, cells := 0, slots := 0, locals := 14 } : Room).slots) := by
  refine MetFree.of_bodySF (plainFor_of_name pn_22) hisR ?_
  intro p e s m args below meth c s₁ Bd hml0 hP hK
  obtain ⟨rfl, hZ, hh⟩ := hP
  have hx := Bd.exec
  have hby := Bd.bytes
  have hlk := Bd.notSynchronized
  have hml : c.maxLocals = 2 := hml0
  have hown : s.vm.findClass "com/example/proxysmith/proxysmith/Bytecode" = some m.cls := findClass_of_methodNamed Bd.named
  have hnm := (name_of_methodNamed Bd.named Bd.method).1
  have X0 : Stand p l e ({ frames := 1, cells := 0, slots := 0, locals := 14 } : Room) s m #[(.ref a1), (.int (1 : Int32))] below meth c s₁ [] 0 0 := Stand.of_body Bd
  have e0 : s₁.heap = h0 := by rw [← hh, Bd.state]; rfl
  have N0 := Fr.nil n0
  have K0 : Keep h0 h0 [a1] := Keep.refl h0 _
  show Goes p e below s ({ frames := 1, cells := 0, slots := 0, locals := 14 } : Room).cells ({ frames := 1, cells := 0, slots := 0, locals := 14 } : Room).slots (Q22j1 Z a1 co lj lf lh k ml h0 n0) s₁ (entryFrame m #[(.ref a1), (.int (1 : Int32))] 2)
  refine Goes.step (fun t k => castTop (ef_22j1 m a1) k) ?_
  obtain ⟨E_a1_0, F_a1_code_0, F_a1_jumps_0, F_a1_frames_0, F_a1_handlers_0, F_a1_reachable_0, F_a1_stack_0, F_a1_maxStack_0, F_a1_maxLocals_0⟩ := HA
  refine Goes.step (fun _ k => XS.aloadN X0.here hx rfl (hb hby d22_0) rfl rfl k) ?_
  refine Goes.step (fun _ k => XS.dup X0.here hx rfl (hb hby d22_1) rfl rfl k) ?_
  obtain ⟨T1, X1, e1, st1⟩ := getF X0 hx hZ hown (host := "") (Or.inl (wof hw 151 rfl)) Via.refl e0 F_a1_stack_0 (g := (mkF m 2 #[vR a1, vI (1 : Int32)] [(.ref a1), (.ref a1)])) rfl rfl (hb hby d22_2)
  refine Goes.step st1 ?_
  show Goes p e below s _ _ _ T1 (mkF m 5 #[vR a1, vI (1 : Int32)] [(.int (Int32.ofNat k)), (.ref a1)])
  refine Goes.step (fun _ k => XS.iloadN X1.here hx rfl (hb hby d22_5) rfl k) ?_
  refine Goes.step (fun _ k => XS.iadd X1.here hx rfl (hb hby d22_6) rfl k) ?_
  show Goes p e below s _ _ _ T1 (mkF m 7 #[vR a1, vI (1 : Int32)] [(.int ((Int32.ofNat k) + (1 : Int32))), (.ref a1)])
  rw [show (Int32.ofNat k) + (1 : Int32) = Int32.ofNat (k + 1) from own_succ k]
  obtain ⟨T2, h2, X2, e2, W2, st2⟩ := putF X1 hx hZ hown (host := "") (Or.inl (wof hw 151 rfl)) Via.refl e1 F_a1_stack_0 E_a1_0 (Or.inl (wof hw 152 rfl)) (wof hw 2 rfl) (ty := .int) (by decide) rfl rfl (g := (mkF m 7 #[vR a1, vI (1 : Int32)] [(.int (Int32.ofNat (k + 1))), (.ref a1)])) rfl rfl (hb hby d22_7)
  refine Goes.step st2 ?_
  have E_a1_2 := E_a1_0.wr W2
  have F_a1_code_2 := F_a1_code_0.other W2 (Or.inr (slot_ne (Or.inr (wof hw 28 rfl)) (Or.inl (wof hw 152 rfl)) (by decide) (t := (.object "com/example/proxysmith/proxysmith/ClassFileWriter$Bytes")) (t' := .int) (by decide) (by decide)))
  have F_a1_jumps_2 := F_a1_jumps_0.other W2 (Or.inr (slot_ne (Or.inr (wof hw 55 rfl)) (Or.inl (wof hw 152 rfl)) (by decide) (t := (.object "java/util/List")) (t' := .int) (by decide) (by decide)))
  have F_a1_frames_2 := F_a1_frames_0.other W2 (Or.inr (slot_ne (Or.inr (wof hw 57 rfl)) (Or.inl (wof hw 152 rfl)) (by decide) (t := (.object "java/util/List")) (t' := .int) (by decide) (by decide)))
  have F_a1_handlers_2 := F_a1_handlers_0.other W2 (Or.inr (slot_ne (Or.inr (wof hw 59 rfl)) (Or.inl (wof hw 152 rfl)) (by decide) (t := (.object "java/util/List")) (t' := .int) (by decide) (by decide)))
  have F_a1_reachable_2 := F_a1_reachable_0.other W2 (Or.inr (slot_ne (Or.inl (wof hw 61 rfl)) (Or.inl (wof hw 152 rfl)) (by decide) (t := .boolean) (t' := .int) (by decide) (by decide)))
  have F_a1_maxStack_2 := F_a1_maxStack_0.other W2 (Or.inr (slot_ne (Or.inl (wof hw 154 rfl)) (Or.inl (wof hw 152 rfl)) (by decide) (t := .int) (t' := .int) (by decide) (by decide)))
  have F_a1_maxLocals_2 := F_a1_maxLocals_0.other W2 (Or.inr (slot_ne (Or.inl (wof hw 97 rfl)) (Or.inl (wof hw 152 rfl)) (by decide) (t := .int) (t' := .int) (by decide) (by decide)))
  have z_2 : n0 ≤ h2.size := by rw [W2.size]; exact Z0
  have K_2 : Keep h0 h2 [a1] := K0.wr W2 (Or.inl (List.mem_of_getElem? (i := 0) rfl))
  have N_2 := Fr.snoc X2 N0 ge_a1
  have F_a1_stack_2 : Fld Z h2 a1 "com/example/proxysmith/proxysmith/Bytecode" "stack" "I" (.int (Int32.ofNat (k + 1))) := F_a1_stack_0.same W2
  show Goes p e below s _ _ _ T2 (mkF m 10 #[vR a1, vI (1 : Int32)] [])
  refine Goes.step (fun _ k => XS.aloadN X2.here hx rfl (hb hby d22_10) rfl rfl k) ?_
  refine Goes.step (fun _ k => XS.aloadN X2.here hx rfl (hb hby d22_11) rfl rfl k) ?_
  obtain ⟨T3, X3, e3, st3⟩ := getF X2 hx hZ hown (host := "") (Or.inl (wof hw 153 rfl)) Via.refl e2 F_a1_maxStack_2 (g := (mkF m 12 #[vR a1, vI (1 : Int32)] [(.ref a1), (.ref a1)])) rfl rfl (hb hby d22_12)
  refine Goes.step st3 ?_
  show Goes p e below s _ _ _ T3 (mkF m 15 #[vR a1, vI (1 : Int32)] [(.int (Int32.ofNat k)), (.ref a1)])
  refine Goes.step (fun _ k => XS.aloadN X3.here hx rfl (hb hby d22_15) rfl rfl k) ?_
  obtain ⟨T4, X4, e4, st4⟩ := getF X3 hx hZ hown (host := "") (Or.inl (wof hw 151 rfl)) Via.refl e3 F_a1_stack_2 (g := (mkF m 16 #[vR a1, vI (1 : Int32)] [(.ref a1), (.int (Int32.ofNat k)), (.ref a1)])) rfl rfl (hb hby d22_16)
  refine Goes.step st4 ?_
  show Goes p e below s _ _ _ T4 (mkF m 19 #[vR a1, vI (1 : Int32)] [(.int (Int32.ofNat (k + 1))), (.int (Int32.ofNat k)), (.ref a1)])
  obtain ⟨T5, X5, e5, st5⟩ := callPure X4 hx hZ (y := y_17) hown (wof hw 125 rfl) (wof hw 126 rfl) (wof hw 127 rfl) (wof hw 128 rfl) (by decide) (W := 1) (argsL := [(.int (Int32.ofNat k)), (.int (Int32.ofNat (k + 1)))]) (rest := [(.ref a1)]) (r := (.int (f17 (Int32.ofNat k) (Int32.ofNat (k + 1))))) (fun _ _ _ q => q) (rm17 l Z a0 hw [] (Int32.ofNat k) (Int32.ofNat (k + 1)) h2 ) (by decide) (by decide) (by decide) (by decide) e4 (g := (mkF m 19 #[vR a1, vI (1 : Int32)] [(.int (Int32.ofNat (k + 1))), (.int (Int32.ofNat k)), (.ref a1)])) rfl (by rw [hml]; rfl) (lenOf pd_22j1_0 rfl) rfl (by show 2 * 0 + _ ≤ _; exact Nat.le_of_eq rfl) (hb hby d22_19)
  refine Goes.step st5 ?_
  show Goes p e below s _ _ _ T5 (mkF m 22 #[vR a1, vI (1 : Int32)] [(.int (f17 (Int32.ofNat k) (Int32.ofNat (k + 1)))), (.ref a1)])
  rw [own_max1 hk]
  obtain ⟨T6, h6, X6, e6, W6, st6⟩ := putF X5 hx hZ hown (host := "") (Or.inl (wof hw 153 rfl)) Via.refl e5 F_a1_maxStack_2 E_a1_2 (Or.inl (wof hw 154 rfl)) (wof hw 2 rfl) (ty := .int) (by decide) rfl rfl (g := (mkF m 22 #[vR a1, vI (1 : Int32)] [(.int (Int32.ofNat (k + 1))), (.ref a1)])) rfl rfl (hb hby d22_22)
  refine Goes.step st6 ?_
  have E_a1_6 := E_a1_2.wr W6
  have F_a1_code_6 := F_a1_code_2.other W6 (Or.inr (slot_ne (Or.inr (wof hw 28 rfl)) (Or.inl (wof hw 154 rfl)) (by decide) (t := (.object "com/example/proxysmith/proxysmith/ClassFileWriter$Bytes")) (t' := .int) (by decide) (by decide)))
  have F_a1_jumps_6 := F_a1_jumps_2.other W6 (Or.inr (slot_ne (Or.inr (wof hw 55 rfl)) (Or.inl (wof hw 154 rfl)) (by decide) (t := (.object "java/util/List")) (t' := .int) (by decide) (by decide)))
  have F_a1_frames_6 := F_a1_frames_2.other W6 (Or.inr (slot_ne (Or.inr (wof hw 57 rfl)) (Or.inl (wof hw 154 rfl)) (by decide) (t := (.object "java/util/List")) (t' := .int) (by decide) (by decide)))
  have F_a1_handlers_6 := F_a1_handlers_2.other W6 (Or.inr (slot_ne (Or.inr (wof hw 59 rfl)) (Or.inl (wof hw 154 rfl)) (by decide) (t := (.object "java/util/List")) (t' := .int) (by decide) (by decide)))
  have F_a1_reachable_6 := F_a1_reachable_2.other W6 (Or.inr (slot_ne (Or.inl (wof hw 61 rfl)) (Or.inl (wof hw 154 rfl)) (by decide) (t := .boolean) (t' := .int) (by decide) (by decide)))
  have F_a1_stack_6 := F_a1_stack_2.other W6 (Or.inr (slot_ne (Or.inl (wof hw 152 rfl)) (Or.inl (wof hw 154 rfl)) (by decide) (t := .int) (t' := .int) (by decide) (by decide)))
  have F_a1_maxLocals_6 := F_a1_maxLocals_2.other W6 (Or.inr (slot_ne (Or.inl (wof hw 97 rfl)) (Or.inl (wof hw 154 rfl)) (by decide) (t := .int) (t' := .int) (by decide) (by decide)))
  have z_6 : n0 ≤ h6.size := by rw [W6.size]; exact z_2
  have K_6 : Keep h0 h6 [a1] := K_2.wr W6 (Or.inl (List.mem_of_getElem? (i := 0) rfl))
  have N_6 := Fr.snoc X6 N_2 ge_a1
  have F_a1_maxStack_6 : Fld Z h6 a1 "com/example/proxysmith/proxysmith/Bytecode" "maxStack" "I" (.int (Int32.ofNat (k + 1))) := F_a1_maxStack_2.same W6
  show Goes p e below s _ _ _ T6 (mkF m 25 #[vR a1, vI (1 : Int32)] [])
  exact Goes.outV X6 hx hlk Bd.returns (hb hby d22_25) (by rw [e6]; exact ⟨rfl, N_6, K_6, ⟨E_a1_6, F_a1_code_6, F_a1_jumps_6, F_a1_frames_6, F_a1_handlers_6, F_a1_reachable_6, F_a1_stack_6, F_a1_maxStack_6, F_a1_maxLocals_6⟩⟩) (by decide) (by decide)
theorem d19_0 : decode prog_2_method_46_code 0 = .ok (.aload_n 0, 1) := by decide +kernel
theorem d19_1 : decode prog_2_method_46_code 1 = .ok (.getfield 31, 3) := by decide +kernel
theorem d19_4 : decode prog_2_method_46_code 4 = .ok (.ifCond .ne 14, 3) := by decide +kernel
theorem d19_18 : decode prog_2_method_46_code 18 = .ok (.aload_n 0, 1) := by decide +kernel
theorem d19_19 : decode prog_2_method_46_code 19 = .ok (.getfield 12, 3) := by decide +kernel
theorem d19_22 : decode prog_2_method_46_code 22 = .ok (.iload_n 1, 1) := by decide +kernel
theorem d19_23 : decode prog_2_method_46_code 23 = .ok (.invokevirtual 258, 3) := by decide +kernel
theorem d19_26 : decode prog_2_method_46_code 26 = .ok (.iload_n 2, 1) := by decide +kernel
theorem d19_27 : decode prog_2_method_46_code 27 = .ok (.ifCond .ge 12, 3) := by decide +kernel
theorem d19_39 : decode prog_2_method_46_code 39 = .ok (.aload_n 0, 1) := by decide +kernel
theorem d19_40 : decode prog_2_method_46_code 40 = .ok (.iload_n 2, 1) := by decide +kernel
theorem d19_41 : decode prog_2_method_46_code 41 = .ok (.invokevirtual 139, 3) := by decide +kernel
theorem d19_44 : decode prog_2_method_46_code 44 = .ok (.return_, 1) := by decide +kernel
theorem pn_19 : plainName "com/example/proxysmith/proxysmith/Bytecode" = true := by first | (simp [plainName, overriddenIn]; done) | decide +kernel
theorem pd_19_0 : parseMethodDescriptor "(I)V" = some ⟨[.int], none⟩ := by decide +kernel
theorem ef_19 (m : MethodId) (a1 : Addr) (p2 : Int32) : entryFrame m #[(.ref a1), (.int p2), (.int (0 : Int32))] 3 = mkF m 0 #[.val (.ref a1), .val (.int p2), .val (.int (0 : Int32))] [] := by first | (simp [entryFrame, mkF, argsToLocals, Value.category]; done) | rfl
def Q19 (Z : State) (a1 : Addr) (p2 : Int32) (co : Addr) (lj : Addr) (lf : Addr) (lh : Addr) (k : Nat) (ml : Int32) (b : Addr) (sz : Nat) (f : Nat → Int32) (h0 : Heap) (n0 : Nat) (v : Option Value) (h : Heap) (L : List Loc) : Prop := v = none ∧ Fr n0 L ∧ Keep h0 h [a1, co, b] ∧ Bya Z h a1 co lj lf lh k ml ∧ ∃ f', Byb Z h co b (sz + 1) f'
set_option maxRecDepth 65536 in
set_option maxHeartbeats 40000000 in
theorem rm19 (l : Launch) (Z : State) (a0 : Array Value) (hw : ∀ d ∈ tables_1, d.before a0 Z = true) (ws : List Jvm.Cond) (a1 : Addr) (p2 : Int32) (co : Addr) (lj : Addr) (lf : Addr) (lh : Addr) (k : Nat) (ml : Int32) (b : Addr) (sz : Nat) (f : Nat → Int32) (h0 : Heap) (n0 : Nat) (Z0 : n0 ≤ h0.size) (HA : Bya Z h0 a1 co lj lf lh k ml) (HB : Byb Z h0 co b sz f) (ne_a1_co : a1 ≠ co) (ne_a1_b : a1 ≠ b) (ne_co_b : co ≠ b) (ge_a1 : n0 ≤ a1) (ge_co : n0 ≤ co) (ge_b : n0 ≤ b) (hk : k ≤ 8) (hfit : sz + 1 ≤ 32) :
    MetFree l y_19 (head1 (Jvm.Cond.code y_19 prog_2_method_46_code 3 none :: ws) ({ frames := 2, cells := 0, slots := 0, locals := 27 } : Room)) (fun a U => a = #[(.ref a1), (.int p2), (.int (0 : Int32))] ∧ Z.Warmed39 U.vm ∧ U.heap = h0) (fun _ _ _ _ _ => True) (fun _ U o U' => ∃ v L, o = .returned v ∧ Q19 Z a1 p2 co lj lf lh k ml b sz f h0 n0 v U'.heap L ∧ FrameEnd U o U' L ({ frames := 2, cells := 0, slots := 0, locals := 27 } : Room).cells ({ frames := 2, cells := 0, slots := 0, locals := 27 } : Room).slots) := by
  refine MetFree.of_bodySF (plainFor_of_name pn_19) hisR ?_
  intro p e s m args below meth c s₁ Bd hml0 hP hK
  obtain ⟨rfl, hZ, hh⟩ := hP
  have hx := Bd.exec
  have hby := Bd.bytes
  have hlk := Bd.notSynchronized
  have hml : c.maxLocals = 3 := hml0
  have hown : s.vm.findClass "com/example/proxysmith/proxysmith/Bytecode" = some m.cls := findClass_of_methodNamed Bd.named
  have hnm := (name_of_methodNamed Bd.named Bd.method).1
  have X0 : Stand p l e ({ frames := 2, cells := 0, slots := 0, locals := 27 } : Room) s m #[(.ref a1), (.int p2), (.int (0 : Int32))] below meth c s₁ [] 0 0 := Stand.of_body Bd
  have e0 : s₁.heap = h0 := by rw [← hh, Bd.state]; rfl
  have N0 := Fr.nil n0
  have K0 : Keep h0 h0 [a1, co, b] := Keep.refl h0 _
  show Goes p e below s ({ frames := 2, cells := 0, slots := 0, locals := 27 } : Room).cells ({ frames := 2, cells := 0, slots := 0, locals := 27 } : Room).slots (Q19 Z a1 p2 co lj lf lh k ml b sz f h0 n0) s₁ (entryFrame m #[(.ref a1), (.int p2), (.int (0 : Int32))] 3)
  refine Goes.step (fun t k => castTop (ef_19 m a1 p2) k) ?_
  obtain ⟨E_a1_0, F_a1_code_0, F_a1_jumps_0, F_a1_frames_0, F_a1_handlers_0, F_a1_reachable_0, F_a1_stack_0, F_a1_maxStack_0, F_a1_maxLocals_0⟩ := HA
  obtain ⟨E_co_0, F_co_bytes_0, F_co_size_0, A_b_0⟩ := HB
  have hn : 32 ≤ 64 := by decide
  refine Goes.step (fun _ k => XS.aloadN X0.here hx rfl (hb hby d19_0) rfl rfl k) ?_
  obtain ⟨T1, X1, e1, st1⟩ := getF X0 hx hZ hown (host := "") (Or.inl (wof hw 60 rfl)) Via.refl e0 F_a1_reachable_0 (g := (mkF m 1 #[vR a1, vI p2, vI (0 : Int32)] [(.ref a1)])) rfl rfl (hb hby d19_1)
  refine Goes.step st1 ?_
  show Goes p e below s _ _ _ T1 (mkF m 4 #[vR a1, vI p2, vI (0 : Int32)] [(.int (1 : Int32))])
  refine Goes.step (fun _ k => XS.ifYes X1.here hx rfl (pc0 := 4) (pc' := 18) rfl (hb hby d19_4) rfl ((if0 _ _).trans (feq (by decide : ¬ ((1 : Int32) = (0 : Int32)))).2) (by decide) (by decide) k) ?_
  show Goes p e below s _ _ _ T1 (mkF m 18 #[vR a1, vI p2, vI (0 : Int32)] [])
  refine Goes.step (fun _ k => XS.aloadN X1.here hx rfl (hb hby d19_18) rfl rfl k) ?_
  obtain ⟨T2, X2, e2, st2⟩ := getF X1 hx hZ hown (host := "") (Or.inl (wof hw 27 rfl)) Via.refl e1 F_a1_code_0 (g := (mkF m 19 #[vR a1, vI p2, vI (0 : Int32)] [(.ref a1)])) rfl rfl (hb hby d19_19)
  refine Goes.step st2 ?_
  show Goes p e below s _ _ _ T2 (mkF m 22 #[vR a1, vI p2, vI (0 : Int32)] [(.ref co)])
  refine Goes.step (fun _ k => XS.iloadN X2.here hx rfl (hb hby d19_22) rfl k) ?_
  obtain ⟨v3, T3, h3, L3, X3, e3, Q3, st3⟩ := callXV X2 hx hZ (C := "com/example/proxysmith/proxysmith/ClassFileWriter$Bytes") (b := co) (y := y_20) (z := y_20) hown (wof hw 136 rfl) (wof hw 137 rfl) (wof hw 139 rfl) (wof hw 138 rfl) (wof hw 140 rfl) (wof hw 20 rfl) (notFace_of_selects (args := #[]) (mvT hZ (wof hw 139 rfl))) (by decide) (W := 0) (argsL := [(.int p2)]) (rest := []) (rm20 l Z a0 hw [] co p2 b 32 sz f h0 n0 Z0 E_co_0 F_co_bytes_0 F_co_size_0 A_b_0 ne_co_b ge_co ge_b hfit hn) (by decide) (by decide) (by decide) (by decide) e2 E_co_0 (g := (mkF m 23 #[vR a1, vI p2, vI (0 : Int32)] [(.int p2), (.ref co)])) rfl (by rw [hml]; rfl) (lenOf pd_19_0 rfl) rfl (by show 2 * 0 + _ ≤ _; exact Nat.le_of_eq rfl) (hb hby d19_23)
  obtain ⟨rfl, NQ3, KQ3, hFb3, hFs3, f3, hA3, hp3⟩ := Q3
  refine Goes.step st3 ?_
  have E_a1_3 := E_a1_0.keep KQ3
  have F_a1_code_3 := F_a1_code_0.keep KQ3 (ninS ne_a1_co (ninS ne_a1_b nin0))
  have F_a1_jumps_3 := F_a1_jumps_0.keep KQ3 (ninS ne_a1_co (ninS ne_a1_b nin0))
  have F_a1_frames_3 := F_a1_frames_0.keep KQ3 (ninS ne_a1_co (ninS ne_a1_b nin0))
  have F_a1_handlers_3 := F_a1_handlers_0.keep KQ3 (ninS ne_a1_co (ninS ne_a1_b nin0))
  have F_a1_reachable_3 := F_a1_reachable_0.keep KQ3 (ninS ne_a1_co (ninS ne_a1_b nin0))
  have F_a1_stack_3 := F_a1_stack_0.keep KQ3 (ninS ne_a1_co (ninS ne_a1_b nin0))
  have F_a1_maxStack_3 := F_a1_maxStack_0.keep KQ3 (ninS ne_a1_co (ninS ne_a1_b nin0))
  have F_a1_maxLocals_3 := F_a1_maxLocals_0.keep KQ3 (ninS ne_a1_co (ninS ne_a1_b nin0))
  have E_co_3 := E_co_0.keep KQ3
  have z_3 : n0 ≤ h3.size := Nat.le_trans Z0 KQ3.1
  have K_3 : Keep h0 h3 [a1, co, b] := Keep.trans K0 KQ3 (allS (Or.inl (List.mem_of_getElem? (i := 1) rfl)) (allS (Or.inl (List.mem_of_getElem? (i := 2) rfl)) all0))
  have N_3 := Fr.app N0 NQ3
  show Goes p e below s _ _ _ T3 (mkF m 26 #[vR a1, vI p2, vI (0 : Int32)] [])
  refine Goes.step (fun _ k => XS.iloadN X3.here hx rfl (hb hby d19_26) rfl k) ?_
  refine Goes.step (fun _ k => XS.ifYes X3.here hx rfl (pc0 := 27) (pc' := 39) rfl (hb hby d19_27) rfl ((if0 _ _).trans (flt (by decide : ¬ ((0 : Int32) < (0 : Int32)))).2.1) (by decide) (by decide) k) ?_
  show Goes p e below s _ _ _ T3 (mkF m 39 #[vR a1, vI p2, vI (0 : Int32)] [])
  refine Goes.step (fun _ k => XS.aloadN X3.here hx rfl (hb hby d19_39) rfl rfl k) ?_
  refine Goes.step (fun _ k => XS.iloadN X3.here hx rfl (hb hby d19_40) rfl k) ?_
  obtain ⟨v4, T4, h4, L4, X4, e4, Q4, st4⟩ := callXP X3 hx hZ (b := a1) (y := y_22) hown (wof hw 147 rfl) (wof hw 148 rfl) (wof hw 149 rfl) (wof hw 2 rfl) (wof hw 150 rfl) (wof hw 3 rfl) (by decide) (W := 0) (argsL := [(.int (0 : Int32))]) (rest := []) (rm22j0 l Z a0 hw [] a1 co lj lf lh k ml h3 n0 z_3 ⟨E_a1_3, F_a1_code_3, F_a1_jumps_3, F_a1_frames_3, F_a1_handlers_3, F_a1_reachable_3, F_a1_stack_3, F_a1_maxStack_3, F_a1_maxLocals_3⟩ ge_a1 hk) (by decide) (by decide) (by decide) (by decide) e3 E_a1_3 (g := (mkF m 41 #[vR a1, vI p2, vI (0 : Int32)] [(.int (0 : Int32)), (.ref a1)])) rfl (by rw [hml]; rfl) (lenOf pd_19_0 rfl) rfl (by show 2 * 0 + _ ≤ _; exact Nat.le_of_eq rfl) (hb hby d19_41)
  obtain ⟨rfl, NQ4, KQ4, ⟨hE4, hF04, hF14, hF24, hF34, hF44, hF54, hF64, hF74⟩⟩ := Q4
  refine Goes.step st4 ?_
  have E_a1_4 := E_a1_3.keep KQ4
  have E_co_4 := E_co_3.keep KQ4
  have hFb3_4 := hFb3.keep KQ4 (ninS (Ne.symm ne_a1_co) nin0)
  have hFs3_4 := hFs3.keep KQ4 (ninS (Ne.symm ne_a1_co) nin0)
  have hA3_4 := hA3.keep KQ4 (ninS (Ne.symm ne_a1_b) nin0)
  have z_4 : n0 ≤ h4.size := Nat.le_trans z_3 KQ4.1
  have K_4 : Keep h0 h4 [a1, co, b] := Keep.trans K_3 KQ4 (allS (Or.inl (List.mem_of_getElem? (i := 0) rfl)) all0)
  have N_4 := Fr.app N_3 NQ4
  show Goes p e below s _ _ _ T4 (mkF m 44 #[vR a1, vI p2, vI (0 : Int32)] [])
  exact Goes.outV X4 hx hlk Bd.returns (hb hby d19_44) (by rw [e4]; exact ⟨rfl, N_4, K_4, ⟨hE4, hF04, hF14, hF24, hF34, hF44, hF54, hF64, hF74⟩, _, ⟨E_co_4, hFb3_4, hFs3_4, hA3_4⟩⟩) (by decide) (by decide)
theorem d15_0 : decode prog_2_method_39_code 0 = .ok (.aload_n 0, 1) := by decide +kernel
theorem d15_1 : decode prog_2_method_39_code 1 = .ok (.aload_n 0, 1) := by decide +kernel
theorem d15_2 : decode prog_2_method_39_code 2 = .ok (.getfield 64, 3) := by decide +kernel
theorem d15_5 : decode prog_2_method_39_code 5 = .ok (.iload_n 3, 1) := by decide +kernel
theorem d15_6 : decode prog_2_method_39_code 6 = .ok (.aload 4, 2) := by decide +kernel
theorem d15_8 : decode prog_2_method_39_code 8 = .ok (.iconst 0, 1) := by decide +kernel
theorem d15_9 : decode prog_2_method_39_code 9 = .ok (.invokevirtual 46, 3) := by decide +kernel
theorem d15_12 : decode prog_2_method_39_code 12 = .ok (.invokestatic 60, 3) := by decide +kernel
theorem d15_15 : decode prog_2_method_39_code 15 = .ok (.iadd, 1) := by decide +kernel
theorem d15_16 : decode prog_2_method_39_code 16 = .ok (.invokestatic 286, 3) := by decide +kernel
theorem d15_19 : decode prog_2_method_39_code 19 = .ok (.putfield 64, 3) := by decide +kernel
theorem d15_22 : decode prog_2_method_39_code 22 = .ok (.aload 4, 2) := by decide +kernel
theorem d15_24 : decode prog_2_method_39_code 24 = .ok (.invokestatic 170, 3) := by decide +kernel
theorem d15_27 : decode prog_2_method_39_code 27 = .ok (.istore 5, 2) := by decide +kernel
theorem d15_29 : decode prog_2_method_39_code 29 = .ok (.iload_n 3, 1) := by decide +kernel
theorem d15_30 : decode prog_2_method_39_code 30 = .ok (.iconst 3, 1) := by decide +kernel
theorem d15_31 : decode prog_2_method_39_code 31 = .ok (.if_icmp .gt 19, 3) := by decide +kernel
theorem d15_34 : decode prog_2_method_39_code 34 = .ok (.aload_n 0, 1) := by decide +kernel
theorem d15_35 : decode prog_2_method_39_code 35 = .ok (.iload_n 2, 1) := by decide +kernel
theorem d15_36 : decode prog_2_method_39_code 36 = .ok (.iconst 4, 1) := by decide +kernel
theorem d15_37 : decode prog_2_method_39_code 37 = .ok (.iload 5, 2) := by decide +kernel
theorem d15_39 : decode prog_2_method_39_code 39 = .ok (.imul, 1) := by decide +kernel
theorem d15_40 : decode prog_2_method_39_code 40 = .ok (.iadd, 1) := by decide +kernel
theorem d15_41 : decode prog_2_method_39_code 41 = .ok (.iload_n 3, 1) := by decide +kernel
theorem d15_42 : decode prog_2_method_39_code 42 = .ok (.iadd, 1) := by decide +kernel
theorem d15_43 : decode prog_2_method_39_code 43 = .ok (.iconst 0, 1) := by decide +kernel
theorem d15_44 : decode prog_2_method_39_code 44 = .ok (.invokevirtual 145, 3) := by decide +kernel
theorem d15_47 : decode prog_2_method_39_code 47 = .ok (.goto 57, 3) := by decide +kernel
theorem d15_50 : decode prog_2_method_39_code 50 = .ok (.iload_n 3, 1) := by decide +kernel
theorem d15_51 : decode prog_2_method_39_code 51 = .ok (.sipush 255, 3) := by decide +kernel
theorem d15_54 : decode prog_2_method_39_code 54 = .ok (.if_icmp .gt 23, 3) := by decide +kernel
theorem d15_57 : decode prog_2_method_39_code 57 = .ok (.aload_n 0, 1) := by decide +kernel
theorem d15_58 : decode prog_2_method_39_code 58 = .ok (.iload_n 1, 1) := by decide +kernel
theorem d15_59 : decode prog_2_method_39_code 59 = .ok (.iload 5, 2) := by decide +kernel
theorem d15_61 : decode prog_2_method_39_code 61 = .ok (.iadd, 1) := by decide +kernel
theorem d15_62 : decode prog_2_method_39_code 62 = .ok (.iconst 0, 1) := by decide +kernel
theorem d15_63 : decode prog_2_method_39_code 63 = .ok (.invokevirtual 145, 3) := by decide +kernel
theorem d15_66 : decode prog_2_method_39_code 66 = .ok (.aload_n 0, 1) := by decide +kernel
theorem d15_67 : decode prog_2_method_39_code 67 = .ok (.getfield 12, 3) := by decide +kernel
theorem d15_70 : decode prog_2_method_39_code 70 = .ok (.iload_n 3, 1) := by decide +kernel
theorem d15_71 : decode prog_2_method_39_code 71 = .ok (.invokevirtual 258, 3) := by decide +kernel
theorem d15_74 : decode prog_2_method_39_code 74 = .ok (.goto 30, 3) := by decide +kernel
theorem d15_77 : decode prog_2_method_39_code 77 = .ok (.aload_n 0, 1) := by decide +kernel
theorem d15_78 : decode prog_2_method_39_code 78 = .ok (.sipush 196, 3) := by decide +kernel
theorem d15_81 : decode prog_2_method_39_code 81 = .ok (.iconst 0, 1) := by decide +kernel
theorem d15_82 : decode prog_2_method_39_code 82 = .ok (.invokevirtual 145, 3) := by decide +kernel
theorem d15_85 : decode prog_2_method_39_code 85 = .ok (.aload_n 0, 1) := by decide +kernel
theorem d15_86 : decode prog_2_method_39_code 86 = .ok (.getfield 12, 3) := by decide +kernel
theorem d15_89 : decode prog_2_method_39_code 89 = .ok (.iload_n 1, 1) := by decide +kernel
theorem d15_90 : decode prog_2_method_39_code 90 = .ok (.iload 5, 2) := by decide +kernel
theorem d15_92 : decode prog_2_method_39_code 92 = .ok (.iadd, 1) := by decide +kernel
theorem d15_93 : decode prog_2_method_39_code 93 = .ok (.invokevirtual 258, 3) := by decide +kernel
theorem d15_96 : decode prog_2_method_39_code 96 = .ok (.aload_n 0, 1) := by decide +kernel
theorem d15_97 : decode prog_2_method_39_code 97 = .ok (.getfield 12, 3) := by decide +kernel
theorem d15_100 : decode prog_2_method_39_code 100 = .ok (.iload_n 3, 1) := by decide +kernel
theorem d15_101 : decode prog_2_method_39_code 101 = .ok (.invokevirtual 186, 3) := by decide +kernel
theorem d15_104 : decode prog_2_method_39_code 104 = .ok (.return_, 1) := by decide +kernel
theorem pn_15 : plainName "com/example/proxysmith/proxysmith/Bytecode" = true := by first | (simp [plainName, overriddenIn]; done) | decide +kernel
theorem pd_15_0 : parseMethodDescriptor "(I)C" = some ⟨[.int], some .char⟩ := by decide +kernel
theorem pd_15_1 : parseMethodDescriptor "(C)I" = some ⟨[.char], some .int⟩ := by decide +kernel
theorem pd_15_2 : parseMethodDescriptor "(II)I" = some ⟨[.int, .int], some .int⟩ := by decide +kernel
theorem pd_15_3 : parseMethodDescriptor "(Ljava/lang/String;)I" = some ⟨[(.object "java/lang/String")], some .int⟩ := by decide +kernel
theorem pd_15_4 : parseMethodDescriptor "(II)V" = some ⟨[.int, .int], none⟩ := by decide +kernel
theorem pd_15_5 : parseMethodDescriptor "(I)V" = some ⟨[.int], none⟩ := by decide +kernel
theorem ef_15 (m : MethodId) (a1 : Addr) (p4 : Int32) (a5 : Addr) : entryFrame m #[(.ref a1), (.int (21 : Int32)), (.int (26 : Int32)), (.int p4), (.ref a5)] 6 = mkF m 0 #[.val (.ref a1), .val (.int (21 : Int32)), .val (.int (26 : Int32)), .val (.int p4), .val (.ref a5), .unset] [] := by first | (simp [entryFrame, mkF, argsToLocals, Value.category]; done) | rfl
def Q15 (Z : State) (a1 : Addr) (p4 : Int32) (a5 : Addr) (G1 : Int32) (oF : Option Addr) (co : Addr) (lj : Addr) (lf : Addr) (lh : Addr) (k : Nat) (ml : Int32) (b : Addr) (sz : Nat) (f : Nat → Int32) (av : Addr) (ln : Nat) (h0 : Heap) (n0 : Nat) (v : Option Value) (h : Heap) (L : List Loc) : Prop := v = none ∧ Fr n0 L ∧ Keep h0 h [a1, co, b] ∧ ∃ ml' f', Bya Z h a1 co lj lf lh k ml' ∧ Byb Z h co b (sz + ln) f'
set_option maxRecDepth 65536 in
set_option maxHeartbeats 40000000 in
theorem rm15 (l : Launch) (Z : State) (a0 : Array Value) (hw : ∀ d ∈ tables_1, d.before a0 Z = true) (ws : List Jvm.Cond) (a1 : Addr) (p4 : Int32) (a5 : Addr) (G1 : Int32) (oF : Option Addr) (co : Addr) (lj : Addr) (lf : Addr) (lh : Addr) (k : Nat) (ml : Int32) (b : Addr) (sz : Nat) (f : Nat → Int32) (av : Addr) (ln : Nat) (h0 : Heap) (n0 : Nat) (Z0 : n0 ≤ h0.size) (O2 : Sta Z Z.heap "java/lang/String" "COMPACT_STRINGS" "Z" (.int G1)) (P3 : ¬ (G1 = (0 : Int32))) (OL : Old Z n0 h0) (O4 : Sta Z Z.heap "jdk/internal/util/Preconditions" "SIOOBE_FORMATTER" "Ljava/util/function/BiFunction;" (ov oF)) (HA : Bya Z h0 a1 co lj lf lh k ml) (HB : Byb Z h0 co b sz f) (ne_a1_co : a1 ≠ co) (ne_a1_b : a1 ≠ b) (ne_co_b : co ≠ b) (ge_a1 : n0 ≤ a1) (ge_co : n0 ≤ co) (ge_b : n0 ≤ b) (E_a5_0 : Exa Z h0 a5 "java/lang/String") (F_a5_value_0 : Fld Z h0 a5 "java/lang/String" "value" "[B" (.ref av)) (F_a5_coder_0 : Fld Z h0 a5 "java/lang/String" "coder" "B" (.int (0 : Int32))) (A_av_0 : Ari Z h0 av .byte 1 (strF "I")) (ne_a5_a1 : a5 ≠ a1) (ne_a5_co : a5 ≠ co) (ne_a5_b : a5 ≠ b) (ne_av_a1 : av ≠ a1) (ne_av_co : av ≠ co) (ne_av_b : av ≠ b) (hk : k ≤ 8) (hfit : sz + 4 ≤ 32) (hln : own_len p4 = ln) :
    MetFree l y_15 (head1 (Jvm.Cond.code y_15 prog_2_method_39_code 6 none :: ws) ({ frames := 5, cells := 0, slots := 0, locals := 65 } : Room)) (fun a U => a = #[(.ref a1), (.int (21 : Int32)), (.int (26 : Int32)), (.int p4), (.ref a5)] ∧ Z.Warmed39 U.vm ∧ U.heap = h0) (fun _ _ _ _ _ => True) (fun _ U o U' => ∃ v L, o = .returned v ∧ Q15 Z a1 p4 a5 G1 oF co lj lf lh k ml b sz f av ln h0 n0 v U'.heap L ∧ FrameEnd U o U' L ({ frames := 5, cells := 0, slots := 0, locals := 65 } : Room).cells ({ frames := 5, cells := 0, slots := 0, locals := 65 } : Room).slots) := by
  refine MetFree.of_bodySF (plainFor_of_name pn_15) hisR ?_
  intro p e s m args below meth c s₁ Bd hml0 hP hK
  obtain ⟨rfl, hZ, hh⟩ := hP
  have hx := Bd.exec
  have hby := Bd.bytes
  have hlk := Bd.notSynchronized
  have hml : c.maxLocals = 6 := hml0
  have hown : s.vm.findClass "com/example/proxysmith/proxysmith/Bytecode" = some m.cls := findClass_of_methodNamed Bd.named
  have hnm := (name_of_methodNamed Bd.named Bd.method).1
  have X0 : Stand p l e ({ frames := 5, cells := 0, slots := 0, locals := 65 } : Room) s m #[(.ref a1), (.int (21 : Int32)), (.int (26 : Int32)), (.int p4), (.ref a5)] below meth c s₁ [] 0 0 := Stand.of_body Bd
  have e0 : s₁.heap = h0 := by rw [← hh, Bd.state]; rfl
  have N0 := Fr.nil n0
  have K0 : Keep h0 h0 [a1, co, b] := Keep.refl h0 _
  show Goes p e below s ({ frames := 5, cells := 0, slots := 0, locals := 65 } : Room).cells ({ frames := 5, cells := 0, slots := 0, locals := 65 } : Room).slots (Q15 Z a1 p4 a5 G1 oF co lj lf lh k ml b sz f av ln h0 n0) s₁ (entryFrame m #[(.ref a1), (.int (21 : Int32)), (.int (26 : Int32)), (.int p4), (.ref a5)] 6)
  refine Goes.step (fun t k => castTop (ef_15 m a1 p4 a5) k) ?_
  obtain ⟨E_a1_0, F_a1_code_0, F_a1_jumps_0, F_a1_frames_0, F_a1_handlers_0, F_a1_reachable_0, F_a1_stack_0, F_a1_maxStack_0, F_a1_maxLocals_0⟩ := HA
  obtain ⟨E_co_0, F_co_bytes_0, F_co_size_0, A_b_0⟩ := HB
  have hn : 32 ≤ 64 := by decide
  refine Goes.step (fun _ k => XS.aloadN X0.here hx rfl (hb hby d15_0) rfl rfl k) ?_
  refine Goes.step (fun _ k => XS.aloadN X0.here hx rfl (hb hby d15_1) rfl rfl k) ?_
  obtain ⟨T1, X1, e1, st1⟩ := getF X0 hx hZ hown (host := "") (Or.inl (wof hw 96 rfl)) Via.refl e0 F_a1_maxLocals_0 (g := (mkF m 2 #[vR a1, vI (21 : Int32), vI (26 : Int32), vI p4, vR a5, vU] [(.ref a1), (.ref a1)])) rfl rfl (hb hby d15_2)
  refine Goes.step st1 ?_
  show Goes p e below s _ _ _ T1 (mkF m 5 #[vR a1, vI (21 : Int32), vI (26 : Int32), vI p4, vR a5, vU] [(.int ml), (.ref a1)])
  refine Goes.step (fun _ k => XS.iloadN X1.here hx rfl (hb hby d15_5) rfl k) ?_
  refine Goes.step (fun _ k => XS.aload X1.here hx rfl (hb hby d15_6) rfl rfl k) ?_
  refine Goes.step (fun _ k => XS.iconst X1.here hx rfl (hb hby d15_8) k) ?_
  obtain ⟨T2, X2, e2, st2⟩ := own_pure (r := some (.int (73 : Int32))) (fun _ _ _ q => q) (callXV X1 hx hZ (C := "java/lang/String") (b := a5) (y := y_7) (z := y_7) hown (wof hw 68 rfl) (wof hw 69 rfl) (wof hw 71 rfl) (wof hw 70 rfl) (wof hw 72 rfl) (wof hw 5 rfl) (notFace_of_selects (args := #[]) (mvT hZ (wof hw 71 rfl))) (by decide) (W := 3) (argsL := [(.int (0 : Int32))]) (rest := [(.int p4), (.int ml), (.ref a1)]) (rm7 l Z a0 hw [] a5 (0 : Int32) G1 oF av 1 (strF "I") 0 (73 : Int32) h0 n0 Z0 O2 P3 (OL.keep K0 (allS ge_a1 (allS ge_co (allS ge_b all0)))) O4 E_a5_0 F_a5_value_0 F_a5_coder_0 A_av_0 rfl (by decide) (by decide)) (by decide) (by decide) (by decide) (by decide) e1 E_a5_0 (g := (mkF m 9 #[vR a1, vI (21 : Int32), vI (26 : Int32), vI p4, vR a5, vU] [(.int (0 : Int32)), (.ref a5), (.int p4), (.int ml), (.ref a1)])) rfl (by rw [hml]; rfl) (lenOf pd_15_0 rfl) rfl (by show 2 * 0 + _ ≤ _; exact Nat.le_of_eq rfl) (hb hby d15_9))
  refine Goes.step st2 ?_
  show Goes p e below s _ _ _ T2 (mkF m 12 #[vR a1, vI (21 : Int32), vI (26 : Int32), vI p4, vR a5, vU] [(.int (73 : Int32)), (.int p4), (.int ml), (.ref a1)])
  obtain ⟨T3, X3, e3, st3⟩ := own_pure (r := some (.int (1 : Int32))) (fun _ _ _ q => q) (callX X2 hx hZ (y := y_16) hown (wof hw 122 rfl) (wof hw 123 rfl) (wof hw 3 rfl) (wof hw 124 rfl) (by decide) (W := 3) (argsL := [(.int (73 : Int32))]) (rest := [(.int p4), (.int ml), (.ref a1)]) (rm16 l Z a0 hw []  h0 n0 Z0) (by decide) (by decide) (by decide) (by decide) e2 (g := (mkF m 12 #[vR a1, vI (21 : Int32), vI (26 : Int32), vI p4, vR a5, vU] [(.int (73 : Int32)), (.int p4), (.int ml), (.ref a1)])) rfl (by rw [hml]; rfl) (lenOf pd_15_1 rfl) rfl (by show 2 * 0 + _ ≤ _; exact Nat.le_of_eq rfl) (hb hby d15_12))
  refine Goes.step st3 ?_
  show Goes p e below s _ _ _ T3 (mkF m 15 #[vR a1, vI (21 : Int32), vI (26 : Int32), vI p4, vR a5, vU] [(.int (1 : Int32)), (.int p4), (.int ml), (.ref a1)])
  refine Goes.step (fun _ k => XS.iadd X3.here hx rfl (hb hby d15_15) rfl k) ?_
  show Goes p e below s _ _ _ T3 (mkF m 16 #[vR a1, vI (21 : Int32), vI (26 : Int32), vI p4, vR a5, vU] [(.int (p4 + (1 : Int32))), (.int ml), (.ref a1)])
  obtain ⟨T4, X4, e4, st4⟩ := callPure X3 hx hZ (y := y_17) hown (wof hw 125 rfl) (wof hw 126 rfl) (wof hw 127 rfl) (wof hw 128 rfl) (by decide) (W := 1) (argsL := [(.int ml), (.int (p4 + (1 : Int32)))]) (rest := [(.ref a1)]) (r := (.int (f17 ml (p4 + (1 : Int32))))) (fun _ _ _ q => q) (rm17 l Z a0 hw [] ml (p4 + (1 : Int32)) h0 ) (by decide) (by decide) (by decide) (by decide) e3 (g := (mkF m 16 #[vR a1, vI (21 : Int32), vI (26 : Int32), vI p4, vR a5, vU] [(.int (p4 + (1 : Int32))), (.int ml), (.ref a1)])) rfl (by rw [hml]; rfl) (lenOf pd_15_2 rfl) rfl (by show 2 * 0 + _ ≤ _; exact Nat.le_of_eq rfl) (hb hby d15_16)
  refine Goes.step st4 ?_
  show Goes p e below s _ _ _ T4 (mkF m 19 #[vR a1, vI (21 : Int32), vI (26 : Int32), vI p4, vR a5, vU] [(.int (f17 ml (p4 + (1 : Int32)))), (.ref a1)])
  obtain ⟨T5, h5, X5, e5, W5, st5⟩ := putF X4 hx hZ hown (host := "") (Or.inl (wof hw 96 rfl)) Via.refl e4 F_a1_maxLocals_0 E_a1_0 (Or.inl (wof hw 97 rfl)) (wof hw 2 rfl) (ty := .int) (by decide) rfl rfl (g := (mkF m 19 #[vR a1, vI (21 : Int32), vI (26 : Int32), vI p4, vR a5, vU] [(.int (f17 ml (p4 + (1 : Int32)))), (.ref a1)])) rfl rfl (hb hby d15_19)
  refine Goes.step st5 ?_
  have E_a1_5 := E_a1_0.wr W5
  have F_a1_code_5 := F_a1_code_0.other W5 (Or.inr (slot_ne (Or.inr (wof hw 28 rfl)) (Or.inl (wof hw 97 rfl)) (by decide) (t := (.object "com/example/proxysmith/proxysmith/ClassFileWriter$Bytes")) (t' := .int) (by decide) (by decide)))
  have F_a1_jumps_5 := F_a1_jumps_0.other W5 (Or.inr (slot_ne (Or.inr (wof hw 55 rfl)) (Or.inl (wof hw 97 rfl)) (by decide) (t := (.object "java/util/List")) (t' := .int) (by decide) (by decide)))
  have F_a1_frames_5 := F_a1_frames_0.other W5 (Or.inr (slot_ne (Or.inr (wof hw 57 rfl)) (Or.inl (wof hw 97 rfl)) (by decide) (t := (.object "java/util/List")) (t' := .int) (by decide) (by decide)))
  have F_a1_handlers_5 := F_a1_handlers_0.other W5 (Or.inr (slot_ne (Or.inr (wof hw 59 rfl)) (Or.inl (wof hw 97 rfl)) (by decide) (t := (.object "java/util/List")) (t' := .int) (by decide) (by decide)))
  have F_a1_reachable_5 := F_a1_reachable_0.other W5 (Or.inr (slot_ne (Or.inl (wof hw 61 rfl)) (Or.inl (wof hw 97 rfl)) (by decide) (t := .boolean) (t' := .int) (by decide) (by decide)))
  have F_a1_stack_5 := F_a1_stack_0.other W5 (Or.inr (slot_ne (Or.inl (wof hw 152 rfl)) (Or.inl (wof hw 97 rfl)) (by decide) (t := .int) (t' := .int) (by decide) (by decide)))
  have F_a1_maxStack_5 := F_a1_maxStack_0.other W5 (Or.inr (slot_ne (Or.inl (wof hw 154 rfl)) (Or.inl (wof hw 97 rfl)) (by decide) (t := .int) (t' := .int) (by decide) (by decide)))
  have E_co_5 := E_co_0.wr W5
  have F_co_bytes_5 := F_co_bytes_0.other W5 (Or.inl (Ne.symm ne_a1_co))
  have F_co_size_5 := F_co_size_0.other W5 (Or.inl (Ne.symm ne_a1_co))
  have A_b_5 := A_b_0.other W5 (Ne.symm ne_a1_b)
  have E_a5_5 := E_a5_0.wr W5
  have F_a5_value_5 := F_a5_value_0.other W5 (Or.inl ne_a5_a1)
  have F_a5_coder_5 := F_a5_coder_0.other W5 (Or.inl ne_a5_a1)
  have A_av_5 := A_av_0.other W5 ne_av_a1
  have z_5 : n0 ≤ h5.size := by rw [W5.size]; exact Z0
  have K_5 : Keep h0 h5 [a1, co, b] := K0.wr W5 (Or.inl (List.mem_of_getElem? (i := 0) rfl))
  have N_5 := Fr.snoc X5 N0 ge_a1
  have F_a1_maxLocals_5 : Fld Z h5 a1 "com/example/proxysmith/proxysmith/Bytecode" "maxLocals" "I" (.int (f17 ml (p4 + (1 : Int32)))) := F_a1_maxLocals_0.same W5
  show Goes p e below s _ _ _ T5 (mkF m 22 #[vR a1, vI (21 : Int32), vI (26 : Int32), vI p4, vR a5, vU] [])
  refine Goes.step (fun _ k => XS.aload X5.here hx rfl (hb hby d15_22) rfl rfl k) ?_
  obtain ⟨T6, X6, e6, st6⟩ := own_pure (r := some (.int (0 : Int32))) (fun _ _ _ q => q) (callX X5 hx hZ (y := y_18) hown (wof hw 129 rfl) (wof hw 130 rfl) (wof hw 3 rfl) (wof hw 131 rfl) (by decide) (W := 0) (argsL := [(.ref a5)]) (rest := []) (rm18 l Z a0 hw [] a5 G1 oF av h5 n0 z_5 O2 P3 (OL.keep K_5 (allS ge_a1 (allS ge_co (allS ge_b all0)))) O4 E_a5_5 F_a5_value_5 F_a5_coder_5 A_av_5) (by decide) (by decide) (by decide) (by decide) e5 (g := (mkF m 24 #[vR a1, vI (21 : Int32), vI (26 : Int32), vI p4, vR a5, vU] [(.ref a5)])) rfl (by rw [hml]; rfl) (lenOf pd_15_3 rfl) rfl (by show 2 * 0 + _ ≤ _; exact Nat.le_of_eq rfl) (hb hby d15_24))
  refine Goes.step st6 ?_
  show Goes p e below s _ _ _ T6 (mkF m 27 #[vR a1, vI (21 : Int32), vI (26 : Int32), vI p4, vR a5, vU] [(.int (0 : Int32))])
  refine Goes.step (fun _ k => XS.istore X6.here hx rfl (hb hby d15_27) rfl (l' := #[vR a1, vI (21 : Int32), vI (26 : Int32), vI p4, vR a5, vI (0 : Int32)]) rfl k) ?_
  refine Goes.step (fun _ k => XS.iloadN X6.here hx rfl (hb hby d15_29) rfl k) ?_
  refine Goes.step (fun _ k => XS.iconst X6.here hx rfl (hb hby d15_30) k) ?_
  by_cases hc31 : (3 : Int32) < p4
  · refine Goes.step (fun _ k => XS.icmpYes X6.here hx rfl (pc0 := 31) (pc' := 50) rfl (hb hby d15_31) rfl (tlt hc31).2.2.1 (by decide) (by decide) k) ?_
    show Goes p e below s _ _ _ T6 (mkF m 50 #[vR a1, vI (21 : Int32), vI (26 : Int32), vI p4, vR a5, vI (0 : Int32)] [])
    refine Goes.step (fun _ k => XS.iloadN X6.here hx rfl (hb hby d15_50) rfl k) ?_
    refine Goes.step (fun _ k => XS.sipush X6.here hx rfl (hb hby d15_51) k) ?_
    by_cases hc54 : (255 : Int32) < p4
    · refine Goes.step (fun _ k => XS.icmpYes X6.here hx rfl (pc0 := 54) (pc' := 77) rfl (hb hby d15_54) rfl (tlt hc54).2.2.1 (by decide) (by decide) k) ?_
      show Goes p e below s _ _ _ T6 (mkF m 77 #[vR a1, vI (21 : Int32), vI (26 : Int32), vI p4, vR a5, vI (0 : Int32)] [])
      refine Goes.step (fun _ k => XS.aloadN X6.here hx rfl (hb hby d15_77) rfl rfl k) ?_
      refine Goes.step (fun _ k => XS.sipush X6.here hx rfl (hb hby d15_78) k) ?_
      show Goes p e below s _ _ _ T6 (mkF m 81 #[vR a1, vI (21 : Int32), vI (26 : Int32), vI p4, vR a5, vI (0 : Int32)] [(.int (196 : Int32)), (.ref a1)])
      refine Goes.step (fun _ k => XS.iconst X6.here hx rfl (hb hby d15_81) k) ?_
      obtain ⟨v7, T7, h7, L7, X7, e7, Q7, st7⟩ := callXP X6 hx hZ (b := a1) (y := y_19) hown (wof hw 132 rfl) (wof hw 133 rfl) (wof hw 134 rfl) (wof hw 2 rfl) (wof hw 135 rfl) (wof hw 3 rfl) (by decide) (W := 0) (argsL := [(.int (196 : Int32)), (.int (0 : Int32))]) (rest := []) (rm19 l Z a0 hw [] a1 (196 : Int32) co lj lf lh k (f17 ml (p4 + (1 : Int32))) b sz f h5 n0 z_5 ⟨E_a1_5, F_a1_code_5, F_a1_jumps_5, F_a1_frames_5, F_a1_handlers_5, F_a1_reachable_5, F_a1_stack_5, F_a1_maxStack_5, F_a1_maxLocals_5⟩ ⟨E_co_5, F_co_bytes_5, F_co_size_5, A_b_5⟩ ne_a1_co ne_a1_b ne_co_b ge_a1 ge_co ge_b hk (by omega)) (by decide) (by decide) (by decide) (by decide) e6 E_a1_5 (g := (mkF m 82 #[vR a1, vI (21 : Int32), vI (26 : Int32), vI p4, vR a5, vI (0 : Int32)] [(.int (0 : Int32)), (.int (196 : Int32)), (.ref a1)])) rfl (by rw [hml]; rfl) (lenOf pd_15_4 rfl) rfl (by show 2 * 0 + _ ≤ _; exact Nat.le_of_eq rfl) (hb hby d15_82)
      obtain ⟨rfl, NQ7, KQ7, ⟨hE7, hF07, hF17, hF27, hF37, hF47, hF57, hF67, hF77⟩, f7, ⟨hG7, hGb7, hGs7, hGA7⟩⟩ := Q7
      refine Goes.step st7 ?_
      have E_a1_7 := E_a1_5.keep KQ7
      have E_co_7 := E_co_5.keep KQ7
      have E_a5_7 := E_a5_5.keep KQ7
      have F_a5_value_7 := F_a5_value_5.keep KQ7 (ninS ne_a5_a1 (ninS ne_a5_co (ninS ne_a5_b nin0)))
      have F_a5_coder_7 := F_a5_coder_5.keep KQ7 (ninS ne_a5_a1 (ninS ne_a5_co (ninS ne_a5_b nin0)))
      have A_av_7 := A_av_5.keep KQ7 (ninS ne_av_a1 (ninS ne_av_co (ninS ne_av_b nin0)))
      have z_7 : n0 ≤ h7.size := Nat.le_trans z_5 KQ7.1
      have K_7 : Keep h0 h7 [a1, co, b] := Keep.trans K_5 KQ7 (allS (Or.inl (List.mem_of_getElem? (i := 0) rfl)) (allS (Or.inl (List.mem_of_getElem? (i := 1) rfl)) (allS (Or.inl (List.mem_of_getElem? (i := 2) rfl)) all0)))
      have N_7 := Fr.app N_5 NQ7
      show Goes p e below s _ _ _ T7 (mkF m 85 #[vR a1, vI (21 : Int32), vI (26 : Int32), vI p4, vR a5, vI (0 : Int32)] [])
      refine Goes.step (fun _ k => XS.aloadN X7.here hx rfl (hb hby d15_85) rfl rfl k) ?_
      obtain ⟨T8, X8, e8, st8⟩ := getF X7 hx hZ hown (host := "") (Or.inl (wof hw 27 rfl)) Via.refl e7 hF07 (g := (mkF m 86 #[vR a1, vI (21 : Int32), vI (26 : Int32), vI p4, vR a5, vI (0 : Int32)] [(.ref a1)])) rfl rfl (hb hby d15_86)
      refine Goes.step st8 ?_
      show Goes p e below s _ _ _ T8 (mkF m 89 #[vR a1, vI (21 : Int32), vI (26 : Int32), vI p4, vR a5, vI (0 : Int32)] [(.ref co)])
      refine Goes.step (fun _ k => XS.iloadN X8.here hx rfl (hb hby d15_89) rfl k) ?_
      refine Goes.step (fun _ k => XS.iload X8.here hx rfl (hb hby d15_90) rfl k) ?_
      refine Goes.step (fun _ k => XS.iadd X8.here hx rfl (hb hby d15_92) rfl k) ?_
      show Goes p e below s _ _ _ T8 (mkF m 93 #[vR a1, vI (21 : Int32), vI (26 : Int32), vI p4, vR a5, vI (0 : Int32)] [(.int (21 : Int32)), (.ref co)])
      obtain ⟨v9, T9, h9, L9, X9, e9, Q9, st9⟩ := callXV X8 hx hZ (C := "com/example/proxysmith/proxysmith/ClassFileWriter$Bytes") (b := co) (y := y_20) (z := y_20) hown (wof hw 136 rfl) (wof hw 137 rfl) (wof hw 139 rfl) (wof hw 138 rfl) (wof hw 140 rfl) (wof hw 20 rfl) (notFace_of_selects (args := #[]) (mvT hZ (wof hw 139 rfl))) (by decide) (W := 0) (argsL := [(.int (21 : Int32))]) (rest := []) (rm20 l Z a0 hw [] co (21 : Int32) b 32 ((sz + 1)) f7 h7 n0 z_7 hG7 hGb7 hGs7 hGA7 ne_co_b ge_co ge_b (by omega) hn) (by decide) (by decide) (by decide) (by decide) e8 hG7 (g := (mkF m 93 #[vR a1, vI (21 : Int32), vI (26 : Int32), vI p4, vR a5, vI (0 : Int32)] [(.int (21 : Int32)), (.ref co)])) rfl (by rw [hml]; rfl) (lenOf pd_15_5 rfl) rfl (by show 2 * 0 + _ ≤ _; exact Nat.le_of_eq rfl) (hb hby d15_93)
      obtain ⟨rfl, NQ9, KQ9, hFb9, hFs9, f9, hA9, hp9⟩ := Q9
      refine Goes.step st9 ?_
      have hE7_9 := hE7.keep KQ9
      have hG7_9 := hG7.keep KQ9
      have E_a5_9 := E_a5_7.keep KQ9
      have F_a5_value_9 := F_a5_value_7.keep KQ9 (ninS ne_a5_co (ninS ne_a5_b nin0))
      have F_a5_coder_9 := F_a5_coder_7.keep KQ9 (ninS ne_a5_co (ninS ne_a5_b nin0))
      have A_av_9 := A_av_7.keep KQ9 (ninS ne_av_co (ninS ne_av_b nin0))
      have hF07_9 := hF07.keep KQ9 (ninS ne_a1_co (ninS ne_a1_b nin0))
      have hF17_9 := hF17.keep KQ9 (ninS ne_a1_co (ninS ne_a1_b nin0))
      have hF27_9 := hF27.keep KQ9 (ninS ne_a1_co (ninS ne_a1_b nin0))
      have hF37_9 := hF37.keep KQ9 (ninS ne_a1_co (ninS ne_a1_b nin0))
      have hF47_9 := hF47.keep KQ9 (ninS ne_a1_co (ninS ne_a1_b nin0))
      have hF57_9 := hF57.keep KQ9 (ninS ne_a1_co (ninS ne_a1_b nin0))
      have hF67_9 := hF67.keep KQ9 (ninS ne_a1_co (ninS ne_a1_b nin0))
      have hF77_9 := hF77.keep KQ9 (ninS ne_a1_co (ninS ne_a1_b nin0))
      have z_9 : n0 ≤ h9.size := Nat.le_trans z_7 KQ9.1
      have K_9 : Keep h0 h9 [a1, co, b] := Keep.trans K_7 KQ9 (allS (Or.inl (List.mem_of_getElem? (i := 1) rfl)) (allS (Or.inl (List.mem_of_getElem? (i := 2) rfl)) all0))
      have N_9 := Fr.app N_7 NQ9
      show Goes p e below s _ _ _ T9 (mkF m 96 #[vR a1, vI (21 : Int32), vI (26 : Int32), vI p4, vR a5, vI (0 : Int32)] [])
      refine Goes.step (fun _ k => XS.aloadN X9.here hx rfl (hb hby d15_96) rfl rfl k) ?_
      obtain ⟨T10, X10, e10, st10⟩ := getF X9 hx hZ hown (host := "") (Or.inl (wof hw 27 rfl)) Via.refl e9 hF07_9 (g := (mkF m 97 #[vR a1, vI (21 : Int32), vI (26 : Int32), vI p4, vR a5, vI (0 : Int32)] [(.ref a1)])) rfl rfl (hb hby d15_97)
      refine Goes.step st10 ?_
      show Goes p e below s _ _ _ T10 (mkF m 100 #[vR a1, vI (21 : Int32), vI (26 : Int32), vI p4, vR a5, vI (0 : Int32)] [(.ref co)])
      refine Goes.step (fun _ k => XS.iloadN X10.here hx rfl (hb hby d15_100) rfl k) ?_
      obtain ⟨v11, T11, h11, L11, X11, e11, Q11, st11⟩ := callXV X10 hx hZ (C := "com/example/proxysmith/proxysmith/ClassFileWriter$Bytes") (b := co) (y := y_36) (z := y_36) hown (wof hw 267 rfl) (wof hw 268 rfl) (wof hw 270 rfl) (wof hw 269 rfl) (wof hw 271 rfl) (wof hw 20 rfl) (notFace_of_selects (args := #[]) (mvT hZ (wof hw 270 rfl))) (by decide) (W := 0) (argsL := [(.int p4)]) (rest := []) (rm36 l Z a0 hw [] co p4 b 32 (((sz + 1) + 1)) f9 h9 n0 z_9 hG7_9 hFb9 hFs9 hA9 ne_co_b ge_co ge_b (by omega) hn) (by decide) (by decide) (by decide) (by decide) e10 hG7_9 (g := (mkF m 101 #[vR a1, vI (21 : Int32), vI (26 : Int32), vI p4, vR a5, vI (0 : Int32)] [(.int p4), (.ref co)])) rfl (by rw [hml]; rfl) (lenOf pd_15_5 rfl) rfl (by show 2 * 0 + _ ≤ _; exact Nat.le_of_eq rfl) (hb hby d15_101)
      obtain ⟨rfl, NQ11, KQ11, hFb11, hFs11, f11, hA11, hp11, hv11⟩ := Q11
      refine Goes.step st11 ?_
      have hE7_11 := hE7_9.keep KQ11
      have hG7_11 := hG7_9.keep KQ11
      have E_a5_11 := E_a5_9.keep KQ11
      have F_a5_value_11 := F_a5_value_9.keep KQ11 (ninS ne_a5_co (ninS ne_a5_b nin0))
      have F_a5_coder_11 := F_a5_coder_9.keep KQ11 (ninS ne_a5_co (ninS ne_a5_b nin0))
      have A_av_11 := A_av_9.keep KQ11 (ninS ne_av_co (ninS ne_av_b nin0))
      have hF07_11 := hF07_9.keep KQ11 (ninS ne_a1_co (ninS ne_a1_b nin0))
      have hF17_11 := hF17_9.keep KQ11 (ninS ne_a1_co (ninS ne_a1_b nin0))
      have hF27_11 := hF27_9.keep KQ11 (ninS ne_a1_co (ninS ne_a1_b nin0))
      have hF37_11 := hF37_9.keep KQ11 (ninS ne_a1_co (ninS ne_a1_b nin0))
      have hF47_11 := hF47_9.keep KQ11 (ninS ne_a1_co (ninS ne_a1_b nin0))
      have hF57_11 := hF57_9.keep KQ11 (ninS ne_a1_co (ninS ne_a1_b nin0))
      have hF67_11 := hF67_9.keep KQ11 (ninS ne_a1_co (ninS ne_a1_b nin0))
      have hF77_11 := hF77_9.keep KQ11 (ninS ne_a1_co (ninS ne_a1_b nin0))
      have z_11 : n0 ≤ h11.size := Nat.le_trans z_9 KQ11.1
      have K_11 : Keep h0 h11 [a1, co, b] := Keep.trans K_9 KQ11 (allS (Or.inl (List.mem_of_getElem? (i := 1) rfl)) (allS (Or.inl (List.mem_of_getElem? (i := 2) rfl)) all0))
      have N_11 := Fr.app N_9 NQ11
      show Goes p e below s _ _ _ T11 (mkF m 104 #[vR a1, vI (21 : Int32), vI (26 : Int32), vI p4, vR a5, vI (0 : Int32)] [])
      have hl : ln = 4 := by rw [← hln]; simp only [own_len]; rw [if_pos hc31, if_pos hc54]
      have hsz : Fld Z h11 co "com/example/proxysmith/proxysmith/ClassFileWriter$Bytes" "size" "I" (.int (Int32.ofNat (sz + ln))) := by have q := hFs11; rw [show (((sz + 1) + 1) + 1 + 1) = sz + ln from by omega] at q; exact q
      exact Goes.outV X11 hx hlk Bd.returns (hb hby d15_104) (by rw [e11]; exact ⟨rfl, N_11, K_11, _, _, ⟨hE7_11, hF07_11, hF17_11, hF27_11, hF37_11, hF47_11, hF57_11, hF67_11, hF77_11⟩, ⟨hG7_11, hFb11, hsz, hA11⟩⟩) (by decide) (by decide)
    · refine Goes.step (fun _ k => XS.icmpNo X6.here hx rfl (hb hby d15_54) rfl (flt hc54).2.2.1 k) ?_
      show Goes p e below s _ _ _ T6 (mkF m 57 #[vR a1, vI (21 : Int32), vI (26 : Int32), vI p4, vR a5, vI (0 : Int32)] [])
      refine Goes.step (fun _ k => XS.aloadN X6.here hx rfl (hb hby d15_57) rfl rfl k) ?_
      refine Goes.step (fun _ k => XS.iloadN X6.here hx rfl (hb hby d15_58) rfl k) ?_
      show Goes p e below s _ _ _ T6 (mkF m 59 #[vR a1, vI (21 : Int32), vI (26 : Int32), vI p4, vR a5, vI (0 : Int32)] [(.int (21 : Int32)), (.ref a1)])
      refine Goes.step (fun _ k => XS.iload X6.here hx rfl (hb hby d15_59) rfl k) ?_
      refine Goes.step (fun _ k => XS.iadd X6.here hx rfl (hb hby d15_61) rfl k) ?_
      show Goes p e below s _ _ _ T6 (mkF m 62 #[vR a1, vI (21 : Int32), vI (26 : Int32), vI p4, vR a5, vI (0 : Int32)] [(.int (21 : Int32)), (.ref a1)])
      refine Goes.step (fun _ k => XS.iconst X6.here hx rfl (hb hby d15_62) k) ?_
      obtain ⟨v12, T12, h12, L12, X12, e12, Q12, st12⟩ := callXP X6 hx hZ (b := a1) (y := y_19) hown (wof hw 132 rfl) (wof hw 133 rfl) (wof hw 134 rfl) (wof hw 2 rfl) (wof hw 135 rfl) (wof hw 3 rfl) (by decide) (W := 0) (argsL := [(.int (21 : Int32)), (.int (0 : Int32))]) (rest := []) (rm19 l Z a0 hw [] a1 (21 : Int32) co lj lf lh k (f17 ml (p4 + (1 : Int32))) b sz f h5 n0 z_5 ⟨E_a1_5, F_a1_code_5, F_a1_jumps_5, F_a1_frames_5, F_a1_handlers_5, F_a1_reachable_5, F_a1_stack_5, F_a1_maxStack_5, F_a1_maxLocals_5⟩ ⟨E_co_5, F_co_bytes_5, F_co_size_5, A_b_5⟩ ne_a1_co ne_a1_b ne_co_b ge_a1 ge_co ge_b hk (by omega)) (by decide) (by decide) (by decide) (by decide) e6 E_a1_5 (g := (mkF m 63 #[vR a1, vI (21 : Int32), vI (26 : Int32), vI p4, vR a5, vI (0 : Int32)] [(.int (0 : Int32)), (.int (21 : Int32)), (.ref a1)])) rfl (by rw [hml]; rfl) (lenOf pd_15_4 rfl) rfl (by show 2 * 0 + _ ≤ _; exact Nat.le_of_eq rfl) (hb hby d15_63)
      obtain ⟨rfl, NQ12, KQ12, ⟨hE12, hF012, hF112, hF212, hF312, hF412, hF512, hF612, hF712⟩, f12, ⟨hG12, hGb12, hGs12, hGA12⟩⟩ := Q12
      refine Goes.step st12 ?_
      have E_a1_12 := E_a1_5.keep KQ12
      have E_co_12 := E_co_5.keep KQ12
      have E_a5_12 := E_a5_5.keep KQ12
      have F_a5_value_12 := F_a5_value_5.keep KQ12 (ninS ne_a5_a1 (ninS ne_a5_co (ninS ne_a5_b nin0)))
      have F_a5_coder_12 := F_a5_coder_5.keep KQ12 (ninS ne_a5_a1 (ninS ne_a5_co (ninS ne_a5_b nin0)))
      have A_av_12 := A_av_5.keep KQ12 (ninS ne_av_a1 (ninS ne_av_co (ninS ne_av_b nin0)))
      have z_12 : n0 ≤ h12.size := Nat.le_trans z_5 KQ12.1
      have K_12 : Keep h0 h12 [a1, co, b] := Keep.trans K_5 KQ12 (allS (Or.inl (List.mem_of_getElem? (i := 0) rfl)) (allS (Or.inl (List.mem_of_getElem? (i := 1) rfl)) (allS (Or.inl (List.mem_of_getElem? (i := 2) rfl)) all0)))
      have N_12 := Fr.app N_5 NQ12
      show Goes p e below s _ _ _ T12 (mkF m 66 #[vR a1, vI (21 : Int32), vI (26 : Int32), vI p4, vR a5, vI (0 : Int32)] [])
      refine Goes.step (fun _ k => XS.aloadN X12.here hx rfl (hb hby d15_66) rfl rfl k) ?_
      obtain ⟨T13, X13, e13, st13⟩ := getF X12 hx hZ hown (host := "") (Or.inl (wof hw 27 rfl)) Via.refl e12 hF012 (g := (mkF m 67 #[vR a1, vI (21 : Int32), vI (26 : Int32), vI p4, vR a5, vI (0 : Int32)] [(.ref a1)])) rfl rfl (hb hby d15_67)
      refine Goes.step st13 ?_
      show Goes p e below s _ _ _ T13 (mkF m 70 #[vR a1, vI (21 : Int32), vI (26 : Int32), vI p4, vR a5, vI (0 : Int32)] [(.ref co)])
      refine Goes.step (fun _ k => XS.iloadN X13.here hx rfl (hb hby d15_70) rfl k) ?_
      obtain ⟨v14, T14, h14, L14, X14, e14, Q14, st14⟩ := callXV X13 hx hZ (C := "com/example/proxysmith/proxysmith/ClassFileWriter$Bytes") (b := co) (y := y_20) (z := y_20) hown (wof hw 136 rfl) (wof hw 137 rfl) (wof hw 139 rfl) (wof hw 138 rfl) (wof hw 140 rfl) (wof hw 20 rfl) (notFace_of_selects (args := #[]) (mvT hZ (wof hw 139 rfl))) (by decide) (W := 0) (argsL := [(.int p4)]) (rest := []) (rm20 l Z a0 hw [] co p4 b 32 ((sz + 1)) f12 h12 n0 z_12 hG12 hGb12 hGs12 hGA12 ne_co_b ge_co ge_b (by omega) hn) (by decide) (by decide) (by decide) (by decide) e13 hG12 (g := (mkF m 71 #[vR a1, vI (21 : Int32), vI (26 : Int32), vI p4, vR a5, vI (0 : Int32)] [(.int p4), (.ref co)])) rfl (by rw [hml]; rfl) (lenOf pd_15_5 rfl) rfl (by show 2 * 0 + _ ≤ _; exact Nat.le_of_eq rfl) (hb hby d15_71)
      obtain ⟨rfl, NQ14, KQ14, hFb14, hFs14, f14, hA14, hp14⟩ := Q14
      refine Goes.step st14 ?_
      have hE12_14 := hE12.keep KQ14
      have hG12_14 := hG12.keep KQ14
      have E_a5_14 := E_a5_12.keep KQ14
      have F_a5_value_14 := F_a5_value_12.keep KQ14 (ninS ne_a5_co (ninS ne_a5_b nin0))
      have F_a5_coder_14 := F_a5_coder_12.keep KQ14 (ninS ne_a5_co (ninS ne_a5_b nin0))
      have A_av_14 := A_av_12.keep KQ14 (ninS ne_av_co (ninS ne_av_b nin0))
      have hF012_14 := hF012.keep KQ14 (ninS ne_a1_co (ninS ne_a1_b nin0))
      have hF112_14 := hF112.keep KQ14 (ninS ne_a1_co (ninS ne_a1_b nin0))
      have hF212_14 := hF212.keep KQ14 (ninS ne_a1_co (ninS ne_a1_b nin0))
      have hF312_14 := hF312.keep KQ14 (ninS ne_a1_co (ninS ne_a1_b nin0))
      have hF412_14 := hF412.keep KQ14 (ninS ne_a1_co (ninS ne_a1_b nin0))
      have hF512_14 := hF512.keep KQ14 (ninS ne_a1_co (ninS ne_a1_b nin0))
      have hF612_14 := hF612.keep KQ14 (ninS ne_a1_co (ninS ne_a1_b nin0))
      have hF712_14 := hF712.keep KQ14 (ninS ne_a1_co (ninS ne_a1_b nin0))
      have z_14 : n0 ≤ h14.size := Nat.le_trans z_12 KQ14.1
      have K_14 : Keep h0 h14 [a1, co, b] := Keep.trans K_12 KQ14 (allS (Or.inl (List.mem_of_getElem? (i := 1) rfl)) (allS (Or.inl (List.mem_of_getElem? (i := 2) rfl)) all0))
      have N_14 := Fr.app N_12 NQ14
      show Goes p e below s _ _ _ T14 (mkF m 74 #[vR a1, vI (21 : Int32), vI (26 : Int32), vI p4, vR a5, vI (0 : Int32)] [])
      refine Goes.step (fun _ k => XS.goto X14.here hx rfl (pc0 := 74) (pc' := 104) rfl (hb hby d15_74) (by decide) (by decide) k) ?_
      show Goes p e below s _ _ _ T14 (mkF m 104 #[vR a1, vI (21 : Int32), vI (26 : Int32), vI p4, vR a5, vI (0 : Int32)] [])
      have hl : ln = 2 := by rw [← hln]; simp only [own_len]; rw [if_pos hc31, if_neg hc54]
      have hsz : Fld Z h14 co "com/example/proxysmith/proxysmith/ClassFileWriter$Bytes" "size" "I" (.int (Int32.ofNat (sz + ln))) := by have q := hFs14; rw [show ((sz + 1) + 1) = sz + ln from by omega] at q; exact q
      exact Goes.outV X14 hx hlk Bd.returns (hb hby d15_104) (by rw [e14]; exact ⟨rfl, N_14, K_14, _, _, ⟨hE12_14, hF012_14, hF112_14, hF212_14, hF312_14, hF412_14, hF512_14, hF612_14, hF712_14⟩, ⟨hG12_14, hFb14, hsz, hA14⟩⟩) (by decide) (by decide)
  · refine Goes.step (fun _ k => XS.icmpNo X6.here hx rfl (hb hby d15_31) rfl (flt hc31).2.2.1 k) ?_
    show Goes p e below s _ _ _ T6 (mkF m 34 #[vR a1, vI (21 : Int32), vI (26 : Int32), vI p4, vR a5, vI (0 : Int32)] [])
    refine Goes.step (fun _ k => XS.aloadN X6.here hx rfl (hb hby d15_34) rfl rfl k) ?_
    refine Goes.step (fun _ k => XS.iloadN X6.here hx rfl (hb hby d15_35) rfl k) ?_
    refine Goes.step (fun _ k => XS.iconst X6.here hx rfl (hb hby d15_36) k) ?_
    refine Goes.step (fun _ k => XS.iload X6.here hx rfl (hb hby d15_37) rfl k) ?_
    show Goes p e below s _ _ _ T6 (mkF m 39 #[vR a1, vI (21 : Int32), vI (26 : Int32), vI p4, vR a5, vI (0 : Int32)] [(.int (0 : Int32)), (.int (4 : Int32)), (.int (26 : Int32)), (.ref a1)])
    refine Goes.step (fun _ k => XS.imul X6.here hx rfl (hb hby d15_39) rfl k) ?_
    show Goes p e below s _ _ _ T6 (mkF m 40 #[vR a1, vI (21 : Int32), vI (26 : Int32), vI p4, vR a5, vI (0 : Int32)] [(.int (0 : Int32)), (.int (26 : Int32)), (.ref a1)])
    refine Goes.step (fun _ k => XS.iadd X6.here hx rfl (hb hby d15_40) rfl k) ?_
    show Goes p e below s _ _ _ T6 (mkF m 41 #[vR a1, vI (21 : Int32), vI (26 : Int32), vI p4, vR a5, vI (0 : Int32)] [(.int (26 : Int32)), (.ref a1)])
    refine Goes.step (fun _ k => XS.iloadN X6.here hx rfl (hb hby d15_41) rfl k) ?_
    refine Goes.step (fun _ k => XS.iadd X6.here hx rfl (hb hby d15_42) rfl k) ?_
    show Goes p e below s _ _ _ T6 (mkF m 43 #[vR a1, vI (21 : Int32), vI (26 : Int32), vI p4, vR a5, vI (0 : Int32)] [(.int ((26 : Int32) + p4)), (.ref a1)])
    refine Goes.step (fun _ k => XS.iconst X6.here hx rfl (hb hby d15_43) k) ?_
    obtain ⟨v15, T15, h15, L15, X15, e15, Q15, st15⟩ := callXP X6 hx hZ (b := a1) (y := y_19) hown (wof hw 132 rfl) (wof hw 133 rfl) (wof hw 134 rfl) (wof hw 2 rfl) (wof hw 135 rfl) (wof hw 3 rfl) (by decide) (W := 0) (argsL := [(.int ((26 : Int32) + p4)), (.int (0 : Int32))]) (rest := []) (rm19 l Z a0 hw [] a1 ((26 : Int32) + p4) co lj lf lh k (f17 ml (p4 + (1 : Int32))) b sz f h5 n0 z_5 ⟨E_a1_5, F_a1_code_5, F_a1_jumps_5, F_a1_frames_5, F_a1_handlers_5, F_a1_reachable_5, F_a1_stack_5, F_a1_maxStack_5, F_a1_maxLocals_5⟩ ⟨E_co_5, F_co_bytes_5, F_co_size_5, A_b_5⟩ ne_a1_co ne_a1_b ne_co_b ge_a1 ge_co ge_b hk (by omega)) (by decide) (by decide) (by decide) (by decide) e6 E_a1_5 (g := (mkF m 44 #[vR a1, vI (21 : Int32), vI (26 : Int32), vI p4, vR a5, vI (0 : Int32)] [(.int (0 : Int32)), (.int ((26 : Int32) + p4)), (.ref a1)])) rfl (by rw [hml]; rfl) (lenOf pd_15_4 rfl) rfl (by show 2 * 0 + _ ≤ _; exact Nat.le_of_eq rfl) (hb hby d15_44)
    obtain ⟨rfl, NQ15, KQ15, ⟨hE15, hF015, hF115, hF215, hF315, hF415, hF515, hF615, hF715⟩, f15, ⟨hG15, hGb15, hGs15, hGA15⟩⟩ := Q15
    refine Goes.step st15 ?_
    have E_a1_15 := E_a1_5.keep KQ15
    have E_co_15 := E_co_5.keep KQ15
    have E_a5_15 := E_a5_5.keep KQ15
    have F_a5_value_15 := F_a5_value_5.keep KQ15 (ninS ne_a5_a1 (ninS ne_a5_co (ninS ne_a5_b nin0)))
    have F_a5_coder_15 := F_a5_coder_5.keep KQ15 (ninS ne_a5_a1 (ninS ne_a5_co (ninS ne_a5_b nin0)))
    have A_av_15 := A_av_5.keep KQ15 (ninS ne_av_a1 (ninS ne_av_co (ninS ne_av_b nin0)))
    have z_15 : n0 ≤ h15.size := Nat.le_trans z_5 KQ15.1
    have K_15 : Keep h0 h15 [a1, co, b] := Keep.trans K_5 KQ15 (allS (Or.inl (List.mem_of_getElem? (i := 0) rfl)) (allS (Or.inl (List.mem_of_getElem? (i := 1) rfl)) (allS (Or.inl (List.mem_of_getElem? (i := 2) rfl)) all0)))
    have N_15 := Fr.app N_5 NQ15
    show Goes p e below s _ _ _ T15 (mkF m 47 #[vR a1, vI (21 : Int32), vI (26 : Int32), vI p4, vR a5, vI (0 : Int32)] [])
    refine Goes.step (fun _ k => XS.goto X15.here hx rfl (pc0 := 47) (pc' := 104) rfl (hb hby d15_47) (by decide) (by decide) k) ?_
    show Goes p e below s _ _ _ T15 (mkF m 104 #[vR a1, vI (21 : Int32), vI (26 : Int32), vI p4, vR a5, vI (0 : Int32)] [])
    have hl : ln = 1 := by rw [← hln]; simp only [own_len]; rw [if_neg hc31]
    have hsz : Fld Z h15 co "com/example/proxysmith/proxysmith/ClassFileWriter$Bytes" "size" "I" (.int (Int32.ofNat (sz + ln))) := by have q := hGs15; rw [show (sz + 1) = sz + ln from by omega] at q; exact q
    exact Goes.outV X15 hx hlk Bd.returns (hb hby d15_104) (by rw [e15]; exact ⟨rfl, N_15, K_15, _, _, ⟨hE15, hF015, hF115, hF215, hF315, hF415, hF515, hF615, hF715⟩, ⟨hG15, hGb15, hsz, hGA15⟩⟩) (by decide) (by decide)
theorem d14_0 : decode prog_2_method_8_code 0 = .ok (.aload_n 0, 1) := by decide +kernel
theorem d14_1 : decode prog_2_method_8_code 1 = .ok (.bipush 21, 2) := by decide +kernel
theorem d14_3 : decode prog_2_method_8_code 3 = .ok (.bipush 26, 2) := by decide +kernel
theorem d14_5 : decode prog_2_method_8_code 5 = .ok (.iload_n 2, 1) := by decide +kernel
theorem d14_6 : decode prog_2_method_8_code 6 = .ok (.aload_n 1, 1) := by decide +kernel
theorem d14_7 : decode prog_2_method_8_code 7 = .ok (.invokevirtual 135, 3) := by decide +kernel
theorem d14_10 : decode prog_2_method_8_code 10 = .ok (.aload_n 0, 1) := by decide +kernel
theorem d14_11 : decode prog_2_method_8_code 11 = .ok (.aload_n 1, 1) := by decide +kernel
theorem d14_12 : decode prog_2_method_8_code 12 = .ok (.iconst 0, 1) := by decide +kernel
theorem d14_13 : decode prog_2_method_8_code 13 = .ok (.invokevirtual 46, 3) := by decide +kernel
theorem d14_16 : decode prog_2_method_8_code 16 = .ok (.invokestatic 60, 3) := by decide +kernel
theorem d14_19 : decode prog_2_method_8_code 19 = .ok (.invokevirtual 139, 3) := by decide +kernel
theorem d14_22 : decode prog_2_method_8_code 22 = .ok (.return_, 1) := by decide +kernel
theorem pn_14 : plainName "com/example/proxysmith/proxysmith/Bytecode" = true := by first | (simp [plainName, overriddenIn]; done) | decide +kernel
theorem pd_14_0 : parseMethodDescriptor "(IIILjava/lang/String;)V" = some ⟨[.int, .int, .int, (.object "java/lang/String")], none⟩ := by decide +kernel
theorem pd_14_1 : parseMethodDescriptor "(I)C" = some ⟨[.int], some .char⟩ := by decide +kernel
theorem pd_14_2 : parseMethodDescriptor "(C)I" = some ⟨[.char], some .int⟩ := by decide +kernel
theorem pd_14_3 : parseMethodDescriptor "(I)V" = some ⟨[.int], none⟩ := by decide +kernel
theorem ef_14 (m : MethodId) (a1 : Addr) (a2 : Addr) (p3 : Int32) : entryFrame m #[(.ref a1), (.ref a2), (.int p3)] 3 = mkF m 0 #[.val (.ref a1), .val (.ref a2), .val (.int p3)] [] := by first | (simp [entryFrame, mkF, argsToLocals, Value.category]; done) | rfl
def Q14 (Z : State) (a1 : Addr) (a2 : Addr) (p3 : Int32) (G1 : Int32) (oF : Option Addr) (co : Addr) (lj : Addr) (lf : Addr) (lh : Addr) (k : Nat) (ml : Int32) (b : Addr) (sz : Nat) (f : Nat → Int32) (av : Addr) (ln : Nat) (h0 : Heap) (n0 : Nat) (v : Option Value) (h : Heap) (L : List Loc) : Prop := v = none ∧ Fr n0 L ∧ Keep h0 h [a1, co, b] ∧ ∃ ml' f', Bya Z h a1 co lj lf lh (k + 1) ml' ∧ Byb Z h co b (sz + ln) f'
set_option maxRecDepth 65536 in
set_option maxHeartbeats 40000000 in
theorem rm14 (l : Launch) (Z : State) (a0 : Array Value) (hw : ∀ d ∈ tables_1, d.before a0 Z = true) (ws : List Jvm.Cond) (a1 : Addr) (a2 : Addr) (p3 : Int32) (G1 : Int32) (oF : Option Addr) (co : Addr) (lj : Addr) (lf : Addr) (lh : Addr) (k : Nat) (ml : Int32) (b : Addr) (sz : Nat) (f : Nat → Int32) (av : Addr) (ln : Nat) (h0 : Heap) (n0 : Nat) (Z0 : n0 ≤ h0.size) (O2 : Sta Z Z.heap "java/lang/String" "COMPACT_STRINGS" "Z" (.int G1)) (P3 : ¬ (G1 = (0 : Int32))) (OL : Old Z n0 h0) (O4 : Sta Z Z.heap "jdk/internal/util/Preconditions" "SIOOBE_FORMATTER" "Ljava/util/function/BiFunction;" (ov oF)) (HA : Bya Z h0 a1 co lj lf lh k ml) (HB : Byb Z h0 co b sz f) (ne_a1_co : a1 ≠ co) (ne_a1_b : a1 ≠ b) (ne_co_b : co ≠ b) (ge_a1 : n0 ≤ a1) (ge_co : n0 ≤ co) (ge_b : n0 ≤ b) (E_a2_0 : Exa Z h0 a2 "java/lang/String") (F_a2_value_0 : Fld Z h0 a2 "java/lang/String" "value" "[B" (.ref av)) (F_a2_coder_0 : Fld Z h0 a2 "java/lang/String" "coder" "B" (.int (0 : Int32))) (A_av_0 : Ari Z h0 av .byte 1 (strF "I")) (ne_a2_a1 : a2 ≠ a1) (ne_a2_co : a2 ≠ co) (ne_a2_b : a2 ≠ b) (ne_av_a1 : av ≠ a1) (ne_av_co : av ≠ co) (ne_av_b : av ≠ b) (hk : k ≤ 8) (hfit : sz + 4 ≤ 32) (hln : own_len p3 = ln) :
    MetFree l y_14 (head1 (Jvm.Cond.code y_14 prog_2_method_8_code 3 none :: ws) ({ frames := 6, cells := 0, slots := 0, locals := 82 } : Room)) (fun a U => a = #[(.ref a1), (.ref a2), (.int p3)] ∧ Z.Warmed39 U.vm ∧ U.heap = h0) (fun _ _ _ _ _ => True) (fun _ U o U' => ∃ v L, o = .returned v ∧ Q14 Z a1 a2 p3 G1 oF co lj lf lh k ml b sz f av ln h0 n0 v U'.heap L ∧ FrameEnd U o U' L ({ frames := 6, cells := 0, slots := 0, locals := 82 } : Room).cells ({ frames := 6, cells := 0, slots := 0, locals := 82 } : Room).slots) := by
  refine MetFree.of_bodySF (plainFor_of_name pn_14) hisR ?_
  intro p e s m args below meth c s₁ Bd hml0 hP hK
  obtain ⟨rfl, hZ, hh⟩ := hP
  have hx := Bd.exec
  have hby := Bd.bytes
  have hlk := Bd.notSynchronized
  have hml : c.maxLocals = 3 := hml0
  have hown : s.vm.findClass "com/example/proxysmith/proxysmith/Bytecode" = some m.cls := findClass_of_methodNamed Bd.named
  have hnm := (name_of_methodNamed Bd.named Bd.method).1
  have X0 : Stand p l e ({ frames := 6, cells := 0, slots := 0, locals := 82 } : Room) s m #[(.ref a1), (.ref a2), (.int p3)] below meth c s₁ [] 0 0 := Stand.of_body Bd
  have e0 : s₁.heap = h0 := by rw [← hh, Bd.state]; rfl
  have N0 := Fr.nil n0
  have K0 : Keep h0 h0 [a1, co, b] := Keep.refl h0 _
  show Goes p e below s ({ frames := 6, cells := 0, slots := 0, locals := 82 } : Room).cells ({ frames := 6, cells := 0, slots := 0, locals := 82 } : Room).slots (Q14 Z a1 a2 p3 G1 oF co lj lf lh k ml b sz f av ln h0 n0) s₁ (entryFrame m #[(.ref a1), (.ref a2), (.int p3)] 3)
  refine Goes.step (fun t k => castTop (ef_14 m a1 a2 p3) k) ?_
  obtain ⟨E_a1_0, F_a1_code_0, F_a1_jumps_0, F_a1_frames_0, F_a1_handlers_0, F_a1_reachable_0, F_a1_stack_0, F_a1_maxStack_0, F_a1_maxLocals_0⟩ := HA
  obtain ⟨E_co_0, F_co_bytes_0, F_co_size_0, A_b_0⟩ := HB
  refine Goes.step (fun _ k => XS.aloadN X0.here hx rfl (hb hby d14_0) rfl rfl k) ?_
  refine Goes.step (fun _ k => XS.bipush X0.here hx rfl (hb hby d14_1) k) ?_
  refine Goes.step (fun _ k => XS.bipush X0.here hx rfl (hb hby d14_3) k) ?_
  refine Goes.step (fun _ k => XS.iloadN X0.here hx rfl (hb hby d14_5) rfl k) ?_
  refine Goes.step (fun _ k => XS.aloadN X0.here hx rfl (hb hby d14_6) rfl rfl k) ?_
  obtain ⟨v1, T1, h1, L1, X1, e1, Q1, st1⟩ := callXP X0 hx hZ (b := a1) (y := y_15) hown (wof hw 118 rfl) (wof hw 119 rfl) (wof hw 120 rfl) (wof hw 2 rfl) (wof hw 121 rfl) (wof hw 3 rfl) (by decide) (W := 0) (argsL := [(.int (21 : Int32)), (.int (26 : Int32)), (.int p3), (.ref a2)]) (rest := []) (rm15 l Z a0 hw [] a1 p3 a2 G1 oF co lj lf lh k ml b sz f av ln h0 n0 Z0 O2 P3 (OL.keep K0 (allS ge_a1 (allS ge_co (allS ge_b all0)))) O4 ⟨E_a1_0, F_a1_code_0, F_a1_jumps_0, F_a1_frames_0, F_a1_handlers_0, F_a1_reachable_0, F_a1_stack_0, F_a1_maxStack_0, F_a1_maxLocals_0⟩ ⟨E_co_0, F_co_bytes_0, F_co_size_0, A_b_0⟩ ne_a1_co ne_a1_b ne_co_b ge_a1 ge_co ge_b E_a2_0 F_a2_value_0 F_a2_coder_0 A_av_0 ne_a2_a1 ne_a2_co ne_a2_b ne_av_a1 ne_av_co ne_av_b hk hfit hln) (by decide) (by decide) (by decide) (by decide) e0 E_a1_0 (g := (mkF m 7 #[vR a1, vR a2, vI p3] [(.ref a2), (.int p3), (.int (26 : Int32)), (.int (21 : Int32)), (.ref a1)])) rfl (by rw [hml]; rfl) (lenOf pd_14_0 rfl) rfl (by show 2 * 0 + _ ≤ _; exact Nat.le_of_eq rfl) (hb hby d14_7)
  obtain ⟨rfl, NQ1, KQ1, ml1, f1, ⟨hE1, hF01, hF11, hF21, hF31, hF41, hF51, hF61, hF71⟩, ⟨hG1, hGb1, hGs1, hGA1⟩⟩ := Q1
  refine Goes.step st1 ?_
  have E_a1_1 := E_a1_0.keep KQ1
  have E_co_1 := E_co_0.keep KQ1
  have E_a2_1 := E_a2_0.keep KQ1
  have F_a2_value_1 := F_a2_value_0.keep KQ1 (ninS ne_a2_a1 (ninS ne_a2_co (ninS ne_a2_b nin0)))
  have F_a2_coder_1 := F_a2_coder_0.keep KQ1 (ninS ne_a2_a1 (ninS ne_a2_co (ninS ne_a2_b nin0)))
  have A_av_1 := A_av_0.keep KQ1 (ninS ne_av_a1 (ninS ne_av_co (ninS ne_av_b nin0)))
  have z_1 : n0 ≤ h1.size := Nat.le_trans Z0 KQ1.1
  have K_1 : Keep h0 h1 [a1, co, b] := Keep.trans K0 KQ1 (allS (Or.inl (List.mem_of_getElem? (i := 0) rfl)) (allS (Or.inl (List.mem_of_getElem? (i := 1) rfl)) (allS (Or.inl (List.mem_of_getElem? (i := 2) rfl)) all0)))
  have N_1 := Fr.app N0 NQ1
  show Goes p e below s _ _ _ T1 (mkF m 10 #[vR a1, vR a2, vI p3] [])
  refine Goes.step (fun _ k => XS.aloadN X1.here hx rfl (hb hby d14_10) rfl rfl k) ?_
  refine Goes.step (fun _ k => XS.aloadN X1.here hx rfl (hb hby d14_11) rfl rfl k) ?_
  refine Goes.step (fun _ k => XS.iconst X1.here hx rfl (hb hby d14_12) k) ?_
  obtain ⟨T2, X2, e2, st2⟩ := own_pure (r := some (.int (73 : Int32))) (fun _ _ _ q => q) (callXV X1 hx hZ (C := "java/lang/String") (b := a2) (y := y_7) (z := y_7) hown (wof hw 68 rfl) (wof hw 69 rfl) (wof hw 71 rfl) (wof hw 70 rfl) (wof hw 72 rfl) (wof hw 5 rfl) (notFace_of_selects (args := #[]) (mvT hZ (wof hw 71 rfl))) (by decide) (W := 1) (argsL := [(.int (0 : Int32))]) (rest := [(.ref a1)]) (rm7 l Z a0 hw [] a2 (0 : Int32) G1 oF av 1 (strF "I") 0 (73 : Int32) h1 n0 z_1 O2 P3 (OL.keep K_1 (allS ge_a1 (allS ge_co (allS ge_b all0)))) O4 E_a2_1 F_a2_value_1 F_a2_coder_1 A_av_1 rfl (by decide) (by decide)) (by decide) (by decide) (by decide) (by decide) e1 E_a2_1 (g := (mkF m 13 #[vR a1, vR a2, vI p3] [(.int (0 : Int32)), (.ref a2), (.ref a1)])) rfl (by rw [hml]; rfl) (lenOf pd_14_1 rfl) rfl (by show 2 * 0 + _ ≤ _; exact Nat.le_of_eq rfl) (hb hby d14_13))
  refine Goes.step st2 ?_
  show Goes p e below s _ _ _ T2 (mkF m 16 #[vR a1, vR a2, vI p3] [(.int (73 : Int32)), (.ref a1)])
  obtain ⟨T3, X3, e3, st3⟩ := own_pure (r := some (.int (1 : Int32))) (fun _ _ _ q => q) (callX X2 hx hZ (y := y_16) hown (wof hw 122 rfl) (wof hw 123 rfl) (wof hw 3 rfl) (wof hw 124 rfl) (by decide) (W := 1) (argsL := [(.int (73 : Int32))]) (rest := [(.ref a1)]) (rm16 l Z a0 hw []  h1 n0 z_1) (by decide) (by decide) (by decide) (by decide) e2 (g := (mkF m 16 #[vR a1, vR a2, vI p3] [(.int (73 : Int32)), (.ref a1)])) rfl (by rw [hml]; rfl) (lenOf pd_14_2 rfl) rfl (by show 2 * 0 + _ ≤ _; exact Nat.le_of_eq rfl) (hb hby d14_16))
  refine Goes.step st3 ?_
  show Goes p e below s _ _ _ T3 (mkF m 19 #[vR a1, vR a2, vI p3] [(.int (1 : Int32)), (.ref a1)])
  obtain ⟨v4, T4, h4, L4, X4, e4, Q4, st4⟩ := callXP X3 hx hZ (b := a1) (y := y_22) hown (wof hw 147 rfl) (wof hw 148 rfl) (wof hw 149 rfl) (wof hw 2 rfl) (wof hw 150 rfl) (wof hw 3 rfl) (by decide) (W := 0) (argsL := [(.int (1 : Int32))]) (rest := []) (rm22j1 l Z a0 hw [] a1 co lj lf lh k ml1 h1 n0 z_1 ⟨hE1, hF01, hF11, hF21, hF31, hF41, hF51, hF61, hF71⟩ ge_a1 hk) (by decide) (by decide) (by decide) (by decide) e3 hE1 (g := (mkF m 19 #[vR a1, vR a2, vI p3] [(.int (1 : Int32)), (.ref a1)])) rfl (by rw [hml]; rfl) (lenOf pd_14_3 rfl) rfl (by show 2 * 0 + _ ≤ _; exact Nat.le_of_eq rfl) (hb hby d14_19)
  obtain ⟨rfl, NQ4, KQ4, ⟨hE4, hF04, hF14, hF24, hF34, hF44, hF54, hF64, hF74⟩⟩ := Q4
  refine Goes.step st4 ?_
  have hE1_4 := hE1.keep KQ4
  have hG1_4 := hG1.keep KQ4
  have E_a2_4 := E_a2_1.keep KQ4
  have F_a2_value_4 := F_a2_value_1.keep KQ4 (ninS ne_a2_a1 nin0)
  have F_a2_coder_4 := F_a2_coder_1.keep KQ4 (ninS ne_a2_a1 nin0)
  have A_av_4 := A_av_1.keep KQ4 (ninS ne_av_a1 nin0)
  have hGb1_4 := hGb1.keep KQ4 (ninS (Ne.symm ne_a1_co) nin0)
  have hGs1_4 := hGs1.keep KQ4 (ninS (Ne.symm ne_a1_co) nin0)
  have hGA1_4 := hGA1.keep KQ4 (ninS (Ne.symm ne_a1_b) nin0)
  have z_4 : n0 ≤ h4.size := Nat.le_trans z_1 KQ4.1
  have K_4 : Keep h0 h4 [a1, co, b] := Keep.trans K_1 KQ4 (allS (Or.inl (List.mem_of_getElem? (i := 0) rfl)) all0)
  have N_4 := Fr.app N_1 NQ4
  show Goes p e below s _ _ _ T4 (mkF m 22 #[vR a1, vR a2, vI p3] [])
  exact Goes.outV X4 hx hlk Bd.returns (hb hby d14_22) (by rw [e4]; exact ⟨rfl, N_4, K_4, _, _, ⟨hE4, hF04, hF14, hF24, hF34, hF44, hF54, hF64, hF74⟩, ⟨hG1_4, hGb1_4, hGs1_4, hGA1_4⟩⟩) (by decide) (by decide)
theorem d23_0 : decode prog_2_method_5_code 0 = .ok (.aload_n 1, 1) := by decide +kernel
theorem d23_1 : decode prog_2_method_5_code 1 = .ok (.getfield 90, 3) := by decide +kernel
theorem d23_4 : decode prog_2_method_5_code 4 = .ok (.ifCond .lt 13, 3) := by decide +kernel
theorem d23_17 : decode prog_2_method_5_code 17 = .ok (.aload_n 1, 1) := by decide +kernel
theorem d23_18 : decode prog_2_method_5_code 18 = .ok (.aload_n 0, 1) := by decide +kernel
theorem d23_19 : decode prog_2_method_5_code 19 = .ok (.getfield 12, 3) := by decide +kernel
theorem d23_22 : decode prog_2_method_5_code 22 = .ok (.invokevirtual 100, 3) := by decide +kernel
theorem d23_25 : decode prog_2_method_5_code 25 = .ok (.putfield 90, 3) := by decide +kernel
theorem d23_28 : decode prog_2_method_5_code 28 = .ok (.return_, 1) := by decide +kernel
theorem pn_23 : plainName "com/example/proxysmith/proxysmith/Bytecode" = true := by first | (simp [plainName, overriddenIn]; done) | decide +kernel
theorem pd_23_0 : parseMethodDescriptor "()I" = some ⟨[], some .int⟩ := by decide +kernel
theorem ef_23 (m : MethodId) (a1 : Addr) (a2 : Addr) : entryFrame m #[(.ref a1), (.ref a2)] 2 = mkF m 0 #[.val (.ref a1), .val (.ref a2)] [] := by first | (simp [entryFrame, mkF, argsToLocals, Value.category]; done) | rfl
def Q23 (Z : State) (a1 : Addr) (a2 : Addr) (co : Addr) (sz : Nat) (h0 : Heap) (n0 : Nat) (v : Option Value) (h : Heap) (L : List Loc) : Prop := v = none ∧ Fr n0 L ∧ Keep h0 h [a2] ∧ Fld Z h a2 "com/example/proxysmith/proxysmith/Bytecode$Label" "offset" "I" (.int (Int32.ofNat sz))
set_option maxRecDepth 65536 in
set_option maxHeartbeats 40000000 in
theorem rm23 (l : Launch) (Z : State) (a0 : Array Value) (hw : ∀ d ∈ tables_1, d.before a0 Z = true) (ws : List Jvm.Cond) (a1 : Addr) (a2 : Addr) (co : Addr) (sz : Nat) (h0 : Heap) (n0 : Nat) (Z0 : n0 ≤ h0.size) (F_a1_code_0 : Fld Z h0 a1 "com/example/proxysmith/proxysmith/Bytecode" "code" "Lcom/example/proxysmith/proxysmith/ClassFileWriter$Bytes;" (.ref co)) (E_co_0 : Exa Z h0 co "com/example/proxysmith/proxysmith/ClassFileWriter$Bytes") (F_co_size_0 : Fld Z h0 co "com/example/proxysmith/proxysmith/ClassFileWriter$Bytes" "size" "I" (.int (Int32.ofNat sz))) (E_a2_0 : Exa Z h0 a2 "com/example/proxysmith/proxysmith/Bytecode$Label") (F_a2_offset_0 : Fld Z h0 a2 "com/example/proxysmith/proxysmith/Bytecode$Label" "offset" "I" (.int (-1 : Int32))) (ge_a2 : n0 ≤ a2) (ne_a1_a2 : a1 ≠ a2) (ne_co_a2 : co ≠ a2) :
    MetFree l y_23 (head1 (Jvm.Cond.code y_23 prog_2_method_5_code 2 none :: ws) ({ frames := 1, cells := 0, slots := 0, locals := 13 } : Room)) (fun a U => a = #[(.ref a1), (.ref a2)] ∧ Z.Warmed39 U.vm ∧ U.heap = h0) (fun _ _ _ _ _ => True) (fun _ U o U' => ∃ v L, o = .returned v ∧ Q23 Z a1 a2 co sz h0 n0 v U'.heap L ∧ FrameEnd U o U' L ({ frames := 1, cells := 0, slots := 0, locals := 13 } : Room).cells ({ frames := 1, cells := 0, slots := 0, locals := 13 } : Room).slots) := by
  refine MetFree.of_bodySF (plainFor_of_name pn_23) hisR ?_
  intro p e s m args below meth c s₁ Bd hml0 hP hK
  obtain ⟨rfl, hZ, hh⟩ := hP
  have hx := Bd.exec
  have hby := Bd.bytes
  have hlk := Bd.notSynchronized
  have hml : c.maxLocals = 2 := hml0
  have hown : s.vm.findClass "com/example/proxysmith/proxysmith/Bytecode" = some m.cls := findClass_of_methodNamed Bd.named
  have hnm := (name_of_methodNamed Bd.named Bd.method).1
  have X0 : Stand p l e ({ frames := 1, cells := 0, slots := 0, locals := 13 } : Room) s m #[(.ref a1), (.ref a2)] below meth c s₁ [] 0 0 := Stand.of_body Bd
  have e0 : s₁.heap = h0 := by rw [← hh, Bd.state]; rfl
  have N0 := Fr.nil n0
  have K0 : Keep h0 h0 [a2] := Keep.refl h0 _
  show Goes p e below s ({ frames := 1, cells := 0, slots := 0, locals := 13 } : Room).cells ({ frames := 1, cells := 0, slots := 0, locals := 13 } : Room).slots (Q23 Z a1 a2 co sz h0 n0) s₁ (entryFrame m #[(.ref a1), (.ref a2)] 2)
  refine Goes.step (fun t k => castTop (ef_23 m a1 a2) k) ?_
  refine Goes.step (fun _ k => XS.aloadN X0.here hx rfl (hb hby d23_0) rfl rfl k) ?_
  refine Goes.step (fun _ k => getFR X0 hx hZ hown (wof hw 160 rfl) e0 F_a2_offset_0 (g := (mkF m 1 #[vR a1, vR a2] [(.ref a2)])) rfl rfl (hb hby d23_1) _ k) ?_
  show Goes p e below s _ _ _ s₁ (mkF m 4 #[vR a1, vR a2] [(.int (-1 : Int32))])
  refine Goes.step (fun _ k => XS.ifYes X0.here hx rfl (pc0 := 4) (pc' := 17) rfl (hb hby d23_4) rfl ((if0 _ _).trans (tlt (by decide : (-1 : Int32) < (0 : Int32))).1) (by decide) (by decide) k) ?_
  show Goes p e below s _ _ _ s₁ (mkF m 17 #[vR a1, vR a2] [])
  refine Goes.step (fun _ k => XS.aloadN X0.here hx rfl (hb hby d23_17) rfl rfl k) ?_
  refine Goes.step (fun _ k => XS.aloadN X0.here hx rfl (hb hby d23_18) rfl rfl k) ?_
  obtain ⟨T2, X2, e2, st2⟩ := getF X0 hx hZ hown (host := "") (Or.inl (wof hw 27 rfl)) Via.refl e0 F_a1_code_0 (g := (mkF m 19 #[vR a1, vR a2] [(.ref a1), (.ref a2)])) rfl rfl (hb hby d23_19)
  refine Goes.step st2 ?_
  show Goes p e below s _ _ _ T2 (mkF m 22 #[vR a1, vR a2] [(.ref co), (.ref a2)])
  obtain ⟨T3, X3, e3, st3⟩ := own_pure (r := some (.int (Int32.ofNat sz))) (fun _ _ _ q => q) (callXV X2 hx hZ (C := "com/example/proxysmith/proxysmith/ClassFileWriter$Bytes") (b := co) (y := y_24) (z := y_24) hown (wof hw 161 rfl) (wof hw 162 rfl) (wof hw 164 rfl) (wof hw 163 rfl) (wof hw 165 rfl) (wof hw 20 rfl) (notFace_of_selects (args := #[]) (mvT hZ (wof hw 164 rfl))) (by decide) (W := 1) (argsL := []) (rest := [(.ref a2)]) (rm24 l Z a0 hw [] co sz h0 n0 Z0 F_co_size_0) (by decide) (by decide) (by decide) (by decide) e2 E_co_0 (g := (mkF m 22 #[vR a1, vR a2] [(.ref co), (.ref a2)])) rfl (by rw [hml]; rfl) (lenOf pd_23_0 rfl) rfl (by show 2 * 0 + _ ≤ _; exact Nat.le_of_eq rfl) (hb hby d23_22))
  refine Goes.step st3 ?_
  show Goes p e below s _ _ _ T3 (mkF m 25 #[vR a1, vR a2] [(.int (Int32.ofNat sz)), (.ref a2)])
  obtain ⟨T4, h4, X4, e4, W4, st4⟩ := putFR X3 hx hZ hown (wof hw 160 rfl) e3 F_a2_offset_0 E_a2_0 (wof hw 111 rfl) (wof hw 104 rfl) (ty := .int) (by decide) rfl rfl (g := (mkF m 25 #[vR a1, vR a2] [(.int (Int32.ofNat sz)), (.ref a2)])) rfl rfl (hb hby d23_25)
  refine Goes.step st4 ?_
  have F_a1_code_4 := F_a1_code_0.other W4 (Or.inl ne_a1_a2)
  have E_co_4 := E_co_0.wr W4
  have F_co_size_4 := F_co_size_0.other W4 (Or.inl ne_co_a2)
  have E_a2_4 := E_a2_0.wr W4
  have z_4 : n0 ≤ h4.size := by rw [W4.size]; exact Z0
  have K_4 : Keep h0 h4 [a2] := K0.wr W4 (Or.inl (List.mem_of_getElem? (i := 0) rfl))
  have N_4 := Fr.snoc X4 N0 ge_a2
  have F_a2_offset_4 : Fld Z h4 a2 "com/example/proxysmith/proxysmith/Bytecode$Label" "offset" "I" (.int (Int32.ofNat sz)) := F_a2_offset_0.same W4
  show Goes p e below s _ _ _ T4 (mkF m 28 #[vR a1, vR a2] [])
  exact Goes.outV X4 hx hlk Bd.returns (hb hby d23_28) (by rw [e4]; exact ⟨rfl, N_4, K_4, F_a2_offset_4⟩) (by decide) (by decide)
theorem d1_0 : decode prog_2_method_1_code 0 = .ok (.aload_n 0, 1) := by decide +kernel
theorem d1_1 : decode prog_2_method_1_code 1 = .ok (.invokespecial 1, 3) := by decide +kernel
theorem d1_4 : decode prog_2_method_1_code 4 = .ok (.aload_n 0, 1) := by decide +kernel
theorem d1_5 : decode prog_2_method_1_code 5 = .ok (.new 7, 3) := by decide +kernel
theorem d1_8 : decode prog_2_method_1_code 8 = .ok (.dup, 1) := by decide +kernel
theorem d1_9 : decode prog_2_method_1_code 9 = .ok (.bipush 32, 2) := by decide +kernel
theorem d1_11 : decode prog_2_method_1_code 11 = .ok (.invokespecial 9, 3) := by decide +kernel
theorem d1_14 : decode prog_2_method_1_code 14 = .ok (.putfield 12, 3) := by decide +kernel
theorem d1_17 : decode prog_2_method_1_code 17 = .ok (.aload_n 0, 1) := by decide +kernel
theorem d1_18 : decode prog_2_method_1_code 18 = .ok (.new 18, 3) := by decide +kernel
theorem d1_21 : decode prog_2_method_1_code 21 = .ok (.dup, 1) := by decide +kernel
theorem d1_22 : decode prog_2_method_1_code 22 = .ok (.iconst 4, 1) := by decide +kernel
theorem d1_23 : decode prog_2_method_1_code 23 = .ok (.invokespecial 20, 3) := by decide +kernel
theorem d1_26 : decode prog_2_method_1_code 26 = .ok (.putfield 21, 3) := by decide +kernel
theorem d1_29 : decode prog_2_method_1_code 29 = .ok (.aload_n 0, 1) := by decide +kernel
theorem d1_30 : decode prog_2_method_1_code 30 = .ok (.new 18, 3) := by decide +kernel
theorem d1_33 : decode prog_2_method_1_code 33 = .ok (.dup, 1) := by decide +kernel
theorem d1_34 : decode prog_2_method_1_code 34 = .ok (.iconst 4, 1) := by decide +kernel
theorem d1_35 : decode prog_2_method_1_code 35 = .ok (.invokespecial 20, 3) := by decide +kernel
theorem d1_38 : decode prog_2_method_1_code 38 = .ok (.putfield 25, 3) := by decide +kernel
theorem d1_41 : decode prog_2_method_1_code 41 = .ok (.aload_n 0, 1) := by decide +kernel
theorem d1_42 : decode prog_2_method_1_code 42 = .ok (.new 18, 3) := by decide +kernel
theorem d1_45 : decode prog_2_method_1_code 45 = .ok (.dup, 1) := by decide +kernel
theorem d1_46 : decode prog_2_method_1_code 46 = .ok (.iconst 2, 1) := by decide +kernel
theorem d1_47 : decode prog_2_method_1_code 47 = .ok (.invokespecial 20, 3) := by decide +kernel
theorem d1_50 : decode prog_2_method_1_code 50 = .ok (.putfield 28, 3) := by decide +kernel
theorem d1_53 : decode prog_2_method_1_code 53 = .ok (.aload_n 0, 1) := by decide +kernel
theorem d1_54 : decode prog_2_method_1_code 54 = .ok (.iconst 1, 1) := by decide +kernel
theorem d1_55 : decode prog_2_method_1_code 55 = .ok (.putfield 31, 3) := by decide +kernel
theorem d1_58 : decode prog_2_method_1_code 58 = .ok (.aload_n 0, 1) := by decide +kernel
theorem d1_59 : decode prog_2_method_1_code 59 = .ok (.aload_n 1, 1) := by decide +kernel
theorem d1_60 : decode prog_2_method_1_code 60 = .ok (.putfield 35, 3) := by decide +kernel
theorem d1_63 : decode prog_2_method_1_code 63 = .ok (.aload_n 0, 1) := by decide +kernel
theorem d1_64 : decode prog_2_method_1_code 64 = .ok (.aload_n 2, 1) := by decide +kernel
theorem d1_65 : decode prog_2_method_1_code 65 = .ok (.putfield 39, 3) := by decide +kernel
theorem d1_68 : decode prog_2_method_1_code 68 = .ok (.aload_n 0, 1) := by decide +kernel
theorem d1_69 : decode prog_2_method_1_code 69 = .ok (.aload_n 3, 1) := by decide +kernel
theorem d1_70 : decode prog_2_method_1_code 70 = .ok (.putfield 43, 3) := by decide +kernel
theorem d1_73 : decode prog_2_method_1_code 73 = .ok (.aload_n 2, 1) := by decide +kernel
theorem d1_74 : decode prog_2_method_1_code 74 = .ok (.ifnonnull 7, 3) := by decide +kernel
theorem d1_77 : decode prog_2_method_1_code 77 = .ok (.iconst 0, 1) := by decide +kernel
theorem d1_78 : decode prog_2_method_1_code 78 = .ok (.goto 4, 3) := by decide +kernel
theorem d1_82 : decode prog_2_method_1_code 82 = .ok (.istore 4, 2) := by decide +kernel
theorem d1_84 : decode prog_2_method_1_code 84 = .ok (.iconst 1, 1) := by decide +kernel
theorem d1_85 : decode prog_2_method_1_code 85 = .ok (.istore 5, 2) := by decide +kernel
theorem d1_87 : decode prog_2_method_1_code 87 = .ok (.aload_n 3, 1) := by decide +kernel
theorem d1_88 : decode prog_2_method_1_code 88 = .ok (.iload 5, 2) := by decide +kernel
theorem d1_90 : decode prog_2_method_1_code 90 = .ok (.invokevirtual 46, 3) := by decide +kernel
theorem d1_93 : decode prog_2_method_1_code 93 = .ok (.bipush 41, 2) := by decide +kernel
theorem d1_95 : decode prog_2_method_1_code 95 = .ok (.if_icmp .eq 17, 3) := by decide +kernel
theorem d1_112 : decode prog_2_method_1_code 112 = .ok (.aload_n 0, 1) := by decide +kernel
theorem d1_113 : decode prog_2_method_1_code 113 = .ok (.iload 4, 2) := by decide +kernel
theorem d1_115 : decode prog_2_method_1_code 115 = .ok (.newarray .int, 2) := by decide +kernel
theorem d1_117 : decode prog_2_method_1_code 117 = .ok (.putfield 56, 3) := by decide +kernel
theorem d1_120 : decode prog_2_method_1_code 120 = .ok (.aload_n 2, 1) := by decide +kernel
theorem d1_121 : decode prog_2_method_1_code 121 = .ok (.ifnonnull 7, 3) := by decide +kernel
theorem d1_124 : decode prog_2_method_1_code 124 = .ok (.iconst 0, 1) := by decide +kernel
theorem d1_125 : decode prog_2_method_1_code 125 = .ok (.goto 4, 3) := by decide +kernel
theorem d1_129 : decode prog_2_method_1_code 129 = .ok (.istore 5, 2) := by decide +kernel
theorem d1_131 : decode prog_2_method_1_code 131 = .ok (.aload_n 2, 1) := by decide +kernel
theorem d1_132 : decode prog_2_method_1_code 132 = .ok (.ifnonnull 7, 3) := by decide +kernel
theorem d1_135 : decode prog_2_method_1_code 135 = .ok (.iconst 0, 1) := by decide +kernel
theorem d1_136 : decode prog_2_method_1_code 136 = .ok (.goto 4, 3) := by decide +kernel
theorem d1_140 : decode prog_2_method_1_code 140 = .ok (.istore 6, 2) := by decide +kernel
theorem d1_142 : decode prog_2_method_1_code 142 = .ok (.iconst 1, 1) := by decide +kernel
theorem d1_143 : decode prog_2_method_1_code 143 = .ok (.istore 7, 2) := by decide +kernel
theorem d1_145 : decode prog_2_method_1_code 145 = .ok (.aload_n 3, 1) := by decide +kernel
theorem d1_146 : decode prog_2_method_1_code 146 = .ok (.iload 7, 2) := by decide +kernel
theorem d1_148 : decode prog_2_method_1_code 148 = .ok (.invokevirtual 46, 3) := by decide +kernel
theorem d1_151 : decode prog_2_method_1_code 151 = .ok (.bipush 41, 2) := by decide +kernel
theorem d1_153 : decode prog_2_method_1_code 153 = .ok (.if_icmp .eq 40, 3) := by decide +kernel
theorem d1_193 : decode prog_2_method_1_code 193 = .ok (.aload_n 0, 1) := by decide +kernel
theorem d1_194 : decode prog_2_method_1_code 194 = .ok (.iload 5, 2) := by decide +kernel
theorem d1_196 : decode prog_2_method_1_code 196 = .ok (.putfield 64, 3) := by decide +kernel
theorem d1_199 : decode prog_2_method_1_code 199 = .ok (.return_, 1) := by decide +kernel
theorem pn_1 : plainName "com/example/proxysmith/proxysmith/Bytecode" = true := by first | (simp [plainName, overriddenIn]; done) | decide +kernel
theorem pd_1_0 : parseMethodDescriptor "(I)V" = some ⟨[.int], none⟩ := by decide +kernel
theorem pd_1_1 : parseMethodDescriptor "(I)C" = some ⟨[.int], some .char⟩ := by decide +kernel
theorem ef_1 (m : MethodId) (a1 : Addr) (a4 : Addr) : entryFrame m #[(.ref a1), .null, .null, (.ref a4)] 8 = mkF m 0 #[.val (.ref a1), .val .null, .val .null, .val (.ref a4), .unset, .unset, .unset, .unset] [] := by first | (simp [entryFrame, mkF, argsToLocals, Value.category]; done) | rfl
def Q1 (Z : State) (a1 : Addr) (a4 : Addr) (G1 : Int32) (oF : Option Addr) (av : Addr) (h0 : Heap) (n0 : Nat) (v : Option Value) (h : Heap) (L : List Loc) : Prop := ∃ co b lj lf lh oh, v = none ∧ Fr n0 L ∧ Keep h0 h [a1] ∧ Byn a1 co b lj lf lh oh ∧ (h0.size ≤ co ∧ h0.size ≤ b ∧ h0.size ≤ lj ∧ h0.size ≤ lf ∧ h0.size ≤ lh ∧ h0.size ≤ oh) ∧ Bya Z h a1 co lj lf lh 0 (0 : Int32) ∧ Byb Z h co b 0 (fun _ => 0) ∧ Byl Z h lj lf lh oh
set_option maxRecDepth 65536 in
set_option maxHeartbeats 40000000 in
theorem rm1 (l : Launch) (Z : State) (a0 : Array Value) (hw : ∀ d ∈ tables_1, d.before a0 Z = true) (ws : List Jvm.Cond) (a1 : Addr) (a4 : Addr) (G1 : Int32) (oF : Option Addr) (av : Addr) (h0 : Heap) (n0 : Nat) (Z0 : n0 ≤ h0.size) (O2 : Sta Z Z.heap "java/lang/String" "COMPACT_STRINGS" "Z" (.int G1)) (P3 : ¬ (G1 = (0 : Int32))) (OL : Old Z n0 h0) (O4 : Sta Z Z.heap "jdk/internal/util/Preconditions" "SIOOBE_FORMATTER" "Ljava/util/function/BiFunction;" (ov oF)) (E_a1_0 : Exa Z h0 a1 "com/example/proxysmith/proxysmith/Bytecode") (F_a1_code_0 : Fld Z h0 a1 "com/example/proxysmith/proxysmith/Bytecode" "code" "Lcom/example/proxysmith/proxysmith/ClassFileWriter$Bytes;" .null) (F_a1_jumps_0 : Fld Z h0 a1 "com/example/proxysmith/proxysmith/Bytecode" "jumps" "Ljava/util/List;" .null) (F_a1_frames_0 : Fld Z h0 a1 "com/example/proxysmith/proxysmith/Bytecode" "frames" "Ljava/util/List;" .null) (F_a1_handlers_0 : Fld Z h0 a1 "com/example/proxysmith/proxysmith/Bytecode" "handlers" "Ljava/util/List;" .null) (F_a1_reachable_0 : Fld Z h0 a1 "com/example/proxysmith/proxysmith/Bytecode" "reachable" "Z" (.int (0 : Int32))) (F_a1_owner_0 : Fld Z h0 a1 "com/example/proxysmith/proxysmith/Bytecode" "owner" "Lcom/example/proxysmith/proxysmith/ClassFileWriter;" .null) (F_a1_self_0 : Fld Z h0 a1 "com/example/proxysmith/proxysmith/Bytecode" "self" "Ljava/lang/String;" .null) (F_a1_descriptor_0 : Fld Z h0 a1 "com/example/proxysmith/proxysmith/Bytecode" "descriptor" "Ljava/lang/String;" .null) (F_a1_entrySlots_0 : Fld Z h0 a1 "com/example/proxysmith/proxysmith/Bytecode" "entrySlots" "[I" .null) (F_a1_maxLocals_0 : Fld Z h0 a1 "com/example/proxysmith/proxysmith/Bytecode" "maxLocals" "I" (.int (0 : Int32))) (F_a1_stack_0 : Fld Z h0 a1 "com/example/proxysmith/proxysmith/Bytecode" "stack" "I" (.int (0 : Int32))) (F_a1_maxStack_0 : Fld Z h0 a1 "com/example/proxysmith/proxysmith/Bytecode" "maxStack" "I" (.int (0 : Int32))) (ge_a1 : n0 ≤ a1) (E_a4_0 : Exa Z h0 a4 "java/lang/String") (F_a4_value_0 : Fld Z h0 a4 "java/lang/String" "value" "[B" (.ref av)) (F_a4_coder_0 : Fld Z h0 a4 "java/lang/String" "coder" "B" (.int (0 : Int32))) (A_av_0 : Ari Z h0 av .byte 3 (strF "()V")) (ne_a4_a1 : a4 ≠ a1) (ne_av_a1 : av ≠ a1) :
    MetFree l y_1 (head1 (Jvm.Cond.code y_1 prog_2_method_1_code 8 none :: ws) ({ frames := 4, cells := 9, slots := 53, locals := 53 } : Room)) (fun a U => a = #[(.ref a1), .null, .null, (.ref a4)] ∧ Z.Warmed39 U.vm ∧ U.heap = h0) (fun _ _ _ _ _ => True) (fun _ U o U' => ∃ v L, o = .returned v ∧ Q1 Z a1 a4 G1 oF av h0 n0 v U'.heap L ∧ FrameEnd U o U' L ({ frames := 4, cells := 9, slots := 53, locals := 53 } : Room).cells ({ frames := 4, cells := 9, slots := 53, locals := 53 } : Room).slots) := by
  refine MetFree.of_bodySF (plainFor_of_name pn_1) hisR ?_
  intro p e s m args below meth c s₁ Bd hml0 hP hK
  obtain ⟨rfl, hZ, hh⟩ := hP
  have hx := Bd.exec
  have hby := Bd.bytes
  have hlk := Bd.notSynchronized
  have hml : c.maxLocals = 8 := hml0
  have hown : s.vm.findClass "com/example/proxysmith/proxysmith/Bytecode" = some m.cls := findClass_of_methodNamed Bd.named
  have hnm := (name_of_methodNamed Bd.named Bd.method).1
  have X0 : Stand p l e ({ frames := 4, cells := 9, slots := 53, locals := 53 } : Room) s m #[(.ref a1), .null, .null, (.ref a4)] below meth c s₁ [] 0 0 := Stand.of_body Bd
  have e0 : s₁.heap = h0 := by rw [← hh, Bd.state]; rfl
  have N0 := Fr.nil n0
  have K0 : Keep h0 h0 [a1] := Keep.refl h0 _
  show Goes p e below s ({ frames := 4, cells := 9, slots := 53, locals := 53 } : Room).cells ({ frames := 4, cells := 9, slots := 53, locals := 53 } : Room).slots (Q1 Z a1 a4 G1 oF av h0 n0) s₁ (entryFrame m #[(.ref a1), .null, .null, (.ref a4)] 8)
  refine Goes.step (fun t k => castTop (ef_1 m a1 a4) k) ?_
  refine Goes.step (fun _ k => XS.aloadN X0.here hx rfl (hb hby d1_0) rfl rfl k) ?_
  obtain ⟨T1, X1, e1, st1⟩ := initO X0 hx hZ hown (wof hw 15 rfl) (wof hw 16 rfl) (wof hw 17 rfl) e0 (g := (mkF m 1 #[vR a1, .val .null, .val .null, vR a4, vU, vU, vU, vU] [(.ref a1)])) rfl (by rw [hml]; rfl) rfl (hb hby d1_1) (by decide) (W := 0) (by show 2 * 0 + _ ≤ _; exact Nat.le_of_eq rfl) (by decide)
  refine Goes.step st1 ?_
  show Goes p e below s _ _ _ T1 (mkF m 4 #[vR a1, .val .null, .val .null, vR a4, vU, vU, vU, vU] [])
  refine Goes.step (fun _ k => XS.aloadN X1.here hx rfl (hb hby d1_4) rfl rfl k) ?_
  obtain ⟨T2, h2, X2, e2, E2, A2, D2, -, st2⟩ := newO X1 hx hZ hown (wof hw 18 rfl) (wof hw 19 rfl) (wof hw 20 rfl) e1 (g := (mkF m 5 #[vR a1, .val .null, .val .null, vR a4, vU, vU, vU, vU] [(.ref a1)])) rfl (hb hby d1_5) (by decide) (by decide)
  obtain ⟨b2, g_2⟩ : ∃ z, z = h0.size := ⟨_, rfl⟩
  rw [← g_2] at A2 D2 st2
  refine Goes.step st2 ?_
  have ne_a1_b2 : a1 ≠ b2 := Nat.ne_of_lt (by rw [g_2]; exact E_a1_0.lt)
  have ne_a4_b2 : a4 ≠ b2 := Nat.ne_of_lt (by rw [g_2]; exact E_a4_0.lt)
  have ne_av_b2 : av ≠ b2 := Nat.ne_of_lt (by rw [g_2]; exact A_av_0.lt)
  have ge_b2 : n0 ≤ b2 := by rw [g_2]; exact Z0
  have sz_b2 : h0.size ≤ b2 := by rw [g_2]; exact K0.1
  have E_a1_2 := E_a1_0.ext E2
  have E_a4_2 := E_a4_0.ext E2
  have F_a4_value_2 := F_a4_value_0.ext E2
  have F_a4_coder_2 := F_a4_coder_0.ext E2
  have A_av_2 := A_av_0.ext E2
  have F_a1_code_2 := F_a1_code_0.ext E2
  have F_a1_jumps_2 := F_a1_jumps_0.ext E2
  have F_a1_frames_2 := F_a1_frames_0.ext E2
  have F_a1_handlers_2 := F_a1_handlers_0.ext E2
  have F_a1_reachable_2 := F_a1_reachable_0.ext E2
  have F_a1_owner_2 := F_a1_owner_0.ext E2
  have F_a1_self_2 := F_a1_self_0.ext E2
  have F_a1_descriptor_2 := F_a1_descriptor_0.ext E2
  have F_a1_entrySlots_2 := F_a1_entrySlots_0.ext E2
  have F_a1_maxLocals_2 := F_a1_maxLocals_0.ext E2
  have F_a1_stack_2 := F_a1_stack_0.ext E2
  have F_a1_maxStack_2 := F_a1_maxStack_0.ext E2
  have z_2 : n0 ≤ h2.size := Nat.le_trans Z0 E2.1
  have K_2 : Keep h0 h2 [a1] := K0.ext E2
  have E_b2_2 : Exa Z h2 b2 "com/example/proxysmith/proxysmith/ClassFileWriter$Bytes" := A2
  have F_b2_bytes_2 : Fld Z h2 b2 "com/example/proxysmith/proxysmith/ClassFileWriter$Bytes" "bytes" "[B" .null := D2 (Or.inl (wof hw 26 rfl)) (ty := (.array .byte)) (by decide)
  have F_b2_size_2 : Fld Z h2 b2 "com/example/proxysmith/proxysmith/ClassFileWriter$Bytes" "size" "I" (.int (0 : Int32)) := D2 (Or.inl (wof hw 146 rfl)) (ty := .int) (by decide)
  show Goes p e below s _ _ _ T2 (mkF m 8 #[vR a1, .val .null, .val .null, vR a4, vU, vU, vU, vU] [(.ref b2), (.ref a1)])
  refine Goes.step (fun _ k => XS.dup X2.here hx rfl (hb hby d1_8) rfl rfl k) ?_
  refine Goes.step (fun _ k => XS.bipush X2.here hx rfl (hb hby d1_9) k) ?_
  obtain ⟨v3, T3, h3, L3, X3, e3, Q3, st3⟩ := callXI X2 hx hZ (b := b2) (y := y_3) hown rfl (wof hw 21 rfl) (wof hw 22 rfl) (wof hw 23 rfl) (wof hw 20 rfl) (by decide) (W := 2) (argsL := [(.int (32 : Int32))]) (rest := [(.ref b2), (.ref a1)]) (rm3 l Z a0 hw [] b2 32 h2 n0 z_2 E_b2_2 F_b2_bytes_2 F_b2_size_2 ge_b2 (by decide)) (by decide) (by decide) (by decide) (by decide) e2 (g := (mkF m 11 #[vR a1, .val .null, .val .null, vR a4, vU, vU, vU, vU] [(.int (32 : Int32)), (.ref b2), (.ref b2), (.ref a1)])) rfl (by rw [hml]; rfl) (lenOf pd_1_0 rfl) rfl (by show 2 * 0 + _ ≤ _; exact Nat.le_of_eq rfl) (hb hby d1_11)
  obtain ⟨b3, rfl, NQ3, KQ3, hE3, hFb3, hFs3, hA3, hab3, hg3, hb3⟩ := Q3
  refine Goes.step st3 ?_
  have E_a1_3 := E_a1_2.keep KQ3
  have E_a4_3 := E_a4_2.keep KQ3
  have F_a4_value_3 := F_a4_value_2.keep KQ3 (ninS ne_a4_b2 nin0)
  have F_a4_coder_3 := F_a4_coder_2.keep KQ3 (ninS ne_a4_b2 nin0)
  have A_av_3 := A_av_2.keep KQ3 (ninS ne_av_b2 nin0)
  have F_a1_code_3 := F_a1_code_2.keep KQ3 (ninS ne_a1_b2 nin0)
  have F_a1_jumps_3 := F_a1_jumps_2.keep KQ3 (ninS ne_a1_b2 nin0)
  have F_a1_frames_3 := F_a1_frames_2.keep KQ3 (ninS ne_a1_b2 nin0)
  have F_a1_handlers_3 := F_a1_handlers_2.keep KQ3 (ninS ne_a1_b2 nin0)
  have F_a1_reachable_3 := F_a1_reachable_2.keep KQ3 (ninS ne_a1_b2 nin0)
  have F_a1_owner_3 := F_a1_owner_2.keep KQ3 (ninS ne_a1_b2 nin0)
  have F_a1_self_3 := F_a1_self_2.keep KQ3 (ninS ne_a1_b2 nin0)
  have F_a1_descriptor_3 := F_a1_descriptor_2.keep KQ3 (ninS ne_a1_b2 nin0)
  have F_a1_entrySlots_3 := F_a1_entrySlots_2.keep KQ3 (ninS ne_a1_b2 nin0)
  have F_a1_maxLocals_3 := F_a1_maxLocals_2.keep KQ3 (ninS ne_a1_b2 nin0)
  have F_a1_stack_3 := F_a1_stack_2.keep KQ3 (ninS ne_a1_b2 nin0)
  have F_a1_maxStack_3 := F_a1_maxStack_2.keep KQ3 (ninS ne_a1_b2 nin0)
  have E_b2_3 := E_b2_2.keep KQ3
  have z_3 : n0 ≤ h3.size := Nat.le_trans z_2 KQ3.1
  have K_3 : Keep h0 h3 [a1] := Keep.trans K_2 KQ3 (allS (Or.inr sz_b2) all0)
  have N_3 := Fr.app N0 NQ3
  have ne_a4_b3 : a4 ≠ b3 := Nat.ne_of_lt (Nat.lt_of_lt_of_le E_a4_2.lt hb3)
  have ne_av_b3 : av ≠ b3 := Nat.ne_of_lt (Nat.lt_of_lt_of_le A_av_2.lt hb3)
  have ne_a1_b3 : a1 ≠ b3 := Nat.ne_of_lt (Nat.lt_of_lt_of_le E_a1_2.lt hb3)
  show Goes p e below s _ _ _ T3 (mkF m 14 #[vR a1, .val .null, .val .null, vR a4, vU, vU, vU, vU] [(.ref b2), (.ref a1)])
  obtain ⟨T4, h4, X4, e4, W4, st4⟩ := putF X3 hx hZ hown (host := "") (Or.inl (wof hw 27 rfl)) Via.refl e3 F_a1_code_3 E_a1_3 (Or.inr ⟨(wof hw 28 rfl), rfl, hnm⟩) (wof hw 2 rfl) (ty := (.object "com/example/proxysmith/proxysmith/ClassFileWriter$Bytes")) (by decide) rfl rfl (g := (mkF m 14 #[vR a1, .val .null, .val .null, vR a4, vU, vU, vU, vU] [(.ref b2), (.ref a1)])) rfl rfl (hb hby d1_14)
  refine Goes.step st4 ?_
  have E_a1_4 := E_a1_3.wr W4
  have E_a4_4 := E_a4_3.wr W4
  have F_a4_value_4 := F_a4_value_3.other W4 (Or.inl ne_a4_a1)
  have F_a4_coder_4 := F_a4_coder_3.other W4 (Or.inl ne_a4_a1)
  have A_av_4 := A_av_3.other W4 ne_av_a1
  have F_a1_jumps_4 := F_a1_jumps_3.other W4 (Or.inr (slot_ne (Or.inr (wof hw 55 rfl)) (Or.inr (wof hw 28 rfl)) (by decide) (t := (.object "java/util/List")) (t' := (.object "com/example/proxysmith/proxysmith/ClassFileWriter$Bytes")) (by decide) (by decide)))
  have F_a1_frames_4 := F_a1_frames_3.other W4 (Or.inr (slot_ne (Or.inr (wof hw 57 rfl)) (Or.inr (wof hw 28 rfl)) (by decide) (t := (.object "java/util/List")) (t' := (.object "com/example/proxysmith/proxysmith/ClassFileWriter$Bytes")) (by decide) (by decide)))
  have F_a1_handlers_4 := F_a1_handlers_3.other W4 (Or.inr (slot_ne (Or.inr (wof hw 59 rfl)) (Or.inr (wof hw 28 rfl)) (by decide) (t := (.object "java/util/List")) (t' := (.object "com/example/proxysmith/proxysmith/ClassFileWriter$Bytes")) (by decide) (by decide)))
  have F_a1_reachable_4 := F_a1_reachable_3.other W4 (Or.inr (slot_ne (Or.inl (wof hw 61 rfl)) (Or.inr (wof hw 28 rfl)) (by decide) (t := .boolean) (t' := (.object "com/example/proxysmith/proxysmith/ClassFileWriter$Bytes")) (by decide) (by decide)))
  have F_a1_owner_4 := F_a1_owner_3.other W4 (Or.inr (slot_ne (Or.inr (wof hw 63 rfl)) (Or.inr (wof hw 28 rfl)) (by decide) (t := (.object "com/example/proxysmith/proxysmith/ClassFileWriter")) (t' := (.object "com/example/proxysmith/proxysmith/ClassFileWriter$Bytes")) (by decide) (by decide)))
  have F_a1_self_4 := F_a1_self_3.other W4 (Or.inr (slot_ne (Or.inr (wof hw 65 rfl)) (Or.inr (wof hw 28 rfl)) (by decide) (t := (.object "java/lang/String")) (t' := (.object "com/example/proxysmith/proxysmith/ClassFileWriter$Bytes")) (by decide) (by decide)))
  have F_a1_descriptor_4 := F_a1_descriptor_3.other W4 (Or.inr (slot_ne (Or.inr (wof hw 67 rfl)) (Or.inr (wof hw 28 rfl)) (by decide) (t := (.object "java/lang/String")) (t' := (.object "com/example/proxysmith/proxysmith/ClassFileWriter$Bytes")) (by decide) (by decide)))
  have F_a1_entrySlots_4 := F_a1_entrySlots_3.other W4 (Or.inr (slot_ne (Or.inr (wof hw 95 rfl)) (Or.inr (wof hw 28 rfl)) (by decide) (t := (.array .int)) (t' := (.object "com/example/proxysmith/proxysmith/ClassFileWriter$Bytes")) (by decide) (by decide)))
  have F_a1_maxLocals_4 := F_a1_maxLocals_3.other W4 (Or.inr (slot_ne (Or.inl (wof hw 97 rfl)) (Or.inr (wof hw 28 rfl)) (by decide) (t := .int) (t' := (.object "com/example/proxysmith/proxysmith/ClassFileWriter$Bytes")) (by decide) (by decide)))
  have F_a1_stack_4 := F_a1_stack_3.other W4 (Or.inr (slot_ne (Or.inl (wof hw 152 rfl)) (Or.inr (wof hw 28 rfl)) (by decide) (t := .int) (t' := (.object "com/example/proxysmith/proxysmith/ClassFileWriter$Bytes")) (by decide) (by decide)))
  have F_a1_maxStack_4 := F_a1_maxStack_3.other W4 (Or.inr (slot_ne (Or.inl (wof hw 154 rfl)) (Or.inr (wof hw 28 rfl)) (by decide) (t := .int) (t' := (.object "com/example/proxysmith/proxysmith/ClassFileWriter$Bytes")) (by decide) (by decide)))
  have hE3_4 := hE3.wr W4
  have hFb3_4 := hFb3.other W4 (Or.inl (Ne.symm ne_a1_b2))
  have hFs3_4 := hFs3.other W4 (Or.inl (Ne.symm ne_a1_b2))
  have hA3_4 := hA3.other W4 (Ne.symm ne_a1_b3)
  have z_4 : n0 ≤ h4.size := by rw [W4.size]; exact z_3
  have K_4 : Keep h0 h4 [a1] := K_3.wr W4 (Or.inl (List.mem_of_getElem? (i := 0) rfl))
  have N_4 := Fr.snoc X4 N_3 ge_a1
  have F_a1_code_4 : Fld Z h4 a1 "com/example/proxysmith/proxysmith/Bytecode" "code" "Lcom/example/proxysmith/proxysmith/ClassFileWriter$Bytes;" (.ref b2) := F_a1_code_3.same W4
  show Goes p e below s _ _ _ T4 (mkF m 17 #[vR a1, .val .null, .val .null, vR a4, vU, vU, vU, vU] [])
  refine Goes.step (fun _ k => XS.aloadN X4.here hx rfl (hb hby d1_17) rfl rfl k) ?_
  obtain ⟨T5, h5, X5, e5, E5, A5, D5, -, st5⟩ := newO X4 hx hZ hown (wof hw 29 rfl) (wof hw 30 rfl) (wof hw 31 rfl) e4 (g := (mkF m 18 #[vR a1, .val .null, .val .null, vR a4, vU, vU, vU, vU] [(.ref a1)])) rfl (hb hby d1_18) (by decide) (by decide)
  obtain ⟨b5, g_5⟩ : ∃ z, z = h4.size := ⟨_, rfl⟩
  rw [← g_5] at A5 D5 st5
  refine Goes.step st5 ?_
  have ne_a1_b5 : a1 ≠ b5 := Nat.ne_of_lt (by rw [g_5]; exact E_a1_4.lt)
  have ne_a4_b5 : a4 ≠ b5 := Nat.ne_of_lt (by rw [g_5]; exact E_a4_4.lt)
  have ne_av_b5 : av ≠ b5 := Nat.ne_of_lt (by rw [g_5]; exact A_av_4.lt)
  have ne_b2_b5 : b2 ≠ b5 := Nat.ne_of_lt (by rw [g_5]; exact hE3_4.lt)
  have ne_b3_b5 : b3 ≠ b5 := Nat.ne_of_lt (by rw [g_5]; exact hA3_4.lt)
  have ge_b5 : n0 ≤ b5 := by rw [g_5]; exact z_4
  have sz_b5 : h0.size ≤ b5 := by rw [g_5]; exact K_4.1
  have E_a1_5 := E_a1_4.ext E5
  have E_a4_5 := E_a4_4.ext E5
  have F_a4_value_5 := F_a4_value_4.ext E5
  have F_a4_coder_5 := F_a4_coder_4.ext E5
  have A_av_5 := A_av_4.ext E5
  have F_a1_code_5 := F_a1_code_4.ext E5
  have F_a1_jumps_5 := F_a1_jumps_4.ext E5
  have F_a1_frames_5 := F_a1_frames_4.ext E5
  have F_a1_handlers_5 := F_a1_handlers_4.ext E5
  have F_a1_reachable_5 := F_a1_reachable_4.ext E5
  have F_a1_owner_5 := F_a1_owner_4.ext E5
  have F_a1_self_5 := F_a1_self_4.ext E5
  have F_a1_descriptor_5 := F_a1_descriptor_4.ext E5
  have F_a1_entrySlots_5 := F_a1_entrySlots_4.ext E5
  have F_a1_maxLocals_5 := F_a1_maxLocals_4.ext E5
  have F_a1_stack_5 := F_a1_stack_4.ext E5
  have F_a1_maxStack_5 := F_a1_maxStack_4.ext E5
  have hE3_5 := hE3_4.ext E5
  have hFb3_5 := hFb3_4.ext E5
  have hFs3_5 := hFs3_4.ext E5
  have hA3_5 := hA3_4.ext E5
  have z_5 : n0 ≤ h5.size := Nat.le_trans z_4 E5.1
  have K_5 : Keep h0 h5 [a1] := K_4.ext E5
  have E_b5_5 : Exa Z h5 b5 "java/util/ArrayList" := A5
  have F_b5_modCount_5 : Fld Z h5 b5 "java/util/AbstractList" "modCount" "I" (.int (0 : Int32)) := D5 (Or.inl (wof hw 49 rfl)) (ty := .int) (by decide)
  have F_b5_elementData_5 : Fld Z h5 b5 "java/util/ArrayList" "elementData" "[Ljava/lang/Object;" .null := D5 (Or.inl (wof hw 53 rfl)) (ty := (.array (.object "java/lang/Object"))) (by decide)
  have F_b5_size_5 : Fld Z h5 b5 "java/util/ArrayList" "size" "I" (.int (0 : Int32)) := D5 (Or.inl (wof hw 203 rfl)) (ty := .int) (by decide)
  show Goes p e below s _ _ _ T5 (mkF m 21 #[vR a1, .val .null, .val .null, vR a4, vU, vU, vU, vU] [(.ref b5), (.ref a1)])
  refine Goes.step (fun _ k => XS.dup X5.here hx rfl (hb hby d1_21) rfl rfl k) ?_
  refine Goes.step (fun _ k => XS.iconst X5.here hx rfl (hb hby d1_22) k) ?_
  obtain ⟨v6, T6, h6, L6, X6, e6, Q6, st6⟩ := callXI X5 hx hZ (b := b5) (y := y_4) hown rfl (wof hw 32 rfl) (wof hw 33 rfl) (wof hw 34 rfl) (wof hw 31 rfl) (by decide) (W := 2) (argsL := [(.int (4 : Int32))]) (rest := [(.ref b5), (.ref a1)]) (rm4k4 l Z a0 hw [] b5 h5 n0 z_5 E_b5_5 F_b5_modCount_5 ge_b5 F_b5_size_5 F_b5_elementData_5) (by decide) (by decide) (by decide) (by decide) e5 (g := (mkF m 23 #[vR a1, .val .null, .val .null, vR a4, vU, vU, vU, vU] [(.int (4 : Int32)), (.ref b5), (.ref b5), (.ref a1)])) rfl (by rw [hml]; rfl) (lenOf pd_1_0 rfl) rfl (by show 2 * 0 + _ ≤ _; exact Nat.le_of_eq rfl) (hb hby d1_23)
  obtain ⟨rfl, NQ6, KQ6, hM6, hS6, o6, so6, hD6, hB6⟩ := Q6
  refine Goes.step st6 ?_
  have E_a1_6 := E_a1_5.keep KQ6
  have E_a4_6 := E_a4_5.keep KQ6
  have F_a4_value_6 := F_a4_value_5.keep KQ6 (ninS ne_a4_b5 nin0)
  have F_a4_coder_6 := F_a4_coder_5.keep KQ6 (ninS ne_a4_b5 nin0)
  have A_av_6 := A_av_5.keep KQ6 (ninS ne_av_b5 nin0)
  have F_a1_code_6 := F_a1_code_5.keep KQ6 (ninS ne_a1_b5 nin0)
  have F_a1_jumps_6 := F_a1_jumps_5.keep KQ6 (ninS ne_a1_b5 nin0)
  have F_a1_frames_6 := F_a1_frames_5.keep KQ6 (ninS ne_a1_b5 nin0)
  have F_a1_handlers_6 := F_a1_handlers_5.keep KQ6 (ninS ne_a1_b5 nin0)
  have F_a1_reachable_6 := F_a1_reachable_5.keep KQ6 (ninS ne_a1_b5 nin0)
  have F_a1_owner_6 := F_a1_owner_5.keep KQ6 (ninS ne_a1_b5 nin0)
  have F_a1_self_6 := F_a1_self_5.keep KQ6 (ninS ne_a1_b5 nin0)
  have F_a1_descriptor_6 := F_a1_descriptor_5.keep KQ6 (ninS ne_a1_b5 nin0)
  have F_a1_entrySlots_6 := F_a1_entrySlots_5.keep KQ6 (ninS ne_a1_b5 nin0)
  have F_a1_maxLocals_6 := F_a1_maxLocals_5.keep KQ6 (ninS ne_a1_b5 nin0)
  have F_a1_stack_6 := F_a1_stack_5.keep KQ6 (ninS ne_a1_b5 nin0)
  have F_a1_maxStack_6 := F_a1_maxStack_5.keep KQ6 (ninS ne_a1_b5 nin0)
  have hE3_6 := hE3_5.keep KQ6
  have hFb3_6 := hFb3_5.keep KQ6 (ninS ne_b2_b5 nin0)
  have hFs3_6 := hFs3_5.keep KQ6 (ninS ne_b2_b5 nin0)
  have hA3_6 := hA3_5.keep KQ6 (ninS ne_b3_b5 nin0)
  have E_b5_6 := E_b5_5.keep KQ6
  have z_6 : n0 ≤ h6.size := Nat.le_trans z_5 KQ6.1
  have K_6 : Keep h0 h6 [a1] := Keep.trans K_5 KQ6 (allS (Or.inr sz_b5) all0)
  have N_6 := Fr.app N_4 NQ6
  have ne_o6_b2 : o6 ≠ b2 := Nat.ne_of_gt (Nat.lt_of_lt_of_le hE3_5.lt so6)
  have ne_o6_b5 : o6 ≠ b5 := Nat.ne_of_gt (Nat.lt_of_lt_of_le E_b5_5.lt so6)
  have ne_o6_av : o6 ≠ av := Nat.ne_of_gt (Nat.lt_of_lt_of_le A_av_5.lt so6)
  have ne_o6_a4 : o6 ≠ a4 := Nat.ne_of_gt (Nat.lt_of_lt_of_le E_a4_5.lt so6)
  have ne_o6_a1 : o6 ≠ a1 := Nat.ne_of_gt (Nat.lt_of_lt_of_le E_a1_5.lt so6)
  have ne_o6_b3 : o6 ≠ b3 := Nat.ne_of_gt (Nat.lt_of_lt_of_le hA3_5.lt so6)
  have ge_o6 : n0 ≤ o6 := Nat.le_trans z_5 so6
  have sz_o6 : h0.size ≤ o6 := Nat.le_trans K_5.1 so6
  show Goes p e below s _ _ _ T6 (mkF m 26 #[vR a1, .val .null, .val .null, vR a4, vU, vU, vU, vU] [(.ref b5), (.ref a1)])
  obtain ⟨T7, h7, X7, e7, W7, st7⟩ := putF X6 hx hZ hown (host := "") (Or.inl (wof hw 54 rfl)) Via.refl e6 F_a1_jumps_6 E_a1_6 (Or.inr ⟨(wof hw 55 rfl), rfl, hnm⟩) (wof hw 2 rfl) (ty := (.object "java/util/List")) (by decide) rfl rfl (g := (mkF m 26 #[vR a1, .val .null, .val .null, vR a4, vU, vU, vU, vU] [(.ref b5), (.ref a1)])) rfl rfl (hb hby d1_26)
  refine Goes.step st7 ?_
  have E_a1_7 := E_a1_6.wr W7
  have E_a4_7 := E_a4_6.wr W7
  have F_a4_value_7 := F_a4_value_6.other W7 (Or.inl ne_a4_a1)
  have F_a4_coder_7 := F_a4_coder_6.other W7 (Or.inl ne_a4_a1)
  have A_av_7 := A_av_6.other W7 ne_av_a1
  have F_a1_code_7 := F_a1_code_6.other W7 (Or.inr (slot_ne (Or.inr (wof hw 28 rfl)) (Or.inr (wof hw 55 rfl)) (by decide) (t := (.object "com/example/proxysmith/proxysmith/ClassFileWriter$Bytes")) (t' := (.object "java/util/List")) (by decide) (by decide)))
  have F_a1_frames_7 := F_a1_frames_6.other W7 (Or.inr (slot_ne (Or.inr (wof hw 57 rfl)) (Or.inr (wof hw 55 rfl)) (by decide) (t := (.object "java/util/List")) (t' := (.object "java/util/List")) (by decide) (by decide)))
  have F_a1_handlers_7 := F_a1_handlers_6.other W7 (Or.inr (slot_ne (Or.inr (wof hw 59 rfl)) (Or.inr (wof hw 55 rfl)) (by decide) (t := (.object "java/util/List")) (t' := (.object "java/util/List")) (by decide) (by decide)))
  have F_a1_reachable_7 := F_a1_reachable_6.other W7 (Or.inr (slot_ne (Or.inl (wof hw 61 rfl)) (Or.inr (wof hw 55 rfl)) (by decide) (t := .boolean) (t' := (.object "java/util/List")) (by decide) (by decide)))
  have F_a1_owner_7 := F_a1_owner_6.other W7 (Or.inr (slot_ne (Or.inr (wof hw 63 rfl)) (Or.inr (wof hw 55 rfl)) (by decide) (t := (.object "com/example/proxysmith/proxysmith/ClassFileWriter")) (t' := (.object "java/util/List")) (by decide) (by decide)))
  have F_a1_self_7 := F_a1_self_6.other W7 (Or.inr (slot_ne (Or.inr (wof hw 65 rfl)) (Or.inr (wof hw 55 rfl)) (by decide) (t := (.object "java/lang/String")) (t' := (.object "java/util/List")) (by decide) (by decide)))
  have F_a1_descriptor_7 := F_a1_descriptor_6.other W7 (Or.inr (slot_ne (Or.inr (wof hw 67 rfl)) (Or.inr (wof hw 55 rfl)) (by decide) (t := (.object "java/lang/String")) (t' := (.object "java/util/List")) (by decide) (by decide)))
  have F_a1_entrySlots_7 := F_a1_entrySlots_6.other W7 (Or.inr (slot_ne (Or.inr (wof hw 95 rfl)) (Or.inr (wof hw 55 rfl)) (by decide) (t := (.array .int)) (t' := (.object "java/util/List")) (by decide) (by decide)))
  have F_a1_maxLocals_7 := F_a1_maxLocals_6.other W7 (Or.inr (slot_ne (Or.inl (wof hw 97 rfl)) (Or.inr (wof hw 55 rfl)) (by decide) (t := .int) (t' := (.object "java/util/List")) (by decide) (by decide)))
  have F_a1_stack_7 := F_a1_stack_6.other W7 (Or.inr (slot_ne (Or.inl (wof hw 152 rfl)) (Or.inr (wof hw 55 rfl)) (by decide) (t := .int) (t' := (.object "java/util/List")) (by decide) (by decide)))
  have F_a1_maxStack_7 := F_a1_maxStack_6.other W7 (Or.inr (slot_ne (Or.inl (wof hw 154 rfl)) (Or.inr (wof hw 55 rfl)) (by decide) (t := .int) (t' := (.object "java/util/List")) (by decide) (by decide)))
  have hE3_7 := hE3_6.wr W7
  have hFb3_7 := hFb3_6.other W7 (Or.inl (Ne.symm ne_a1_b2))
  have hFs3_7 := hFs3_6.other W7 (Or.inl (Ne.symm ne_a1_b2))
  have hA3_7 := hA3_6.other W7 (Ne.symm ne_a1_b3)
  have E_b5_7 := E_b5_6.wr W7
  have hM6_7 := hM6.other W7 (Or.inl (Ne.symm ne_a1_b5))
  have hS6_7 := hS6.other W7 (Or.inl (Ne.symm ne_a1_b5))
  have hD6_7 := hD6.other W7 (Or.inl (Ne.symm ne_a1_b5))
  have hB6_7 := hB6.other W7 ne_o6_a1
  have z_7 : n0 ≤ h7.size := by rw [W7.size]; exact z_6
  have K_7 : Keep h0 h7 [a1] := K_6.wr W7 (Or.inl (List.mem_of_getElem? (i := 0) rfl))
  have N_7 := Fr.snoc X7 N_6 ge_a1
  have F_a1_jumps_7 : Fld Z h7 a1 "com/example/proxysmith/proxysmith/Bytecode" "jumps" "Ljava/util/List;" (.ref b5) := F_a1_jumps_6.same W7
  show Goes p e below s _ _ _ T7 (mkF m 29 #[vR a1, .val .null, .val .null, vR a4, vU, vU, vU, vU] [])
  refine Goes.step (fun _ k => XS.aloadN X7.here hx rfl (hb hby d1_29) rfl rfl k) ?_
  obtain ⟨T8, h8, X8, e8, E8, A8, D8, -, st8⟩ := newO X7 hx hZ hown (wof hw 29 rfl) (wof hw 30 rfl) (wof hw 31 rfl) e7 (g := (mkF m 30 #[vR a1, .val .null, .val .null, vR a4, vU, vU, vU, vU] [(.ref a1)])) rfl (hb hby d1_30) (by decide) (by decide)
  obtain ⟨b8, g_8⟩ : ∃ z, z = h7.size := ⟨_, rfl⟩
  rw [← g_8] at A8 D8 st8
  refine Goes.step st8 ?_
  have ne_a1_b8 : a1 ≠ b8 := Nat.ne_of_lt (by rw [g_8]; exact E_a1_7.lt)
  have ne_a4_b8 : a4 ≠ b8 := Nat.ne_of_lt (by rw [g_8]; exact E_a4_7.lt)
  have ne_av_b8 : av ≠ b8 := Nat.ne_of_lt (by rw [g_8]; exact A_av_7.lt)
  have ne_b2_b8 : b2 ≠ b8 := Nat.ne_of_lt (by rw [g_8]; exact hE3_7.lt)
  have ne_b3_b8 : b3 ≠ b8 := Nat.ne_of_lt (by rw [g_8]; exact hA3_7.lt)
  have ne_b5_b8 : b5 ≠ b8 := Nat.ne_of_lt (by rw [g_8]; exact E_b5_7.lt)
  have ge_b8 : n0 ≤ b8 := by rw [g_8]; exact z_7
  have sz_b8 : h0.size ≤ b8 := by rw [g_8]; exact K_7.1
  have E_a1_8 := E_a1_7.ext E8
  have E_a4_8 := E_a4_7.ext E8
  have F_a4_value_8 := F_a4_value_7.ext E8
  have F_a4_coder_8 := F_a4_coder_7.ext E8
  have A_av_8 := A_av_7.ext E8
  have F_a1_code_8 := F_a1_code_7.ext E8
  have F_a1_jumps_8 := F_a1_jumps_7.ext E8
  have F_a1_frames_8 := F_a1_frames_7.ext E8
  have F_a1_handlers_8 := F_a1_handlers_7.ext E8
  have F_a1_reachable_8 := F_a1_reachable_7.ext E8
  have F_a1_owner_8 := F_a1_owner_7.ext E8
  have F_a1_self_8 := F_a1_self_7.ext E8
  have F_a1_descriptor_8 := F_a1_descriptor_7.ext E8
  have F_a1_entrySlots_8 := F_a1_entrySlots_7.ext E8
  have F_a1_maxLocals_8 := F_a1_maxLocals_7.ext E8
  have F_a1_stack_8 := F_a1_stack_7.ext E8
  have F_a1_maxStack_8 := F_a1_maxStack_7.ext E8
  have hE3_8 := hE3_7.ext E8
  have hFb3_8 := hFb3_7.ext E8
  have hFs3_8 := hFs3_7.ext E8
  have hA3_8 := hA3_7.ext E8
  have E_b5_8 := E_b5_7.ext E8
  have hM6_8 := hM6_7.ext E8
  have hS6_8 := hS6_7.ext E8
  have z_8 : n0 ≤ h8.size := Nat.le_trans z_7 E8.1
  have K_8 : Keep h0 h8 [a1] := K_7.ext E8
  have E_b8_8 : Exa Z h8 b8 "java/util/ArrayList" := A8
  have F_b8_modCount_8 : Fld Z h8 b8 "java/util/AbstractList" "modCount" "I" (.int (0 : Int32)) := D8 (Or.inl (wof hw 49 rfl)) (ty := .int) (by decide)
  have F_b8_elementData_8 : Fld Z h8 b8 "java/util/ArrayList" "elementData" "[Ljava/lang/Object;" .null := D8 (Or.inl (wof hw 53 rfl)) (ty := (.array (.object "java/lang/Object"))) (by decide)
  have F_b8_size_8 : Fld Z h8 b8 "java/util/ArrayList" "size" "I" (.int (0 : Int32)) := D8 (Or.inl (wof hw 203 rfl)) (ty := .int) (by decide)
  show Goes p e below s _ _ _ T8 (mkF m 33 #[vR a1, .val .null, .val .null, vR a4, vU, vU, vU, vU] [(.ref b8), (.ref a1)])
  refine Goes.step (fun _ k => XS.dup X8.here hx rfl (hb hby d1_33) rfl rfl k) ?_
  refine Goes.step (fun _ k => XS.iconst X8.here hx rfl (hb hby d1_34) k) ?_
  obtain ⟨v9, T9, h9, L9, X9, e9, Q9, st9⟩ := callXI X8 hx hZ (b := b8) (y := y_4) hown rfl (wof hw 32 rfl) (wof hw 33 rfl) (wof hw 34 rfl) (wof hw 31 rfl) (by decide) (W := 2) (argsL := [(.int (4 : Int32))]) (rest := [(.ref b8), (.ref a1)]) (rm4k4 l Z a0 hw [] b8 h8 n0 z_8 E_b8_8 F_b8_modCount_8 ge_b8 F_b8_size_8 F_b8_elementData_8) (by decide) (by decide) (by decide) (by decide) e8 (g := (mkF m 35 #[vR a1, .val .null, .val .null, vR a4, vU, vU, vU, vU] [(.int (4 : Int32)), (.ref b8), (.ref b8), (.ref a1)])) rfl (by rw [hml]; rfl) (lenOf pd_1_0 rfl) rfl (by show 2 * 0 + _ ≤ _; exact Nat.le_of_eq rfl) (hb hby d1_35)
  obtain ⟨rfl, NQ9, KQ9, hM9, hS9, o9, so9, hD9, hB9⟩ := Q9
  refine Goes.step st9 ?_
  have E_a1_9 := E_a1_8.keep KQ9
  have E_a4_9 := E_a4_8.keep KQ9
  have F_a4_value_9 := F_a4_value_8.keep KQ9 (ninS ne_a4_b8 nin0)
  have F_a4_coder_9 := F_a4_coder_8.keep KQ9 (ninS ne_a4_b8 nin0)
  have A_av_9 := A_av_8.keep KQ9 (ninS ne_av_b8 nin0)
  have F_a1_code_9 := F_a1_code_8.keep KQ9 (ninS ne_a1_b8 nin0)
  have F_a1_jumps_9 := F_a1_jumps_8.keep KQ9 (ninS ne_a1_b8 nin0)
  have F_a1_frames_9 := F_a1_frames_8.keep KQ9 (ninS ne_a1_b8 nin0)
  have F_a1_handlers_9 := F_a1_handlers_8.keep KQ9 (ninS ne_a1_b8 nin0)
  have F_a1_reachable_9 := F_a1_reachable_8.keep KQ9 (ninS ne_a1_b8 nin0)
  have F_a1_owner_9 := F_a1_owner_8.keep KQ9 (ninS ne_a1_b8 nin0)
  have F_a1_self_9 := F_a1_self_8.keep KQ9 (ninS ne_a1_b8 nin0)
  have F_a1_descriptor_9 := F_a1_descriptor_8.keep KQ9 (ninS ne_a1_b8 nin0)
  have F_a1_entrySlots_9 := F_a1_entrySlots_8.keep KQ9 (ninS ne_a1_b8 nin0)
  have F_a1_maxLocals_9 := F_a1_maxLocals_8.keep KQ9 (ninS ne_a1_b8 nin0)
  have F_a1_stack_9 := F_a1_stack_8.keep KQ9 (ninS ne_a1_b8 nin0)
  have F_a1_maxStack_9 := F_a1_maxStack_8.keep KQ9 (ninS ne_a1_b8 nin0)
  have hE3_9 := hE3_8.keep KQ9
  have hFb3_9 := hFb3_8.keep KQ9 (ninS ne_b2_b8 nin0)
  have hFs3_9 := hFs3_8.keep KQ9 (ninS ne_b2_b8 nin0)
  have hA3_9 := hA3_8.keep KQ9 (ninS ne_b3_b8 nin0)
  have E_b5_9 := E_b5_8.keep KQ9
  have hM6_9 := hM6_8.keep KQ9 (ninS ne_b5_b8 nin0)
  have hS6_9 := hS6_8.keep KQ9 (ninS ne_b5_b8 nin0)
  have E_b8_9 := E_b8_8.keep KQ9
  have z_9 : n0 ≤ h9.size := Nat.le_trans z_8 KQ9.1
  have K_9 : Keep h0 h9 [a1] := Keep.trans K_8 KQ9 (allS (Or.inr sz_b8) all0)
  have N_9 := Fr.app N_7 NQ9
  have ne_o9_b8 : o9 ≠ b8 := Nat.ne_of_gt (Nat.lt_of_lt_of_le E_b8_8.lt so9)
  have ne_o9_b2 : o9 ≠ b2 := Nat.ne_of_gt (Nat.lt_of_lt_of_le hE3_8.lt so9)
  have ne_o9_b5 : o9 ≠ b5 := Nat.ne_of_gt (Nat.lt_of_lt_of_le E_b5_8.lt so9)
  have ne_o9_av : o9 ≠ av := Nat.ne_of_gt (Nat.lt_of_lt_of_le A_av_8.lt so9)
  have ne_o9_a4 : o9 ≠ a4 := Nat.ne_of_gt (Nat.lt_of_lt_of_le E_a4_8.lt so9)
  have ne_o9_a1 : o9 ≠ a1 := Nat.ne_of_gt (Nat.lt_of_lt_of_le E_a1_8.lt so9)
  have ne_o9_b3 : o9 ≠ b3 := Nat.ne_of_gt (Nat.lt_of_lt_of_le hA3_8.lt so9)
  have ge_o9 : n0 ≤ o9 := Nat.le_trans z_8 so9
  have sz_o9 : h0.size ≤ o9 := Nat.le_trans K_8.1 so9
  show Goes p e below s _ _ _ T9 (mkF m 38 #[vR a1, .val .null, .val .null, vR a4, vU, vU, vU, vU] [(.ref b8), (.ref a1)])
  obtain ⟨T10, h10, X10, e10, W10, st10⟩ := putF X9 hx hZ hown (host := "") (Or.inl (wof hw 56 rfl)) Via.refl e9 F_a1_frames_9 E_a1_9 (Or.inr ⟨(wof hw 57 rfl), rfl, hnm⟩) (wof hw 2 rfl) (ty := (.object "java/util/List")) (by decide) rfl rfl (g := (mkF m 38 #[vR a1, .val .null, .val .null, vR a4, vU, vU, vU, vU] [(.ref b8), (.ref a1)])) rfl rfl (hb hby d1_38)
  refine Goes.step st10 ?_
  have E_a1_10 := E_a1_9.wr W10
  have E_a4_10 := E_a4_9.wr W10
  have F_a4_value_10 := F_a4_value_9.other W10 (Or.inl ne_a4_a1)
  have F_a4_coder_10 := F_a4_coder_9.other W10 (Or.inl ne_a4_a1)
  have A_av_10 := A_av_9.other W10 ne_av_a1
  have F_a1_code_10 := F_a1_code_9.other W10 (Or.inr (slot_ne (Or.inr (wof hw 28 rfl)) (Or.inr (wof hw 57 rfl)) (by decide) (t := (.object "com/example/proxysmith/proxysmith/ClassFileWriter$Bytes")) (t' := (.object "java/util/List")) (by decide) (by decide)))
  have F_a1_jumps_10 := F_a1_jumps_9.other W10 (Or.inr (slot_ne (Or.inr (wof hw 55 rfl)) (Or.inr (wof hw 57 rfl)) (by decide) (t := (.object "java/util/List")) (t' := (.object "java/util/List")) (by decide) (by decide)))
  have F_a1_handlers_10 := F_a1_handlers_9.other W10 (Or.inr (slot_ne (Or.inr (wof hw 59 rfl)) (Or.inr (wof hw 57 rfl)) (by decide) (t := (.object "java/util/List")) (t' := (.object "java/util/List")) (by decide) (by decide)))
  have F_a1_reachable_10 := F_a1_reachable_9.other W10 (Or.inr (slot_ne (Or.inl (wof hw 61 rfl)) (Or.inr (wof hw 57 rfl)) (by decide) (t := .boolean) (t' := (.object "java/util/List")) (by decide) (by decide)))
  have F_a1_owner_10 := F_a1_owner_9.other W10 (Or.inr (slot_ne (Or.inr (wof hw 63 rfl)) (Or.inr (wof hw 57 rfl)) (by decide) (t := (.object "com/example/proxysmith/proxysmith/ClassFileWriter")) (t' := (.object "java/util/List")) (by decide) (by decide)))
  have F_a1_self_10 := F_a1_self_9.other W10 (Or.inr (slot_ne (Or.inr (wof hw 65 rfl)) (Or.inr (wof hw 57 rfl)) (by decide) (t := (.object "java/lang/String")) (t' := (.object "java/util/List")) (by decide) (by decide)))
  have F_a1_descriptor_10 := F_a1_descriptor_9.other W10 (Or.inr (slot_ne (Or.inr (wof hw 67 rfl)) (Or.inr (wof hw 57 rfl)) (by decide) (t := (.object "java/lang/String")) (t' := (.object "java/util/List")) (by decide) (by decide)))
  have F_a1_entrySlots_10 := F_a1_entrySlots_9.other W10 (Or.inr (slot_ne (Or.inr (wof hw 95 rfl)) (Or.inr (wof hw 57 rfl)) (by decide) (t := (.array .int)) (t' := (.object "java/util/List")) (by decide) (by decide)))
  have F_a1_maxLocals_10 := F_a1_maxLocals_9.other W10 (Or.inr (slot_ne (Or.inl (wof hw 97 rfl)) (Or.inr (wof hw 57 rfl)) (by decide) (t := .int) (t' := (.object "java/util/List")) (by decide) (by decide)))
  have F_a1_stack_10 := F_a1_stack_9.other W10 (Or.inr (slot_ne (Or.inl (wof hw 152 rfl)) (Or.inr (wof hw 57 rfl)) (by decide) (t := .int) (t' := (.object "java/util/List")) (by decide) (by decide)))
  have F_a1_maxStack_10 := F_a1_maxStack_9.other W10 (Or.inr (slot_ne (Or.inl (wof hw 154 rfl)) (Or.inr (wof hw 57 rfl)) (by decide) (t := .int) (t' := (.object "java/util/List")) (by decide) (by decide)))
  have hE3_10 := hE3_9.wr W10
  have hFb3_10 := hFb3_9.other W10 (Or.inl (Ne.symm ne_a1_b2))
  have hFs3_10 := hFs3_9.other W10 (Or.inl (Ne.symm ne_a1_b2))
  have hA3_10 := hA3_9.other W10 (Ne.symm ne_a1_b3)
  have E_b5_10 := E_b5_9.wr W10
  have hM6_10 := hM6_9.other W10 (Or.inl (Ne.symm ne_a1_b5))
  have hS6_10 := hS6_9.other W10 (Or.inl (Ne.symm ne_a1_b5))
  have E_b8_10 := E_b8_9.wr W10
  have hM9_10 := hM9.other W10 (Or.inl (Ne.symm ne_a1_b8))
  have hS9_10 := hS9.other W10 (Or.inl (Ne.symm ne_a1_b8))
  have hD9_10 := hD9.other W10 (Or.inl (Ne.symm ne_a1_b8))
  have hB9_10 := hB9.other W10 ne_o9_a1
  have z_10 : n0 ≤ h10.size := by rw [W10.size]; exact z_9
  have K_10 : Keep h0 h10 [a1] := K_9.wr W10 (Or.inl (List.mem_of_getElem? (i := 0) rfl))
  have N_10 := Fr.snoc X10 N_9 ge_a1
  have F_a1_frames_10 : Fld Z h10 a1 "com/example/proxysmith/proxysmith/Bytecode" "frames" "Ljava/util/List;" (.ref b8) := F_a1_frames_9.same W10
  show Goes p e below s _ _ _ T10 (mkF m 41 #[vR a1, .val .null, .val .null, vR a4, vU, vU, vU, vU] [])
  refine Goes.step (fun _ k => XS.aloadN X10.here hx rfl (hb hby d1_41) rfl rfl k) ?_
  obtain ⟨T11, h11, X11, e11, E11, A11, D11, -, st11⟩ := newO X10 hx hZ hown (wof hw 29 rfl) (wof hw 30 rfl) (wof hw 31 rfl) e10 (g := (mkF m 42 #[vR a1, .val .null, .val .null, vR a4, vU, vU, vU, vU] [(.ref a1)])) rfl (hb hby d1_42) (by decide) (by decide)
  obtain ⟨b11, g_11⟩ : ∃ z, z = h10.size := ⟨_, rfl⟩
  rw [← g_11] at A11 D11 st11
  refine Goes.step st11 ?_
  have ne_a1_b11 : a1 ≠ b11 := Nat.ne_of_lt (by rw [g_11]; exact E_a1_10.lt)
  have ne_a4_b11 : a4 ≠ b11 := Nat.ne_of_lt (by rw [g_11]; exact E_a4_10.lt)
  have ne_av_b11 : av ≠ b11 := Nat.ne_of_lt (by rw [g_11]; exact A_av_10.lt)
  have ne_b2_b11 : b2 ≠ b11 := Nat.ne_of_lt (by rw [g_11]; exact hE3_10.lt)
  have ne_b3_b11 : b3 ≠ b11 := Nat.ne_of_lt (by rw [g_11]; exact hA3_10.lt)
  have ne_b5_b11 : b5 ≠ b11 := Nat.ne_of_lt (by rw [g_11]; exact E_b5_10.lt)
  have ne_b8_b11 : b8 ≠ b11 := Nat.ne_of_lt (by rw [g_11]; exact E_b8_10.lt)
  have ge_b11 : n0 ≤ b11 := by rw [g_11]; exact z_10
  have sz_b11 : h0.size ≤ b11 := by rw [g_11]; exact K_10.1
  have E_a1_11 := E_a1_10.ext E11
  have E_a4_11 := E_a4_10.ext E11
  have F_a4_value_11 := F_a4_value_10.ext E11
  have F_a4_coder_11 := F_a4_coder_10.ext E11
  have A_av_11 := A_av_10.ext E11
  have F_a1_code_11 := F_a1_code_10.ext E11
  have F_a1_jumps_11 := F_a1_jumps_10.ext E11
  have F_a1_frames_11 := F_a1_frames_10.ext E11
  have F_a1_handlers_11 := F_a1_handlers_10.ext E11
  have F_a1_reachable_11 := F_a1_reachable_10.ext E11
  have F_a1_owner_11 := F_a1_owner_10.ext E11
  have F_a1_self_11 := F_a1_self_10.ext E11
  have F_a1_descriptor_11 := F_a1_descriptor_10.ext E11
  have F_a1_entrySlots_11 := F_a1_entrySlots_10.ext E11
  have F_a1_maxLocals_11 := F_a1_maxLocals_10.ext E11
  have F_a1_stack_11 := F_a1_stack_10.ext E11
  have F_a1_maxStack_11 := F_a1_maxStack_10.ext E11
  have hE3_11 := hE3_10.ext E11
  have hFb3_11 := hFb3_10.ext E11
  have hFs3_11 := hFs3_10.ext E11
  have hA3_11 := hA3_10.ext E11
  have E_b5_11 := E_b5_10.ext E11
  have hM6_11 := hM6_10.ext E11
  have hS6_11 := hS6_10.ext E11
  have E_b8_11 := E_b8_10.ext E11
  have hM9_11 := hM9_10.ext E11
  have hS9_11 := hS9_10.ext E11
  have z_11 : n0 ≤ h11.size := Nat.le_trans z_10 E11.1
  have K_11 : Keep h0 h11 [a1] := K_10.ext E11
  have E_b11_11 : Exa Z h11 b11 "java/util/ArrayList" := A11
  have F_b11_modCount_11 : Fld Z h11 b11 "java/util/AbstractList" "modCount" "I" (.int (0 : Int32)) := D11 (Or.inl (wof hw 49 rfl)) (ty := .int) (by decide)
  have F_b11_elementData_11 : Fld Z h11 b11 "java/util/ArrayList" "elementData" "[Ljava/lang/Object;" .null := D11 (Or.inl (wof hw 53 rfl)) (ty := (.array (.object "java/lang/Object"))) (by decide)
  have F_b11_size_11 : Fld Z h11 b11 "java/util/ArrayList" "size" "I" (.int (0 : Int32)) := D11 (Or.inl (wof hw 203 rfl)) (ty := .int) (by decide)
  show Goes p e below s _ _ _ T11 (mkF m 45 #[vR a1, .val .null, .val .null, vR a4, vU, vU, vU, vU] [(.ref b11), (.ref a1)])
  refine Goes.step (fun _ k => XS.dup X11.here hx rfl (hb hby d1_45) rfl rfl k) ?_
  refine Goes.step (fun _ k => XS.iconst X11.here hx rfl (hb hby d1_46) k) ?_
  obtain ⟨v12, T12, h12, L12, X12, e12, Q12, st12⟩ := callXI X11 hx hZ (b := b11) (y := y_4) hown rfl (wof hw 32 rfl) (wof hw 33 rfl) (wof hw 34 rfl) (wof hw 31 rfl) (by decide) (W := 2) (argsL := [(.int (2 : Int32))]) (rest := [(.ref b11), (.ref a1)]) (rm4k2 l Z a0 hw [] b11 h11 n0 z_11 E_b11_11 F_b11_modCount_11 ge_b11 F_b11_size_11 F_b11_elementData_11) (by decide) (by decide) (by decide) (by decide) e11 (g := (mkF m 47 #[vR a1, .val .null, .val .null, vR a4, vU, vU, vU, vU] [(.int (2 : Int32)), (.ref b11), (.ref b11), (.ref a1)])) rfl (by rw [hml]; rfl) (lenOf pd_1_0 rfl) rfl (by show 2 * 0 + _ ≤ _; exact Nat.le_of_eq rfl) (hb hby d1_47)
  obtain ⟨rfl, NQ12, KQ12, hM12, hS12, o12, so12, hD12, hB12⟩ := Q12
  refine Goes.step st12 ?_
  have E_a1_12 := E_a1_11.keep KQ12
  have E_a4_12 := E_a4_11.keep KQ12
  have F_a4_value_12 := F_a4_value_11.keep KQ12 (ninS ne_a4_b11 nin0)
  have F_a4_coder_12 := F_a4_coder_11.keep KQ12 (ninS ne_a4_b11 nin0)
  have A_av_12 := A_av_11.keep KQ12 (ninS ne_av_b11 nin0)
  have F_a1_code_12 := F_a1_code_11.keep KQ12 (ninS ne_a1_b11 nin0)
  have F_a1_jumps_12 := F_a1_jumps_11.keep KQ12 (ninS ne_a1_b11 nin0)
  have F_a1_frames_12 := F_a1_frames_11.keep KQ12 (ninS ne_a1_b11 nin0)
  have F_a1_handlers_12 := F_a1_handlers_11.keep KQ12 (ninS ne_a1_b11 nin0)
  have F_a1_reachable_12 := F_a1_reachable_11.keep KQ12 (ninS ne_a1_b11 nin0)
  have F_a1_owner_12 := F_a1_owner_11.keep KQ12 (ninS ne_a1_b11 nin0)
  have F_a1_self_12 := F_a1_self_11.keep KQ12 (ninS ne_a1_b11 nin0)
  have F_a1_descriptor_12 := F_a1_descriptor_11.keep KQ12 (ninS ne_a1_b11 nin0)
  have F_a1_entrySlots_12 := F_a1_entrySlots_11.keep KQ12 (ninS ne_a1_b11 nin0)
  have F_a1_maxLocals_12 := F_a1_maxLocals_11.keep KQ12 (ninS ne_a1_b11 nin0)
  have F_a1_stack_12 := F_a1_stack_11.keep KQ12 (ninS ne_a1_b11 nin0)
  have F_a1_maxStack_12 := F_a1_maxStack_11.keep KQ12 (ninS ne_a1_b11 nin0)
  have hE3_12 := hE3_11.keep KQ12
  have hFb3_12 := hFb3_11.keep KQ12 (ninS ne_b2_b11 nin0)
  have hFs3_12 := hFs3_11.keep KQ12 (ninS ne_b2_b11 nin0)
  have hA3_12 := hA3_11.keep KQ12 (ninS ne_b3_b11 nin0)
  have E_b5_12 := E_b5_11.keep KQ12
  have hM6_12 := hM6_11.keep KQ12 (ninS ne_b5_b11 nin0)
  have hS6_12 := hS6_11.keep KQ12 (ninS ne_b5_b11 nin0)
  have E_b8_12 := E_b8_11.keep KQ12
  have hM9_12 := hM9_11.keep KQ12 (ninS ne_b8_b11 nin0)
  have hS9_12 := hS9_11.keep KQ12 (ninS ne_b8_b11 nin0)
  have E_b11_12 := E_b11_11.keep KQ12
  have z_12 : n0 ≤ h12.size := Nat.le_trans z_11 KQ12.1
  have K_12 : Keep h0 h12 [a1] := Keep.trans K_11 KQ12 (allS (Or.inr sz_b11) all0)
  have N_12 := Fr.app N_10 NQ12
  have ne_o12_b8 : o12 ≠ b8 := Nat.ne_of_gt (Nat.lt_of_lt_of_le E_b8_11.lt so12)
  have ne_o12_b2 : o12 ≠ b2 := Nat.ne_of_gt (Nat.lt_of_lt_of_le hE3_11.lt so12)
  have ne_o12_b5 : o12 ≠ b5 := Nat.ne_of_gt (Nat.lt_of_lt_of_le E_b5_11.lt so12)
  have ne_o12_av : o12 ≠ av := Nat.ne_of_gt (Nat.lt_of_lt_of_le A_av_11.lt so12)
  have ne_o12_a4 : o12 ≠ a4 := Nat.ne_of_gt (Nat.lt_of_lt_of_le E_a4_11.lt so12)
  have ne_o12_b11 : o12 ≠ b11 := Nat.ne_of_gt (Nat.lt_of_lt_of_le E_b11_11.lt so12)
  have ne_o12_a1 : o12 ≠ a1 := Nat.ne_of_gt (Nat.lt_of_lt_of_le E_a1_11.lt so12)
  have ne_o12_b3 : o12 ≠ b3 := Nat.ne_of_gt (Nat.lt_of_lt_of_le hA3_11.lt so12)
  have ge_o12 : n0 ≤ o12 := Nat.le_trans z_11 so12
  have sz_o12 : h0.size ≤ o12 := Nat.le_trans K_11.1 so12
  show Goes p e below s _ _ _ T12 (mkF m 50 #[vR a1, .val .null, .val .null, vR a4, vU, vU, vU, vU] [(.ref b11), (.ref a1)])
  obtain ⟨T13, h13, X13, e13, W13, st13⟩ := putF X12 hx hZ hown (host := "") (Or.inl (wof hw 58 rfl)) Via.refl e12 F_a1_handlers_12 E_a1_12 (Or.inr ⟨(wof hw 59 rfl), rfl, hnm⟩) (wof hw 2 rfl) (ty := (.object "java/util/List")) (by decide) rfl rfl (g := (mkF m 50 #[vR a1, .val .null, .val .null, vR a4, vU, vU, vU, vU] [(.ref b11), (.ref a1)])) rfl rfl (hb hby d1_50)
  refine Goes.step st13 ?_
  have E_a1_13 := E_a1_12.wr W13
  have E_a4_13 := E_a4_12.wr W13
  have F_a4_value_13 := F_a4_value_12.other W13 (Or.inl ne_a4_a1)
  have F_a4_coder_13 := F_a4_coder_12.other W13 (Or.inl ne_a4_a1)
  have A_av_13 := A_av_12.other W13 ne_av_a1
  have F_a1_code_13 := F_a1_code_12.other W13 (Or.inr (slot_ne (Or.inr (wof hw 28 rfl)) (Or.inr (wof hw 59 rfl)) (by decide) (t := (.object "com/example/proxysmith/proxysmith/ClassFileWriter$Bytes")) (t' := (.object "java/util/List")) (by decide) (by decide)))
  have F_a1_jumps_13 := F_a1_jumps_12.other W13 (Or.inr (slot_ne (Or.inr (wof hw 55 rfl)) (Or.inr (wof hw 59 rfl)) (by decide) (t := (.object "java/util/List")) (t' := (.object "java/util/List")) (by decide) (by decide)))
  have F_a1_frames_13 := F_a1_frames_12.other W13 (Or.inr (slot_ne (Or.inr (wof hw 57 rfl)) (Or.inr (wof hw 59 rfl)) (by decide) (t := (.object "java/util/List")) (t' := (.object "java/util/List")) (by decide) (by decide)))
  have F_a1_reachable_13 := F_a1_reachable_12.other W13 (Or.inr (slot_ne (Or.inl (wof hw 61 rfl)) (Or.inr (wof hw 59 rfl)) (by decide) (t := .boolean) (t' := (.object "java/util/List")) (by decide) (by decide)))
  have F_a1_owner_13 := F_a1_owner_12.other W13 (Or.inr (slot_ne (Or.inr (wof hw 63 rfl)) (Or.inr (wof hw 59 rfl)) (by decide) (t := (.object "com/example/proxysmith/proxysmith/ClassFileWriter")) (t' := (.object "java/util/List")) (by decide) (by decide)))
  have F_a1_self_13 := F_a1_self_12.other W13 (Or.inr (slot_ne (Or.inr (wof hw 65 rfl)) (Or.inr (wof hw 59 rfl)) (by decide) (t := (.object "java/lang/String")) (t' := (.object "java/util/List")) (by decide) (by decide)))
  have F_a1_descriptor_13 := F_a1_descriptor_12.other W13 (Or.inr (slot_ne (Or.inr (wof hw 67 rfl)) (Or.inr (wof hw 59 rfl)) (by decide) (t := (.object "java/lang/String")) (t' := (.object "java/util/List")) (by decide) (by decide)))
  have F_a1_entrySlots_13 := F_a1_entrySlots_12.other W13 (Or.inr (slot_ne (Or.inr (wof hw 95 rfl)) (Or.inr (wof hw 59 rfl)) (by decide) (t := (.array .int)) (t' := (.object "java/util/List")) (by decide) (by decide)))
  have F_a1_maxLocals_13 := F_a1_maxLocals_12.other W13 (Or.inr (slot_ne (Or.inl (wof hw 97 rfl)) (Or.inr (wof hw 59 rfl)) (by decide) (t := .int) (t' := (.object "java/util/List")) (by decide) (by decide)))
  have F_a1_stack_13 := F_a1_stack_12.other W13 (Or.inr (slot_ne (Or.inl (wof hw 152 rfl)) (Or.inr (wof hw 59 rfl)) (by decide) (t := .int) (t' := (.object "java/util/List")) (by decide) (by decide)))
  have F_a1_maxStack_13 := F_a1_maxStack_12.other W13 (Or.inr (slot_ne (Or.inl (wof hw 154 rfl)) (Or.inr (wof hw 59 rfl)) (by decide) (t := .int) (t' := (.object "java/util/List")) (by decide) (by decide)))
  have hE3_13 := hE3_12.wr W13
  have hFb3_13 := hFb3_12.other W13 (Or.inl (Ne.symm ne_a1_b2))
  have hFs3_13 := hFs3_12.other W13 (Or.inl (Ne.symm ne_a1_b2))
  have hA3_13 := hA3_12.other W13 (Ne.symm ne_a1_b3)
  have E_b5_13 := E_b5_12.wr W13
  have hM6_13 := hM6_12.other W13 (Or.inl (Ne.symm ne_a1_b5))
  have hS6_13 := hS6_12.other W13 (Or.inl (Ne.symm ne_a1_b5))
  have E_b8_13 := E_b8_12.wr W13
  have hM9_13 := hM9_12.other W13 (Or.inl (Ne.symm ne_a1_b8))
  have hS9_13 := hS9_12.other W13 (Or.inl (Ne.symm ne_a1_b8))
  have E_b11_13 := E_b11_12.wr W13
  have hM12_13 := hM12.other W13 (Or.inl (Ne.symm ne_a1_b11))
  have hS12_13 := hS12.other W13 (Or.inl (Ne.symm ne_a1_b11))
  have hD12_13 := hD12.other W13 (Or.inl (Ne.symm ne_a1_b11))
  have hB12_13 := hB12.other W13 ne_o12_a1
  have z_13 : n0 ≤ h13.size := by rw [W13.size]; exact z_12
  have K_13 : Keep h0 h13 [a1] := K_12.wr W13 (Or.inl (List.mem_of_getElem? (i := 0) rfl))
  have N_13 := Fr.snoc X13 N_12 ge_a1
  have F_a1_handlers_13 : Fld Z h13 a1 "com/example/proxysmith/proxysmith/Bytecode" "handlers" "Ljava/util/List;" (.ref b11) := F_a1_handlers_12.same W13
  show Goes p e below s _ _ _ T13 (mkF m 53 #[vR a1, .val .null, .val .null, vR a4, vU, vU, vU, vU] [])
  refine Goes.step (fun _ k => XS.aloadN X13.here hx rfl (hb hby d1_53) rfl rfl k) ?_
  refine Goes.step (fun _ k => XS.iconst X13.here hx rfl (hb hby d1_54) k) ?_
  obtain ⟨T14, h14, X14, e14, W14, st14⟩ := putF X13 hx hZ hown (host := "") (Or.inl (wof hw 60 rfl)) Via.refl e13 F_a1_reachable_13 E_a1_13 (Or.inl (wof hw 61 rfl)) (wof hw 2 rfl) (ty := .boolean) (by decide) rfl rfl (g := (mkF m 55 #[vR a1, .val .null, .val .null, vR a4, vU, vU, vU, vU] [(.int (1 : Int32)), (.ref a1)])) rfl rfl (hb hby d1_55)
  refine Goes.step st14 ?_
  have E_a1_14 := E_a1_13.wr W14
  have E_a4_14 := E_a4_13.wr W14
  have F_a4_value_14 := F_a4_value_13.other W14 (Or.inl ne_a4_a1)
  have F_a4_coder_14 := F_a4_coder_13.other W14 (Or.inl ne_a4_a1)
  have A_av_14 := A_av_13.other W14 ne_av_a1
  have F_a1_code_14 := F_a1_code_13.other W14 (Or.inr (slot_ne (Or.inr (wof hw 28 rfl)) (Or.inl (wof hw 61 rfl)) (by decide) (t := (.object "com/example/proxysmith/proxysmith/ClassFileWriter$Bytes")) (t' := .boolean) (by decide) (by decide)))
  have F_a1_jumps_14 := F_a1_jumps_13.other W14 (Or.inr (slot_ne (Or.inr (wof hw 55 rfl)) (Or.inl (wof hw 61 rfl)) (by decide) (t := (.object "java/util/List")) (t' := .boolean) (by decide) (by decide)))
  have F_a1_frames_14 := F_a1_frames_13.other W14 (Or.inr (slot_ne (Or.inr (wof hw 57 rfl)) (Or.inl (wof hw 61 rfl)) (by decide) (t := (.object "java/util/List")) (t' := .boolean) (by decide) (by decide)))
  have F_a1_handlers_14 := F_a1_handlers_13.other W14 (Or.inr (slot_ne (Or.inr (wof hw 59 rfl)) (Or.inl (wof hw 61 rfl)) (by decide) (t := (.object "java/util/List")) (t' := .boolean) (by decide) (by decide)))
  have F_a1_owner_14 := F_a1_owner_13.other W14 (Or.inr (slot_ne (Or.inr (wof hw 63 rfl)) (Or.inl (wof hw 61 rfl)) (by decide) (t := (.object "com/example/proxysmith/proxysmith/ClassFileWriter")) (t' := .boolean) (by decide) (by decide)))
  have F_a1_self_14 := F_a1_self_13.other W14 (Or.inr (slot_ne (Or.inr (wof hw 65 rfl)) (Or.inl (wof hw 61 rfl)) (by decide) (t := (.object "java/lang/String")) (t' := .boolean) (by decide) (by decide)))
  have F_a1_descriptor_14 := F_a1_descriptor_13.other W14 (Or.inr (slot_ne (Or.inr (wof hw 67 rfl)) (Or.inl (wof hw 61 rfl)) (by decide) (t := (.object "java/lang/String")) (t' := .boolean) (by decide) (by decide)))
  have F_a1_entrySlots_14 := F_a1_entrySlots_13.other W14 (Or.inr (slot_ne (Or.inr (wof hw 95 rfl)) (Or.inl (wof hw 61 rfl)) (by decide) (t := (.array .int)) (t' := .boolean) (by decide) (by decide)))
  have F_a1_maxLocals_14 := F_a1_maxLocals_13.other W14 (Or.inr (slot_ne (Or.inl (wof hw 97 rfl)) (Or.inl (wof hw 61 rfl)) (by decide) (t := .int) (t' := .boolean) (by decide) (by decide)))
  have F_a1_stack_14 := F_a1_stack_13.other W14 (Or.inr (slot_ne (Or.inl (wof hw 152 rfl)) (Or.inl (wof hw 61 rfl)) (by decide) (t := .int) (t' := .boolean) (by decide) (by decide)))
  have F_a1_maxStack_14 := F_a1_maxStack_13.other W14 (Or.inr (slot_ne (Or.inl (wof hw 154 rfl)) (Or.inl (wof hw 61 rfl)) (by decide) (t := .int) (t' := .boolean) (by decide) (by decide)))
  have hE3_14 := hE3_13.wr W14
  have hFb3_14 := hFb3_13.other W14 (Or.inl (Ne.symm ne_a1_b2))
  have hFs3_14 := hFs3_13.other W14 (Or.inl (Ne.symm ne_a1_b2))
  have hA3_14 := hA3_13.other W14 (Ne.symm ne_a1_b3)
  have E_b5_14 := E_b5_13.wr W14
  have hM6_14 := hM6_13.other W14 (Or.inl (Ne.symm ne_a1_b5))
  have hS6_14 := hS6_13.other W14 (Or.inl (Ne.symm ne_a1_b5))
  have E_b8_14 := E_b8_13.wr W14
  have hM9_14 := hM9_13.other W14 (Or.inl (Ne.symm ne_a1_b8))
  have hS9_14 := hS9_13.other W14 (Or.inl (Ne.symm ne_a1_b8))
  have E_b11_14 := E_b11_13.wr W14
  have hM12_14 := hM12_13.other W14 (Or.inl (Ne.symm ne_a1_b11))
  have hS12_14 := hS12_13.other W14 (Or.inl (Ne.symm ne_a1_b11))
  have hD12_14 := hD12_13.other W14 (Or.inl (Ne.symm ne_a1_b11))
  have hB12_14 := hB12_13.other W14 ne_o12_a1
  have z_14 : n0 ≤ h14.size := by rw [W14.size]; exact z_13
  have K_14 : Keep h0 h14 [a1] := K_13.wr W14 (Or.inl (List.mem_of_getElem? (i := 0) rfl))
  have N_14 := Fr.snoc X14 N_13 ge_a1
  have F_a1_reachable_14 : Fld Z h14 a1 "com/example/proxysmith/proxysmith/Bytecode" "reachable" "Z" (.int (1 : Int32)) := F_a1_reachable_13.same W14
  show Goes p e below s _ _ _ T14 (mkF m 58 #[vR a1, .val .null, .val .null, vR a4, vU, vU, vU, vU] [])
  refine Goes.step (fun _ k => XS.aloadN X14.here hx rfl (hb hby d1_58) rfl rfl k) ?_
  refine Goes.step (fun _ k => XS.aloadN X14.here hx rfl (hb hby d1_59) rfl rfl k) ?_
  obtain ⟨T15, h15, X15, e15, W15, st15⟩ := putF X14 hx hZ hown (host := "") (Or.inl (wof hw 62 rfl)) Via.refl e14 F_a1_owner_14 E_a1_14 (Or.inr ⟨(wof hw 63 rfl), rfl, hnm⟩) (wof hw 2 rfl) (ty := (.object "com/example/proxysmith/proxysmith/ClassFileWriter")) (by decide) rfl rfl (g := (mkF m 60 #[vR a1, .val .null, .val .null, vR a4, vU, vU, vU, vU] [.null, (.ref a1)])) rfl rfl (hb hby d1_60)
  refine Goes.step st15 ?_
  have E_a1_15 := E_a1_14.wr W15
  have E_a4_15 := E_a4_14.wr W15
  have F_a4_value_15 := F_a4_value_14.other W15 (Or.inl ne_a4_a1)
  have F_a4_coder_15 := F_a4_coder_14.other W15 (Or.inl ne_a4_a1)
  have A_av_15 := A_av_14.other W15 ne_av_a1
  have F_a1_code_15 := F_a1_code_14.other W15 (Or.inr (slot_ne (Or.inr (wof hw 28 rfl)) (Or.inr (wof hw 63 rfl)) (by decide) (t := (.object "com/example/proxysmith/proxysmith/ClassFileWriter$Bytes")) (t' := (.object "com/example/proxysmith/proxysmith/ClassFileWriter")) (by decide) (by decide)))
  have F_a1_jumps_15 := F_a1_jumps_14.other W15 (Or.inr (slot_ne (Or.inr (wof hw 55 rfl)) (Or.inr (wof hw 63 rfl)) (by decide) (t := (.object "java/util/List")) (t' := (.object "com/example/proxysmith/proxysmith/ClassFileWriter")) (by decide) (by decide)))
  have F_a1_frames_15 := F_a1_frames_14.other W15 (Or.inr (slot_ne (Or.inr (wof hw 57 rfl)) (Or.inr (wof hw 63 rfl)) (by decide) (t := (.object "java/util/List")) (t' := (.object "com/example/proxysmith/proxysmith/ClassFileWriter")) (by decide) (by decide)))
  have F_a1_handlers_15 := F_a1_handlers_14.other W15 (Or.inr (slot_ne (Or.inr (wof hw 59 rfl)) (Or.inr (wof hw 63 rfl)) (by decide) (t := (.object "java/util/List")) (t' := (.object "com/example/proxysmith/proxysmith/ClassFileWriter")) (by decide) (by decide)))
  have F_a1_reachable_15 := F_a1_reachable_14.other W15 (Or.inr (slot_ne (Or.inl (wof hw 61 rfl)) (Or.inr (wof hw 63 rfl)) (by decide) (t := .boolean) (t' := (.object "com/example/proxysmith/proxysmith/ClassFileWriter")) (by decide) (by decide)))
  have F_a1_self_15 := F_a1_self_14.other W15 (Or.inr (slot_ne (Or.inr (wof hw 65 rfl)) (Or.inr (wof hw 63 rfl)) (by decide) (t := (.object "java/lang/String")) (t' := (.object "com/example/proxysmith/proxysmith/ClassFileWriter")) (by decide) (by decide)))
  have F_a1_descriptor_15 := F_a1_descriptor_14.other W15 (Or.inr (slot_ne (Or.inr (wof hw 67 rfl)) (Or.inr (wof hw 63 rfl)) (by decide) (t := (.object "java/lang/String")) (t' := (.object "com/example/proxysmith/proxysmith/ClassFileWriter")) (by decide) (by decide)))
  have F_a1_entrySlots_15 := F_a1_entrySlots_14.other W15 (Or.inr (slot_ne (Or.inr (wof hw 95 rfl)) (Or.inr (wof hw 63 rfl)) (by decide) (t := (.array .int)) (t' := (.object "com/example/proxysmith/proxysmith/ClassFileWriter")) (by decide) (by decide)))
  have F_a1_maxLocals_15 := F_a1_maxLocals_14.other W15 (Or.inr (slot_ne (Or.inl (wof hw 97 rfl)) (Or.inr (wof hw 63 rfl)) (by decide) (t := .int) (t' := (.object "com/example/proxysmith/proxysmith/ClassFileWriter")) (by decide) (by decide)))
  have F_a1_stack_15 := F_a1_stack_14.other W15 (Or.inr (slot_ne (Or.inl (wof hw 152 rfl)) (Or.inr (wof hw 63 rfl)) (by decide) (t := .int) (t' := (.object "com/example/proxysmith/proxysmith/ClassFileWriter")) (by decide) (by decide)))
  have F_a1_maxStack_15 := F_a1_maxStack_14.other W15 (Or.inr (slot_ne (Or.inl (wof hw 154 rfl)) (Or.inr (wof hw 63 rfl)) (by decide) (t := .int) (t' := (.object "com/example/proxysmith/proxysmith/ClassFileWriter")) (by decide) (by decide)))
  have hE3_15 := hE3_14.wr W15
  have hFb3_15 := hFb3_14.other W15 (Or.inl (Ne.symm ne_a1_b2))
  have hFs3_15 := hFs3_14.other W15 (Or.inl (Ne.symm ne_a1_b2))
  have hA3_15 := hA3_14.other W15 (Ne.symm ne_a1_b3)
  have E_b5_15 := E_b5_14.wr W15
  have hM6_15 := hM6_14.other W15 (Or.inl (Ne.symm ne_a1_b5))
  have hS6_15 := hS6_14.other W15 (Or.inl (Ne.symm ne_a1_b5))
  have E_b8_15 := E_b8_14.wr W15
  have hM9_15 := hM9_14.other W15 (Or.inl (Ne.symm ne_a1_b8))
  have hS9_15 := hS9_14.other W15 (Or.inl (Ne.symm ne_a1_b8))
  have E_b11_15 := E_b11_14.wr W15
  have hM12_15 := hM12_14.other W15 (Or.inl (Ne.symm ne_a1_b11))
  have hS12_15 := hS12_14.other W15 (Or.inl (Ne.symm ne_a1_b11))
  have hD12_15 := hD12_14.other W15 (Or.inl (Ne.symm ne_a1_b11))
  have hB12_15 := hB12_14.other W15 ne_o12_a1
  have z_15 : n0 ≤ h15.size := by rw [W15.size]; exact z_14
  have K_15 : Keep h0 h15 [a1] := K_14.wr W15 (Or.inl (List.mem_of_getElem? (i := 0) rfl))
  have N_15 := Fr.snoc X15 N_14 ge_a1
  have F_a1_owner_15 : Fld Z h15 a1 "com/example/proxysmith/proxysmith/Bytecode" "owner" "Lcom/example/proxysmith/proxysmith/ClassFileWriter;" .null := F_a1_owner_14.same W15
  show Goes p e below s _ _ _ T15 (mkF m 63 #[vR a1, .val .null, .val .null, vR a4, vU, vU, vU, vU] [])
  refine Goes.step (fun _ k => XS.aloadN X15.here hx rfl (hb hby d1_63) rfl rfl k) ?_
  refine Goes.step (fun _ k => XS.aloadN X15.here hx rfl (hb hby d1_64) rfl rfl k) ?_
  obtain ⟨T16, h16, X16, e16, W16, st16⟩ := putF X15 hx hZ hown (host := "") (Or.inl (wof hw 64 rfl)) Via.refl e15 F_a1_self_15 E_a1_15 (Or.inr ⟨(wof hw 65 rfl), rfl, hnm⟩) (wof hw 2 rfl) (ty := (.object "java/lang/String")) (by decide) rfl rfl (g := (mkF m 65 #[vR a1, .val .null, .val .null, vR a4, vU, vU, vU, vU] [.null, (.ref a1)])) rfl rfl (hb hby d1_65)
  refine Goes.step st16 ?_
  have E_a1_16 := E_a1_15.wr W16
  have E_a4_16 := E_a4_15.wr W16
  have F_a4_value_16 := F_a4_value_15.other W16 (Or.inl ne_a4_a1)
  have F_a4_coder_16 := F_a4_coder_15.other W16 (Or.inl ne_a4_a1)
  have A_av_16 := A_av_15.other W16 ne_av_a1
  have F_a1_code_16 := F_a1_code_15.other W16 (Or.inr (slot_ne (Or.inr (wof hw 28 rfl)) (Or.inr (wof hw 65 rfl)) (by decide) (t := (.object "com/example/proxysmith/proxysmith/ClassFileWriter$Bytes")) (t' := (.object "java/lang/String")) (by decide) (by decide)))
  have F_a1_jumps_16 := F_a1_jumps_15.other W16 (Or.inr (slot_ne (Or.inr (wof hw 55 rfl)) (Or.inr (wof hw 65 rfl)) (by decide) (t := (.object "java/util/List")) (t' := (.object "java/lang/String")) (by decide) (by decide)))
  have F_a1_frames_16 := F_a1_frames_15.other W16 (Or.inr (slot_ne (Or.inr (wof hw 57 rfl)) (Or.inr (wof hw 65 rfl)) (by decide) (t := (.object "java/util/List")) (t' := (.object "java/lang/String")) (by decide) (by decide)))
  have F_a1_handlers_16 := F_a1_handlers_15.other W16 (Or.inr (slot_ne (Or.inr (wof hw 59 rfl)) (Or.inr (wof hw 65 rfl)) (by decide) (t := (.object "java/util/List")) (t' := (.object "java/lang/String")) (by decide) (by decide)))
  have F_a1_reachable_16 := F_a1_reachable_15.other W16 (Or.inr (slot_ne (Or.inl (wof hw 61 rfl)) (Or.inr (wof hw 65 rfl)) (by decide) (t := .boolean) (t' := (.object "java/lang/String")) (by decide) (by decide)))
  have F_a1_descriptor_16 := F_a1_descriptor_15.other W16 (Or.inr (slot_ne (Or.inr (wof hw 67 rfl)) (Or.inr (wof hw 65 rfl)) (by decide) (t := (.object "java/lang/String")) (t' := (.object "java/lang/String")) (by decide) (by decide)))
  have F_a1_entrySlots_16 := F_a1_entrySlots_15.other W16 (Or.inr (slot_ne (Or.inr (wof hw 95 rfl)) (Or.inr (wof hw 65 rfl)) (by decide) (t := (.array .int)) (t' := (.object "java/lang/String")) (by decide) (by decide)))
  have F_a1_maxLocals_16 := F_a1_maxLocals_15.other W16 (Or.inr (slot_ne (Or.inl (wof hw 97 rfl)) (Or.inr (wof hw 65 rfl)) (by decide) (t := .int) (t' := (.object "java/lang/String")) (by decide) (by decide)))
  have F_a1_stack_16 := F_a1_stack_15.other W16 (Or.inr (slot_ne (Or.inl (wof hw 152 rfl)) (Or.inr (wof hw 65 rfl)) (by decide) (t := .int) (t' := (.object "java/lang/String")) (by decide) (by decide)))
  have F_a1_maxStack_16 := F_a1_maxStack_15.other W16 (Or.inr (slot_ne (Or.inl (wof hw 154 rfl)) (Or.inr (wof hw 65 rfl)) (by decide) (t := .int) (t' := (.object "java/lang/String")) (by decide) (by decide)))
  have hE3_16 := hE3_15.wr W16
  have hFb3_16 := hFb3_15.other W16 (Or.inl (Ne.symm ne_a1_b2))
  have hFs3_16 := hFs3_15.other W16 (Or.inl (Ne.symm ne_a1_b2))
  have hA3_16 := hA3_15.other W16 (Ne.symm ne_a1_b3)
  have E_b5_16 := E_b5_15.wr W16
  have hM6_16 := hM6_15.other W16 (Or.inl (Ne.symm ne_a1_b5))
  have hS6_16 := hS6_15.other W16 (Or.inl (Ne.symm ne_a1_b5))
  have E_b8_16 := E_b8_15.wr W16
  have hM9_16 := hM9_15.other W16 (Or.inl (Ne.symm ne_a1_b8))
  have hS9_16 := hS9_15.other W16 (Or.inl (Ne.symm ne_a1_b8))
  have E_b11_16 := E_b11_15.wr W16
  have hM12_16 := hM12_15.other W16 (Or.inl (Ne.symm ne_a1_b11))
  have hS12_16 := hS12_15.other W16 (Or.inl (Ne.symm ne_a1_b11))
  have hD12_16 := hD12_15.other W16 (Or.inl (Ne.symm ne_a1_b11))
  have hB12_16 := hB12_15.other W16 ne_o12_a1
  have z_16 : n0 ≤ h16.size := by rw [W16.size]; exact z_15
  have K_16 : Keep h0 h16 [a1] := K_15.wr W16 (Or.inl (List.mem_of_getElem? (i := 0) rfl))
  have N_16 := Fr.snoc X16 N_15 ge_a1
  have F_a1_self_16 : Fld Z h16 a1 "com/example/proxysmith/proxysmith/Bytecode" "self" "Ljava/lang/String;" .null := F_a1_self_15.same W16
  show Goes p e below s _ _ _ T16 (mkF m 68 #[vR a1, .val .null, .val .null, vR a4, vU, vU, vU, vU] [])
  refine Goes.step (fun _ k => XS.aloadN X16.here hx rfl (hb hby d1_68) rfl rfl k) ?_
  refine Goes.step (fun _ k => XS.aloadN X16.here hx rfl (hb hby d1_69) rfl rfl k) ?_
  obtain ⟨T17, h17, X17, e17, W17, st17⟩ := putF X16 hx hZ hown (host := "") (Or.inl (wof hw 66 rfl)) Via.refl e16 F_a1_descriptor_16 E_a1_16 (Or.inr ⟨(wof hw 67 rfl), rfl, hnm⟩) (wof hw 2 rfl) (ty := (.object "java/lang/String")) (by decide) rfl rfl (g := (mkF m 70 #[vR a1, .val .null, .val .null, vR a4, vU, vU, vU, vU] [(.ref a4), (.ref a1)])) rfl rfl (hb hby d1_70)
  refine Goes.step st17 ?_
  have E_a1_17 := E_a1_16.wr W17
  have E_a4_17 := E_a4_16.wr W17
  have F_a4_value_17 := F_a4_value_16.other W17 (Or.inl ne_a4_a1)
  have F_a4_coder_17 := F_a4_coder_16.other W17 (Or.inl ne_a4_a1)
  have A_av_17 := A_av_16.other W17 ne_av_a1
  have F_a1_code_17 := F_a1_code_16.other W17 (Or.inr (slot_ne (Or.inr (wof hw 28 rfl)) (Or.inr (wof hw 67 rfl)) (by decide) (t := (.object "com/example/proxysmith/proxysmith/ClassFileWriter$Bytes")) (t' := (.object "java/lang/String")) (by decide) (by decide)))
  have F_a1_jumps_17 := F_a1_jumps_16.other W17 (Or.inr (slot_ne (Or.inr (wof hw 55 rfl)) (Or.inr (wof hw 67 rfl)) (by decide) (t := (.object "java/util/List")) (t' := (.object "java/lang/String")) (by decide) (by decide)))
  have F_a1_frames_17 := F_a1_frames_16.other W17 (Or.inr (slot_ne (Or.inr (wof hw 57 rfl)) (Or.inr (wof hw 67 rfl)) (by decide) (t := (.object "java/util/List")) (t' := (.object "java/lang/String")) (by decide) (by decide)))
  have F_a1_handlers_17 := F_a1_handlers_16.other W17 (Or.inr (slot_ne (Or.inr (wof hw 59 rfl)) (Or.inr (wof hw 67 rfl)) (by decide) (t := (.object "java/util/List")) (t' := (.object "java/lang/String")) (by decide) (by decide)))
  have F_a1_reachable_17 := F_a1_reachable_16.other W17 (Or.inr (slot_ne (Or.inl (wof hw 61 rfl)) (Or.inr (wof hw 67 rfl)) (by decide) (t := .boolean) (t' := (.object "java/lang/String")) (by decide) (by decide)))
  have F_a1_entrySlots_17 := F_a1_entrySlots_16.other W17 (Or.inr (slot_ne (Or.inr (wof hw 95 rfl)) (Or.inr (wof hw 67 rfl)) (by decide) (t := (.array .int)) (t' := (.object "java/lang/String")) (by decide) (by decide)))
  have F_a1_maxLocals_17 := F_a1_maxLocals_16.other W17 (Or.inr (slot_ne (Or.inl (wof hw 97 rfl)) (Or.inr (wof hw 67 rfl)) (by decide) (t := .int) (t' := (.object "java/lang/String")) (by decide) (by decide)))
  have F_a1_stack_17 := F_a1_stack_16.other W17 (Or.inr (slot_ne (Or.inl (wof hw 152 rfl)) (Or.inr (wof hw 67 rfl)) (by decide) (t := .int) (t' := (.object "java/lang/String")) (by decide) (by decide)))
  have F_a1_maxStack_17 := F_a1_maxStack_16.other W17 (Or.inr (slot_ne (Or.inl (wof hw 154 rfl)) (Or.inr (wof hw 67 rfl)) (by decide) (t := .int) (t' := (.object "java/lang/String")) (by decide) (by decide)))
  have hE3_17 := hE3_16.wr W17
  have hFb3_17 := hFb3_16.other W17 (Or.inl (Ne.symm ne_a1_b2))
  have hFs3_17 := hFs3_16.other W17 (Or.inl (Ne.symm ne_a1_b2))
  have hA3_17 := hA3_16.other W17 (Ne.symm ne_a1_b3)
  have E_b5_17 := E_b5_16.wr W17
  have hM6_17 := hM6_16.other W17 (Or.inl (Ne.symm ne_a1_b5))
  have hS6_17 := hS6_16.other W17 (Or.inl (Ne.symm ne_a1_b5))
  have E_b8_17 := E_b8_16.wr W17
  have hM9_17 := hM9_16.other W17 (Or.inl (Ne.symm ne_a1_b8))
  have hS9_17 := hS9_16.other W17 (Or.inl (Ne.symm ne_a1_b8))
  have E_b11_17 := E_b11_16.wr W17
  have hM12_17 := hM12_16.other W17 (Or.inl (Ne.symm ne_a1_b11))
  have hS12_17 := hS12_16.other W17 (Or.inl (Ne.symm ne_a1_b11))
  have hD12_17 := hD12_16.other W17 (Or.inl (Ne.symm ne_a1_b11))
  have hB12_17 := hB12_16.other W17 ne_o12_a1
  have z_17 : n0 ≤ h17.size := by rw [W17.size]; exact z_16
  have K_17 : Keep h0 h17 [a1] := K_16.wr W17 (Or.inl (List.mem_of_getElem? (i := 0) rfl))
  have N_17 := Fr.snoc X17 N_16 ge_a1
  have F_a1_descriptor_17 : Fld Z h17 a1 "com/example/proxysmith/proxysmith/Bytecode" "descriptor" "Ljava/lang/String;" (.ref a4) := F_a1_descriptor_16.same W17
  show Goes p e below s _ _ _ T17 (mkF m 73 #[vR a1, .val .null, .val .null, vR a4, vU, vU, vU, vU] [])
  refine Goes.step (fun _ k => XS.aloadN X17.here hx rfl (hb hby d1_73) rfl rfl k) ?_
  refine Goes.step (fun _ k => XS.ifnonnullNo X17.here hx rfl (hb hby d1_74) rfl k) ?_
  show Goes p e below s _ _ _ T17 (mkF m 77 #[vR a1, .val .null, .val .null, vR a4, vU, vU, vU, vU] [])
  refine Goes.step (fun _ k => XS.iconst X17.here hx rfl (hb hby d1_77) k) ?_
  refine Goes.step (fun _ k => XS.goto X17.here hx rfl (pc0 := 78) (pc' := 82) rfl (hb hby d1_78) (by decide) (by decide) k) ?_
  refine Goes.step (fun _ k => XS.istore X17.here hx rfl (hb hby d1_82) rfl (l' := #[vR a1, .val .null, .val .null, vR a4, vI (0 : Int32), vU, vU, vU]) rfl k) ?_
  refine Goes.step (fun _ k => XS.iconst X17.here hx rfl (hb hby d1_84) k) ?_
  as_aux_lemma =>
   refine Goes.step (fun _ k => XS.istore X17.here hx rfl (hb hby d1_85) rfl (l' := #[vR a1, .val .null, .val .null, vR a4, vI (0 : Int32), vI (1 : Int32), vU, vU]) rfl k) ?_
   refine Goes.step (fun _ k => XS.aloadN X17.here hx rfl (hb hby d1_87) rfl rfl k) ?_
   refine Goes.step (fun _ k => XS.iload X17.here hx rfl (hb hby d1_88) rfl k) ?_
   show Goes p e below s _ _ _ T17 (mkF m 90 #[vR a1, .val .null, .val .null, vR a4, vI (0 : Int32), vI (1 : Int32), vU, vU] [(.int (1 : Int32)), (.ref a4)])
   obtain ⟨T18, X18, e18, st18⟩ := own_pure (r := some (.int (41 : Int32))) (fun _ _ _ q => q) (callXV X17 hx hZ (C := "java/lang/String") (b := a4) (y := y_7) (z := y_7) hown (wof hw 68 rfl) (wof hw 69 rfl) (wof hw 71 rfl) (wof hw 70 rfl) (wof hw 72 rfl) (wof hw 5 rfl) (notFace_of_selects (args := #[]) (mvT hZ (wof hw 71 rfl))) (by decide) (W := 0) (argsL := [(.int (1 : Int32))]) (rest := []) (rm7 l Z a0 hw [] a4 (1 : Int32) G1 oF av 3 (strF "()V") 1 (41 : Int32) h17 n0 z_17 O2 P3 (OL.keep K_17 (allS ge_a1 all0)) O4 E_a4_17 F_a4_value_17 F_a4_coder_17 A_av_17 rfl (by decide) (by decide)) (by decide) (by decide) (by decide) (by decide) e17 E_a4_17 (g := (mkF m 90 #[vR a1, .val .null, .val .null, vR a4, vI (0 : Int32), vI (1 : Int32), vU, vU] [(.int (1 : Int32)), (.ref a4)])) rfl (by rw [hml]; rfl) (lenOf pd_1_1 rfl) rfl (by show 2 * 0 + _ ≤ _; exact Nat.le_of_eq rfl) (hb hby d1_90))
   refine Goes.step st18 ?_
   show Goes p e below s _ _ _ T18 (mkF m 93 #[vR a1, .val .null, .val .null, vR a4, vI (0 : Int32), vI (1 : Int32), vU, vU] [(.int (41 : Int32))])
   refine Goes.step (fun _ k => XS.bipush X18.here hx rfl (hb hby d1_93) k) ?_
   refine Goes.step (fun _ k => XS.icmpYes X18.here hx rfl (pc0 := 95) (pc' := 112) rfl (hb hby d1_95) rfl (teq (by decide : (41 : Int32) = (41 : Int32))).1 (by decide) (by decide) k) ?_
   show Goes p e below s _ _ _ T18 (mkF m 112 #[vR a1, .val .null, .val .null, vR a4, vI (0 : Int32), vI (1 : Int32), vU, vU] [])
   refine Goes.step (fun _ k => XS.aloadN X18.here hx rfl (hb hby d1_112) rfl rfl k) ?_
   refine Goes.step (fun _ k => XS.iload X18.here hx rfl (hb hby d1_113) rfl k) ?_
   obtain ⟨T19, h19, X19, e19, E19, A19, st19⟩ := newI X18 hx hZ (wof hw 93 rfl) e18 (g := (mkF m 115 #[vR a1, .val .null, .val .null, vR a4, vI (0 : Int32), vI (1 : Int32), vU, vU] [(.int (0 : Int32)), (.ref a1)])) rfl (hb hby d1_115) rfl (N := 0) rfl (cap := 0) (by decide) (by decide) (by decide) (by decide) rfl (by decide)
   obtain ⟨b19, g_19⟩ : ∃ z, z = h17.size := ⟨_, rfl⟩
   rw [← g_19] at A19 st19
   refine Goes.step st19 ?_
   have ne_a1_b19 : a1 ≠ b19 := Nat.ne_of_lt (by rw [g_19]; exact E_a1_17.lt)
   have ne_a4_b19 : a4 ≠ b19 := Nat.ne_of_lt (by rw [g_19]; exact E_a4_17.lt)
   have ne_av_b19 : av ≠ b19 := Nat.ne_of_lt (by rw [g_19]; exact A_av_17.lt)
   have ne_b11_b19 : b11 ≠ b19 := Nat.ne_of_lt (by rw [g_19]; exact E_b11_17.lt)
   have ne_b2_b19 : b2 ≠ b19 := Nat.ne_of_lt (by rw [g_19]; exact hE3_17.lt)
   have ne_b3_b19 : b3 ≠ b19 := Nat.ne_of_lt (by rw [g_19]; exact hA3_17.lt)
   have ne_b5_b19 : b5 ≠ b19 := Nat.ne_of_lt (by rw [g_19]; exact E_b5_17.lt)
   have ne_b8_b19 : b8 ≠ b19 := Nat.ne_of_lt (by rw [g_19]; exact E_b8_17.lt)
   have ne_o12_b19 : o12 ≠ b19 := Nat.ne_of_lt (by rw [g_19]; exact hB12_17.lt)
   have ge_b19 : n0 ≤ b19 := by rw [g_19]; exact z_17
   have sz_b19 : h0.size ≤ b19 := by rw [g_19]; exact K_17.1
   have E_a1_19 := E_a1_17.ext E19
   have E_a4_19 := E_a4_17.ext E19
   have F_a4_value_19 := F_a4_value_17.ext E19
   have F_a4_coder_19 := F_a4_coder_17.ext E19
   have A_av_19 := A_av_17.ext E19
   have F_a1_code_19 := F_a1_code_17.ext E19
   have F_a1_jumps_19 := F_a1_jumps_17.ext E19
   have F_a1_frames_19 := F_a1_frames_17.ext E19
   have F_a1_handlers_19 := F_a1_handlers_17.ext E19
   have F_a1_reachable_19 := F_a1_reachable_17.ext E19
   have F_a1_entrySlots_19 := F_a1_entrySlots_17.ext E19
   have F_a1_maxLocals_19 := F_a1_maxLocals_17.ext E19
   have F_a1_stack_19 := F_a1_stack_17.ext E19
   have F_a1_maxStack_19 := F_a1_maxStack_17.ext E19
   have hE3_19 := hE3_17.ext E19
   have hFb3_19 := hFb3_17.ext E19
   have hFs3_19 := hFs3_17.ext E19
   have hA3_19 := hA3_17.ext E19
   have E_b5_19 := E_b5_17.ext E19
   have hM6_19 := hM6_17.ext E19
   have hS6_19 := hS6_17.ext E19
   have E_b8_19 := E_b8_17.ext E19
   have hM9_19 := hM9_17.ext E19
   have hS9_19 := hS9_17.ext E19
   have E_b11_19 := E_b11_17.ext E19
   have hM12_19 := hM12_17.ext E19
   have hS12_19 := hS12_17.ext E19
   have hD12_19 := hD12_17.ext E19
   have hB12_19 := hB12_17.ext E19
   have z_19 : n0 ≤ h19.size := Nat.le_trans z_17 E19.1
   have K_19 : Keep h0 h19 [a1] := K_17.ext E19
   have A_b19_19 : Ari Z h19 b19 .int (0) (fun _ => 0) := A19
   show Goes p e below s _ _ _ T19 (mkF m 117 #[vR a1, .val .null, .val .null, vR a4, vI (0 : Int32), vI (1 : Int32), vU, vU] [(.ref b19), (.ref a1)])
   obtain ⟨T20, h20, X20, e20, W20, st20⟩ := putF X19 hx hZ hown (host := "") (Or.inl (wof hw 94 rfl)) Via.refl e19 F_a1_entrySlots_19 E_a1_19 (Or.inr ⟨(wof hw 95 rfl), rfl, hnm⟩) (wof hw 2 rfl) (ty := (.array .int)) (by decide) rfl rfl (g := (mkF m 117 #[vR a1, .val .null, .val .null, vR a4, vI (0 : Int32), vI (1 : Int32), vU, vU] [(.ref b19), (.ref a1)])) rfl rfl (hb hby d1_117)
   refine Goes.step st20 ?_
   have E_a1_20 := E_a1_19.wr W20
   have E_a4_20 := E_a4_19.wr W20
   have F_a4_value_20 := F_a4_value_19.other W20 (Or.inl ne_a4_a1)
   have F_a4_coder_20 := F_a4_coder_19.other W20 (Or.inl ne_a4_a1)
   have A_av_20 := A_av_19.other W20 ne_av_a1
   have F_a1_code_20 := F_a1_code_19.other W20 (Or.inr (slot_ne (Or.inr (wof hw 28 rfl)) (Or.inr (wof hw 95 rfl)) (by decide) (t := (.object "com/example/proxysmith/proxysmith/ClassFileWriter$Bytes")) (t' := (.array .int)) (by decide) (by decide)))
   have F_a1_jumps_20 := F_a1_jumps_19.other W20 (Or.inr (slot_ne (Or.inr (wof hw 55 rfl)) (Or.inr (wof hw 95 rfl)) (by decide) (t := (.object "java/util/List")) (t' := (.array .int)) (by decide) (by decide)))
   have F_a1_frames_20 := F_a1_frames_19.other W20 (Or.inr (slot_ne (Or.inr (wof hw 57 rfl)) (Or.inr (wof hw 95 rfl)) (by decide) (t := (.object "java/util/List")) (t' := (.array .int)) (by decide) (by decide)))
   have F_a1_handlers_20 := F_a1_handlers_19.other W20 (Or.inr (slot_ne (Or.inr (wof hw 59 rfl)) (Or.inr (wof hw 95 rfl)) (by decide) (t := (.object "java/util/List")) (t' := (.array .int)) (by decide) (by decide)))
   have F_a1_reachable_20 := F_a1_reachable_19.other W20 (Or.inr (slot_ne (Or.inl (wof hw 61 rfl)) (Or.inr (wof hw 95 rfl)) (by decide) (t := .boolean) (t' := (.array .int)) (by decide) (by decide)))
   have F_a1_maxLocals_20 := F_a1_maxLocals_19.other W20 (Or.inr (slot_ne (Or.inl (wof hw 97 rfl)) (Or.inr (wof hw 95 rfl)) (by decide) (t := .int) (t' := (.array .int)) (by decide) (by decide)))
   have F_a1_stack_20 := F_a1_stack_19.other W20 (Or.inr (slot_ne (Or.inl (wof hw 152 rfl)) (Or.inr (wof hw 95 rfl)) (by decide) (t := .int) (t' := (.array .int)) (by decide) (by decide)))
   have F_a1_maxStack_20 := F_a1_maxStack_19.other W20 (Or.inr (slot_ne (Or.inl (wof hw 154 rfl)) (Or.inr (wof hw 95 rfl)) (by decide) (t := .int) (t' := (.array .int)) (by decide) (by decide)))
   have hE3_20 := hE3_19.wr W20
   have hFb3_20 := hFb3_19.other W20 (Or.inl (Ne.symm ne_a1_b2))
   have hFs3_20 := hFs3_19.other W20 (Or.inl (Ne.symm ne_a1_b2))
   have hA3_20 := hA3_19.other W20 (Ne.symm ne_a1_b3)
   have E_b5_20 := E_b5_19.wr W20
   have hM6_20 := hM6_19.other W20 (Or.inl (Ne.symm ne_a1_b5))
   have hS6_20 := hS6_19.other W20 (Or.inl (Ne.symm ne_a1_b5))
   have E_b8_20 := E_b8_19.wr W20
   have hM9_20 := hM9_19.other W20 (Or.inl (Ne.symm ne_a1_b8))
   have hS9_20 := hS9_19.other W20 (Or.inl (Ne.symm ne_a1_b8))
   have E_b11_20 := E_b11_19.wr W20
   have hM12_20 := hM12_19.other W20 (Or.inl (Ne.symm ne_a1_b11))
   have hS12_20 := hS12_19.other W20 (Or.inl (Ne.symm ne_a1_b11))
   have hD12_20 := hD12_19.other W20 (Or.inl (Ne.symm ne_a1_b11))
   have hB12_20 := hB12_19.other W20 ne_o12_a1
   have A_b19_20 := A_b19_19.other W20 (Ne.symm ne_a1_b19)
   have z_20 : n0 ≤ h20.size := by rw [W20.size]; exact z_19
   have K_20 : Keep h0 h20 [a1] := K_19.wr W20 (Or.inl (List.mem_of_getElem? (i := 0) rfl))
   have N_20 := Fr.snoc X20 N_17 ge_a1
   have F_a1_entrySlots_20 : Fld Z h20 a1 "com/example/proxysmith/proxysmith/Bytecode" "entrySlots" "[I" (.ref b19) := F_a1_entrySlots_19.same W20
   show Goes p e below s _ _ _ T20 (mkF m 120 #[vR a1, .val .null, .val .null, vR a4, vI (0 : Int32), vI (1 : Int32), vU, vU] [])
   refine Goes.step (fun _ k => XS.aloadN X20.here hx rfl (hb hby d1_120) rfl rfl k) ?_
   refine Goes.step (fun _ k => XS.ifnonnullNo X20.here hx rfl (hb hby d1_121) rfl k) ?_
   show Goes p e below s _ _ _ T20 (mkF m 124 #[vR a1, .val .null, .val .null, vR a4, vI (0 : Int32), vI (1 : Int32), vU, vU] [])
   refine Goes.step (fun _ k => XS.iconst X20.here hx rfl (hb hby d1_124) k) ?_
   refine Goes.step (fun _ k => XS.goto X20.here hx rfl (pc0 := 125) (pc' := 129) rfl (hb hby d1_125) (by decide) (by decide) k) ?_
   refine Goes.step (fun _ k => XS.istore X20.here hx rfl (hb hby d1_129) rfl (l' := #[vR a1, .val .null, .val .null, vR a4, vI (0 : Int32), vI (0 : Int32), vU, vU]) rfl k) ?_
   refine Goes.step (fun _ k => XS.aloadN X20.here hx rfl (hb hby d1_131) rfl rfl k) ?_
   refine Goes.step (fun _ k => XS.ifnonnullNo X20.here hx rfl (hb hby d1_132) rfl k) ?_
   show Goes p e below s _ _ _ T20 (mkF m 135 #[vR a1, .val .null, .val .null, vR a4, vI (0 : Int32), vI (0 : Int32), vU, vU] [])
   refine Goes.step (fun _ k => XS.iconst X20.here hx rfl (hb hby d1_135) k) ?_
   refine Goes.step (fun _ k => XS.goto X20.here hx rfl (pc0 := 136) (pc' := 140) rfl (hb hby d1_136) (by decide) (by decide) k) ?_
   refine Goes.step (fun _ k => XS.istore X20.here hx rfl (hb hby d1_140) rfl (l' := #[vR a1, .val .null, .val .null, vR a4, vI (0 : Int32), vI (0 : Int32), vI (0 : Int32), vU]) rfl k) ?_
   refine Goes.step (fun _ k => XS.iconst X20.here hx rfl (hb hby d1_142) k) ?_
   refine Goes.step (fun _ k => XS.istore X20.here hx rfl (hb hby d1_143) rfl (l' := #[vR a1, .val .null, .val .null, vR a4, vI (0 : Int32), vI (0 : Int32), vI (0 : Int32), vI (1 : Int32)]) rfl k) ?_
   refine Goes.step (fun _ k => XS.aloadN X20.here hx rfl (hb hby d1_145) rfl rfl k) ?_
   refine Goes.step (fun _ k => XS.iload X20.here hx rfl (hb hby d1_146) rfl k) ?_
   show Goes p e below s _ _ _ T20 (mkF m 148 #[vR a1, .val .null, .val .null, vR a4, vI (0 : Int32), vI (0 : Int32), vI (0 : Int32), vI (1 : Int32)] [(.int (1 : Int32)), (.ref a4)])
   obtain ⟨T21, X21, e21, st21⟩ := own_pure (r := some (.int (41 : Int32))) (fun _ _ _ q => q) (callXV X20 hx hZ (C := "java/lang/String") (b := a4) (y := y_7) (z := y_7) hown (wof hw 68 rfl) (wof hw 69 rfl) (wof hw 71 rfl) (wof hw 70 rfl) (wof hw 72 rfl) (wof hw 5 rfl) (notFace_of_selects (args := #[]) (mvT hZ (wof hw 71 rfl))) (by decide) (W := 0) (argsL := [(.int (1 : Int32))]) (rest := []) (rm7 l Z a0 hw [] a4 (1 : Int32) G1 oF av 3 (strF "()V") 1 (41 : Int32) h20 n0 z_20 O2 P3 (OL.keep K_20 (allS ge_a1 all0)) O4 E_a4_20 F_a4_value_20 F_a4_coder_20 A_av_20 rfl (by decide) (by decide)) (by decide) (by decide) (by decide) (by decide) e20 E_a4_20 (g := (mkF m 148 #[vR a1, .val .null, .val .null, vR a4, vI (0 : Int32), vI (0 : Int32), vI (0 : Int32), vI (1 : Int32)] [(.int (1 : Int32)), (.ref a4)])) rfl (by rw [hml]; rfl) (lenOf pd_1_1 rfl) rfl (by show 2 * 0 + _ ≤ _; exact Nat.le_of_eq rfl) (hb hby d1_148))
   refine Goes.step st21 ?_
   show Goes p e below s _ _ _ T21 (mkF m 151 #[vR a1, .val .null, .val .null, vR a4, vI (0 : Int32), vI (0 : Int32), vI (0 : Int32), vI (1 : Int32)] [(.int (41 : Int32))])
   refine Goes.step (fun _ k => XS.bipush X21.here hx rfl (hb hby d1_151) k) ?_
   refine Goes.step (fun _ k => XS.icmpYes X21.here hx rfl (pc0 := 153) (pc' := 193) rfl (hb hby d1_153) rfl (teq (by decide : (41 : Int32) = (41 : Int32))).1 (by decide) (by decide) k) ?_
   show Goes p e below s _ _ _ T21 (mkF m 193 #[vR a1, .val .null, .val .null, vR a4, vI (0 : Int32), vI (0 : Int32), vI (0 : Int32), vI (1 : Int32)] [])
   refine Goes.step (fun _ k => XS.aloadN X21.here hx rfl (hb hby d1_193) rfl rfl k) ?_
   refine Goes.step (fun _ k => XS.iload X21.here hx rfl (hb hby d1_194) rfl k) ?_
   obtain ⟨T22, h22, X22, e22, W22, st22⟩ := putF X21 hx hZ hown (host := "") (Or.inl (wof hw 96 rfl)) Via.refl e21 F_a1_maxLocals_20 E_a1_20 (Or.inl (wof hw 97 rfl)) (wof hw 2 rfl) (ty := .int) (by decide) rfl rfl (g := (mkF m 196 #[vR a1, .val .null, .val .null, vR a4, vI (0 : Int32), vI (0 : Int32), vI (0 : Int32), vI (1 : Int32)] [(.int (0 : Int32)), (.ref a1)])) rfl rfl (hb hby d1_196)
   refine Goes.step st22 ?_
   have E_a1_22 := E_a1_20.wr W22
   have F_a1_code_22 := F_a1_code_20.other W22 (Or.inr (slot_ne (Or.inr (wof hw 28 rfl)) (Or.inl (wof hw 97 rfl)) (by decide) (t := (.object "com/example/proxysmith/proxysmith/ClassFileWriter$Bytes")) (t' := .int) (by decide) (by decide)))
   have F_a1_jumps_22 := F_a1_jumps_20.other W22 (Or.inr (slot_ne (Or.inr (wof hw 55 rfl)) (Or.inl (wof hw 97 rfl)) (by decide) (t := (.object "java/util/List")) (t' := .int) (by decide) (by decide)))
   have F_a1_frames_22 := F_a1_frames_20.other W22 (Or.inr (slot_ne (Or.inr (wof hw 57 rfl)) (Or.inl (wof hw 97 rfl)) (by decide) (t := (.object "java/util/List")) (t' := .int) (by decide) (by decide)))
   have F_a1_handlers_22 := F_a1_handlers_20.other W22 (Or.inr (slot_ne (Or.inr (wof hw 59 rfl)) (Or.inl (wof hw 97 rfl)) (by decide) (t := (.object "java/util/List")) (t' := .int) (by decide) (by decide)))
   have F_a1_reachable_22 := F_a1_reachable_20.other W22 (Or.inr (slot_ne (Or.inl (wof hw 61 rfl)) (Or.inl (wof hw 97 rfl)) (by decide) (t := .boolean) (t' := .int) (by decide) (by decide)))
   have F_a1_stack_22 := F_a1_stack_20.other W22 (Or.inr (slot_ne (Or.inl (wof hw 152 rfl)) (Or.inl (wof hw 97 rfl)) (by decide) (t := .int) (t' := .int) (by decide) (by decide)))
   have F_a1_maxStack_22 := F_a1_maxStack_20.other W22 (Or.inr (slot_ne (Or.inl (wof hw 154 rfl)) (Or.inl (wof hw 97 rfl)) (by decide) (t := .int) (t' := .int) (by decide) (by decide)))
   have hE3_22 := hE3_20.wr W22
   have hFb3_22 := hFb3_20.other W22 (Or.inl (Ne.symm ne_a1_b2))
   have hFs3_22 := hFs3_20.other W22 (Or.inl (Ne.symm ne_a1_b2))
   have hA3_22 := hA3_20.other W22 (Ne.symm ne_a1_b3)
   have E_b5_22 := E_b5_20.wr W22
   have hM6_22 := hM6_20.other W22 (Or.inl (Ne.symm ne_a1_b5))
   have hS6_22 := hS6_20.other W22 (Or.inl (Ne.symm ne_a1_b5))
   have E_b8_22 := E_b8_20.wr W22
   have hM9_22 := hM9_20.other W22 (Or.inl (Ne.symm ne_a1_b8))
   have hS9_22 := hS9_20.other W22 (Or.inl (Ne.symm ne_a1_b8))
   have E_b11_22 := E_b11_20.wr W22
   have hM12_22 := hM12_20.other W22 (Or.inl (Ne.symm ne_a1_b11))
   have hS12_22 := hS12_20.other W22 (Or.inl (Ne.symm ne_a1_b11))
   have hD12_22 := hD12_20.other W22 (Or.inl (Ne.symm ne_a1_b11))
   have hB12_22 := hB12_20.other W22 ne_o12_a1
   have A_b19_22 := A_b19_20.other W22 (Ne.symm ne_a1_b19)
   have z_22 : n0 ≤ h22.size := by rw [W22.size]; exact z_20
   have K_22 : Keep h0 h22 [a1] := K_20.wr W22 (Or.inl (List.mem_of_getElem? (i := 0) rfl))
   have N_22 := Fr.snoc X22 N_20 ge_a1
   have F_a1_maxLocals_22 : Fld Z h22 a1 "com/example/proxysmith/proxysmith/Bytecode" "maxLocals" "I" (.int (0 : Int32)) := F_a1_maxLocals_20.same W22
   show Goes p e below s _ _ _ T22 (mkF m 199 #[vR a1, .val .null, .val .null, vR a4, vI (0 : Int32), vI (0 : Int32), vI (0 : Int32), vI (1 : Int32)] [])
   exact Goes.outV X22 hx hlk Bd.returns (hb hby d1_199) (by rw [e22]; exact ⟨b2, b3, b5, b8, b11, o12, rfl, N_22, K_22, ⟨ne_a1_b2, ne_a1_b3, ne_a1_b5, ne_a1_b8, ne_a1_b11, (Ne.symm ne_o12_a1), hab3, ne_b2_b5, ne_b2_b8, ne_b2_b11, (Ne.symm ne_o12_b2), ne_b3_b5, ne_b3_b8, ne_b3_b11, (Ne.symm ne_o12_b3), ne_b5_b8, ne_b5_b11, (Ne.symm ne_o12_b5), ne_b8_b11, (Ne.symm ne_o12_b8), (Ne.symm ne_o12_b11)⟩, ⟨sz_b2, (Nat.le_trans K_2.1 hb3), sz_b5, sz_b8, sz_b11, sz_o12⟩, ⟨E_a1_22, F_a1_code_22, F_a1_jumps_22, F_a1_frames_22, F_a1_handlers_22, F_a1_reachable_22, F_a1_stack_22, F_a1_maxStack_22, F_a1_maxLocals_22⟩, ⟨hE3_22, hFb3_22, hFs3_22, hA3_22⟩, ⟨E_b5_22, hS6_22, hM6_22, E_b8_22, hS9_22, E_b11_22, hS12_22, hM12_22, hD12_22, hB12_22⟩⟩) (by decide) (by decide)
theorem d27_0 : decode jdk_30_method_1_code 0 = .ok (.aload_n 0, 1) := by decide +kernel
theorem d27_1 : decode jdk_30_method_1_code 1 = .ok (.invokespecial 1, 3) := by decide +kernel
theorem d27_4 : decode jdk_30_method_1_code 4 = .ok (.return_, 1) := by decide +kernel
theorem pn_27 : plainName "java/lang/Record" = true := by first | (simp [plainName, overriddenIn]; done) | decide +kernel
theorem ef_27 (m : MethodId) (a1 : Addr) : entryFrame m #[(.ref a1)] 1 = mkF m 0 #[.val (.ref a1)] [] := by first | (simp [entryFrame, mkF, argsToLocals, Value.category]; done) | rfl
def Q27 (Z : State) (a1 : Addr)  (h0 : Heap) (n0 : Nat) (v : Option Value) (h : Heap) (L : List Loc) : Prop := PQ h0 none v h L
set_option maxRecDepth 65536 in
set_option maxHeartbeats 40000000 in
theorem rm27 (l : Launch) (Z : State) (a0 : Array Value) (hw : ∀ d ∈ tables_1, d.before a0 Z = true) (ws : List Jvm.Cond) (a1 : Addr)  (h0 : Heap) (n0 : Nat) (Z0 : n0 ≤ h0.size)  :
    MetFree l y_27 (head1 (Jvm.Cond.code y_27 jdk_30_method_1_code 1 none :: ws) ({ frames := 1, cells := 0, slots := 0, locals := 12 } : Room)) (fun a U => a = #[(.ref a1)] ∧ Z.Warmed39 U.vm ∧ U.heap = h0) (fun _ _ _ _ _ => True) (fun _ U o U' => ∃ v L, o = .returned v ∧ Q27 Z a1 h0 n0 v U'.heap L ∧ FrameEnd U o U' L ({ frames := 1, cells := 0, slots := 0, locals := 12 } : Room).cells ({ frames := 1, cells := 0, slots := 0, locals := 12 } : Room).slots) := by
  refine MetFree.of_bodySF (plainFor_of_name pn_27) hisR ?_
  intro p e s m args below meth c s₁ Bd hml0 hP hK
  obtain ⟨rfl, hZ, hh⟩ := hP
  have hx := Bd.exec
  have hby := Bd.bytes
  have hlk := Bd.notSynchronized
  have hml : c.maxLocals = 1 := hml0
  have hown : s.vm.findClass "java/lang/Record" = some m.cls := findClass_of_methodNamed Bd.named
  have hnm := (name_of_methodNamed Bd.named Bd.method).1
  have X0 : Stand p l e ({ frames := 1, cells := 0, slots := 0, locals := 12 } : Room) s m #[(.ref a1)] below meth c s₁ [] 0 0 := Stand.of_body Bd
  have e0 : s₁.heap = h0 := by rw [← hh, Bd.state]; rfl
  have N0 := Fr.nil n0
  have K0 : Keep h0 h0 [] := Keep.refl h0 _
  show Goes p e below s ({ frames := 1, cells := 0, slots := 0, locals := 12 } : Room).cells ({ frames := 1, cells := 0, slots := 0, locals := 12 } : Room).slots (Q27 Z a1 h0 n0) s₁ (entryFrame m #[(.ref a1)] 1)
  refine Goes.step (fun t k => castTop (ef_27 m a1) k) ?_
  refine Goes.step (fun _ k => XS.aloadN X0.here hx rfl (hb hby d27_0) rfl rfl k) ?_
  obtain ⟨T1, X1, e1, st1⟩ := initO X0 hx hZ hown (wof hw 182 rfl) (wof hw 16 rfl) (wof hw 17 rfl) e0 (g := (mkF m 1 #[vR a1] [(.ref a1)])) rfl (by rw [hml]; rfl) rfl (hb hby d27_1) (by decide) (W := 0) (by show 2 * 0 + _ ≤ _; exact Nat.le_of_eq rfl) (by decide)
  refine Goes.step st1 ?_
  show Goes p e below s _ _ _ T1 (mkF m 4 #[vR a1] [])
  exact Goes.outV X1 hx hlk Bd.returns (hb hby d27_4) (by rw [e1]; exact ⟨rfl, rfl, rfl⟩) (by decide) (by decide)
theorem d26_0 : decode prog_4_method_1_code 0 = .ok (.aload_n 0, 1) := by decide +kernel
theorem d26_1 : decode prog_4_method_1_code 1 = .ok (.invokespecial 1, 3) := by decide +kernel
theorem d26_4 : decode prog_4_method_1_code 4 = .ok (.aload_n 0, 1) := by decide +kernel
theorem d26_5 : decode prog_4_method_1_code 5 = .ok (.aload_n 1, 1) := by decide +kernel
theorem d26_6 : decode prog_4_method_1_code 6 = .ok (.putfield 7, 3) := by decide +kernel
theorem d26_9 : decode prog_4_method_1_code 9 = .ok (.aload_n 0, 1) := by decide +kernel
theorem d26_10 : decode prog_4_method_1_code 10 = .ok (.aload_n 2, 1) := by decide +kernel
theorem d26_11 : decode prog_4_method_1_code 11 = .ok (.putfield 13, 3) := by decide +kernel
theorem d26_14 : decode prog_4_method_1_code 14 = .ok (.aload_n 0, 1) := by decide +kernel
theorem d26_15 : decode prog_4_method_1_code 15 = .ok (.aload_n 3, 1) := by decide +kernel
theorem d26_16 : decode prog_4_method_1_code 16 = .ok (.putfield 16, 3) := by decide +kernel
theorem d26_19 : decode prog_4_method_1_code 19 = .ok (.aload_n 0, 1) := by decide +kernel
theorem d26_20 : decode prog_4_method_1_code 20 = .ok (.aload 4, 2) := by decide +kernel
theorem d26_22 : decode prog_4_method_1_code 22 = .ok (.putfield 19, 3) := by decide +kernel
theorem d26_25 : decode prog_4_method_1_code 25 = .ok (.return_, 1) := by decide +kernel
theorem pn_26 : plainName "com/example/proxysmith/proxysmith/Bytecode$Handler" = true := by first | (simp [plainName, overriddenIn]; done) | decide +kernel
theorem pd_26_0 : parseMethodDescriptor "()V" = some ⟨[], none⟩ := by decide +kernel
theorem ef_26 (m : MethodId) (a1 : Addr) (a2 : Addr) (a3 : Addr) (a4 : Addr) : entryFrame m #[(.ref a1), (.ref a2), (.ref a3), (.ref a4), .null] 5 = mkF m 0 #[.val (.ref a1), .val (.ref a2), .val (.ref a3), .val (.ref a4), .val .null] [] := by first | (simp [entryFrame, mkF, argsToLocals, Value.category]; done) | rfl
def Q26 (Z : State) (a1 : Addr) (a2 : Addr) (a3 : Addr) (a4 : Addr)  (h0 : Heap) (n0 : Nat) (v : Option Value) (h : Heap) (L : List Loc) : Prop := v = none ∧ Fr n0 L ∧ Keep h0 h [a1] ∧ Fld Z h a1 "com/example/proxysmith/proxysmith/Bytecode$Handler" "start" "Lcom/example/proxysmith/proxysmith/Bytecode$Label;" (.ref a2) ∧ Fld Z h a1 "com/example/proxysmith/proxysmith/Bytecode$Handler" "end" "Lcom/example/proxysmith/proxysmith/Bytecode$Label;" (.ref a3) ∧ Fld Z h a1 "com/example/proxysmith/proxysmith/Bytecode$Handler" "handler" "Lcom/example/proxysmith/proxysmith/Bytecode$Label;" (.ref a4) ∧ Fld Z h a1 "com/example/proxysmith/proxysmith/Bytecode$Handler" "catchType" "Ljava/lang/String;" .null
set_option maxRecDepth 65536 in
set_option maxHeartbeats 40000000 in
theorem rm26 (l : Launch) (Z : State) (a0 : Array Value) (hw : ∀ d ∈ tables_1, d.before a0 Z = true) (ws : List Jvm.Cond) (a1 : Addr) (a2 : Addr) (a3 : Addr) (a4 : Addr)  (h0 : Heap) (n0 : Nat) (Z0 : n0 ≤ h0.size) (E_a1_0 : Exa Z h0 a1 "com/example/proxysmith/proxysmith/Bytecode$Handler") (ge_a1 : n0 ≤ a1) (F_a1_start_0 : Fld Z h0 a1 "com/example/proxysmith/proxysmith/Bytecode$Handler" "start" "Lcom/example/proxysmith/proxysmith/Bytecode$Label;" .null) (F_a1_end_0 : Fld Z h0 a1 "com/example/proxysmith/proxysmith/Bytecode$Handler" "end" "Lcom/example/proxysmith/proxysmith/Bytecode$Label;" .null) (F_a1_handler_0 : Fld Z h0 a1 "com/example/proxysmith/proxysmith/Bytecode$Handler" "handler" "Lcom/example/proxysmith/proxysmith/Bytecode$Label;" .null) (F_a1_catchType_0 : Fld Z h0 a1 "com/example/proxysmith/proxysmith/Bytecode$Handler" "catchType" "Ljava/lang/String;" .null) :
    MetFree l y_26 (head1 (Jvm.Cond.code y_26 prog_4_method_1_code 5 none :: ws) ({ frames := 2, cells := 0, slots := 0, locals := 24 } : Room)) (fun a U => a = #[(.ref a1), (.ref a2), (.ref a3), (.ref a4), .null] ∧ Z.Warmed39 U.vm ∧ U.heap = h0) (fun _ _ _ _ _ => True) (fun _ U o U' => ∃ v L, o = .returned v ∧ Q26 Z a1 a2 a3 a4 h0 n0 v U'.heap L ∧ FrameEnd U o U' L ({ frames := 2, cells := 0, slots := 0, locals := 24 } : Room).cells ({ frames := 2, cells := 0, slots := 0, locals := 24 } : Room).slots) := by
  refine MetFree.of_bodySF (plainFor_of_name pn_26) hisR ?_
  intro p e s m args below meth c s₁ Bd hml0 hP hK
  obtain ⟨rfl, hZ, hh⟩ := hP
  have hx := Bd.exec
  have hby := Bd.bytes
  have hlk := Bd.notSynchronized
  have hml : c.maxLocals = 5 := hml0
  have hown : s.vm.findClass "com/example/proxysmith/proxysmith/Bytecode$Handler" = some m.cls := findClass_of_methodNamed Bd.named
  have hnm := (name_of_methodNamed Bd.named Bd.method).1
  have X0 : Stand p l e ({ frames := 2, cells := 0, slots := 0, locals := 24 } : Room) s m #[(.ref a1), (.ref a2), (.ref a3), (.ref a4), .null] below meth c s₁ [] 0 0 := Stand.of_body Bd
  have e0 : s₁.heap = h0 := by rw [← hh, Bd.state]; rfl
  have N0 := Fr.nil n0
  have K0 : Keep h0 h0 [a1] := Keep.refl h0 _
  show Goes p e below s ({ frames := 2, cells := 0, slots := 0, locals := 24 } : Room).cells ({ frames := 2, cells := 0, slots := 0, locals := 24 } : Room).slots (Q26 Z a1 a2 a3 a4 h0 n0) s₁ (entryFrame m #[(.ref a1), (.ref a2), (.ref a3), (.ref a4), .null] 5)
  refine Goes.step (fun t k => castTop (ef_26 m a1 a2 a3 a4) k) ?_
  refine Goes.step (fun _ k => XS.aloadN X0.here hx rfl (hb hby d26_0) rfl rfl k) ?_
  obtain ⟨T1, X1, e1, st1⟩ := own_pure (r := none) (fun _ _ _ q => q) (callXI X0 hx hZ (b := a1) (y := y_27) hown rfl (wof hw 177 rfl) (wof hw 178 rfl) (wof hw 181 rfl) (wof hw 180 rfl) (by decide) (W := 0) (argsL := []) (rest := []) (rm27 l Z a0 hw [] a1 h0 n0 Z0) (by decide) (by decide) (by decide) (by decide) e0 (g := (mkF m 1 #[vR a1, vR a2, vR a3, vR a4, .val .null] [(.ref a1)])) rfl (by rw [hml]; rfl) (lenOf pd_26_0 rfl) rfl (by show 2 * 0 + _ ≤ _; exact Nat.le_of_eq rfl) (hb hby d26_1))
  refine Goes.step st1 ?_
  show Goes p e below s _ _ _ T1 (mkF m 4 #[vR a1, vR a2, vR a3, vR a4, .val .null] [])
  refine Goes.step (fun _ k => XS.aloadN X1.here hx rfl (hb hby d26_4) rfl rfl k) ?_
  refine Goes.step (fun _ k => XS.aloadN X1.here hx rfl (hb hby d26_5) rfl rfl k) ?_
  obtain ⟨T2, h2, X2, e2, W2, st2⟩ := putF X1 hx hZ hown (host := "") (Or.inl (wof hw 183 rfl)) Via.refl e1 F_a1_start_0 E_a1_0 (Or.inr ⟨(wof hw 184 rfl), rfl, hnm⟩) (wof hw 172 rfl) (ty := (.object "com/example/proxysmith/proxysmith/Bytecode$Label")) (by decide) rfl rfl (g := (mkF m 6 #[vR a1, vR a2, vR a3, vR a4, .val .null] [(.ref a2), (.ref a1)])) rfl rfl (hb hby d26_6)
  refine Goes.step st2 ?_
  have E_a1_2 := E_a1_0.wr W2
  have F_a1_end_2 := F_a1_end_0.other W2 (Or.inr (slot_ne (Or.inr (wof hw 186 rfl)) (Or.inr (wof hw 184 rfl)) (by decide) (t := (.object "com/example/proxysmith/proxysmith/Bytecode$Label")) (t' := (.object "com/example/proxysmith/proxysmith/Bytecode$Label")) (by decide) (by decide)))
  have F_a1_handler_2 := F_a1_handler_0.other W2 (Or.inr (slot_ne (Or.inr (wof hw 188 rfl)) (Or.inr (wof hw 184 rfl)) (by decide) (t := (.object "com/example/proxysmith/proxysmith/Bytecode$Label")) (t' := (.object "com/example/proxysmith/proxysmith/Bytecode$Label")) (by decide) (by decide)))
  have F_a1_catchType_2 := F_a1_catchType_0.other W2 (Or.inr (slot_ne (Or.inr (wof hw 190 rfl)) (Or.inr (wof hw 184 rfl)) (by decide) (t := (.object "java/lang/String")) (t' := (.object "com/example/proxysmith/proxysmith/Bytecode$Label")) (by decide) (by decide)))
  have z_2 : n0 ≤ h2.size := by rw [W2.size]; exact Z0
  have K_2 : Keep h0 h2 [a1] := K0.wr W2 (Or.inl (List.mem_of_getElem? (i := 0) rfl))
  have N_2 := Fr.snoc X2 N0 ge_a1
  have F_a1_start_2 : Fld Z h2 a1 "com/example/proxysmith/proxysmith/Bytecode$Handler" "start" "Lcom/example/proxysmith/proxysmith/Bytecode$Label;" (.ref a2) := F_a1_start_0.same W2
  show Goes p e below s _ _ _ T2 (mkF m 9 #[vR a1, vR a2, vR a3, vR a4, .val .null] [])
  refine Goes.step (fun _ k => XS.aloadN X2.here hx rfl (hb hby d26_9) rfl rfl k) ?_
  refine Goes.step (fun _ k => XS.aloadN X2.here hx rfl (hb hby d26_10) rfl rfl k) ?_
  obtain ⟨T3, h3, X3, e3, W3, st3⟩ := putF X2 hx hZ hown (host := "") (Or.inl (wof hw 185 rfl)) Via.refl e2 F_a1_end_2 E_a1_2 (Or.inr ⟨(wof hw 186 rfl), rfl, hnm⟩) (wof hw 172 rfl) (ty := (.object "com/example/proxysmith/proxysmith/Bytecode$Label")) (by decide) rfl rfl (g := (mkF m 11 #[vR a1, vR a2, vR a3, vR a4, .val .null] [(.ref a3), (.ref a1)])) rfl rfl (hb hby d26_11)
  refine Goes.step st3 ?_
  have E_a1_3 := E_a1_2.wr W3
  have F_a1_start_3 := F_a1_start_2.other W3 (Or.inr (slot_ne (Or.inr (wof hw 184 rfl)) (Or.inr (wof hw 186 rfl)) (by decide) (t := (.object "com/example/proxysmith/proxysmith/Bytecode$Label")) (t' := (.object "com/example/proxysmith/proxysmith/Bytecode$Label")) (by decide) (by decide)))
  have F_a1_handler_3 := F_a1_handler_2.other W3 (Or.inr (slot_ne (Or.inr (wof hw 188 rfl)) (Or.inr (wof hw 186 rfl)) (by decide) (t := (.object "com/example/proxysmith/proxysmith/Bytecode$Label")) (t' := (.object "com/example/proxysmith/proxysmith/Bytecode$Label")) (by decide) (by decide)))
  have F_a1_catchType_3 := F_a1_catchType_2.other W3 (Or.inr (slot_ne (Or.inr (wof hw 190 rfl)) (Or.inr (wof hw 186 rfl)) (by decide) (t := (.object "java/lang/String")) (t' := (.object "com/example/proxysmith/proxysmith/Bytecode$Label")) (by decide) (by decide)))
  have z_3 : n0 ≤ h3.size := by rw [W3.size]; exact z_2
  have K_3 : Keep h0 h3 [a1] := K_2.wr W3 (Or.inl (List.mem_of_getElem? (i := 0) rfl))
  have N_3 := Fr.snoc X3 N_2 ge_a1
  have F_a1_end_3 : Fld Z h3 a1 "com/example/proxysmith/proxysmith/Bytecode$Handler" "end" "Lcom/example/proxysmith/proxysmith/Bytecode$Label;" (.ref a3) := F_a1_end_2.same W3
  show Goes p e below s _ _ _ T3 (mkF m 14 #[vR a1, vR a2, vR a3, vR a4, .val .null] [])
  refine Goes.step (fun _ k => XS.aloadN X3.here hx rfl (hb hby d26_14) rfl rfl k) ?_
  refine Goes.step (fun _ k => XS.aloadN X3.here hx rfl (hb hby d26_15) rfl rfl k) ?_
  obtain ⟨T4, h4, X4, e4, W4, st4⟩ := putF X3 hx hZ hown (host := "") (Or.inl (wof hw 187 rfl)) Via.refl e3 F_a1_handler_3 E_a1_3 (Or.inr ⟨(wof hw 188 rfl), rfl, hnm⟩) (wof hw 172 rfl) (ty := (.object "com/example/proxysmith/proxysmith/Bytecode$Label")) (by decide) rfl rfl (g := (mkF m 16 #[vR a1, vR a2, vR a3, vR a4, .val .null] [(.ref a4), (.ref a1)])) rfl rfl (hb hby d26_16)
  refine Goes.step st4 ?_
  have E_a1_4 := E_a1_3.wr W4
  have F_a1_start_4 := F_a1_start_3.other W4 (Or.inr (slot_ne (Or.inr (wof hw 184 rfl)) (Or.inr (wof hw 188 rfl)) (by decide) (t := (.object "com/example/proxysmith/proxysmith/Bytecode$Label")) (t' := (.object "com/example/proxysmith/proxysmith/Bytecode$Label")) (by decide) (by decide)))
  have F_a1_end_4 := F_a1_end_3.other W4 (Or.inr (slot_ne (Or.inr (wof hw 186 rfl)) (Or.inr (wof hw 188 rfl)) (by decide) (t := (.object "com/example/proxysmith/proxysmith/Bytecode$Label")) (t' := (.object "com/example/proxysmith/proxysmith/Bytecode$Label")) (by decide) (by decide)))
  have F_a1_catchType_4 := F_a1_catchType_3.other W4 (Or.inr (slot_ne (Or.inr (wof hw 190 rfl)) (Or.inr (wof hw 188 rfl)) (by decide) (t := (.object "java/lang/String")) (t' := (.object "com/example/proxysmith/proxysmith/Bytecode$Label")) (by decide) (by decide)))
  have z_4 : n0 ≤ h4.size := by rw [W4.size]; exact z_3
  have K_4 : Keep h0 h4 [a1] := K_3.wr W4 (Or.inl (List.mem_of_getElem? (i := 0) rfl))
  have N_4 := Fr.snoc X4 N_3 ge_a1
  have F_a1_handler_4 : Fld Z h4 a1 "com/example/proxysmith/proxysmith/Bytecode$Handler" "handler" "Lcom/example/proxysmith/proxysmith/Bytecode$Label;" (.ref a4) := F_a1_handler_3.same W4
  show Goes p e below s _ _ _ T4 (mkF m 19 #[vR a1, vR a2, vR a3, vR a4, .val .null] [])
  refine Goes.step (fun _ k => XS.aloadN X4.here hx rfl (hb hby d26_19) rfl rfl k) ?_
  refine Goes.step (fun _ k => XS.aload X4.here hx rfl (hb hby d26_20) rfl rfl k) ?_
  obtain ⟨T5, h5, X5, e5, W5, st5⟩ := putF X4 hx hZ hown (host := "") (Or.inl (wof hw 189 rfl)) Via.refl e4 F_a1_catchType_4 E_a1_4 (Or.inr ⟨(wof hw 190 rfl), rfl, hnm⟩) (wof hw 172 rfl) (ty := (.object "java/lang/String")) (by decide) rfl rfl (g := (mkF m 22 #[vR a1, vR a2, vR a3, vR a4, .val .null] [.null, (.ref a1)])) rfl rfl (hb hby d26_22)
  refine Goes.step st5 ?_
  have E_a1_5 := E_a1_4.wr W5
  have F_a1_start_5 := F_a1_start_4.other W5 (Or.inr (slot_ne (Or.inr (wof hw 184 rfl)) (Or.inr (wof hw 190 rfl)) (by decide) (t := (.object "com/example/proxysmith/proxysmith/Bytecode$Label")) (t' := (.object "java/lang/String")) (by decide) (by decide)))
  have F_a1_end_5 := F_a1_end_4.other W5 (Or.inr (slot_ne (Or.inr (wof hw 186 rfl)) (Or.inr (wof hw 190 rfl)) (by decide) (t := (.object "com/example/proxysmith/proxysmith/Bytecode$Label")) (t' := (.object "java/lang/String")) (by decide) (by decide)))
  have F_a1_handler_5 := F_a1_handler_4.other W5 (Or.inr (slot_ne (Or.inr (wof hw 188 rfl)) (Or.inr (wof hw 190 rfl)) (by decide) (t := (.object "com/example/proxysmith/proxysmith/Bytecode$Label")) (t' := (.object "java/lang/String")) (by decide) (by decide)))
  have z_5 : n0 ≤ h5.size := by rw [W5.size]; exact z_4
  have K_5 : Keep h0 h5 [a1] := K_4.wr W5 (Or.inl (List.mem_of_getElem? (i := 0) rfl))
  have N_5 := Fr.snoc X5 N_4 ge_a1
  have F_a1_catchType_5 : Fld Z h5 a1 "com/example/proxysmith/proxysmith/Bytecode$Handler" "catchType" "Ljava/lang/String;" .null := F_a1_catchType_4.same W5
  show Goes p e below s _ _ _ T5 (mkF m 25 #[vR a1, vR a2, vR a3, vR a4, .val .null] [])
  exact Goes.outV X5 hx hlk Bd.returns (hb hby d26_25) (by rw [e5]; exact ⟨rfl, N_5, K_5, F_a1_start_5, F_a1_end_5, F_a1_handler_5, F_a1_catchType_5⟩) (by decide) (by decide)
theorem d29_0 : decode jdk_38_method_24_code 0 = .ok (.iload_n 3, 1) := by decide +kernel
theorem d29_1 : decode jdk_38_method_24_code 1 = .ok (.aload_n 2, 1) := by decide +kernel
theorem d29_2 : decode jdk_38_method_24_code 2 = .ok (.arraylength, 1) := by decide +kernel
theorem d29_3 : decode jdk_38_method_24_code 3 = .ok (.if_icmp .ne 8, 3) := by decide +kernel
theorem d29_11 : decode jdk_38_method_24_code 11 = .ok (.aload_n 2, 1) := by decide +kernel
theorem d29_12 : decode jdk_38_method_24_code 12 = .ok (.iload_n 3, 1) := by decide +kernel
theorem d29_13 : decode jdk_38_method_24_code 13 = .ok (.aload_n 1, 1) := by decide +kernel
theorem d29_14 : decode jdk_38_method_24_code 14 = .ok (.aastore, 1) := by decide +kernel
theorem d29_15 : decode jdk_38_method_24_code 15 = .ok (.aload_n 0, 1) := by decide +kernel
theorem d29_16 : decode jdk_38_method_24_code 16 = .ok (.iload_n 3, 1) := by decide +kernel
theorem d29_17 : decode jdk_38_method_24_code 17 = .ok (.iconst 1, 1) := by decide +kernel
theorem d29_18 : decode jdk_38_method_24_code 18 = .ok (.iadd, 1) := by decide +kernel
theorem d29_19 : decode jdk_38_method_24_code 19 = .ok (.putfield 48, 3) := by decide +kernel
theorem d29_22 : decode jdk_38_method_24_code 22 = .ok (.return_, 1) := by decide +kernel
theorem pn_29 : plainName "java/util/ArrayList" = true := by first | (simp [plainName, overriddenIn]; done) | decide +kernel
theorem ef_29 (m : MethodId) (a1 : Addr) (a2 : Addr) (oh : Addr) : entryFrame m #[(.ref a1), (.ref a2), (.ref oh), (.int (0 : Int32))] 4 = mkF m 0 #[.val (.ref a1), .val (.ref a2), .val (.ref oh), .val (.int (0 : Int32))] [] := by first | (simp [entryFrame, mkF, argsToLocals, Value.category]; done) | rfl
def Q29 (Z : State) (a1 : Addr) (a2 : Addr) (oh : Addr)  (h0 : Heap) (n0 : Nat) (v : Option Value) (h : Heap) (L : List Loc) : Prop := v = none ∧ Fr n0 L ∧ Keep h0 h [a1, oh] ∧ Fld Z h a1 "java/util/ArrayList" "size" "I" (.int (1 : Int32)) ∧ Fld Z h a1 "java/util/AbstractList" "modCount" "I" (.int (1 : Int32)) ∧ Fld Z h a1 "java/util/ArrayList" "elementData" "[Ljava/lang/Object;" (.ref oh) ∧ Arf Z h oh "java/lang/Object" 2 (updV (fun _ => .null) (0) (.ref a2))
set_option maxRecDepth 65536 in
set_option maxHeartbeats 40000000 in
theorem rm29 (l : Launch) (Z : State) (a0 : Array Value) (hw : ∀ d ∈ tables_1, d.before a0 Z = true) (ws : List Jvm.Cond) (a1 : Addr) (a2 : Addr) (oh : Addr)  (h0 : Heap) (n0 : Nat) (Z0 : n0 ≤ h0.size) (E_a1_0 : Exa Z h0 a1 "java/util/ArrayList") (E_a2_0 : Exa Z h0 a2 "com/example/proxysmith/proxysmith/Bytecode$Handler") (ge_a1 : n0 ≤ a1) (ge_oh : n0 ≤ oh) (ne_a1_oh : a1 ≠ oh) (F_a1_size_0 : Fld Z h0 a1 "java/util/ArrayList" "size" "I" (.int (0 : Int32))) (F_a1_modCount_0 : Fld Z h0 a1 "java/util/AbstractList" "modCount" "I" (.int (1 : Int32))) (F_a1_elementData_0 : Fld Z h0 a1 "java/util/ArrayList" "elementData" "[Ljava/lang/Object;" (.ref oh)) (B_oh_0 : Arf Z h0 oh "java/lang/Object" 2 (fun _ => .null)) :
    MetFree l y_29 (head1 (Jvm.Cond.code y_29 jdk_38_method_24_code 4 none :: ws) ({ frames := 0, cells := 0, slots := 0, locals := 0 } : Room)) (fun a U => a = #[(.ref a1), (.ref a2), (.ref oh), (.int (0 : Int32))] ∧ Z.Warmed39 U.vm ∧ U.heap = h0) (fun _ _ _ _ _ => True) (fun _ U o U' => ∃ v L, o = .returned v ∧ Q29 Z a1 a2 oh h0 n0 v U'.heap L ∧ FrameEnd U o U' L ({ frames := 0, cells := 0, slots := 0, locals := 0 } : Room).cells ({ frames := 0, cells := 0, slots := 0, locals := 0 } : Room).slots) := by
  refine MetFree.of_bodySF (plainFor_of_name pn_29) hisR ?_
  intro p e s m args below meth c s₁ Bd hml0 hP hK
  obtain ⟨rfl, hZ, hh⟩ := hP
  have hx := Bd.exec
  have hby := Bd.bytes
  have hlk := Bd.notSynchronized
  have hml : c.maxLocals = 4 := hml0
  have hown : s.vm.findClass "java/util/ArrayList" = some m.cls := findClass_of_methodNamed Bd.named
  have hnm := (name_of_methodNamed Bd.named Bd.method).1
  have X0 : Stand p l e ({ frames := 0, cells := 0, slots := 0, locals := 0 } : Room) s m #[(.ref a1), (.ref a2), (.ref oh), (.int (0 : Int32))] below meth c s₁ [] 0 0 := Stand.of_body Bd
  have e0 : s₁.heap = h0 := by rw [← hh, Bd.state]; rfl
  have N0 := Fr.nil n0
  have K0 : Keep h0 h0 [a1, oh] := Keep.refl h0 _
  show Goes p e below s ({ frames := 0, cells := 0, slots := 0, locals := 0 } : Room).cells ({ frames := 0, cells := 0, slots := 0, locals := 0 } : Room).slots (Q29 Z a1 a2 oh h0 n0) s₁ (entryFrame m #[(.ref a1), (.ref a2), (.ref oh), (.int (0 : Int32))] 4)
  refine Goes.step (fun t k => castTop (ef_29 m a1 a2 oh) k) ?_
  refine Goes.step (fun _ k => XS.iloadN X0.here hx rfl (hb hby d29_0) rfl k) ?_
  refine Goes.step (fun _ k => XS.aloadN X0.here hx rfl (hb hby d29_1) rfl rfl k) ?_
  refine Goes.step (fun _ k => rdLf X0 hx hZ e0 B_oh_0 (g := (mkF m 2 #[vR a1, vR a2, vR oh, vI (0 : Int32)] [(.ref oh), (.int (0 : Int32))])) rfl rfl (hb hby d29_2) _ k) ?_
  show Goes p e below s _ _ _ s₁ (mkF m 3 #[vR a1, vR a2, vR oh, vI (0 : Int32)] [(.int (Int32.ofNat 2)), (.int (0 : Int32))])
  refine Goes.step (fun _ k => XS.icmpYes X0.here hx rfl (pc0 := 3) (pc' := 11) rfl (hb hby d29_3) rfl (feq (by decide : ¬ ((0 : Int32) = (Int32.ofNat 2)))).2 (by decide) (by decide) k) ?_
  show Goes p e below s _ _ _ s₁ (mkF m 11 #[vR a1, vR a2, vR oh, vI (0 : Int32)] [])
  refine Goes.step (fun _ k => XS.aloadN X0.here hx rfl (hb hby d29_11) rfl rfl k) ?_
  refine Goes.step (fun _ k => XS.iloadN X0.here hx rfl (hb hby d29_12) rfl k) ?_
  refine Goes.step (fun _ k => XS.aloadN X0.here hx rfl (hb hby d29_13) rfl rfl k) ?_
  obtain ⟨T1, h1, X1, e1, W1, A1, st1⟩ := stRf X0 hx hZ e0 B_oh_0 (0) rfl (by decide) E_a2_0 (wof hw 209 rfl) (g := (mkF m 14 #[vR a1, vR a2, vR oh, vI (0 : Int32)] [(.ref a2), (.int (0 : Int32)), (.ref oh)])) rfl rfl (hb hby d29_14)
  refine Goes.step st1 ?_
  have E_a1_1 := E_a1_0.wr W1
  have E_a2_1 := E_a2_0.wr W1
  have F_a1_size_1 := F_a1_size_0.other W1 (Or.inl ne_a1_oh)
  have F_a1_modCount_1 := F_a1_modCount_0.other W1 (Or.inl ne_a1_oh)
  have F_a1_elementData_1 := F_a1_elementData_0.other W1 (Or.inl ne_a1_oh)
  have z_1 : n0 ≤ h1.size := by rw [W1.size]; exact Z0
  have K_1 : Keep h0 h1 [a1, oh] := K0.wr W1 (Or.inl (List.mem_of_getElem? (i := 1) rfl))
  have N_1 := Fr.snoc X1 N0 ge_oh
  have B_oh_1 : Arf Z h1 oh "java/lang/Object" (2) (updV (fun _ => .null) (0) (.ref a2)) := A1
  show Goes p e below s _ _ _ T1 (mkF m 15 #[vR a1, vR a2, vR oh, vI (0 : Int32)] [])
  refine Goes.step (fun _ k => XS.aloadN X1.here hx rfl (hb hby d29_15) rfl rfl k) ?_
  refine Goes.step (fun _ k => XS.iloadN X1.here hx rfl (hb hby d29_16) rfl k) ?_
  refine Goes.step (fun _ k => XS.iconst X1.here hx rfl (hb hby d29_17) k) ?_
  refine Goes.step (fun _ k => XS.iadd X1.here hx rfl (hb hby d29_18) rfl k) ?_
  show Goes p e below s _ _ _ T1 (mkF m 19 #[vR a1, vR a2, vR oh, vI (0 : Int32)] [(.int (1 : Int32)), (.ref a1)])
  obtain ⟨T2, h2, X2, e2, W2, st2⟩ := putF X1 hx hZ hown (host := "") (Or.inl (wof hw 202 rfl)) Via.refl e1 F_a1_size_1 E_a1_1 (Or.inl (wof hw 203 rfl)) (wof hw 30 rfl) (ty := .int) (by decide) rfl rfl (g := (mkF m 19 #[vR a1, vR a2, vR oh, vI (0 : Int32)] [(.int (1 : Int32)), (.ref a1)])) rfl rfl (hb hby d29_19)
  refine Goes.step st2 ?_
  have E_a1_2 := E_a1_1.wr W2
  have E_a2_2 := E_a2_1.wr W2
  have F_a1_modCount_2 := F_a1_modCount_1.other W2 (Or.inr (slot_ne (Or.inl (wof hw 49 rfl)) (Or.inl (wof hw 203 rfl)) (by decide) (t := .int) (t' := .int) (by decide) (by decide)))
  have F_a1_elementData_2 := F_a1_elementData_1.other W2 (Or.inr (slot_ne (Or.inl (wof hw 53 rfl)) (Or.inl (wof hw 203 rfl)) (by decide) (t := (.array (.object "java/lang/Object"))) (t' := .int) (by decide) (by decide)))
  have B_oh_2 := B_oh_1.other W2 (Ne.symm ne_a1_oh)
  have z_2 : n0 ≤ h2.size := by rw [W2.size]; exact z_1
  have K_2 : Keep h0 h2 [a1, oh] := K_1.wr W2 (Or.inl (List.mem_of_getElem? (i := 0) rfl))
  have N_2 := Fr.snoc X2 N_1 ge_a1
  have F_a1_size_2 : Fld Z h2 a1 "java/util/ArrayList" "size" "I" (.int (1 : Int32)) := F_a1_size_1.same W2
  show Goes p e below s _ _ _ T2 (mkF m 22 #[vR a1, vR a2, vR oh, vI (0 : Int32)] [])
  exact Goes.outV X2 hx hlk Bd.returns (hb hby d29_22) (by rw [e2]; exact ⟨rfl, N_2, K_2, F_a1_size_2, F_a1_modCount_2, F_a1_elementData_2, B_oh_2⟩) (by decide) (by decide)
theorem d28_0 : decode jdk_38_method_25_code 0 = .ok (.aload_n 0, 1) := by decide +kernel
theorem d28_1 : decode jdk_38_method_25_code 1 = .ok (.dup, 1) := by decide +kernel
theorem d28_2 : decode jdk_38_method_25_code 2 = .ok (.getfield 63, 3) := by decide +kernel
theorem d28_5 : decode jdk_38_method_25_code 5 = .ok (.iconst 1, 1) := by decide +kernel
theorem d28_6 : decode jdk_38_method_25_code 6 = .ok (.iadd, 1) := by decide +kernel
theorem d28_7 : decode jdk_38_method_25_code 7 = .ok (.putfield 63, 3) := by decide +kernel
theorem d28_10 : decode jdk_38_method_25_code 10 = .ok (.aload_n 0, 1) := by decide +kernel
theorem d28_11 : decode jdk_38_method_25_code 11 = .ok (.aload_n 1, 1) := by decide +kernel
theorem d28_12 : decode jdk_38_method_25_code 12 = .ok (.aload_n 0, 1) := by decide +kernel
theorem d28_13 : decode jdk_38_method_25_code 13 = .ok (.getfield 9, 3) := by decide +kernel
theorem d28_16 : decode jdk_38_method_25_code 16 = .ok (.aload_n 0, 1) := by decide +kernel
theorem d28_17 : decode jdk_38_method_25_code 17 = .ok (.getfield 48, 3) := by decide +kernel
theorem d28_20 : decode jdk_38_method_25_code 20 = .ok (.invokevirtual 131, 3) := by decide +kernel
theorem d28_23 : decode jdk_38_method_25_code 23 = .ok (.iconst 1, 1) := by decide +kernel
theorem d28_24 : decode jdk_38_method_25_code 24 = .ok (.ireturn, 1) := by decide +kernel
theorem pn_28 : plainName "java/util/ArrayList" = true := by first | (simp [plainName, overriddenIn]; done) | decide +kernel
theorem pd_28_0 : parseMethodDescriptor "(Ljava/lang/Object;[Ljava/lang/Object;I)V" = some ⟨[(.object "java/lang/Object"), (.array (.object "java/lang/Object")), .int], none⟩ := by decide +kernel
theorem ef_28 (m : MethodId) (a1 : Addr) (a2 : Addr) : entryFrame m #[(.ref a1), (.ref a2)] 2 = mkF m 0 #[.val (.ref a1), .val (.ref a2)] [] := by first | (simp [entryFrame, mkF, argsToLocals, Value.category]; done) | rfl
def Q28 (Z : State) (a1 : Addr) (a2 : Addr) (oh : Addr) (h0 : Heap) (n0 : Nat) (v : Option Value) (h : Heap) (L : List Loc) : Prop := v = some (.int (1 : Int32)) ∧ Fr n0 L ∧ Keep h0 h [a1, oh] ∧ Fld Z h a1 "java/util/ArrayList" "size" "I" (.int (1 : Int32)) ∧ Fld Z h a1 "java/util/AbstractList" "modCount" "I" (.int (1 : Int32)) ∧ Fld Z h a1 "java/util/ArrayList" "elementData" "[Ljava/lang/Object;" (.ref oh) ∧ Arf Z h oh "java/lang/Object" 2 (updV (fun _ => .null) (0) (.ref a2))
set_option maxRecDepth 65536 in
set_option maxHeartbeats 40000000 in
theorem rm28 (l : Launch) (Z : State) (a0 : Array Value) (hw : ∀ d ∈ tables_1, d.before a0 Z = true) (ws : List Jvm.Cond) (a1 : Addr) (a2 : Addr) (oh : Addr) (h0 : Heap) (n0 : Nat) (Z0 : n0 ≤ h0.size) (E_a1_0 : Exa Z h0 a1 "java/util/ArrayList") (E_a2_0 : Exa Z h0 a2 "com/example/proxysmith/proxysmith/Bytecode$Handler") (ge_a1 : n0 ≤ a1) (ge_oh : n0 ≤ oh) (ne_a1_oh : a1 ≠ oh) (F_a1_size_0 : Fld Z h0 a1 "java/util/ArrayList" "size" "I" (.int (0 : Int32))) (F_a1_modCount_0 : Fld Z h0 a1 "java/util/AbstractList" "modCount" "I" (.int (0 : Int32))) (F_a1_elementData_0 : Fld Z h0 a1 "java/util/ArrayList" "elementData" "[Ljava/lang/Object;" (.ref oh)) (B_oh_0 : Arf Z h0 oh "java/lang/Object" 2 (fun _ => .null)) :
    MetFree l y_28 (head1 (Jvm.Cond.code y_28 jdk_38_method_25_code 2 (some .boolean) :: ws) ({ frames := 1, cells := 0, slots := 0, locals := 15 } : Room)) (fun a U => a = #[(.ref a1), (.ref a2)] ∧ Z.Warmed39 U.vm ∧ U.heap = h0) (fun _ _ _ _ _ => True) (fun _ U o U' => ∃ v L, o = .returned v ∧ Q28 Z a1 a2 oh h0 n0 v U'.heap L ∧ FrameEnd U o U' L ({ frames := 1, cells := 0, slots := 0, locals := 15 } : Room).cells ({ frames := 1, cells := 0, slots := 0, locals := 15 } : Room).slots) := by
  refine MetFree.of_bodySF (plainFor_of_name pn_28) hisR ?_
  intro p e s m args below meth c s₁ Bd hml0 hP hK
  obtain ⟨rfl, hZ, hh⟩ := hP
  have hx := Bd.exec
  have hby := Bd.bytes
  have hlk := Bd.notSynchronized
  have hml : c.maxLocals = 2 := hml0
  have hown : s.vm.findClass "java/util/ArrayList" = some m.cls := findClass_of_methodNamed Bd.named
  have hnm := (name_of_methodNamed Bd.named Bd.method).1
  have X0 : Stand p l e ({ frames := 1, cells := 0, slots := 0, locals := 15 } : Room) s m #[(.ref a1), (.ref a2)] below meth c s₁ [] 0 0 := Stand.of_body Bd
  have e0 : s₁.heap = h0 := by rw [← hh, Bd.state]; rfl
  have N0 := Fr.nil n0
  have K0 : Keep h0 h0 [a1, oh] := Keep.refl h0 _
  show Goes p e below s ({ frames := 1, cells := 0, slots := 0, locals := 15 } : Room).cells ({ frames := 1, cells := 0, slots := 0, locals := 15 } : Room).slots (Q28 Z a1 a2 oh h0 n0) s₁ (entryFrame m #[(.ref a1), (.ref a2)] 2)
  refine Goes.step (fun t k => castTop (ef_28 m a1 a2) k) ?_
  refine Goes.step (fun _ k => XS.aloadN X0.here hx rfl (hb hby d28_0) rfl rfl k) ?_
  refine Goes.step (fun _ k => XS.dup X0.here hx rfl (hb hby d28_1) rfl rfl k) ?_
  obtain ⟨T1, X1, e1, st1⟩ := getF X0 hx hZ hown (host := "") (Or.inl (wof hw 200 rfl)) (Via.of (wof hw 201 rfl)) e0 F_a1_modCount_0 (g := (mkF m 2 #[vR a1, vR a2] [(.ref a1), (.ref a1)])) rfl rfl (hb hby d28_2)
  refine Goes.step st1 ?_
  show Goes p e below s _ _ _ T1 (mkF m 5 #[vR a1, vR a2] [(.int (0 : Int32)), (.ref a1)])
  refine Goes.step (fun _ k => XS.iconst X1.here hx rfl (hb hby d28_5) k) ?_
  refine Goes.step (fun _ k => XS.iadd X1.here hx rfl (hb hby d28_6) rfl k) ?_
  show Goes p e below s _ _ _ T1 (mkF m 7 #[vR a1, vR a2] [(.int (1 : Int32)), (.ref a1)])
  obtain ⟨T2, h2, X2, e2, W2, st2⟩ := putF X1 hx hZ hown (host := "") (Or.inl (wof hw 200 rfl)) (Via.of (wof hw 201 rfl)) e1 F_a1_modCount_0 E_a1_0 (Or.inl (wof hw 49 rfl)) (wof hw 30 rfl) (ty := .int) (by decide) rfl rfl (g := (mkF m 7 #[vR a1, vR a2] [(.int (1 : Int32)), (.ref a1)])) rfl rfl (hb hby d28_7)
  refine Goes.step st2 ?_
  have E_a1_2 := E_a1_0.wr W2
  have E_a2_2 := E_a2_0.wr W2
  have F_a1_size_2 := F_a1_size_0.other W2 (Or.inr (slot_ne (Or.inl (wof hw 203 rfl)) (Or.inl (wof hw 49 rfl)) (by decide) (t := .int) (t' := .int) (by decide) (by decide)))
  have F_a1_elementData_2 := F_a1_elementData_0.other W2 (Or.inr (slot_ne (Or.inl (wof hw 53 rfl)) (Or.inl (wof hw 49 rfl)) (by decide) (t := (.array (.object "java/lang/Object"))) (t' := .int) (by decide) (by decide)))
  have B_oh_2 := B_oh_0.other W2 (Ne.symm ne_a1_oh)
  have z_2 : n0 ≤ h2.size := by rw [W2.size]; exact Z0
  have K_2 : Keep h0 h2 [a1, oh] := K0.wr W2 (Or.inl (List.mem_of_getElem? (i := 0) rfl))
  have N_2 := Fr.snoc X2 N0 ge_a1
  have F_a1_modCount_2 : Fld Z h2 a1 "java/util/AbstractList" "modCount" "I" (.int (1 : Int32)) := F_a1_modCount_0.same W2
  show Goes p e below s _ _ _ T2 (mkF m 10 #[vR a1, vR a2] [])
  refine Goes.step (fun _ k => XS.aloadN X2.here hx rfl (hb hby d28_10) rfl rfl k) ?_
  refine Goes.step (fun _ k => XS.aloadN X2.here hx rfl (hb hby d28_11) rfl rfl k) ?_
  refine Goes.step (fun _ k => XS.aloadN X2.here hx rfl (hb hby d28_12) rfl rfl k) ?_
  obtain ⟨T3, X3, e3, st3⟩ := getF X2 hx hZ hown (host := "") (Or.inl (wof hw 52 rfl)) Via.refl e2 F_a1_elementData_2 (g := (mkF m 13 #[vR a1, vR a2] [(.ref a1), (.ref a2), (.ref a1)])) rfl rfl (hb hby d28_13)
  refine Goes.step st3 ?_
  show Goes p e below s _ _ _ T3 (mkF m 16 #[vR a1, vR a2] [(.ref oh), (.ref a2), (.ref a1)])
  refine Goes.step (fun _ k => XS.aloadN X3.here hx rfl (hb hby d28_16) rfl rfl k) ?_
  obtain ⟨T4, X4, e4, st4⟩ := getF X3 hx hZ hown (host := "") (Or.inl (wof hw 202 rfl)) Via.refl e3 F_a1_size_2 (g := (mkF m 17 #[vR a1, vR a2] [(.ref a1), (.ref oh), (.ref a2), (.ref a1)])) rfl rfl (hb hby d28_17)
  refine Goes.step st4 ?_
  show Goes p e below s _ _ _ T4 (mkF m 20 #[vR a1, vR a2] [(.int (0 : Int32)), (.ref oh), (.ref a2), (.ref a1)])
  obtain ⟨v5, T5, h5, L5, X5, e5, Q5, st5⟩ := callXV X4 hx hZ (C := "java/util/ArrayList") (b := a1) (y := y_29) (z := y_29) hown (wof hw 204 rfl) (own_declares (wof hw 205 rfl) (wof hw 208 rfl)) (wof hw 207 rfl) (wof hw 205 rfl) (wof hw 208 rfl) (wof hw 31 rfl) (notFace_of_selects (args := #[]) (mvT hZ (wof hw 207 rfl))) (by decide) (W := 0) (argsL := [(.ref a2), (.ref oh), (.int (0 : Int32))]) (rest := []) (rm29 l Z a0 hw [] a1 a2 oh h2 n0 z_2 E_a1_2 E_a2_2 ge_a1 ge_oh ne_a1_oh F_a1_size_2 F_a1_modCount_2 F_a1_elementData_2 B_oh_2) (by decide) (by decide) (by decide) (by decide) e4 E_a1_2 (g := (mkF m 20 #[vR a1, vR a2] [(.int (0 : Int32)), (.ref oh), (.ref a2), (.ref a1)])) rfl (by rw [hml]; rfl) (lenOf pd_28_0 rfl) rfl (by show 2 * 0 + _ ≤ _; exact Nat.le_of_eq rfl) (hb hby d28_20)
  obtain ⟨rfl, NQ5, KQ5, hS5, hM5, hD5, hB5⟩ := Q5
  refine Goes.step st5 ?_
  have E_a1_5 := E_a1_2.keep KQ5
  have E_a2_5 := E_a2_2.keep KQ5
  have z_5 : n0 ≤ h5.size := Nat.le_trans z_2 KQ5.1
  have K_5 : Keep h0 h5 [a1, oh] := Keep.trans K_2 KQ5 (allS (Or.inl (List.mem_of_getElem? (i := 0) rfl)) (allS (Or.inl (List.mem_of_getElem? (i := 1) rfl)) all0))
  have N_5 := Fr.app N_2 NQ5
  show Goes p e below s _ _ _ T5 (mkF m 23 #[vR a1, vR a2] [])
  refine Goes.step (fun _ k => XS.iconst X5.here hx rfl (hb hby d28_23) k) ?_
  show Goes p e below s _ _ _ T5 (mkF m 24 #[vR a1, vR a2] [(.int (1 : Int32))])
  exact Goes.outN X5 hx hlk (t := .boolean) Bd.returns (by simp) (hb hby d28_24) (by rw [e5]; exact ⟨rfl, N_5, K_5, hS5, hM5, hD5, hB5⟩) (by decide) (by decide)
theorem d25_0 : decode prog_2_method_7_code 0 = .ok (.aload_n 0, 1) := by decide +kernel
theorem d25_1 : decode prog_2_method_7_code 1 = .ok (.getfield 28, 3) := by decide +kernel
theorem d25_4 : decode prog_2_method_7_code 4 = .ok (.new 130, 3) := by decide +kernel
theorem d25_7 : decode prog_2_method_7_code 7 = .ok (.dup, 1) := by decide +kernel
theorem d25_8 : decode prog_2_method_7_code 8 = .ok (.aload_n 1, 1) := by decide +kernel
theorem d25_9 : decode prog_2_method_7_code 9 = .ok (.aload_n 2, 1) := by decide +kernel
theorem d25_10 : decode prog_2_method_7_code 10 = .ok (.aload_n 3, 1) := by decide +kernel
theorem d25_11 : decode prog_2_method_7_code 11 = .ok (.aload 4, 2) := by decide +kernel
theorem d25_13 : decode prog_2_method_7_code 13 = .ok (.invokespecial 132, 3) := by decide +kernel
theorem d25_16 : decode prog_2_method_7_code 16 = .ok (.invokeinterface 71 2, 5) := by decide +kernel
theorem d25_21 : decode prog_2_method_7_code 21 = .ok (.pop, 1) := by decide +kernel
theorem d25_22 : decode prog_2_method_7_code 22 = .ok (.return_, 1) := by decide +kernel
theorem pn_25 : plainName "com/example/proxysmith/proxysmith/Bytecode" = true := by first | (simp [plainName, overriddenIn]; done) | decide +kernel
theorem pd_25_0 : parseMethodDescriptor "(Lcom/example/proxysmith/proxysmith/Bytecode$Label;Lcom/example/proxysmith/proxysmith/Bytecode$Label;Lcom/example/proxysmith/proxysmith/Bytecode$Label;Ljava/lang/String;)V" = some ⟨[(.object "com/example/proxysmith/proxysmith/Bytecode$Label"), (.object "com/example/proxysmith/proxysmith/Bytecode$Label"), (.object "com/example/proxysmith/proxysmith/Bytecode$Label"), (.object "java/lang/String")], none⟩ := by decide +kernel
theorem pd_25_1 : parseMethodDescriptor "(Ljava/lang/Object;)Z" = some ⟨[(.object "java/lang/Object")], some .boolean⟩ := by decide +kernel
theorem ef_25 (m : MethodId) (a1 : Addr) (a2 : Addr) (a3 : Addr) (a4 : Addr) : entryFrame m #[(.ref a1), (.ref a2), (.ref a3), (.ref a4), .null] 5 = mkF m 0 #[.val (.ref a1), .val (.ref a2), .val (.ref a3), .val (.ref a4), .val .null] [] := by first | (simp [entryFrame, mkF, argsToLocals, Value.category]; done) | rfl
def Q25 (Z : State) (a1 : Addr) (a2 : Addr) (a3 : Addr) (a4 : Addr) (lj : Addr) (lf : Addr) (lh : Addr) (oh : Addr) (h0 : Heap) (n0 : Nat) (v : Option Value) (h : Heap) (L : List Loc) : Prop := ∃ ha, v = none ∧ Fr n0 L ∧ Keep h0 h [lh, oh] ∧ h0.size ≤ ha ∧ Bym Z h lj lf lh oh ha a2 a3 a4
set_option maxRecDepth 65536 in
set_option maxHeartbeats 40000000 in
theorem rm25 (l : Launch) (Z : State) (a0 : Array Value) (hw : ∀ d ∈ tables_1, d.before a0 Z = true) (ws : List Jvm.Cond) (a1 : Addr) (a2 : Addr) (a3 : Addr) (a4 : Addr) (lj : Addr) (lf : Addr) (lh : Addr) (oh : Addr) (h0 : Heap) (n0 : Nat) (Z0 : n0 ≤ h0.size) (F_a1_handlers_0 : Fld Z h0 a1 "com/example/proxysmith/proxysmith/Bytecode" "handlers" "Ljava/util/List;" (.ref lh)) (HL : Byl Z h0 lj lf lh oh) (ge_lh : n0 ≤ lh) (ge_oh : n0 ≤ oh) (ne_lj_lh : lj ≠ lh) (ne_lf_lh : lf ≠ lh) (ne_lj_oh : lj ≠ oh) (ne_lf_oh : lf ≠ oh) (ne_lh_oh : lh ≠ oh) (ne_a1_lh : a1 ≠ lh) (ne_a1_oh : a1 ≠ oh) :
    MetFree l y_25 (head1 (Jvm.Cond.code y_25 prog_2_method_7_code 5 none :: ws) ({ frames := 3, cells := 1, slots := 4, locals := 42 } : Room)) (fun a U => a = #[(.ref a1), (.ref a2), (.ref a3), (.ref a4), .null] ∧ Z.Warmed39 U.vm ∧ U.heap = h0) (fun _ _ _ _ _ => True) (fun _ U o U' => ∃ v L, o = .returned v ∧ Q25 Z a1 a2 a3 a4 lj lf lh oh h0 n0 v U'.heap L ∧ FrameEnd U o U' L ({ frames := 3, cells := 1, slots := 4, locals := 42 } : Room).cells ({ frames := 3, cells := 1, slots := 4, locals := 42 } : Room).slots) := by
  refine MetFree.of_bodySF (plainFor_of_name pn_25) hisR ?_
  intro p e s m args below meth c s₁ Bd hml0 hP hK
  obtain ⟨rfl, hZ, hh⟩ := hP
  have hx := Bd.exec
  have hby := Bd.bytes
  have hlk := Bd.notSynchronized
  have hml : c.maxLocals = 5 := hml0
  have hown : s.vm.findClass "com/example/proxysmith/proxysmith/Bytecode" = some m.cls := findClass_of_methodNamed Bd.named
  have hnm := (name_of_methodNamed Bd.named Bd.method).1
  have X0 : Stand p l e ({ frames := 3, cells := 1, slots := 4, locals := 42 } : Room) s m #[(.ref a1), (.ref a2), (.ref a3), (.ref a4), .null] below meth c s₁ [] 0 0 := Stand.of_body Bd
  have e0 : s₁.heap = h0 := by rw [← hh, Bd.state]; rfl
  have N0 := Fr.nil n0
  have K0 : Keep h0 h0 [lh, oh] := Keep.refl h0 _
  show Goes p e below s ({ frames := 3, cells := 1, slots := 4, locals := 42 } : Room).cells ({ frames := 3, cells := 1, slots := 4, locals := 42 } : Room).slots (Q25 Z a1 a2 a3 a4 lj lf lh oh h0 n0) s₁ (entryFrame m #[(.ref a1), (.ref a2), (.ref a3), (.ref a4), .null] 5)
  refine Goes.step (fun t k => castTop (ef_25 m a1 a2 a3 a4) k) ?_
  obtain ⟨E_lj_0, F_lj_size_0, F_lj_modCount_0, E_lf_0, F_lf_size_0, E_lh_0, F_lh_size_0, F_lh_modCount_0, F_lh_elementData_0, B_oh_0⟩ := HL
  refine Goes.step (fun _ k => XS.aloadN X0.here hx rfl (hb hby d25_0) rfl rfl k) ?_
  obtain ⟨T1, X1, e1, st1⟩ := getF X0 hx hZ hown (host := "") (Or.inl (wof hw 58 rfl)) Via.refl e0 F_a1_handlers_0 (g := (mkF m 1 #[vR a1, vR a2, vR a3, vR a4, .val .null] [(.ref a1)])) rfl rfl (hb hby d25_1)
  refine Goes.step st1 ?_
  show Goes p e below s _ _ _ T1 (mkF m 4 #[vR a1, vR a2, vR a3, vR a4, .val .null] [(.ref lh)])
  obtain ⟨T2, h2, X2, e2, E2, A2, D2, -, st2⟩ := newO X1 hx hZ hown (wof hw 171 rfl) (wof hw 172 rfl) (wof hw 173 rfl) e1 (g := (mkF m 4 #[vR a1, vR a2, vR a3, vR a4, .val .null] [(.ref lh)])) rfl (hb hby d25_4) (by decide) (by decide)
  obtain ⟨b2, g_2⟩ : ∃ z, z = h0.size := ⟨_, rfl⟩
  rw [← g_2] at A2 D2 st2
  refine Goes.step st2 ?_
  have ne_a1_b2 : a1 ≠ b2 := Nat.ne_of_lt (by rw [g_2]; exact F_a1_handlers_0.lt)
  have ne_lf_b2 : lf ≠ b2 := Nat.ne_of_lt (by rw [g_2]; exact E_lf_0.lt)
  have ne_lh_b2 : lh ≠ b2 := Nat.ne_of_lt (by rw [g_2]; exact E_lh_0.lt)
  have ne_lj_b2 : lj ≠ b2 := Nat.ne_of_lt (by rw [g_2]; exact E_lj_0.lt)
  have ne_oh_b2 : oh ≠ b2 := Nat.ne_of_lt (by rw [g_2]; exact B_oh_0.lt)
  have ge_b2 : n0 ≤ b2 := by rw [g_2]; exact Z0
  have sz_b2 : h0.size ≤ b2 := by rw [g_2]; exact K0.1
  have E_lj_2 := E_lj_0.ext E2
  have F_lj_size_2 := F_lj_size_0.ext E2
  have F_lj_modCount_2 := F_lj_modCount_0.ext E2
  have E_lf_2 := E_lf_0.ext E2
  have F_lf_size_2 := F_lf_size_0.ext E2
  have E_lh_2 := E_lh_0.ext E2
  have F_lh_size_2 := F_lh_size_0.ext E2
  have F_lh_modCount_2 := F_lh_modCount_0.ext E2
  have F_lh_elementData_2 := F_lh_elementData_0.ext E2
  have B_oh_2 := B_oh_0.ext E2
  have F_a1_handlers_2 := F_a1_handlers_0.ext E2
  have z_2 : n0 ≤ h2.size := Nat.le_trans Z0 E2.1
  have K_2 : Keep h0 h2 [lh, oh] := K0.ext E2
  have E_b2_2 : Exa Z h2 b2 "com/example/proxysmith/proxysmith/Bytecode$Handler" := A2
  have F_b2_start_2 : Fld Z h2 b2 "com/example/proxysmith/proxysmith/Bytecode$Handler" "start" "Lcom/example/proxysmith/proxysmith/Bytecode$Label;" .null := D2 (Or.inr (wof hw 184 rfl)) (ty := (.object "com/example/proxysmith/proxysmith/Bytecode$Label")) (by decide)
  have F_b2_end_2 : Fld Z h2 b2 "com/example/proxysmith/proxysmith/Bytecode$Handler" "end" "Lcom/example/proxysmith/proxysmith/Bytecode$Label;" .null := D2 (Or.inr (wof hw 186 rfl)) (ty := (.object "com/example/proxysmith/proxysmith/Bytecode$Label")) (by decide)
  have F_b2_handler_2 : Fld Z h2 b2 "com/example/proxysmith/proxysmith/Bytecode$Handler" "handler" "Lcom/example/proxysmith/proxysmith/Bytecode$Label;" .null := D2 (Or.inr (wof hw 188 rfl)) (ty := (.object "com/example/proxysmith/proxysmith/Bytecode$Label")) (by decide)
  have F_b2_catchType_2 : Fld Z h2 b2 "com/example/proxysmith/proxysmith/Bytecode$Handler" "catchType" "Ljava/lang/String;" .null := D2 (Or.inr (wof hw 190 rfl)) (ty := (.object "java/lang/String")) (by decide)
  show Goes p e below s _ _ _ T2 (mkF m 7 #[vR a1, vR a2, vR a3, vR a4, .val .null] [(.ref b2), (.ref lh)])
  refine Goes.step (fun _ k => XS.dup X2.here hx rfl (hb hby d25_7) rfl rfl k) ?_
  refine Goes.step (fun _ k => XS.aloadN X2.here hx rfl (hb hby d25_8) rfl rfl k) ?_
  refine Goes.step (fun _ k => XS.aloadN X2.here hx rfl (hb hby d25_9) rfl rfl k) ?_
  refine Goes.step (fun _ k => XS.aloadN X2.here hx rfl (hb hby d25_10) rfl rfl k) ?_
  refine Goes.step (fun _ k => XS.aload X2.here hx rfl (hb hby d25_11) rfl rfl k) ?_
  obtain ⟨v3, T3, h3, L3, X3, e3, Q3, st3⟩ := callXIR X2 hx hZ (b := b2) (y := y_26) hown rfl (wof hw 174 rfl) (wof hw 175 rfl) (wof hw 176 rfl) (wof hw 173 rfl) (by decide) (W := 2) (argsL := [(.ref a2), (.ref a3), (.ref a4), .null]) (rest := [(.ref b2), (.ref lh)]) (rm26 l Z a0 hw [] b2 a2 a3 a4 h2 n0 z_2 E_b2_2 ge_b2 F_b2_start_2 F_b2_end_2 F_b2_handler_2 F_b2_catchType_2) (by decide) (by decide) (by decide) (by decide) e2 (g := (mkF m 13 #[vR a1, vR a2, vR a3, vR a4, .val .null] [.null, (.ref a4), (.ref a3), (.ref a2), (.ref b2), (.ref b2), (.ref lh)])) rfl (by rw [hml]; rfl) (lenOf pd_25_0 rfl) rfl (by show 2 * 0 + _ ≤ _; exact Nat.le_of_eq rfl) (hb hby d25_13)
  obtain ⟨rfl, NQ3, KQ3, hHstart3, hHend3, hHhandler3, hHcatchType3⟩ := Q3
  refine Goes.step st3 ?_
  have E_lj_3 := E_lj_2.keep KQ3
  have F_lj_size_3 := F_lj_size_2.keep KQ3 (ninS ne_lj_b2 nin0)
  have F_lj_modCount_3 := F_lj_modCount_2.keep KQ3 (ninS ne_lj_b2 nin0)
  have E_lf_3 := E_lf_2.keep KQ3
  have F_lf_size_3 := F_lf_size_2.keep KQ3 (ninS ne_lf_b2 nin0)
  have E_lh_3 := E_lh_2.keep KQ3
  have F_lh_size_3 := F_lh_size_2.keep KQ3 (ninS ne_lh_b2 nin0)
  have F_lh_modCount_3 := F_lh_modCount_2.keep KQ3 (ninS ne_lh_b2 nin0)
  have F_lh_elementData_3 := F_lh_elementData_2.keep KQ3 (ninS ne_lh_b2 nin0)
  have B_oh_3 := B_oh_2.keep KQ3 (ninS ne_oh_b2 nin0)
  have F_a1_handlers_3 := F_a1_handlers_2.keep KQ3 (ninS ne_a1_b2 nin0)
  have E_b2_3 := E_b2_2.keep KQ3
  have z_3 : n0 ≤ h3.size := Nat.le_trans z_2 KQ3.1
  have K_3 : Keep h0 h3 [lh, oh] := Keep.trans K_2 KQ3 (allS (Or.inr sz_b2) all0)
  have N_3 := Fr.app N0 NQ3
  show Goes p e below s _ _ _ T3 (mkF m 16 #[vR a1, vR a2, vR a3, vR a4, .val .null] [(.ref b2), (.ref lh)])
  obtain ⟨v4, T4, h4, L4, X4, e4, Q4, st4⟩ := callXF X3 hx hZ (C := "java/util/ArrayList") (b := lh) (y := y_132) (z := y_28) hown (wof hw 191 rfl) (wof hw 192 rfl) (wof hw 193 rfl) (wof hw 194 rfl) (wof hw 195 rfl) (wof hw 196 rfl) (wof hw 197 rfl) (wof hw 198 rfl) (wof hw 199 rfl) (wof hw 31 rfl) (by decide) (W := 0) (argsL := [(.ref b2)]) (rest := []) (rm28 l Z a0 hw [] lh b2 oh h3 n0 z_3 E_lh_3 E_b2_3 ge_lh ge_oh ne_lh_oh F_lh_size_3 F_lh_modCount_3 F_lh_elementData_3 B_oh_3) (by decide) (by decide) (by decide) (by decide) e3 E_lh_3 (g := (mkF m 16 #[vR a1, vR a2, vR a3, vR a4, .val .null] [(.ref b2), (.ref lh)])) rfl (by rw [hml]; rfl) (lenOf pd_25_1 rfl) rfl (by show 2 * 0 + _ ≤ _; exact Nat.le_of_eq rfl) (hb hby d25_16)
  obtain ⟨rfl, NQ4, KQ4, hS4, hM4, hD4, hB4⟩ := Q4
  refine Goes.step st4 ?_
  have E_lj_4 := E_lj_3.keep KQ4
  have F_lj_size_4 := F_lj_size_3.keep KQ4 (ninS ne_lj_lh (ninS ne_lj_oh nin0))
  have F_lj_modCount_4 := F_lj_modCount_3.keep KQ4 (ninS ne_lj_lh (ninS ne_lj_oh nin0))
  have E_lf_4 := E_lf_3.keep KQ4
  have F_lf_size_4 := F_lf_size_3.keep KQ4 (ninS ne_lf_lh (ninS ne_lf_oh nin0))
  have E_lh_4 := E_lh_3.keep KQ4
  have F_a1_handlers_4 := F_a1_handlers_3.keep KQ4 (ninS ne_a1_lh (ninS ne_a1_oh nin0))
  have E_b2_4 := E_b2_3.keep KQ4
  have hHstart3_4 := hHstart3.keep KQ4 (ninS (Ne.symm ne_lh_b2) (ninS (Ne.symm ne_oh_b2) nin0))
  have hHend3_4 := hHend3.keep KQ4 (ninS (Ne.symm ne_lh_b2) (ninS (Ne.symm ne_oh_b2) nin0))
  have hHhandler3_4 := hHhandler3.keep KQ4 (ninS (Ne.symm ne_lh_b2) (ninS (Ne.symm ne_oh_b2) nin0))
  have hHcatchType3_4 := hHcatchType3.keep KQ4 (ninS (Ne.symm ne_lh_b2) (ninS (Ne.symm ne_oh_b2) nin0))
  have z_4 : n0 ≤ h4.size := Nat.le_trans z_3 KQ4.1
  have K_4 : Keep h0 h4 [lh, oh] := Keep.trans K_3 KQ4 (allS (Or.inl (List.mem_of_getElem? (i := 0) rfl)) (allS (Or.inl (List.mem_of_getElem? (i := 1) rfl)) all0))
  have N_4 := Fr.app N_3 NQ4
  show Goes p e below s _ _ _ T4 (mkF m 21 #[vR a1, vR a2, vR a3, vR a4, .val .null] [(.int (1 : Int32))])
  refine Goes.step (fun _ k => XS.pop X4.here hx rfl (hb hby d25_21) rfl rfl k) ?_
  show Goes p e below s _ _ _ T4 (mkF m 22 #[vR a1, vR a2, vR a3, vR a4, .val .null] [])
  exact Goes.outV X4 hx hlk Bd.returns (hb hby d25_22) (by rw [e4]; exact ⟨b2, rfl, N_4, K_4, sz_b2, ⟨E_lj_4, F_lj_size_4, F_lj_modCount_4, E_lf_4, F_lf_size_4, E_lh_4, hS4, hM4, hD4, hB4, E_b2_4, hHstart3_4, hHend3_4, hHhandler3_4, hHcatchType3_4⟩⟩) (by decide) (by decide)
theorem d32_0 : decode jdk_49_method_1_code 0 = .ok (.aload_n 0, 1) := by decide +kernel
theorem d32_1 : decode jdk_49_method_1_code 1 = .ok (.aload_n 1, 1) := by decide +kernel
theorem d32_2 : decode jdk_49_method_1_code 2 = .ok (.putfield 1, 3) := by decide +kernel
theorem d32_5 : decode jdk_49_method_1_code 5 = .ok (.aload_n 0, 1) := by decide +kernel
theorem d32_6 : decode jdk_49_method_1_code 6 = .ok (.invokespecial 7, 3) := by decide +kernel
theorem d32_9 : decode jdk_49_method_1_code 9 = .ok (.aload_n 0, 1) := by decide +kernel
theorem d32_10 : decode jdk_49_method_1_code 10 = .ok (.iconst (-1), 1) := by decide +kernel
theorem d32_11 : decode jdk_49_method_1_code 11 = .ok (.putfield 13, 3) := by decide +kernel
theorem d32_14 : decode jdk_49_method_1_code 14 = .ok (.aload_n 0, 1) := by decide +kernel
theorem d32_15 : decode jdk_49_method_1_code 15 = .ok (.aload_n 0, 1) := by decide +kernel
theorem d32_16 : decode jdk_49_method_1_code 16 = .ok (.getfield 1, 3) := by decide +kernel
theorem d32_19 : decode jdk_49_method_1_code 19 = .ok (.getfield 17, 3) := by decide +kernel
theorem d32_22 : decode jdk_49_method_1_code 22 = .ok (.putfield 22, 3) := by decide +kernel
theorem d32_25 : decode jdk_49_method_1_code 25 = .ok (.return_, 1) := by decide +kernel
theorem pn_32 : plainName "java/util/ArrayList$Itr" = true := by first | (simp [plainName, overriddenIn]; done) | decide +kernel
theorem ef_32 (m : MethodId) (a1 : Addr) (a2 : Addr) : entryFrame m #[(.ref a1), (.ref a2)] 2 = mkF m 0 #[.val (.ref a1), .val (.ref a2)] [] := by first | (simp [entryFrame, mkF, argsToLocals, Value.category]; done) | rfl
def Q32 (Z : State) (a1 : Addr) (a2 : Addr) (mc : Int32) (h0 : Heap) (n0 : Nat) (v : Option Value) (h : Heap) (L : List Loc) : Prop := v = none ∧ Fr n0 L ∧ Keep h0 h [a1] ∧ Fld Z h a1 "java/util/ArrayList$Itr" "this$0" "Ljava/util/ArrayList;" (.ref a2) ∧ Fld Z h a1 "java/util/ArrayList$Itr" "lastRet" "I" (.int (-1 : Int32)) ∧ Fld Z h a1 "java/util/ArrayList$Itr" "expectedModCount" "I" (.int mc) ∧ Fld Z h a1 "java/util/ArrayList$Itr" "cursor" "I" (.int (0 : Int32))
set_option maxRecDepth 65536 in
set_option maxHeartbeats 40000000 in
theorem rm32 (l : Launch) (Z : State) (a0 : Array Value) (hw : ∀ d ∈ tables_1, d.before a0 Z = true) (ws : List Jvm.Cond) (a1 : Addr) (a2 : Addr) (mc : Int32) (h0 : Heap) (n0 : Nat) (Z0 : n0 ≤ h0.size) (E_a1_0 : Exa Z h0 a1 "java/util/ArrayList$Itr") (ge_a1 : n0 ≤ a1) (ne_a2_a1 : a2 ≠ a1) (F_a2_modCount_0 : Fld Z h0 a2 "java/util/AbstractList" "modCount" "I" (.int mc)) (F_a1_this_0_0 : Fld Z h0 a1 "java/util/ArrayList$Itr" "this$0" "Ljava/util/ArrayList;" .null) (F_a1_lastRet_0 : Fld Z h0 a1 "java/util/ArrayList$Itr" "lastRet" "I" (.int (0 : Int32))) (F_a1_expectedModCount_0 : Fld Z h0 a1 "java/util/ArrayList$Itr" "expectedModCount" "I" (.int (0 : Int32))) (F_a1_cursor_0 : Fld Z h0 a1 "java/util/ArrayList$Itr" "cursor" "I" (.int (0 : Int32))) :
    MetFree l y_32 (head1 (Jvm.Cond.code y_32 jdk_49_method_1_code 2 none :: ws) ({ frames := 1, cells := 0, slots := 0, locals := 12 } : Room)) (fun a U => a = #[(.ref a1), (.ref a2)] ∧ Z.Warmed39 U.vm ∧ U.heap = h0) (fun _ _ _ _ _ => True) (fun _ U o U' => ∃ v L, o = .returned v ∧ Q32 Z a1 a2 mc h0 n0 v U'.heap L ∧ FrameEnd U o U' L ({ frames := 1, cells := 0, slots := 0, locals := 12 } : Room).cells ({ frames := 1, cells := 0, slots := 0, locals := 12 } : Room).slots) := by
  refine MetFree.of_bodySF (plainFor_of_name pn_32) hisR ?_
  intro p e s m args below meth c s₁ Bd hml0 hP hK
  obtain ⟨rfl, hZ, hh⟩ := hP
  have hx := Bd.exec
  have hby := Bd.bytes
  have hlk := Bd.notSynchronized
  have hml : c.maxLocals = 2 := hml0
  have hown : s.vm.findClass "java/util/ArrayList$Itr" = some m.cls := findClass_of_methodNamed Bd.named
  have hnm := (name_of_methodNamed Bd.named Bd.method).1
  have X0 : Stand p l e ({ frames := 1, cells := 0, slots := 0, locals := 12 } : Room) s m #[(.ref a1), (.ref a2)] below meth c s₁ [] 0 0 := Stand.of_body Bd
  have e0 : s₁.heap = h0 := by rw [← hh, Bd.state]; rfl
  have N0 := Fr.nil n0
  have K0 : Keep h0 h0 [a1] := Keep.refl h0 _
  show Goes p e below s ({ frames := 1, cells := 0, slots := 0, locals := 12 } : Room).cells ({ frames := 1, cells := 0, slots := 0, locals := 12 } : Room).slots (Q32 Z a1 a2 mc h0 n0) s₁ (entryFrame m #[(.ref a1), (.ref a2)] 2)
  refine Goes.step (fun t k => castTop (ef_32 m a1 a2) k) ?_
  refine Goes.step (fun _ k => XS.aloadN X0.here hx rfl (hb hby d32_0) rfl rfl k) ?_
  refine Goes.step (fun _ k => XS.aloadN X0.here hx rfl (hb hby d32_1) rfl rfl k) ?_
  obtain ⟨T1, h1, X1, e1, W1, st1⟩ := putF X0 hx hZ hown (host := "") (Or.inl (wof hw 231 rfl)) Via.refl e0 F_a1_this_0_0 E_a1_0 (Or.inr ⟨(wof hw 232 rfl), rfl, hnm⟩) (wof hw 225 rfl) (ty := (.object "java/util/ArrayList")) (by decide) rfl rfl (g := (mkF m 2 #[vR a1, vR a2] [(.ref a2), (.ref a1)])) rfl rfl (hb hby d32_2)
  refine Goes.step st1 ?_
  have E_a1_1 := E_a1_0.wr W1
  have F_a2_modCount_1 := F_a2_modCount_0.other W1 (Or.inl ne_a2_a1)
  have F_a1_lastRet_1 := F_a1_lastRet_0.other W1 (Or.inr (slot_ne (Or.inl (wof hw 235 rfl)) (Or.inr (wof hw 232 rfl)) (by decide) (t := .int) (t' := (.object "java/util/ArrayList")) (by decide) (by decide)))
  have F_a1_expectedModCount_1 := F_a1_expectedModCount_0.other W1 (Or.inr (slot_ne (Or.inl (wof hw 238 rfl)) (Or.inr (wof hw 232 rfl)) (by decide) (t := .int) (t' := (.object "java/util/ArrayList")) (by decide) (by decide)))
  have F_a1_cursor_1 := F_a1_cursor_0.other W1 (Or.inr (slot_ne (Or.inl (wof hw 249 rfl)) (Or.inr (wof hw 232 rfl)) (by decide) (t := .int) (t' := (.object "java/util/ArrayList")) (by decide) (by decide)))
  have z_1 : n0 ≤ h1.size := by rw [W1.size]; exact Z0
  have K_1 : Keep h0 h1 [a1] := K0.wr W1 (Or.inl (List.mem_of_getElem? (i := 0) rfl))
  have N_1 := Fr.snoc X1 N0 ge_a1
  have F_a1_this_0_1 : Fld Z h1 a1 "java/util/ArrayList$Itr" "this$0" "Ljava/util/ArrayList;" (.ref a2) := F_a1_this_0_0.same W1
  show Goes p e below s _ _ _ T1 (mkF m 5 #[vR a1, vR a2] [])
  refine Goes.step (fun _ k => XS.aloadN X1.here hx rfl (hb hby d32_5) rfl rfl k) ?_
  obtain ⟨T2, X2, e2, st2⟩ := initO X1 hx hZ hown (wof hw 233 rfl) (wof hw 16 rfl) (wof hw 17 rfl) e1 (g := (mkF m 6 #[vR a1, vR a2] [(.ref a1)])) rfl (by rw [hml]; rfl) rfl (hb hby d32_6) (by decide) (W := 0) (by show 2 * 0 + _ ≤ _; exact Nat.le_of_eq rfl) (by decide)
  refine Goes.step st2 ?_
  show Goes p e below s _ _ _ T2 (mkF m 9 #[vR a1, vR a2] [])
  refine Goes.step (fun _ k => XS.aloadN X2.here hx rfl (hb hby d32_9) rfl rfl k) ?_
  refine Goes.step (fun _ k => XS.iconst X2.here hx rfl (hb hby d32_10) k) ?_
  obtain ⟨T3, h3, X3, e3, W3, st3⟩ := putF X2 hx hZ hown (host := "") (Or.inl (wof hw 234 rfl)) Via.refl e2 F_a1_lastRet_1 E_a1_1 (Or.inl (wof hw 235 rfl)) (wof hw 225 rfl) (ty := .int) (by decide) rfl rfl (g := (mkF m 11 #[vR a1, vR a2] [(.int (-1 : Int32)), (.ref a1)])) rfl rfl (hb hby d32_11)
  refine Goes.step st3 ?_
  have E_a1_3 := E_a1_1.wr W3
  have F_a2_modCount_3 := F_a2_modCount_1.other W3 (Or.inl ne_a2_a1)
  have F_a1_this_0_3 := F_a1_this_0_1.other W3 (Or.inr (slot_ne (Or.inr (wof hw 232 rfl)) (Or.inl (wof hw 235 rfl)) (by decide) (t := (.object "java/util/ArrayList")) (t' := .int) (by decide) (by decide)))
  have F_a1_expectedModCount_3 := F_a1_expectedModCount_1.other W3 (Or.inr (slot_ne (Or.inl (wof hw 238 rfl)) (Or.inl (wof hw 235 rfl)) (by decide) (t := .int) (t' := .int) (by decide) (by decide)))
  have F_a1_cursor_3 := F_a1_cursor_1.other W3 (Or.inr (slot_ne (Or.inl (wof hw 249 rfl)) (Or.inl (wof hw 235 rfl)) (by decide) (t := .int) (t' := .int) (by decide) (by decide)))
  have z_3 : n0 ≤ h3.size := by rw [W3.size]; exact z_1
  have K_3 : Keep h0 h3 [a1] := K_1.wr W3 (Or.inl (List.mem_of_getElem? (i := 0) rfl))
  have N_3 := Fr.snoc X3 N_1 ge_a1
  have F_a1_lastRet_3 : Fld Z h3 a1 "java/util/ArrayList$Itr" "lastRet" "I" (.int (-1 : Int32)) := F_a1_lastRet_1.same W3
  show Goes p e below s _ _ _ T3 (mkF m 14 #[vR a1, vR a2] [])
  refine Goes.step (fun _ k => XS.aloadN X3.here hx rfl (hb hby d32_14) rfl rfl k) ?_
  refine Goes.step (fun _ k => XS.aloadN X3.here hx rfl (hb hby d32_15) rfl rfl k) ?_
  obtain ⟨T4, X4, e4, st4⟩ := getF X3 hx hZ hown (host := "") (Or.inl (wof hw 231 rfl)) Via.refl e3 F_a1_this_0_3 (g := (mkF m 16 #[vR a1, vR a2] [(.ref a1), (.ref a1)])) rfl rfl (hb hby d32_16)
  refine Goes.step st4 ?_
  show Goes p e below s _ _ _ T4 (mkF m 19 #[vR a1, vR a2] [(.ref a2), (.ref a1)])
  obtain ⟨T5, X5, e5, st5⟩ := getF X4 hx hZ hown (host := "") (Or.inl (wof hw 236 rfl)) (Via.of (wof hw 201 rfl)) e4 F_a2_modCount_3 (g := (mkF m 19 #[vR a1, vR a2] [(.ref a2), (.ref a1)])) rfl rfl (hb hby d32_19)
  refine Goes.step st5 ?_
  show Goes p e below s _ _ _ T5 (mkF m 22 #[vR a1, vR a2] [(.int mc), (.ref a1)])
  obtain ⟨T6, h6, X6, e6, W6, st6⟩ := putF X5 hx hZ hown (host := "") (Or.inl (wof hw 237 rfl)) Via.refl e5 F_a1_expectedModCount_3 E_a1_3 (Or.inl (wof hw 238 rfl)) (wof hw 225 rfl) (ty := .int) (by decide) rfl rfl (g := (mkF m 22 #[vR a1, vR a2] [(.int mc), (.ref a1)])) rfl rfl (hb hby d32_22)
  refine Goes.step st6 ?_
  have E_a1_6 := E_a1_3.wr W6
  have F_a2_modCount_6 := F_a2_modCount_3.other W6 (Or.inl ne_a2_a1)
  have F_a1_this_0_6 := F_a1_this_0_3.other W6 (Or.inr (slot_ne (Or.inr (wof hw 232 rfl)) (Or.inl (wof hw 238 rfl)) (by decide) (t := (.object "java/util/ArrayList")) (t' := .int) (by decide) (by decide)))
  have F_a1_lastRet_6 := F_a1_lastRet_3.other W6 (Or.inr (slot_ne (Or.inl (wof hw 235 rfl)) (Or.inl (wof hw 238 rfl)) (by decide) (t := .int) (t' := .int) (by decide) (by decide)))
  have F_a1_cursor_6 := F_a1_cursor_3.other W6 (Or.inr (slot_ne (Or.inl (wof hw 249 rfl)) (Or.inl (wof hw 238 rfl)) (by decide) (t := .int) (t' := .int) (by decide) (by decide)))
  have z_6 : n0 ≤ h6.size := by rw [W6.size]; exact z_3
  have K_6 : Keep h0 h6 [a1] := K_3.wr W6 (Or.inl (List.mem_of_getElem? (i := 0) rfl))
  have N_6 := Fr.snoc X6 N_3 ge_a1
  have F_a1_expectedModCount_6 : Fld Z h6 a1 "java/util/ArrayList$Itr" "expectedModCount" "I" (.int mc) := F_a1_expectedModCount_3.same W6
  show Goes p e below s _ _ _ T6 (mkF m 25 #[vR a1, vR a2] [])
  exact Goes.outV X6 hx hlk Bd.returns (hb hby d32_25) (by rw [e6]; exact ⟨rfl, N_6, K_6, F_a1_this_0_6, F_a1_lastRet_6, F_a1_expectedModCount_6, F_a1_cursor_6⟩) (by decide) (by decide)
theorem d31_0 : decode jdk_38_method_55_code 0 = .ok (.new 267, 3) := by decide +kernel
theorem d31_3 : decode jdk_38_method_55_code 3 = .ok (.dup, 1) := by decide +kernel
theorem d31_4 : decode jdk_38_method_55_code 4 = .ok (.aload_n 0, 1) := by decide +kernel
theorem d31_5 : decode jdk_38_method_55_code 5 = .ok (.invokespecial 269, 3) := by decide +kernel
theorem d31_8 : decode jdk_38_method_55_code 8 = .ok (.areturn, 1) := by decide +kernel
theorem pn_31 : plainName "java/util/ArrayList" = true := by first | (simp [plainName, overriddenIn]; done) | decide +kernel
theorem pd_31_0 : parseMethodDescriptor "(Ljava/util/ArrayList;)V" = some ⟨[(.object "java/util/ArrayList")], none⟩ := by decide +kernel
theorem ef_31 (m : MethodId) (a1 : Addr) : entryFrame m #[(.ref a1)] 1 = mkF m 0 #[.val (.ref a1)] [] := by first | (simp [entryFrame, mkF, argsToLocals, Value.category]; done) | rfl
def Q31 (Z : State) (a1 : Addr) (mc : Int32) (h0 : Heap) (n0 : Nat) (v : Option Value) (h : Heap) (L : List Loc) : Prop := ∃ o, v = some (.ref o) ∧ Fr n0 L ∧ Keep h0 h [] ∧ h0.size ≤ o ∧ Exa Z h o "java/util/ArrayList$Itr" ∧ Fld Z h o "java/util/ArrayList$Itr" "this$0" "Ljava/util/ArrayList;" (.ref a1) ∧ Fld Z h o "java/util/ArrayList$Itr" "lastRet" "I" (.int (-1 : Int32)) ∧ Fld Z h o "java/util/ArrayList$Itr" "expectedModCount" "I" (.int mc) ∧ Fld Z h o "java/util/ArrayList$Itr" "cursor" "I" (.int (0 : Int32))
set_option maxRecDepth 65536 in
set_option maxHeartbeats 40000000 in
theorem rm31 (l : Launch) (Z : State) (a0 : Array Value) (hw : ∀ d ∈ tables_1, d.before a0 Z = true) (ws : List Jvm.Cond) (a1 : Addr) (mc : Int32) (h0 : Heap) (n0 : Nat) (Z0 : n0 ≤ h0.size) (F_a1_modCount_0 : Fld Z h0 a1 "java/util/AbstractList" "modCount" "I" (.int mc)) :
    MetFree l y_31 (head1 (Jvm.Cond.code y_31 jdk_38_method_55_code 1 (some (.object "java/util/Iterator")) :: ws) ({ frames := 2, cells := 1, slots := 4, locals := 26 } : Room)) (fun a U => a = #[(.ref a1)] ∧ Z.Warmed39 U.vm ∧ U.heap = h0) (fun _ _ _ _ _ => True) (fun _ U o U' => ∃ v L, o = .returned v ∧ Q31 Z a1 mc h0 n0 v U'.heap L ∧ FrameEnd U o U' L ({ frames := 2, cells := 1, slots := 4, locals := 26 } : Room).cells ({ frames := 2, cells := 1, slots := 4, locals := 26 } : Room).slots) := by
  refine MetFree.of_bodySF (plainFor_of_name pn_31) hisR ?_
  intro p e s m args below meth c s₁ Bd hml0 hP hK
  obtain ⟨rfl, hZ, hh⟩ := hP
  have hx := Bd.exec
  have hby := Bd.bytes
  have hlk := Bd.notSynchronized
  have hml : c.maxLocals = 1 := hml0
  have hown : s.vm.findClass "java/util/ArrayList" = some m.cls := findClass_of_methodNamed Bd.named
  have hnm := (name_of_methodNamed Bd.named Bd.method).1
  have X0 : Stand p l e ({ frames := 2, cells := 1, slots := 4, locals := 26 } : Room) s m #[(.ref a1)] below meth c s₁ [] 0 0 := Stand.of_body Bd
  have e0 : s₁.heap = h0 := by rw [← hh, Bd.state]; rfl
  have N0 := Fr.nil n0
  have K0 : Keep h0 h0 [] := Keep.refl h0 _
  show Goes p e below s ({ frames := 2, cells := 1, slots := 4, locals := 26 } : Room).cells ({ frames := 2, cells := 1, slots := 4, locals := 26 } : Room).slots (Q31 Z a1 mc h0 n0) s₁ (entryFrame m #[(.ref a1)] 1)
  refine Goes.step (fun t k => castTop (ef_31 m a1) k) ?_
  obtain ⟨T1, h1, X1, e1, E1, A1, D1, -, st1⟩ := newO X0 hx hZ hown (wof hw 224 rfl) (wof hw 225 rfl) (wof hw 226 rfl) e0 (g := (mkF m 0 #[vR a1] [])) rfl (hb hby d31_0) (by decide) (by decide)
  obtain ⟨b1, g_1⟩ : ∃ z, z = h0.size := ⟨_, rfl⟩
  rw [← g_1] at A1 D1 st1
  refine Goes.step st1 ?_
  have ne_a1_b1 : a1 ≠ b1 := Nat.ne_of_lt (by rw [g_1]; exact F_a1_modCount_0.lt)
  have ge_b1 : n0 ≤ b1 := by rw [g_1]; exact Z0
  have sz_b1 : h0.size ≤ b1 := by rw [g_1]; exact K0.1
  have F_a1_modCount_1 := F_a1_modCount_0.ext E1
  have z_1 : n0 ≤ h1.size := Nat.le_trans Z0 E1.1
  have K_1 : Keep h0 h1 [] := K0.ext E1
  have E_b1_1 : Exa Z h1 b1 "java/util/ArrayList$Itr" := A1
  have F_b1_this_0_1 : Fld Z h1 b1 "java/util/ArrayList$Itr" "this$0" "Ljava/util/ArrayList;" .null := D1 (Or.inr (wof hw 232 rfl)) (ty := (.object "java/util/ArrayList")) (by decide)
  have F_b1_lastRet_1 : Fld Z h1 b1 "java/util/ArrayList$Itr" "lastRet" "I" (.int (0 : Int32)) := D1 (Or.inl (wof hw 235 rfl)) (ty := .int) (by decide)
  have F_b1_expectedModCount_1 : Fld Z h1 b1 "java/util/ArrayList$Itr" "expectedModCount" "I" (.int (0 : Int32)) := D1 (Or.inl (wof hw 238 rfl)) (ty := .int) (by decide)
  have F_b1_cursor_1 : Fld Z h1 b1 "java/util/ArrayList$Itr" "cursor" "I" (.int (0 : Int32)) := D1 (Or.inl (wof hw 249 rfl)) (ty := .int) (by decide)
  show Goes p e below s _ _ _ T1 (mkF m 3 #[vR a1] [(.ref b1)])
  refine Goes.step (fun _ k => XS.dup X1.here hx rfl (hb hby d31_3) rfl rfl k) ?_
  refine Goes.step (fun _ k => XS.aloadN X1.here hx rfl (hb hby d31_4) rfl rfl k) ?_
  obtain ⟨v2, T2, h2, L2, X2, e2, Q2, st2⟩ := callXI X1 hx hZ (b := b1) (y := y_32) hown rfl (wof hw 227 rfl) (wof hw 228 rfl) (wof hw 230 rfl) (wof hw 226 rfl) (by decide) (W := 1) (argsL := [(.ref a1)]) (rest := [(.ref b1)]) (rm32 l Z a0 hw [] b1 a1 mc h1 n0 z_1 E_b1_1 ge_b1 ne_a1_b1 F_a1_modCount_1 F_b1_this_0_1 F_b1_lastRet_1 F_b1_expectedModCount_1 F_b1_cursor_1) (by decide) (by decide) (by decide) (by decide) e1 (g := (mkF m 5 #[vR a1] [(.ref a1), (.ref b1), (.ref b1)])) rfl (by rw [hml]; rfl) (lenOf pd_31_0 rfl) rfl (by show 2 * 0 + _ ≤ _; exact Nat.le_of_eq rfl) (hb hby d31_5)
  obtain ⟨rfl, NQ2, KQ2, hI02, hI12, hI22, hI32⟩ := Q2
  refine Goes.step st2 ?_
  have F_a1_modCount_2 := F_a1_modCount_1.keep KQ2 (ninS ne_a1_b1 nin0)
  have E_b1_2 := E_b1_1.keep KQ2
  have z_2 : n0 ≤ h2.size := Nat.le_trans z_1 KQ2.1
  have K_2 : Keep h0 h2 [] := Keep.trans K_1 KQ2 (allS (Or.inr sz_b1) all0)
  have N_2 := Fr.app N0 NQ2
  show Goes p e below s _ _ _ T2 (mkF m 8 #[vR a1] [(.ref b1)])
  exact Goes.outR X2 hx hlk Bd.returns rfl rfl (hb hby d31_8) (by rw [e2]; exact ⟨b1, rfl, N_2, K_2, sz_b1, E_b1_2, hI02, hI12, hI22, hI32⟩) (by decide) (by decide)
theorem d33_0 : decode jdk_49_method_2_code 0 = .ok (.aload_n 0, 1) := by decide +kernel
theorem d33_1 : decode jdk_49_method_2_code 1 = .ok (.getfield 25, 3) := by decide +kernel
theorem d33_4 : decode jdk_49_method_2_code 4 = .ok (.aload_n 0, 1) := by decide +kernel
theorem d33_5 : decode jdk_49_method_2_code 5 = .ok (.getfield 1, 3) := by decide +kernel
theorem d33_8 : decode jdk_49_method_2_code 8 = .ok (.getfield 28, 3) := by decide +kernel
theorem d33_11 : decode jdk_49_method_2_code 11 = .ok (.if_icmp .eq 7, 3) := by decide +kernel
theorem d33_18 : decode jdk_49_method_2_code 18 = .ok (.iconst 0, 1) := by decide +kernel
theorem d33_19 : decode jdk_49_method_2_code 19 = .ok (.ireturn, 1) := by decide +kernel
theorem pn_33 : plainName "java/util/ArrayList$Itr" = true := by first | (simp [plainName, overriddenIn]; done) | decide +kernel
theorem ef_33e (m : MethodId) (a1 : Addr) : entryFrame m #[(.ref a1)] 1 = mkF m 0 #[.val (.ref a1)] [] := by first | (simp [entryFrame, mkF, argsToLocals, Value.category]; done) | rfl
def Q33e (Z : State) (a1 : Addr) (ls : Addr) (cv : Int32) (sv : Int32) (h0 : Heap) (n0 : Nat) (v : Option Value) (h : Heap) (L : List Loc) : Prop := PQ h0 (some (.int (0 : Int32))) v h L
set_option maxRecDepth 65536 in
set_option maxHeartbeats 40000000 in
theorem rm33e (l : Launch) (Z : State) (a0 : Array Value) (hw : ∀ d ∈ tables_1, d.before a0 Z = true) (ws : List Jvm.Cond) (a1 : Addr) (ls : Addr) (cv : Int32) (sv : Int32) (h0 : Heap) (n0 : Nat) (Z0 : n0 ≤ h0.size) (F_a1_this_0_0 : Fld Z h0 a1 "java/util/ArrayList$Itr" "this$0" "Ljava/util/ArrayList;" (.ref ls)) (F_a1_cursor_0 : Fld Z h0 a1 "java/util/ArrayList$Itr" "cursor" "I" (.int cv)) (F_ls_size_0 : Fld Z h0 ls "java/util/ArrayList" "size" "I" (.int sv)) (hcs : cv = sv) :
    MetFree l y_33 (head1 (Jvm.Cond.code y_33 jdk_49_method_2_code 1 (some .boolean) :: ws) ({ frames := 0, cells := 0, slots := 0, locals := 0 } : Room)) (fun a U => a = #[(.ref a1)] ∧ Z.Warmed39 U.vm ∧ U.heap = h0) (fun _ _ _ _ _ => True) (fun _ U o U' => ∃ v L, o = .returned v ∧ Q33e Z a1 ls cv sv h0 n0 v U'.heap L ∧ FrameEnd U o U' L ({ frames := 0, cells := 0, slots := 0, locals := 0 } : Room).cells ({ frames := 0, cells := 0, slots := 0, locals := 0 } : Room).slots) := by
  refine MetFree.of_bodySF (plainFor_of_name pn_33) hisR ?_
  intro p e s m args below meth c s₁ Bd hml0 hP hK
  obtain ⟨rfl, hZ, hh⟩ := hP
  have hx := Bd.exec
  have hby := Bd.bytes
  have hlk := Bd.notSynchronized
  have hml : c.maxLocals = 1 := hml0
  have hown : s.vm.findClass "java/util/ArrayList$Itr" = some m.cls := findClass_of_methodNamed Bd.named
  have hnm := (name_of_methodNamed Bd.named Bd.method).1
  have X0 : Stand p l e ({ frames := 0, cells := 0, slots := 0, locals := 0 } : Room) s m #[(.ref a1)] below meth c s₁ [] 0 0 := Stand.of_body Bd
  have e0 : s₁.heap = h0 := by rw [← hh, Bd.state]; rfl
  have N0 := Fr.nil n0
  have K0 : Keep h0 h0 [] := Keep.refl h0 _
  show Goes p e below s ({ frames := 0, cells := 0, slots := 0, locals := 0 } : Room).cells ({ frames := 0, cells := 0, slots := 0, locals := 0 } : Room).slots (Q33e Z a1 ls cv sv h0 n0) s₁ (entryFrame m #[(.ref a1)] 1)
  refine Goes.step (fun t k => castTop (ef_33e m a1) k) ?_
  refine Goes.step (fun _ k => XS.aloadN X0.here hx rfl (hb hby d33_0) rfl rfl k) ?_
  obtain ⟨T1, X1, e1, st1⟩ := getF X0 hx hZ hown (host := "") (Or.inl (wof hw 248 rfl)) Via.refl e0 F_a1_cursor_0 (g := (mkF m 1 #[vR a1] [(.ref a1)])) rfl rfl (hb hby d33_1)
  refine Goes.step st1 ?_
  show Goes p e below s _ _ _ T1 (mkF m 4 #[vR a1] [(.int cv)])
  refine Goes.step (fun _ k => XS.aloadN X1.here hx rfl (hb hby d33_4) rfl rfl k) ?_
  obtain ⟨T2, X2, e2, st2⟩ := getF X1 hx hZ hown (host := "") (Or.inl (wof hw 231 rfl)) Via.refl e1 F_a1_this_0_0 (g := (mkF m 5 #[vR a1] [(.ref a1), (.int cv)])) rfl rfl (hb hby d33_5)
  refine Goes.step st2 ?_
  show Goes p e below s _ _ _ T2 (mkF m 8 #[vR a1] [(.ref ls), (.int cv)])
  obtain ⟨T3, X3, e3, st3⟩ := getF X2 hx hZ hown (Or.inr (wof hw 250 rfl)) Via.refl e2 F_ls_size_0 (g := (mkF m 8 #[vR a1] [(.ref ls), (.int cv)])) rfl rfl (hb hby d33_8)
  refine Goes.step st3 ?_
  show Goes p e below s _ _ _ T3 (mkF m 11 #[vR a1] [(.int sv), (.int cv)])
  refine Goes.step (fun _ k => XS.icmpYes X3.here hx rfl (pc0 := 11) (pc' := 18) rfl (hb hby d33_11) rfl (teq hcs).1 (by decide) (by decide) k) ?_
  show Goes p e below s _ _ _ T3 (mkF m 18 #[vR a1] [])
  refine Goes.step (fun _ k => XS.iconst X3.here hx rfl (hb hby d33_18) k) ?_
  show Goes p e below s _ _ _ T3 (mkF m 19 #[vR a1] [(.int (0 : Int32))])
  exact Goes.outN X3 hx hlk (t := .boolean) Bd.returns (by simp) (hb hby d33_19) (by rw [e3]; exact ⟨rfl, rfl, rfl⟩) (by decide) (by decide)
theorem d33_14 : decode jdk_49_method_2_code 14 = .ok (.iconst 1, 1) := by decide +kernel
theorem d33_15 : decode jdk_49_method_2_code 15 = .ok (.goto 4, 3) := by decide +kernel
theorem ef_33n (m : MethodId) (a1 : Addr) : entryFrame m #[(.ref a1)] 1 = mkF m 0 #[.val (.ref a1)] [] := by first | (simp [entryFrame, mkF, argsToLocals, Value.category]; done) | rfl
def Q33n (Z : State) (a1 : Addr) (ls : Addr) (cv : Int32) (sv : Int32) (h0 : Heap) (n0 : Nat) (v : Option Value) (h : Heap) (L : List Loc) : Prop := PQ h0 (some (.int (1 : Int32))) v h L
set_option maxRecDepth 65536 in
set_option maxHeartbeats 40000000 in
theorem rm33n (l : Launch) (Z : State) (a0 : Array Value) (hw : ∀ d ∈ tables_1, d.before a0 Z = true) (ws : List Jvm.Cond) (a1 : Addr) (ls : Addr) (cv : Int32) (sv : Int32) (h0 : Heap) (n0 : Nat) (Z0 : n0 ≤ h0.size) (F_a1_this_0_0 : Fld Z h0 a1 "java/util/ArrayList$Itr" "this$0" "Ljava/util/ArrayList;" (.ref ls)) (F_a1_cursor_0 : Fld Z h0 a1 "java/util/ArrayList$Itr" "cursor" "I" (.int cv)) (F_ls_size_0 : Fld Z h0 ls "java/util/ArrayList" "size" "I" (.int sv)) (hcs : ¬ (cv = sv)) :
    MetFree l y_33 (head1 (Jvm.Cond.code y_33 jdk_49_method_2_code 1 (some .boolean) :: ws) ({ frames := 0, cells := 0, slots := 0, locals := 0 } : Room)) (fun a U => a = #[(.ref a1)] ∧ Z.Warmed39 U.vm ∧ U.heap = h0) (fun _ _ _ _ _ => True) (fun _ U o U' => ∃ v L, o = .returned v ∧ Q33n Z a1 ls cv sv h0 n0 v U'.heap L ∧ FrameEnd U o U' L ({ frames := 0, cells := 0, slots := 0, locals := 0 } : Room).cells ({ frames := 0, cells := 0, slots := 0, locals := 0 } : Room).slots) := by
  refine MetFree.of_bodySF (plainFor_of_name pn_33) hisR ?_
  intro p e s m args below meth c s₁ Bd hml0 hP hK
  obtain ⟨rfl, hZ, hh⟩ := hP
  have hx := Bd.exec
  have hby := Bd.bytes
  have hlk := Bd.notSynchronized
  have hml : c.maxLocals = 1 := hml0
  have hown : s.vm.findClass "java/util/ArrayList$Itr" = some m.cls := findClass_of_methodNamed Bd.named
  have hnm := (name_of_methodNamed Bd.named Bd.method).1
  have X0 : Stand p l e ({ frames := 0, cells := 0, slots := 0, locals := 0 } : Room) s m #[(.ref a1)] below meth c s₁ [] 0 0 := Stand.of_body Bd
  have e0 : s₁.heap = h0 := by rw [← hh, Bd.state]; rfl
  have N0 := Fr.nil n0
  have K0 : Keep h0 h0 [] := Keep.refl h0 _
  show Goes p e below s ({ frames := 0, cells := 0, slots := 0, locals := 0 } : Room).cells ({ frames := 0, cells := 0, slots := 0, locals := 0 } : Room).slots (Q33n Z a1 ls cv sv h0 n0) s₁ (entryFrame m #[(.ref a1)] 1)
  refine Goes.step (fun t k => castTop (ef_33n m a1) k) ?_
  refine Goes.step (fun _ k => XS.aloadN X0.here hx rfl (hb hby d33_0) rfl rfl k) ?_
  obtain ⟨T1, X1, e1, st1⟩ := getF X0 hx hZ hown (host := "") (Or.inl (wof hw 248 rfl)) Via.refl e0 F_a1_cursor_0 (g := (mkF m 1 #[vR a1] [(.ref a1)])) rfl rfl (hb hby d33_1)
  refine Goes.step st1 ?_
  show Goes p e below s _ _ _ T1 (mkF m 4 #[vR a1] [(.int cv)])
  refine Goes.step (fun _ k => XS.aloadN X1.here hx rfl (hb hby d33_4) rfl rfl k) ?_
  obtain ⟨T2, X2, e2, st2⟩ := getF X1 hx hZ hown (host := "") (Or.inl (wof hw 231 rfl)) Via.refl e1 F_a1_this_0_0 (g := (mkF m 5 #[vR a1] [(.ref a1), (.int cv)])) rfl rfl (hb hby d33_5)
  refine Goes.step st2 ?_
  show Goes p e below s _ _ _ T2 (mkF m 8 #[vR a1] [(.ref ls), (.int cv)])
  obtain ⟨T3, X3, e3, st3⟩ := getF X2 hx hZ hown (Or.inr (wof hw 250 rfl)) Via.refl e2 F_ls_size_0 (g := (mkF m 8 #[vR a1] [(.ref ls), (.int cv)])) rfl rfl (hb hby d33_8)
  refine Goes.step st3 ?_
  show Goes p e below s _ _ _ T3 (mkF m 11 #[vR a1] [(.int sv), (.int cv)])
  refine Goes.step (fun _ k => XS.icmpNo X3.here hx rfl (hb hby d33_11) rfl (feq hcs).1 k) ?_
  show Goes p e below s _ _ _ T3 (mkF m 14 #[vR a1] [])
  refine Goes.step (fun _ k => XS.iconst X3.here hx rfl (hb hby d33_14) k) ?_
  refine Goes.step (fun _ k => XS.goto X3.here hx rfl (pc0 := 15) (pc' := 19) rfl (hb hby d33_15) (by decide) (by decide) k) ?_
  show Goes p e below s _ _ _ T3 (mkF m 19 #[vR a1] [(.int (1 : Int32))])
  exact Goes.outN X3 hx hlk (t := .boolean) Bd.returns (by simp) (hb hby d33_19) (by rw [e3]; exact ⟨rfl, rfl, rfl⟩) (by decide) (by decide)
theorem d40_0 : decode jdk_49_method_6_code 0 = .ok (.aload_n 0, 1) := by decide +kernel
theorem d40_1 : decode jdk_49_method_6_code 1 = .ok (.getfield 1, 3) := by decide +kernel
theorem d40_4 : decode jdk_49_method_6_code 4 = .ok (.getfield 17, 3) := by decide +kernel
theorem d40_7 : decode jdk_49_method_6_code 7 = .ok (.aload_n 0, 1) := by decide +kernel
theorem d40_8 : decode jdk_49_method_6_code 8 = .ok (.getfield 22, 3) := by decide +kernel
theorem d40_11 : decode jdk_49_method_6_code 11 = .ok (.if_icmp .eq 11, 3) := by decide +kernel
theorem d40_22 : decode jdk_49_method_6_code 22 = .ok (.return_, 1) := by decide +kernel
theorem pn_40 : plainName "java/util/ArrayList$Itr" = true := by first | (simp [plainName, overriddenIn]; done) | decide +kernel
theorem ef_40 (m : MethodId) (a1 : Addr) : entryFrame m #[(.ref a1)] 1 = mkF m 0 #[.val (.ref a1)] [] := by first | (simp [entryFrame, mkF, argsToLocals, Value.category]; done) | rfl
def Q40 (Z : State) (a1 : Addr) (ls : Addr) (mc : Int32) (h0 : Heap) (n0 : Nat) (v : Option Value) (h : Heap) (L : List Loc) : Prop := PQ h0 none v h L
set_option maxRecDepth 65536 in
set_option maxHeartbeats 40000000 in
theorem rm40 (l : Launch) (Z : State) (a0 : Array Value) (hw : ∀ d ∈ tables_1, d.before a0 Z = true) (ws : List Jvm.Cond) (a1 : Addr) (ls : Addr) (mc : Int32) (h0 : Heap) (n0 : Nat) (Z0 : n0 ≤ h0.size) (F_a1_this_0_0 : Fld Z h0 a1 "java/util/ArrayList$Itr" "this$0" "Ljava/util/ArrayList;" (.ref ls)) (F_a1_expectedModCount_0 : Fld Z h0 a1 "java/util/ArrayList$Itr" "expectedModCount" "I" (.int mc)) (F_ls_modCount_0 : Fld Z h0 ls "java/util/AbstractList" "modCount" "I" (.int mc)) :
    MetFree l y_40 (head1 (Jvm.Cond.code y_40 jdk_49_method_6_code 1 none :: ws) ({ frames := 0, cells := 0, slots := 0, locals := 0 } : Room)) (fun a U => a = #[(.ref a1)] ∧ Z.Warmed39 U.vm ∧ U.heap = h0) (fun _ _ _ _ _ => True) (fun _ U o U' => ∃ v L, o = .returned v ∧ Q40 Z a1 ls mc h0 n0 v U'.heap L ∧ FrameEnd U o U' L ({ frames := 0, cells := 0, slots := 0, locals := 0 } : Room).cells ({ frames := 0, cells := 0, slots := 0, locals := 0 } : Room).slots) := by
  refine MetFree.of_bodySF (plainFor_of_name pn_40) hisR ?_
  intro p e s m args below meth c s₁ Bd hml0 hP hK
  obtain ⟨rfl, hZ, hh⟩ := hP
  have hx := Bd.exec
  have hby := Bd.bytes
  have hlk := Bd.notSynchronized
  have hml : c.maxLocals = 1 := hml0
  have hown : s.vm.findClass "java/util/ArrayList$Itr" = some m.cls := findClass_of_methodNamed Bd.named
  have hnm := (name_of_methodNamed Bd.named Bd.method).1
  have X0 : Stand p l e ({ frames := 0, cells := 0, slots := 0, locals := 0 } : Room) s m #[(.ref a1)] below meth c s₁ [] 0 0 := Stand.of_body Bd
  have e0 : s₁.heap = h0 := by rw [← hh, Bd.state]; rfl
  have N0 := Fr.nil n0
  have K0 : Keep h0 h0 [] := Keep.refl h0 _
  show Goes p e below s ({ frames := 0, cells := 0, slots := 0, locals := 0 } : Room).cells ({ frames := 0, cells := 0, slots := 0, locals := 0 } : Room).slots (Q40 Z a1 ls mc h0 n0) s₁ (entryFrame m #[(.ref a1)] 1)
  refine Goes.step (fun t k => castTop (ef_40 m a1) k) ?_
  refine Goes.step (fun _ k => XS.aloadN X0.here hx rfl (hb hby d40_0) rfl rfl k) ?_
  obtain ⟨T1, X1, e1, st1⟩ := getF X0 hx hZ hown (host := "") (Or.inl (wof hw 231 rfl)) Via.refl e0 F_a1_this_0_0 (g := (mkF m 1 #[vR a1] [(.ref a1)])) rfl rfl (hb hby d40_1)
  refine Goes.step st1 ?_
  show Goes p e below s _ _ _ T1 (mkF m 4 #[vR a1] [(.ref ls)])
  obtain ⟨T2, X2, e2, st2⟩ := getF X1 hx hZ hown (host := "") (Or.inl (wof hw 236 rfl)) (Via.of (wof hw 201 rfl)) e1 F_ls_modCount_0 (g := (mkF m 4 #[vR a1] [(.ref ls)])) rfl rfl (hb hby d40_4)
  refine Goes.step st2 ?_
  show Goes p e below s _ _ _ T2 (mkF m 7 #[vR a1] [(.int mc)])
  refine Goes.step (fun _ k => XS.aloadN X2.here hx rfl (hb hby d40_7) rfl rfl k) ?_
  obtain ⟨T3, X3, e3, st3⟩ := getF X2 hx hZ hown (host := "") (Or.inl (wof hw 237 rfl)) Via.refl e2 F_a1_expectedModCount_0 (g := (mkF m 8 #[vR a1] [(.ref a1), (.int mc)])) rfl rfl (hb hby d40_8)
  refine Goes.step st3 ?_
  show Goes p e below s _ _ _ T3 (mkF m 11 #[vR a1] [(.int mc), (.int mc)])
  refine Goes.step (fun _ k => XS.icmpYes X3.here hx rfl (pc0 := 11) (pc' := 22) rfl (hb hby d40_11) rfl (teq rfl).1 (by decide) (by decide) k) ?_
  show Goes p e below s _ _ _ T3 (mkF m 22 #[vR a1] [])
  exact Goes.outV X3 hx hlk Bd.returns (hb hby d40_22) (by rw [e3]; exact ⟨rfl, rfl, rfl⟩) (by decide) (by decide)
theorem d39_0 : decode jdk_49_method_3_code 0 = .ok (.aload_n 0, 1) := by decide +kernel
theorem d39_1 : decode jdk_49_method_3_code 1 = .ok (.invokevirtual 31, 3) := by decide +kernel
theorem d39_4 : decode jdk_49_method_3_code 4 = .ok (.aload_n 0, 1) := by decide +kernel
theorem d39_5 : decode jdk_49_method_3_code 5 = .ok (.getfield 25, 3) := by decide +kernel
theorem d39_8 : decode jdk_49_method_3_code 8 = .ok (.istore_n 1, 1) := by decide +kernel
theorem d39_9 : decode jdk_49_method_3_code 9 = .ok (.iload_n 1, 1) := by decide +kernel
theorem d39_10 : decode jdk_49_method_3_code 10 = .ok (.aload_n 0, 1) := by decide +kernel
theorem d39_11 : decode jdk_49_method_3_code 11 = .ok (.getfield 1, 3) := by decide +kernel
theorem d39_14 : decode jdk_49_method_3_code 14 = .ok (.getfield 28, 3) := by decide +kernel
theorem d39_17 : decode jdk_49_method_3_code 17 = .ok (.if_icmp .lt 11, 3) := by decide +kernel
theorem d39_28 : decode jdk_49_method_3_code 28 = .ok (.aload_n 0, 1) := by decide +kernel
theorem d39_29 : decode jdk_49_method_3_code 29 = .ok (.getfield 1, 3) := by decide +kernel
theorem d39_32 : decode jdk_49_method_3_code 32 = .ok (.getfield 37, 3) := by decide +kernel
theorem d39_35 : decode jdk_49_method_3_code 35 = .ok (.astore_n 2, 1) := by decide +kernel
theorem d39_36 : decode jdk_49_method_3_code 36 = .ok (.iload_n 1, 1) := by decide +kernel
theorem d39_37 : decode jdk_49_method_3_code 37 = .ok (.aload_n 2, 1) := by decide +kernel
theorem d39_38 : decode jdk_49_method_3_code 38 = .ok (.arraylength, 1) := by decide +kernel
theorem d39_39 : decode jdk_49_method_3_code 39 = .ok (.if_icmp .lt 11, 3) := by decide +kernel
theorem d39_50 : decode jdk_49_method_3_code 50 = .ok (.aload_n 0, 1) := by decide +kernel
theorem d39_51 : decode jdk_49_method_3_code 51 = .ok (.iload_n 1, 1) := by decide +kernel
theorem d39_52 : decode jdk_49_method_3_code 52 = .ok (.iconst 1, 1) := by decide +kernel
theorem d39_53 : decode jdk_49_method_3_code 53 = .ok (.iadd, 1) := by decide +kernel
theorem d39_54 : decode jdk_49_method_3_code 54 = .ok (.putfield 25, 3) := by decide +kernel
theorem d39_57 : decode jdk_49_method_3_code 57 = .ok (.aload_n 2, 1) := by decide +kernel
theorem d39_58 : decode jdk_49_method_3_code 58 = .ok (.aload_n 0, 1) := by decide +kernel
theorem d39_59 : decode jdk_49_method_3_code 59 = .ok (.iload_n 1, 1) := by decide +kernel
theorem d39_60 : decode jdk_49_method_3_code 60 = .ok (.dup_x1, 1) := by decide +kernel
theorem d39_61 : decode jdk_49_method_3_code 61 = .ok (.putfield 13, 3) := by decide +kernel
theorem d39_64 : decode jdk_49_method_3_code 64 = .ok (.aaload, 1) := by decide +kernel
theorem d39_65 : decode jdk_49_method_3_code 65 = .ok (.areturn, 1) := by decide +kernel
theorem pn_39 : plainName "java/util/ArrayList$Itr" = true := by first | (simp [plainName, overriddenIn]; done) | decide +kernel
theorem pd_39_0 : parseMethodDescriptor "()V" = some ⟨[], none⟩ := by decide +kernel
theorem ef_39 (m : MethodId) (a1 : Addr) : entryFrame m #[(.ref a1)] 3 = mkF m 0 #[.val (.ref a1), .unset, .unset] [] := by first | (simp [entryFrame, mkF, argsToLocals, Value.category]; done) | rfl
def Q39 (Z : State) (a1 : Addr) (ls : Addr) (oh : Addr) (ha : Addr) (mc : Int32) (h0 : Heap) (n0 : Nat) (v : Option Value) (h : Heap) (L : List Loc) : Prop := v = some (.ref ha) ∧ Fr n0 L ∧ Keep h0 h [a1] ∧ Fld Z h a1 "java/util/ArrayList$Itr" "this$0" "Ljava/util/ArrayList;" (.ref ls) ∧ Fld Z h a1 "java/util/ArrayList$Itr" "lastRet" "I" (.int (0 : Int32)) ∧ Fld Z h a1 "java/util/ArrayList$Itr" "expectedModCount" "I" (.int mc) ∧ Fld Z h a1 "java/util/ArrayList$Itr" "cursor" "I" (.int (1 : Int32))
set_option maxRecDepth 65536 in
set_option maxHeartbeats 40000000 in
theorem rm39 (l : Launch) (Z : State) (a0 : Array Value) (hw : ∀ d ∈ tables_1, d.before a0 Z = true) (ws : List Jvm.Cond) (a1 : Addr) (ls : Addr) (oh : Addr) (ha : Addr) (mc : Int32) (h0 : Heap) (n0 : Nat) (Z0 : n0 ≤ h0.size) (E_a1_0 : Exa Z h0 a1 "java/util/ArrayList$Itr") (ge_a1 : n0 ≤ a1) (ne_ls_a1 : ls ≠ a1) (ne_oh_a1 : oh ≠ a1) (F_ls_modCount_0 : Fld Z h0 ls "java/util/AbstractList" "modCount" "I" (.int mc)) (F_a1_this_0_0 : Fld Z h0 a1 "java/util/ArrayList$Itr" "this$0" "Ljava/util/ArrayList;" (.ref ls)) (F_a1_lastRet_0 : Fld Z h0 a1 "java/util/ArrayList$Itr" "lastRet" "I" (.int (-1 : Int32))) (F_a1_expectedModCount_0 : Fld Z h0 a1 "java/util/ArrayList$Itr" "expectedModCount" "I" (.int mc)) (F_a1_cursor_0 : Fld Z h0 a1 "java/util/ArrayList$Itr" "cursor" "I" (.int (0 : Int32))) (F_ls_size_0 : Fld Z h0 ls "java/util/ArrayList" "size" "I" (.int (1 : Int32))) (F_ls_elementData_0 : Fld Z h0 ls "java/util/ArrayList" "elementData" "[Ljava/lang/Object;" (.ref oh)) (B_oh_0 : Arf Z h0 oh "java/lang/Object" 2 (updV (fun _ => .null) (0) (.ref ha))) :
    MetFree l y_39 (head1 (Jvm.Cond.code y_39 jdk_49_method_3_code 3 (some (.object "java/lang/Object")) :: ws) ({ frames := 1, cells := 0, slots := 0, locals := 12 } : Room)) (fun a U => a = #[(.ref a1)] ∧ Z.Warmed39 U.vm ∧ U.heap = h0) (fun _ _ _ _ _ => True) (fun _ U o U' => ∃ v L, o = .returned v ∧ Q39 Z a1 ls oh ha mc h0 n0 v U'.heap L ∧ FrameEnd U o U' L ({ frames := 1, cells := 0, slots := 0, locals := 12 } : Room).cells ({ frames := 1, cells := 0, slots := 0, locals := 12 } : Room).slots) := by
  refine MetFree.of_bodySF (plainFor_of_name pn_39) hisR ?_
  intro p e s m args below meth c s₁ Bd hml0 hP hK
  obtain ⟨rfl, hZ, hh⟩ := hP
  have hx := Bd.exec
  have hby := Bd.bytes
  have hlk := Bd.notSynchronized
  have hml : c.maxLocals = 3 := hml0
  have hown : s.vm.findClass "java/util/ArrayList$Itr" = some m.cls := findClass_of_methodNamed Bd.named
  have hnm := (name_of_methodNamed Bd.named Bd.method).1
  have X0 : Stand p l e ({ frames := 1, cells := 0, slots := 0, locals := 12 } : Room) s m #[(.ref a1)] below meth c s₁ [] 0 0 := Stand.of_body Bd
  have e0 : s₁.heap = h0 := by rw [← hh, Bd.state]; rfl
  have N0 := Fr.nil n0
  have K0 : Keep h0 h0 [a1] := Keep.refl h0 _
  show Goes p e below s ({ frames := 1, cells := 0, slots := 0, locals := 12 } : Room).cells ({ frames := 1, cells := 0, slots := 0, locals := 12 } : Room).slots (Q39 Z a1 ls oh ha mc h0 n0) s₁ (entryFrame m #[(.ref a1)] 3)
  refine Goes.step (fun t k => castTop (ef_39 m a1) k) ?_
  refine Goes.step (fun _ k => XS.aloadN X0.here hx rfl (hb hby d39_0) rfl rfl k) ?_
  obtain ⟨T1, X1, e1, st1⟩ := own_pure (r := none) (fun _ _ _ q => q) (callXV X0 hx hZ (C := "java/util/ArrayList$Itr") (b := a1) (y := y_40) (z := y_40) hown (wof hw 295 rfl) (wof hw 296 rfl) (wof hw 298 rfl) (wof hw 297 rfl) (wof hw 299 rfl) (wof hw 226 rfl) (notFace_of_selects (args := #[]) (mvT hZ (wof hw 298 rfl))) (by decide) (W := 0) (argsL := []) (rest := []) (rm40 l Z a0 hw [] a1 ls mc h0 n0 Z0 F_a1_this_0_0 F_a1_expectedModCount_0 F_ls_modCount_0) (by decide) (by decide) (by decide) (by decide) e0 E_a1_0 (g := (mkF m 1 #[vR a1, vU, vU] [(.ref a1)])) rfl (by rw [hml]; rfl) (lenOf pd_39_0 rfl) rfl (by show 2 * 0 + _ ≤ _; exact Nat.le_of_eq rfl) (hb hby d39_1))
  refine Goes.step st1 ?_
  show Goes p e below s _ _ _ T1 (mkF m 4 #[vR a1, vU, vU] [])
  refine Goes.step (fun _ k => XS.aloadN X1.here hx rfl (hb hby d39_4) rfl rfl k) ?_
  obtain ⟨T2, X2, e2, st2⟩ := getF X1 hx hZ hown (host := "") (Or.inl (wof hw 248 rfl)) Via.refl e1 F_a1_cursor_0 (g := (mkF m 5 #[vR a1, vU, vU] [(.ref a1)])) rfl rfl (hb hby d39_5)
  refine Goes.step st2 ?_
  show Goes p e below s _ _ _ T2 (mkF m 8 #[vR a1, vU, vU] [(.int (0 : Int32))])
  refine Goes.step (fun _ k => XS.istoreN X2.here hx rfl (hb hby d39_8) rfl (l' := #[vR a1, vI (0 : Int32), vU]) rfl k) ?_
  refine Goes.step (fun _ k => XS.iloadN X2.here hx rfl (hb hby d39_9) rfl k) ?_
  refine Goes.step (fun _ k => XS.aloadN X2.here hx rfl (hb hby d39_10) rfl rfl k) ?_
  obtain ⟨T3, X3, e3, st3⟩ := getF X2 hx hZ hown (host := "") (Or.inl (wof hw 231 rfl)) Via.refl e2 F_a1_this_0_0 (g := (mkF m 11 #[vR a1, vI (0 : Int32), vU] [(.ref a1), (.int (0 : Int32))])) rfl rfl (hb hby d39_11)
  refine Goes.step st3 ?_
  show Goes p e below s _ _ _ T3 (mkF m 14 #[vR a1, vI (0 : Int32), vU] [(.ref ls), (.int (0 : Int32))])
  obtain ⟨T4, X4, e4, st4⟩ := getF X3 hx hZ hown (Or.inr (wof hw 250 rfl)) Via.refl e3 F_ls_size_0 (g := (mkF m 14 #[vR a1, vI (0 : Int32), vU] [(.ref ls), (.int (0 : Int32))])) rfl rfl (hb hby d39_14)
  refine Goes.step st4 ?_
  show Goes p e below s _ _ _ T4 (mkF m 17 #[vR a1, vI (0 : Int32), vU] [(.int (1 : Int32)), (.int (0 : Int32))])
  refine Goes.step (fun _ k => XS.icmpYes X4.here hx rfl (pc0 := 17) (pc' := 28) rfl (hb hby d39_17) rfl (tlt (by decide : (0 : Int32) < (1 : Int32))).1 (by decide) (by decide) k) ?_
  show Goes p e below s _ _ _ T4 (mkF m 28 #[vR a1, vI (0 : Int32), vU] [])
  refine Goes.step (fun _ k => XS.aloadN X4.here hx rfl (hb hby d39_28) rfl rfl k) ?_
  obtain ⟨T5, X5, e5, st5⟩ := getF X4 hx hZ hown (host := "") (Or.inl (wof hw 231 rfl)) Via.refl e4 F_a1_this_0_0 (g := (mkF m 29 #[vR a1, vI (0 : Int32), vU] [(.ref a1)])) rfl rfl (hb hby d39_29)
  refine Goes.step st5 ?_
  show Goes p e below s _ _ _ T5 (mkF m 32 #[vR a1, vI (0 : Int32), vU] [(.ref ls)])
  obtain ⟨T6, X6, e6, st6⟩ := getF X5 hx hZ hown (host := "") (Or.inl (wof hw 300 rfl)) Via.refl e5 F_ls_elementData_0 (g := (mkF m 32 #[vR a1, vI (0 : Int32), vU] [(.ref ls)])) rfl rfl (hb hby d39_32)
  refine Goes.step st6 ?_
  show Goes p e below s _ _ _ T6 (mkF m 35 #[vR a1, vI (0 : Int32), vU] [(.ref oh)])
  refine Goes.step (fun _ k => XS.astoreN X6.here hx rfl (hb hby d39_35) rfl rfl (l' := #[vR a1, vI (0 : Int32), vR oh]) rfl k) ?_
  refine Goes.step (fun _ k => XS.iloadN X6.here hx rfl (hb hby d39_36) rfl k) ?_
  refine Goes.step (fun _ k => XS.aloadN X6.here hx rfl (hb hby d39_37) rfl rfl k) ?_
  refine Goes.step (fun _ k => rdLf X6 hx hZ e6 B_oh_0 (g := (mkF m 38 #[vR a1, vI (0 : Int32), vR oh] [(.ref oh), (.int (0 : Int32))])) rfl rfl (hb hby d39_38) _ k) ?_
  show Goes p e below s _ _ _ T6 (mkF m 39 #[vR a1, vI (0 : Int32), vR oh] [(.int (Int32.ofNat 2)), (.int (0 : Int32))])
  refine Goes.step (fun _ k => XS.icmpYes X6.here hx rfl (pc0 := 39) (pc' := 50) rfl (hb hby d39_39) rfl (tlt (by decide : (0 : Int32) < (Int32.ofNat 2))).1 (by decide) (by decide) k) ?_
  show Goes p e below s _ _ _ T6 (mkF m 50 #[vR a1, vI (0 : Int32), vR oh] [])
  refine Goes.step (fun _ k => XS.aloadN X6.here hx rfl (hb hby d39_50) rfl rfl k) ?_
  refine Goes.step (fun _ k => XS.iloadN X6.here hx rfl (hb hby d39_51) rfl k) ?_
  refine Goes.step (fun _ k => XS.iconst X6.here hx rfl (hb hby d39_52) k) ?_
  refine Goes.step (fun _ k => XS.iadd X6.here hx rfl (hb hby d39_53) rfl k) ?_
  show Goes p e below s _ _ _ T6 (mkF m 54 #[vR a1, vI (0 : Int32), vR oh] [(.int (1 : Int32)), (.ref a1)])
  obtain ⟨T7, h7, X7, e7, W7, st7⟩ := putF X6 hx hZ hown (host := "") (Or.inl (wof hw 248 rfl)) Via.refl e6 F_a1_cursor_0 E_a1_0 (Or.inl (wof hw 249 rfl)) (wof hw 225 rfl) (ty := .int) (by decide) rfl rfl (g := (mkF m 54 #[vR a1, vI (0 : Int32), vR oh] [(.int (1 : Int32)), (.ref a1)])) rfl rfl (hb hby d39_54)
  refine Goes.step st7 ?_
  have E_a1_7 := E_a1_0.wr W7
  have F_ls_modCount_7 := F_ls_modCount_0.other W7 (Or.inl ne_ls_a1)
  have F_a1_this_0_7 := F_a1_this_0_0.other W7 (Or.inr (slot_ne (Or.inr (wof hw 232 rfl)) (Or.inl (wof hw 249 rfl)) (by decide) (t := (.object "java/util/ArrayList")) (t' := .int) (by decide) (by decide)))
  have F_a1_lastRet_7 := F_a1_lastRet_0.other W7 (Or.inr (slot_ne (Or.inl (wof hw 235 rfl)) (Or.inl (wof hw 249 rfl)) (by decide) (t := .int) (t' := .int) (by decide) (by decide)))
  have F_a1_expectedModCount_7 := F_a1_expectedModCount_0.other W7 (Or.inr (slot_ne (Or.inl (wof hw 238 rfl)) (Or.inl (wof hw 249 rfl)) (by decide) (t := .int) (t' := .int) (by decide) (by decide)))
  have F_ls_size_7 := F_ls_size_0.other W7 (Or.inl ne_ls_a1)
  have F_ls_elementData_7 := F_ls_elementData_0.other W7 (Or.inl ne_ls_a1)
  have B_oh_7 := B_oh_0.other W7 ne_oh_a1
  have z_7 : n0 ≤ h7.size := by rw [W7.size]; exact Z0
  have K_7 : Keep h0 h7 [a1] := K0.wr W7 (Or.inl (List.mem_of_getElem? (i := 0) rfl))
  have N_7 := Fr.snoc X7 N0 ge_a1
  have F_a1_cursor_7 : Fld Z h7 a1 "java/util/ArrayList$Itr" "cursor" "I" (.int (1 : Int32)) := F_a1_cursor_0.same W7
  show Goes p e below s _ _ _ T7 (mkF m 57 #[vR a1, vI (0 : Int32), vR oh] [])
  refine Goes.step (fun _ k => XS.aloadN X7.here hx rfl (hb hby d39_57) rfl rfl k) ?_
  refine Goes.step (fun _ k => XS.aloadN X7.here hx rfl (hb hby d39_58) rfl rfl k) ?_
  refine Goes.step (fun _ k => XS.iloadN X7.here hx rfl (hb hby d39_59) rfl k) ?_
  refine Goes.step (fun _ k => XS.dupX1 X7.here hx rfl (hb hby d39_60) rfl rfl rfl k) ?_
  show Goes p e below s _ _ _ T7 (mkF m 61 #[vR a1, vI (0 : Int32), vR oh] [(.int (0 : Int32)), (.ref a1), (.int (0 : Int32)), (.ref oh)])
  obtain ⟨T8, h8, X8, e8, W8, st8⟩ := putF X7 hx hZ hown (host := "") (Or.inl (wof hw 234 rfl)) Via.refl e7 F_a1_lastRet_7 E_a1_7 (Or.inl (wof hw 235 rfl)) (wof hw 225 rfl) (ty := .int) (by decide) rfl rfl (g := (mkF m 61 #[vR a1, vI (0 : Int32), vR oh] [(.int (0 : Int32)), (.ref a1), (.int (0 : Int32)), (.ref oh)])) rfl rfl (hb hby d39_61)
  refine Goes.step st8 ?_
  have E_a1_8 := E_a1_7.wr W8
  have F_ls_modCount_8 := F_ls_modCount_7.other W8 (Or.inl ne_ls_a1)
  have F_a1_this_0_8 := F_a1_this_0_7.other W8 (Or.inr (slot_ne (Or.inr (wof hw 232 rfl)) (Or.inl (wof hw 235 rfl)) (by decide) (t := (.object "java/util/ArrayList")) (t' := .int) (by decide) (by decide)))
  have F_a1_expectedModCount_8 := F_a1_expectedModCount_7.other W8 (Or.inr (slot_ne (Or.inl (wof hw 238 rfl)) (Or.inl (wof hw 235 rfl)) (by decide) (t := .int) (t' := .int) (by decide) (by decide)))
  have F_a1_cursor_8 := F_a1_cursor_7.other W8 (Or.inr (slot_ne (Or.inl (wof hw 249 rfl)) (Or.inl (wof hw 235 rfl)) (by decide) (t := .int) (t' := .int) (by decide) (by decide)))
  have F_ls_size_8 := F_ls_size_7.other W8 (Or.inl ne_ls_a1)
  have F_ls_elementData_8 := F_ls_elementData_7.other W8 (Or.inl ne_ls_a1)
  have B_oh_8 := B_oh_7.other W8 ne_oh_a1
  have z_8 : n0 ≤ h8.size := by rw [W8.size]; exact z_7
  have K_8 : Keep h0 h8 [a1] := K_7.wr W8 (Or.inl (List.mem_of_getElem? (i := 0) rfl))
  have N_8 := Fr.snoc X8 N_7 ge_a1
  have F_a1_lastRet_8 : Fld Z h8 a1 "java/util/ArrayList$Itr" "lastRet" "I" (.int (0 : Int32)) := F_a1_lastRet_7.same W8
  show Goes p e below s _ _ _ T8 (mkF m 64 #[vR a1, vI (0 : Int32), vR oh] [(.int (0 : Int32)), (.ref oh)])
  refine Goes.step (fun _ k => rdRf X8 hx hZ e8 B_oh_8 (0) rfl (by decide) (g := (mkF m 64 #[vR a1, vI (0 : Int32), vR oh] [(.int (0 : Int32)), (.ref oh)])) rfl rfl (hb hby d39_64) _ k) ?_
  show Goes p e below s _ _ _ T8 (mkF m 65 #[vR a1, vI (0 : Int32), vR oh] [(.ref ha)])
  exact Goes.outR X8 hx hlk Bd.returns rfl rfl (hb hby d39_65) (by rw [e8]; exact ⟨rfl, N_8, K_8, F_a1_this_0_8, F_a1_lastRet_8, F_a1_expectedModCount_8, F_a1_cursor_8⟩) (by decide) (by decide)
theorem d34_0 : decode jdk_38_method_9_code 0 = .ok (.aload_n 0, 1) := by decide +kernel
theorem d34_1 : decode jdk_38_method_9_code 1 = .ok (.getfield 48, 3) := by decide +kernel
theorem d34_4 : decode jdk_38_method_9_code 4 = .ok (.ifCond .ne 7, 3) := by decide +kernel
theorem d34_7 : decode jdk_38_method_9_code 7 = .ok (.iconst 1, 1) := by decide +kernel
theorem d34_8 : decode jdk_38_method_9_code 8 = .ok (.goto 4, 3) := by decide +kernel
theorem d34_12 : decode jdk_38_method_9_code 12 = .ok (.ireturn, 1) := by decide +kernel
theorem pn_34 : plainName "java/util/ArrayList" = true := by first | (simp [plainName, overriddenIn]; done) | decide +kernel
theorem ef_34 (m : MethodId) (a1 : Addr) : entryFrame m #[(.ref a1)] 1 = mkF m 0 #[.val (.ref a1)] [] := by first | (simp [entryFrame, mkF, argsToLocals, Value.category]; done) | rfl
def Q34 (Z : State) (a1 : Addr)  (h0 : Heap) (n0 : Nat) (v : Option Value) (h : Heap) (L : List Loc) : Prop := PQ h0 (some (.int (1 : Int32))) v h L
set_option maxRecDepth 65536 in
set_option maxHeartbeats 40000000 in
theorem rm34 (l : Launch) (Z : State) (a0 : Array Value) (hw : ∀ d ∈ tables_1, d.before a0 Z = true) (ws : List Jvm.Cond) (a1 : Addr)  (h0 : Heap) (n0 : Nat) (Z0 : n0 ≤ h0.size) (F_a1_size_0 : Fld Z h0 a1 "java/util/ArrayList" "size" "I" (.int (0 : Int32))) :
    MetFree l y_34 (head1 (Jvm.Cond.code y_34 jdk_38_method_9_code 1 (some .boolean) :: ws) ({ frames := 0, cells := 0, slots := 0, locals := 0 } : Room)) (fun a U => a = #[(.ref a1)] ∧ Z.Warmed39 U.vm ∧ U.heap = h0) (fun _ _ _ _ _ => True) (fun _ U o U' => ∃ v L, o = .returned v ∧ Q34 Z a1 h0 n0 v U'.heap L ∧ FrameEnd U o U' L ({ frames := 0, cells := 0, slots := 0, locals := 0 } : Room).cells ({ frames := 0, cells := 0, slots := 0, locals := 0 } : Room).slots) := by
  refine MetFree.of_bodySF (plainFor_of_name pn_34) hisR ?_
  intro p e s m args below meth c s₁ Bd hml0 hP hK
  obtain ⟨rfl, hZ, hh⟩ := hP
  have hx := Bd.exec
  have hby := Bd.bytes
  have hlk := Bd.notSynchronized
  have hml : c.maxLocals = 1 := hml0
  have hown : s.vm.findClass "java/util/ArrayList" = some m.cls := findClass_of_methodNamed Bd.named
  have hnm := (name_of_methodNamed Bd.named Bd.method).1
  have X0 : Stand p l e ({ frames := 0, cells := 0, slots := 0, locals := 0 } : Room) s m #[(.ref a1)] below meth c s₁ [] 0 0 := Stand.of_body Bd
  have e0 : s₁.heap = h0 := by rw [← hh, Bd.state]; rfl
  have N0 := Fr.nil n0
  have K0 : Keep h0 h0 [] := Keep.refl h0 _
  show Goes p e below s ({ frames := 0, cells := 0, slots := 0, locals := 0 } : Room).cells ({ frames := 0, cells := 0, slots := 0, locals := 0 } : Room).slots (Q34 Z a1 h0 n0) s₁ (entryFrame m #[(.ref a1)] 1)
  refine Goes.step (fun t k => castTop (ef_34 m a1) k) ?_
  refine Goes.step (fun _ k => XS.aloadN X0.here hx rfl (hb hby d34_0) rfl rfl k) ?_
  obtain ⟨T1, X1, e1, st1⟩ := getF X0 hx hZ hown (host := "") (Or.inl (wof hw 202 rfl)) Via.refl e0 F_a1_size_0 (g := (mkF m 1 #[vR a1] [(.ref a1)])) rfl rfl (hb hby d34_1)
  refine Goes.step st1 ?_
  show Goes p e below s _ _ _ T1 (mkF m 4 #[vR a1] [(.int (0 : Int32))])
  refine Goes.step (fun _ k => XS.ifNo X1.here hx rfl (hb hby d34_4) rfl ((if0 _ _).trans (teq (by decide : (0 : Int32) = (0 : Int32))).2) k) ?_
  show Goes p e below s _ _ _ T1 (mkF m 7 #[vR a1] [])
  refine Goes.step (fun _ k => XS.iconst X1.here hx rfl (hb hby d34_7) k) ?_
  refine Goes.step (fun _ k => XS.goto X1.here hx rfl (pc0 := 8) (pc' := 12) rfl (hb hby d34_8) (by decide) (by decide) k) ?_
  show Goes p e below s _ _ _ T1 (mkF m 12 #[vR a1] [(.int (1 : Int32))])
  exact Goes.outN X1 hx hlk (t := .boolean) Bd.returns (by simp) (hb hby d34_12) (by rw [e1]; exact ⟨rfl, rfl, rfl⟩) (by decide) (by decide)
theorem d35_0 : decode jdk_38_method_8_code 0 = .ok (.aload_n 0, 1) := by decide +kernel
theorem d35_1 : decode jdk_38_method_8_code 1 = .ok (.getfield 48, 3) := by decide +kernel
theorem d35_4 : decode jdk_38_method_8_code 4 = .ok (.ireturn, 1) := by decide +kernel
theorem pn_35 : plainName "java/util/ArrayList" = true := by first | (simp [plainName, overriddenIn]; done) | decide +kernel
theorem ef_35 (m : MethodId) (a1 : Addr) : entryFrame m #[(.ref a1)] 1 = mkF m 0 #[.val (.ref a1)] [] := by first | (simp [entryFrame, mkF, argsToLocals, Value.category]; done) | rfl
def Q35 (Z : State) (a1 : Addr) (sv : Int32) (h0 : Heap) (n0 : Nat) (v : Option Value) (h : Heap) (L : List Loc) : Prop := PQ h0 (some (.int sv)) v h L
set_option maxRecDepth 65536 in
set_option maxHeartbeats 40000000 in
theorem rm35 (l : Launch) (Z : State) (a0 : Array Value) (hw : ∀ d ∈ tables_1, d.before a0 Z = true) (ws : List Jvm.Cond) (a1 : Addr) (sv : Int32) (h0 : Heap) (n0 : Nat) (Z0 : n0 ≤ h0.size) (F_a1_size_0 : Fld Z h0 a1 "java/util/ArrayList" "size" "I" (.int (sv))) :
    MetFree l y_35 (head1 (Jvm.Cond.code y_35 jdk_38_method_8_code 1 (some .int) :: ws) ({ frames := 0, cells := 0, slots := 0, locals := 0 } : Room)) (fun a U => a = #[(.ref a1)] ∧ Z.Warmed39 U.vm ∧ U.heap = h0) (fun _ _ _ _ _ => True) (fun _ U o U' => ∃ v L, o = .returned v ∧ Q35 Z a1 sv h0 n0 v U'.heap L ∧ FrameEnd U o U' L ({ frames := 0, cells := 0, slots := 0, locals := 0 } : Room).cells ({ frames := 0, cells := 0, slots := 0, locals := 0 } : Room).slots) := by
  refine MetFree.of_bodySF (plainFor_of_name pn_35) hisR ?_
  intro p e s m args below meth c s₁ Bd hml0 hP hK
  obtain ⟨rfl, hZ, hh⟩ := hP
  have hx := Bd.exec
  have hby := Bd.bytes
  have hlk := Bd.notSynchronized
  have hml : c.maxLocals = 1 := hml0
  have hown : s.vm.findClass "java/util/ArrayList" = some m.cls := findClass_of_methodNamed Bd.named
  have hnm := (name_of_methodNamed Bd.named Bd.method).1
  have X0 : Stand p l e ({ frames := 0, cells := 0, slots := 0, locals := 0 } : Room) s m #[(.ref a1)] below meth c s₁ [] 0 0 := Stand.of_body Bd
  have e0 : s₁.heap = h0 := by rw [← hh, Bd.state]; rfl
  have N0 := Fr.nil n0
  have K0 : Keep h0 h0 [] := Keep.refl h0 _
  show Goes p e below s ({ frames := 0, cells := 0, slots := 0, locals := 0 } : Room).cells ({ frames := 0, cells := 0, slots := 0, locals := 0 } : Room).slots (Q35 Z a1 sv h0 n0) s₁ (entryFrame m #[(.ref a1)] 1)
  refine Goes.step (fun t k => castTop (ef_35 m a1) k) ?_
  refine Goes.step (fun _ k => XS.aloadN X0.here hx rfl (hb hby d35_0) rfl rfl k) ?_
  obtain ⟨T1, X1, e1, st1⟩ := getF X0 hx hZ hown (host := "") (Or.inl (wof hw 202 rfl)) Via.refl e0 F_a1_size_0 (g := (mkF m 1 #[vR a1] [(.ref a1)])) rfl rfl (hb hby d35_1)
  refine Goes.step st1 ?_
  show Goes p e below s _ _ _ T1 (mkF m 4 #[vR a1] [(.int sv)])
  exact Goes.outI X1 hx hlk Bd.returns (hb hby d35_4) (by rw [e1]; exact ⟨rfl, rfl, rfl⟩) (by decide) (by decide)
theorem d42_0 : decode prog_2_method_34_code 0 = .ok (.aload_n 0, 1) := by decide +kernel
theorem d42_1 : decode prog_2_method_34_code 1 = .ok (.getfield 90, 3) := by decide +kernel
theorem d42_4 : decode prog_2_method_34_code 4 = .ok (.ifCond .ge 14, 3) := by decide +kernel
theorem d42_18 : decode prog_2_method_34_code 18 = .ok (.aload_n 0, 1) := by decide +kernel
theorem d42_19 : decode prog_2_method_34_code 19 = .ok (.getfield 90, 3) := by decide +kernel
theorem d42_22 : decode prog_2_method_34_code 22 = .ok (.ireturn, 1) := by decide +kernel
theorem pn_42 : plainName "com/example/proxysmith/proxysmith/Bytecode" = true := by first | (simp [plainName, overriddenIn]; done) | decide +kernel
theorem ef_42 (m : MethodId) (a1 : Addr) : entryFrame m #[(.ref a1)] 1 = mkF m 0 #[.val (.ref a1)] [] := by first | (simp [entryFrame, mkF, argsToLocals, Value.category]; done) | rfl
def Q42 (Z : State) (a1 : Addr) (x : Nat) (h0 : Heap) (n0 : Nat) (v : Option Value) (h : Heap) (L : List Loc) : Prop := PQ h0 (some (.int (Int32.ofNat x))) v h L
set_option maxRecDepth 65536 in
set_option maxHeartbeats 40000000 in
theorem rm42 (l : Launch) (Z : State) (a0 : Array Value) (hw : ∀ d ∈ tables_1, d.before a0 Z = true) (ws : List Jvm.Cond) (a1 : Addr) (x : Nat) (h0 : Heap) (n0 : Nat) (Z0 : n0 ≤ h0.size) (F_a1_offset_0 : Fld Z h0 a1 "com/example/proxysmith/proxysmith/Bytecode$Label" "offset" "I" (.int (Int32.ofNat x))) (hx2 : x < 2 ^ 31) :
    MetFree l y_42 (head1 (Jvm.Cond.code y_42 prog_2_method_34_code 1 (some .int) :: ws) ({ frames := 0, cells := 0, slots := 0, locals := 0 } : Room)) (fun a U => a = #[(.ref a1)] ∧ Z.Warmed39 U.vm ∧ U.heap = h0) (fun _ _ _ _ _ => True) (fun _ U o U' => ∃ v L, o = .returned v ∧ Q42 Z a1 x h0 n0 v U'.heap L ∧ FrameEnd U o U' L ({ frames := 0, cells := 0, slots := 0, locals := 0 } : Room).cells ({ frames := 0, cells := 0, slots := 0, locals := 0 } : Room).slots) := by
  refine MetFree.of_bodySF (plainFor_of_name pn_42) hisR ?_
  intro p e s m args below meth c s₁ Bd hml0 hP hK
  obtain ⟨rfl, hZ, hh⟩ := hP
  have hx := Bd.exec
  have hby := Bd.bytes
  have hlk := Bd.notSynchronized
  have hml : c.maxLocals = 1 := hml0
  have hown : s.vm.findClass "com/example/proxysmith/proxysmith/Bytecode" = some m.cls := findClass_of_methodNamed Bd.named
  have hnm := (name_of_methodNamed Bd.named Bd.method).1
  have X0 : Stand p l e ({ frames := 0, cells := 0, slots := 0, locals := 0 } : Room) s m #[(.ref a1)] below meth c s₁ [] 0 0 := Stand.of_body Bd
  have e0 : s₁.heap = h0 := by rw [← hh, Bd.state]; rfl
  have N0 := Fr.nil n0
  have K0 : Keep h0 h0 [] := Keep.refl h0 _
  show Goes p e below s ({ frames := 0, cells := 0, slots := 0, locals := 0 } : Room).cells ({ frames := 0, cells := 0, slots := 0, locals := 0 } : Room).slots (Q42 Z a1 x h0 n0) s₁ (entryFrame m #[(.ref a1)] 1)
  refine Goes.step (fun t k => castTop (ef_42 m a1) k) ?_
  refine Goes.step (fun _ k => XS.aloadN X0.here hx rfl (hb hby d42_0) rfl rfl k) ?_
  refine Goes.step (fun _ k => getFR X0 hx hZ hown (wof hw 160 rfl) e0 F_a1_offset_0 (g := (mkF m 1 #[vR a1] [(.ref a1)])) rfl rfl (hb hby d42_1) _ k) ?_
  show Goes p e below s _ _ _ s₁ (mkF m 4 #[vR a1] [(.int (Int32.ofNat x))])
  refine Goes.step (fun _ k => XS.ifYes X0.here hx rfl (pc0 := 4) (pc' := 18) rfl (hb hby d42_4) rfl ((if0 _ _).trans (flt (own_nn hx2)).2.1) (by decide) (by decide) k) ?_
  show Goes p e below s _ _ _ s₁ (mkF m 18 #[vR a1] [])
  refine Goes.step (fun _ k => XS.aloadN X0.here hx rfl (hb hby d42_18) rfl rfl k) ?_
  refine Goes.step (fun _ k => getFR X0 hx hZ hown (wof hw 160 rfl) e0 F_a1_offset_0 (g := (mkF m 19 #[vR a1] [(.ref a1)])) rfl rfl (hb hby d42_19) _ k) ?_
  show Goes p e below s _ _ _ s₁ (mkF m 22 #[vR a1] [(.int (Int32.ofNat x))])
  exact Goes.outI X0 hx hlk Bd.returns (hb hby d42_22) (by rw [e0]; exact ⟨rfl, rfl, rfl⟩) (by decide) (by decide)
theorem d41_0 : decode prog_4_method_5_code 0 = .ok (.aload_n 0, 1) := by decide +kernel
theorem d41_1 : decode prog_4_method_5_code 1 = .ok (.getfield 7, 3) := by decide +kernel
theorem d41_4 : decode prog_4_method_5_code 4 = .ok (.areturn, 1) := by decide +kernel
theorem pn_41 : plainName "com/example/proxysmith/proxysmith/Bytecode$Handler" = true := by first | (simp [plainName, overriddenIn]; done) | decide +kernel
theorem ef_41 (m : MethodId) (a1 : Addr) : entryFrame m #[(.ref a1)] 1 = mkF m 0 #[.val (.ref a1)] [] := by first | (simp [entryFrame, mkF, argsToLocals, Value.category]; done) | rfl
def Q41 (Z : State) (a1 : Addr) (x : Addr) (h0 : Heap) (n0 : Nat) (v : Option Value) (h : Heap) (L : List Loc) : Prop := PQ h0 (some (.ref x)) v h L
set_option maxRecDepth 65536 in
set_option maxHeartbeats 40000000 in
theorem rm41 (l : Launch) (Z : State) (a0 : Array Value) (hw : ∀ d ∈ tables_1, d.before a0 Z = true) (ws : List Jvm.Cond) (a1 : Addr) (x : Addr) (h0 : Heap) (n0 : Nat) (Z0 : n0 ≤ h0.size) (F_a1_start_0 : Fld Z h0 a1 "com/example/proxysmith/proxysmith/Bytecode$Handler" "start" "Lcom/example/proxysmith/proxysmith/Bytecode$Label;" (.ref x)) :
    MetFree l y_41 (head1 (Jvm.Cond.code y_41 prog_4_method_5_code 1 (some (.object "com/example/proxysmith/proxysmith/Bytecode$Label")) :: ws) ({ frames := 0, cells := 0, slots := 0, locals := 0 } : Room)) (fun a U => a = #[(.ref a1)] ∧ Z.Warmed39 U.vm ∧ U.heap = h0) (fun _ _ _ _ _ => True) (fun _ U o U' => ∃ v L, o = .returned v ∧ Q41 Z a1 x h0 n0 v U'.heap L ∧ FrameEnd U o U' L ({ frames := 0, cells := 0, slots := 0, locals := 0 } : Room).cells ({ frames := 0, cells := 0, slots := 0, locals := 0 } : Room).slots) := by
  refine MetFree.of_bodySF (plainFor_of_name pn_41) hisR ?_
  intro p e s m args below meth c s₁ Bd hml0 hP hK
  obtain ⟨rfl, hZ, hh⟩ := hP
  have hx := Bd.exec
  have hby := Bd.bytes
  have hlk := Bd.notSynchronized
  have hml : c.maxLocals = 1 := hml0
  have hown : s.vm.findClass "com/example/proxysmith/proxysmith/Bytecode$Handler" = some m.cls := findClass_of_methodNamed Bd.named
  have hnm := (name_of_methodNamed Bd.named Bd.method).1
  have X0 : Stand p l e ({ frames := 0, cells := 0, slots := 0, locals := 0 } : Room) s m #[(.ref a1)] below meth c s₁ [] 0 0 := Stand.of_body Bd
  have e0 : s₁.heap = h0 := by rw [← hh, Bd.state]; rfl
  have N0 := Fr.nil n0
  have K0 : Keep h0 h0 [] := Keep.refl h0 _
  show Goes p e below s ({ frames := 0, cells := 0, slots := 0, locals := 0 } : Room).cells ({ frames := 0, cells := 0, slots := 0, locals := 0 } : Room).slots (Q41 Z a1 x h0 n0) s₁ (entryFrame m #[(.ref a1)] 1)
  refine Goes.step (fun t k => castTop (ef_41 m a1) k) ?_
  refine Goes.step (fun _ k => XS.aloadN X0.here hx rfl (hb hby d41_0) rfl rfl k) ?_
  obtain ⟨T1, X1, e1, st1⟩ := getF X0 hx hZ hown (host := "") (Or.inl (wof hw 183 rfl)) Via.refl e0 F_a1_start_0 (g := (mkF m 1 #[vR a1] [(.ref a1)])) rfl rfl (hb hby d41_1)
  refine Goes.step st1 ?_
  show Goes p e below s _ _ _ T1 (mkF m 4 #[vR a1] [(.ref x)])
  exact Goes.outR X1 hx hlk Bd.returns rfl rfl (hb hby d41_4) (by rw [e1]; exact ⟨rfl, rfl, rfl⟩) (by decide) (by decide)
theorem d43_0 : decode prog_4_method_6_code 0 = .ok (.aload_n 0, 1) := by decide +kernel
theorem d43_1 : decode prog_4_method_6_code 1 = .ok (.getfield 13, 3) := by decide +kernel
theorem d43_4 : decode prog_4_method_6_code 4 = .ok (.areturn, 1) := by decide +kernel
theorem pn_43 : plainName "com/example/proxysmith/proxysmith/Bytecode$Handler" = true := by first | (simp [plainName, overriddenIn]; done) | decide +kernel
theorem ef_43 (m : MethodId) (a1 : Addr) : entryFrame m #[(.ref a1)] 1 = mkF m 0 #[.val (.ref a1)] [] := by first | (simp [entryFrame, mkF, argsToLocals, Value.category]; done) | rfl
def Q43 (Z : State) (a1 : Addr) (x : Addr) (h0 : Heap) (n0 : Nat) (v : Option Value) (h : Heap) (L : List Loc) : Prop := PQ h0 (some (.ref x)) v h L
set_option maxRecDepth 65536 in
set_option maxHeartbeats 40000000 in
theorem rm43 (l : Launch) (Z : State) (a0 : Array Value) (hw : ∀ d ∈ tables_1, d.before a0 Z = true) (ws : List Jvm.Cond) (a1 : Addr) (x : Addr) (h0 : Heap) (n0 : Nat) (Z0 : n0 ≤ h0.size) (F_a1_end_0 : Fld Z h0 a1 "com/example/proxysmith/proxysmith/Bytecode$Handler" "end" "Lcom/example/proxysmith/proxysmith/Bytecode$Label;" (.ref x)) :
    MetFree l y_43 (head1 (Jvm.Cond.code y_43 prog_4_method_6_code 1 (some (.object "com/example/proxysmith/proxysmith/Bytecode$Label")) :: ws) ({ frames := 0, cells := 0, slots := 0, locals := 0 } : Room)) (fun a U => a = #[(.ref a1)] ∧ Z.Warmed39 U.vm ∧ U.heap = h0) (fun _ _ _ _ _ => True) (fun _ U o U' => ∃ v L, o = .returned v ∧ Q43 Z a1 x h0 n0 v U'.heap L ∧ FrameEnd U o U' L ({ frames := 0, cells := 0, slots := 0, locals := 0 } : Room).cells ({ frames := 0, cells := 0, slots := 0, locals := 0 } : Room).slots) := by
  refine MetFree.of_bodySF (plainFor_of_name pn_43) hisR ?_
  intro p e s m args below meth c s₁ Bd hml0 hP hK
  obtain ⟨rfl, hZ, hh⟩ := hP
  have hx := Bd.exec
  have hby := Bd.bytes
  have hlk := Bd.notSynchronized
  have hml : c.maxLocals = 1 := hml0
  have hown : s.vm.findClass "com/example/proxysmith/proxysmith/Bytecode$Handler" = some m.cls := findClass_of_methodNamed Bd.named
  have hnm := (name_of_methodNamed Bd.named Bd.method).1
  have X0 : Stand p l e ({ frames := 0, cells := 0, slots := 0, locals := 0 } : Room) s m #[(.ref a1)] below meth c s₁ [] 0 0 := Stand.of_body Bd
  have e0 : s₁.heap = h0 := by rw [← hh, Bd.state]; rfl
  have N0 := Fr.nil n0
  have K0 : Keep h0 h0 [] := Keep.refl h0 _
  show Goes p e below s ({ frames := 0, cells := 0, slots := 0, locals := 0 } : Room).cells ({ frames := 0, cells := 0, slots := 0, locals := 0 } : Room).slots (Q43 Z a1 x h0 n0) s₁ (entryFrame m #[(.ref a1)] 1)
  refine Goes.step (fun t k => castTop (ef_43 m a1) k) ?_
  refine Goes.step (fun _ k => XS.aloadN X0.here hx rfl (hb hby d43_0) rfl rfl k) ?_
  obtain ⟨T1, X1, e1, st1⟩ := getF X0 hx hZ hown (host := "") (Or.inl (wof hw 185 rfl)) Via.refl e0 F_a1_end_0 (g := (mkF m 1 #[vR a1] [(.ref a1)])) rfl rfl (hb hby d43_1)
  refine Goes.step st1 ?_
  show Goes p e below s _ _ _ T1 (mkF m 4 #[vR a1] [(.ref x)])
  exact Goes.outR X1 hx hlk Bd.returns rfl rfl (hb hby d43_4) (by rw [e1]; exact ⟨rfl, rfl, rfl⟩) (by decide) (by decide)
theorem d44_0 : decode prog_4_method_7_code 0 = .ok (.aload_n 0, 1) := by decide +kernel
theorem d44_1 : decode prog_4_method_7_code 1 = .ok (.getfield 16, 3) := by decide +kernel
theorem d44_4 : decode prog_4_method_7_code 4 = .ok (.areturn, 1) := by decide +kernel
theorem pn_44 : plainName "com/example/proxysmith/proxysmith/Bytecode$Handler" = true := by first | (simp [plainName, overriddenIn]; done) | decide +kernel
theorem ef_44 (m : MethodId) (a1 : Addr) : entryFrame m #[(.ref a1)] 1 = mkF m 0 #[.val (.ref a1)] [] := by first | (simp [entryFrame, mkF, argsToLocals, Value.category]; done) | rfl
def Q44 (Z : State) (a1 : Addr) (x : Addr) (h0 : Heap) (n0 : Nat) (v : Option Value) (h : Heap) (L : List Loc) : Prop := PQ h0 (some (.ref x)) v h L
set_option maxRecDepth 65536 in
set_option maxHeartbeats 40000000 in
theorem rm44 (l : Launch) (Z : State) (a0 : Array Value) (hw : ∀ d ∈ tables_1, d.before a0 Z = true) (ws : List Jvm.Cond) (a1 : Addr) (x : Addr) (h0 : Heap) (n0 : Nat) (Z0 : n0 ≤ h0.size) (F_a1_handler_0 : Fld Z h0 a1 "com/example/proxysmith/proxysmith/Bytecode$Handler" "handler" "Lcom/example/proxysmith/proxysmith/Bytecode$Label;" (.ref x)) :
    MetFree l y_44 (head1 (Jvm.Cond.code y_44 prog_4_method_7_code 1 (some (.object "com/example/proxysmith/proxysmith/Bytecode$Label")) :: ws) ({ frames := 0, cells := 0, slots := 0, locals := 0 } : Room)) (fun a U => a = #[(.ref a1)] ∧ Z.Warmed39 U.vm ∧ U.heap = h0) (fun _ _ _ _ _ => True) (fun _ U o U' => ∃ v L, o = .returned v ∧ Q44 Z a1 x h0 n0 v U'.heap L ∧ FrameEnd U o U' L ({ frames := 0, cells := 0, slots := 0, locals := 0 } : Room).cells ({ frames := 0, cells := 0, slots := 0, locals := 0 } : Room).slots) := by
  refine MetFree.of_bodySF (plainFor_of_name pn_44) hisR ?_
  intro p e s m args below meth c s₁ Bd hml0 hP hK
  obtain ⟨rfl, hZ, hh⟩ := hP
  have hx := Bd.exec
  have hby := Bd.bytes
  have hlk := Bd.notSynchronized
  have hml : c.maxLocals = 1 := hml0
  have hown : s.vm.findClass "com/example/proxysmith/proxysmith/Bytecode$Handler" = some m.cls := findClass_of_methodNamed Bd.named
  have hnm := (name_of_methodNamed Bd.named Bd.method).1
  have X0 : Stand p l e ({ frames := 0, cells := 0, slots := 0, locals := 0 } : Room) s m #[(.ref a1)] below meth c s₁ [] 0 0 := Stand.of_body Bd
  have e0 : s₁.heap = h0 := by rw [← hh, Bd.state]; rfl
  have N0 := Fr.nil n0
  have K0 : Keep h0 h0 [] := Keep.refl h0 _
  show Goes p e below s ({ frames := 0, cells := 0, slots := 0, locals := 0 } : Room).cells ({ frames := 0, cells := 0, slots := 0, locals := 0 } : Room).slots (Q44 Z a1 x h0 n0) s₁ (entryFrame m #[(.ref a1)] 1)
  refine Goes.step (fun t k => castTop (ef_44 m a1) k) ?_
  refine Goes.step (fun _ k => XS.aloadN X0.here hx rfl (hb hby d44_0) rfl rfl k) ?_
  obtain ⟨T1, X1, e1, st1⟩ := getF X0 hx hZ hown (host := "") (Or.inl (wof hw 187 rfl)) Via.refl e0 F_a1_handler_0 (g := (mkF m 1 #[vR a1] [(.ref a1)])) rfl rfl (hb hby d44_1)
  refine Goes.step st1 ?_
  show Goes p e below s _ _ _ T1 (mkF m 4 #[vR a1] [(.ref x)])
  exact Goes.outR X1 hx hlk Bd.returns rfl rfl (hb hby d44_4) (by rw [e1]; exact ⟨rfl, rfl, rfl⟩) (by decide) (by decide)
theorem d45_0 : decode prog_4_method_8_code 0 = .ok (.aload_n 0, 1) := by decide +kernel
theorem d45_1 : decode prog_4_method_8_code 1 = .ok (.getfield 19, 3) := by decide +kernel
theorem d45_4 : decode prog_4_method_8_code 4 = .ok (.areturn, 1) := by decide +kernel
theorem pn_45 : plainName "com/example/proxysmith/proxysmith/Bytecode$Handler" = true := by first | (simp [plainName, overriddenIn]; done) | decide +kernel
theorem ef_45 (m : MethodId) (a1 : Addr) : entryFrame m #[(.ref a1)] 1 = mkF m 0 #[.val (.ref a1)] [] := by first | (simp [entryFrame, mkF, argsToLocals, Value.category]; done) | rfl
def Q45 (Z : State) (a1 : Addr)  (h0 : Heap) (n0 : Nat) (v : Option Value) (h : Heap) (L : List Loc) : Prop := PQ h0 (some .null) v h L
set_option maxRecDepth 65536 in
set_option maxHeartbeats 40000000 in
theorem rm45 (l : Launch) (Z : State) (a0 : Array Value) (hw : ∀ d ∈ tables_1, d.before a0 Z = true) (ws : List Jvm.Cond) (a1 : Addr)  (h0 : Heap) (n0 : Nat) (Z0 : n0 ≤ h0.size) (F_a1_catchType_0 : Fld Z h0 a1 "com/example/proxysmith/proxysmith/Bytecode$Handler" "catchType" "Ljava/lang/String;" .null) :
    MetFree l y_45 (head1 (Jvm.Cond.code y_45 prog_4_method_8_code 1 (some (.object "java/lang/String")) :: ws) ({ frames := 0, cells := 0, slots := 0, locals := 0 } : Room)) (fun a U => a = #[(.ref a1)] ∧ Z.Warmed39 U.vm ∧ U.heap = h0) (fun _ _ _ _ _ => True) (fun _ U o U' => ∃ v L, o = .returned v ∧ Q45 Z a1 h0 n0 v U'.heap L ∧ FrameEnd U o U' L ({ frames := 0, cells := 0, slots := 0, locals := 0 } : Room).cells ({ frames := 0, cells := 0, slots := 0, locals := 0 } : Room).slots) := by
  refine MetFree.of_bodySF (plainFor_of_name pn_45) hisR ?_
  intro p e s m args below meth c s₁ Bd hml0 hP hK
  obtain ⟨rfl, hZ, hh⟩ := hP
  have hx := Bd.exec
  have hby := Bd.bytes
  have hlk := Bd.notSynchronized
  have hml : c.maxLocals = 1 := hml0
  have hown : s.vm.findClass "com/example/proxysmith/proxysmith/Bytecode$Handler" = some m.cls := findClass_of_methodNamed Bd.named
  have hnm := (name_of_methodNamed Bd.named Bd.method).1
  have X0 : Stand p l e ({ frames := 0, cells := 0, slots := 0, locals := 0 } : Room) s m #[(.ref a1)] below meth c s₁ [] 0 0 := Stand.of_body Bd
  have e0 : s₁.heap = h0 := by rw [← hh, Bd.state]; rfl
  have N0 := Fr.nil n0
  have K0 : Keep h0 h0 [] := Keep.refl h0 _
  show Goes p e below s ({ frames := 0, cells := 0, slots := 0, locals := 0 } : Room).cells ({ frames := 0, cells := 0, slots := 0, locals := 0 } : Room).slots (Q45 Z a1 h0 n0) s₁ (entryFrame m #[(.ref a1)] 1)
  refine Goes.step (fun t k => castTop (ef_45 m a1) k) ?_
  refine Goes.step (fun _ k => XS.aloadN X0.here hx rfl (hb hby d45_0) rfl rfl k) ?_
  obtain ⟨T1, X1, e1, st1⟩ := getF X0 hx hZ hown (host := "") (Or.inl (wof hw 189 rfl)) Via.refl e0 F_a1_catchType_0 (g := (mkF m 1 #[vR a1] [(.ref a1)])) rfl rfl (hb hby d45_1)
  refine Goes.step st1 ?_
  show Goes p e below s _ _ _ T1 (mkF m 4 #[vR a1] [.null])
  exact Goes.outR X1 hx hlk Bd.returns rfl rfl (hb hby d45_4) (by rw [e1]; exact ⟨rfl, rfl, rfl⟩) (by decide) (by decide)
theorem d48_0 : decode method_3_code 0 = .ok (.aload_n 0, 1) := by decide +kernel
theorem d48_1 : decode method_3_code 1 = .ok (.iload_n 1, 1) := by decide +kernel
theorem d48_2 : decode method_3_code 2 = .ok (.baload, 1) := by decide +kernel
theorem d48_3 : decode method_3_code 3 = .ok (.sipush 255, 3) := by decide +kernel
theorem d48_6 : decode method_3_code 6 = .ok (.iand, 1) := by decide +kernel
theorem d48_7 : decode method_3_code 7 = .ok (.bipush 8, 2) := by decide +kernel
theorem d48_9 : decode method_3_code 9 = .ok (.ishl, 1) := by decide +kernel
theorem d48_10 : decode method_3_code 10 = .ok (.aload_n 0, 1) := by decide +kernel
theorem d48_11 : decode method_3_code 11 = .ok (.iload_n 1, 1) := by decide +kernel
theorem d48_12 : decode method_3_code 12 = .ok (.iconst 1, 1) := by decide +kernel
theorem d48_13 : decode method_3_code 13 = .ok (.iadd, 1) := by decide +kernel
theorem d48_14 : decode method_3_code 14 = .ok (.baload, 1) := by decide +kernel
theorem d48_15 : decode method_3_code 15 = .ok (.sipush 255, 3) := by decide +kernel
theorem d48_18 : decode method_3_code 18 = .ok (.iand, 1) := by decide +kernel
theorem d48_19 : decode method_3_code 19 = .ok (.ior, 1) := by decide +kernel
theorem d48_20 : decode method_3_code 20 = .ok (.ireturn, 1) := by decide +kernel
theorem pn_48 : plainName "com/example/proxysmith/proxysmith/BytecodePlacePinLaw" = true := by first | (simp [plainName, overriddenIn]; done) | decide +kernel
theorem ef_48 (m : MethodId) (a1 : Addr) (p2 : Int32) : entryFrame m #[(.ref a1), (.int p2)] 2 = mkF m 0 #[.val (.ref a1), .val (.int p2)] [] := by first | (simp [entryFrame, mkF, argsToLocals, Value.category]; done) | rfl
def Q48 (Z : State) (a1 : Addr) (p2 : Int32) (i : Nat) (n : Nat) (f : Nat → Int32) (h0 : Heap) (n0 : Nat) (v : Option Value) (h : Heap) (L : List Loc) : Prop := PQ h0 (some (.int (own_u2 f i))) v h L
set_option maxRecDepth 65536 in
set_option maxHeartbeats 40000000 in
theorem rm48 (l : Launch) (Z : State) (a0 : Array Value) (hw : ∀ d ∈ tables_1, d.before a0 Z = true) (ws : List Jvm.Cond) (a1 : Addr) (p2 : Int32) (i : Nat) (n : Nat) (f : Nat → Int32) (h0 : Heap) (n0 : Nat) (Z0 : n0 ≤ h0.size) (A_a1_0 : Ari Z h0 a1 .byte n f) (hi : p2 = Int32.ofNat i) (hin : i + 1 < n) :
    MetFree l y_48 (head1 (Jvm.Cond.code y_48 method_3_code 2 (some .int) :: ws) ({ frames := 0, cells := 0, slots := 0, locals := 0 } : Room)) (fun a U => a = #[(.ref a1), (.int p2)] ∧ Z.Warmed39 U.vm ∧ U.heap = h0) (fun _ _ _ _ _ => True) (fun _ U o U' => ∃ v L, o = .returned v ∧ Q48 Z a1 p2 i n f h0 n0 v U'.heap L ∧ FrameEnd U o U' L ({ frames := 0, cells := 0, slots := 0, locals := 0 } : Room).cells ({ frames := 0, cells := 0, slots := 0, locals := 0 } : Room).slots) := by
  refine MetFree.of_bodySF (plainFor_of_name pn_48) hisR ?_
  intro p e s m args below meth c s₁ Bd hml0 hP hK
  obtain ⟨rfl, hZ, hh⟩ := hP
  have hx := Bd.exec
  have hby := Bd.bytes
  have hlk := Bd.notSynchronized
  have hml : c.maxLocals = 2 := hml0
  have hown : s.vm.findClass "com/example/proxysmith/proxysmith/BytecodePlacePinLaw" = some m.cls := findClass_of_methodNamed Bd.named
  have hnm := (name_of_methodNamed Bd.named Bd.method).1
  have X0 : Stand p l e ({ frames := 0, cells := 0, slots := 0, locals := 0 } : Room) s m #[(.ref a1), (.int p2)] below meth c s₁ [] 0 0 := Stand.of_body Bd
  have e0 : s₁.heap = h0 := by rw [← hh, Bd.state]; rfl
  have N0 := Fr.nil n0
  have K0 : Keep h0 h0 [] := Keep.refl h0 _
  show Goes p e below s ({ frames := 0, cells := 0, slots := 0, locals := 0 } : Room).cells ({ frames := 0, cells := 0, slots := 0, locals := 0 } : Room).slots (Q48 Z a1 p2 i n f h0 n0) s₁ (entryFrame m #[(.ref a1), (.int p2)] 2)
  refine Goes.step (fun t k => castTop (ef_48 m a1 p2) k) ?_
  refine Goes.step (fun _ k => XS.aloadN X0.here hx rfl (hb hby d48_0) rfl rfl k) ?_
  refine Goes.step (fun _ k => XS.iloadN X0.here hx rfl (hb hby d48_1) rfl k) ?_
  refine Goes.step (fun _ k => rdB X0 hx hZ e0 A_a1_0 (i) hi (by omega) (g := (mkF m 2 #[vR a1, vI p2] [(.int p2), (.ref a1)])) rfl rfl (hb hby d48_2) _ k) ?_
  show Goes p e below s _ _ _ s₁ (mkF m 3 #[vR a1, vI p2] [(.int (f (i)))])
  refine Goes.step (fun _ k => XS.sipush X0.here hx rfl (hb hby d48_3) k) ?_
  refine Goes.step (fun _ k => XS.iand X0.here hx rfl (hb hby d48_6) rfl k) ?_
  refine Goes.step (fun _ k => XS.bipush X0.here hx rfl (hb hby d48_7) k) ?_
  refine Goes.step (fun _ k => XS.ishl X0.here hx rfl (hb hby d48_9) rfl k) ?_
  show Goes p e below s _ _ _ s₁ (mkF m 10 #[vR a1, vI p2] [(.int (((f (i)) &&& (255 : Int32)) <<< ((8 : Int32) &&& 31)))])
  refine Goes.step (fun _ k => XS.aloadN X0.here hx rfl (hb hby d48_10) rfl rfl k) ?_
  refine Goes.step (fun _ k => XS.iloadN X0.here hx rfl (hb hby d48_11) rfl k) ?_
  refine Goes.step (fun _ k => XS.iconst X0.here hx rfl (hb hby d48_12) k) ?_
  refine Goes.step (fun _ k => XS.iadd X0.here hx rfl (hb hby d48_13) rfl k) ?_
  show Goes p e below s _ _ _ s₁ (mkF m 14 #[vR a1, vI p2] [(.int (p2 + (1 : Int32))), (.ref a1), (.int (((f (i)) &&& (255 : Int32)) <<< ((8 : Int32) &&& 31)))])
  refine Goes.step (fun _ k => rdB X0 hx hZ e0 A_a1_0 (i + 1) (by rw [hi]; exact own_succ i) hin (g := (mkF m 14 #[vR a1, vI p2] [(.int (p2 + (1 : Int32))), (.ref a1), (.int (((f (i)) &&& (255 : Int32)) <<< ((8 : Int32) &&& 31)))])) rfl rfl (hb hby d48_14) _ k) ?_
  show Goes p e below s _ _ _ s₁ (mkF m 15 #[vR a1, vI p2] [(.int (f (i + 1))), (.int (((f (i)) &&& (255 : Int32)) <<< ((8 : Int32) &&& 31)))])
  refine Goes.step (fun _ k => XS.sipush X0.here hx rfl (hb hby d48_15) k) ?_
  refine Goes.step (fun _ k => XS.iand X0.here hx rfl (hb hby d48_18) rfl k) ?_
  refine Goes.step (fun _ k => XS.ior X0.here hx rfl (hb hby d48_19) rfl k) ?_
  show Goes p e below s _ _ _ s₁ (mkF m 20 #[vR a1, vI p2] [(.int ((((f (i)) &&& (255 : Int32)) <<< ((8 : Int32) &&& 31)) ||| ((f (i + 1)) &&& (255 : Int32))))])
  exact Goes.outI X0 hx hlk Bd.returns (hb hby d48_20) (by rw [e0]; exact ⟨rfl, rfl, rfl⟩) (by decide) (by decide)
theorem d30_0 : decode prog_2_method_31_code 0 = .ok (.aload_n 0, 1) := by decide +kernel
theorem d30_1 : decode prog_2_method_31_code 1 = .ok (.getfield 12, 3) := by decide +kernel
theorem d30_4 : decode prog_2_method_31_code 4 = .ok (.invokevirtual 100, 3) := by decide +kernel
theorem d30_7 : decode prog_2_method_31_code 7 = .ok (.ldc 189, 2) := by decide +kernel
theorem d30_9 : decode prog_2_method_31_code 9 = .ok (.if_icmp .le 23, 3) := by decide +kernel
theorem d30_32 : decode prog_2_method_31_code 32 = .ok (.aload_n 0, 1) := by decide +kernel
theorem d30_33 : decode prog_2_method_31_code 33 = .ok (.getfield 21, 3) := by decide +kernel
theorem d30_36 : decode prog_2_method_31_code 36 = .ok (.invokeinterface 116 1, 5) := by decide +kernel
theorem d30_41 : decode prog_2_method_31_code 41 = .ok (.astore_n 1, 1) := by decide +kernel
theorem d30_42 : decode prog_2_method_31_code 42 = .ok (.aload_n 1, 1) := by decide +kernel
theorem d30_43 : decode prog_2_method_31_code 43 = .ok (.invokeinterface 120 1, 5) := by decide +kernel
theorem d30_48 : decode prog_2_method_31_code 48 = .ok (.ifCond .eq 63, 3) := by decide +kernel
theorem d30_111 : decode prog_2_method_31_code 111 = .ok (.aload_n 0, 1) := by decide +kernel
theorem d30_112 : decode prog_2_method_31_code 112 = .ok (.getfield 25, 3) := by decide +kernel
theorem d30_115 : decode prog_2_method_31_code 115 = .ok (.invokeinterface 212 1, 5) := by decide +kernel
theorem d30_120 : decode prog_2_method_31_code 120 = .ok (.ifCond .eq 7, 3) := by decide +kernel
theorem d30_123 : decode prog_2_method_31_code 123 = .ok (.aconst_null, 1) := by decide +kernel
theorem d30_124 : decode prog_2_method_31_code 124 = .ok (.goto 7, 3) := by decide +kernel
theorem d30_131 : decode prog_2_method_31_code 131 = .ok (.astore_n 1, 1) := by decide +kernel
theorem d30_132 : decode prog_2_method_31_code 132 = .ok (.bipush 8, 2) := by decide +kernel
theorem d30_134 : decode prog_2_method_31_code 134 = .ok (.aload_n 0, 1) := by decide +kernel
theorem d30_135 : decode prog_2_method_31_code 135 = .ok (.getfield 12, 3) := by decide +kernel
theorem d30_138 : decode prog_2_method_31_code 138 = .ok (.invokevirtual 100, 3) := by decide +kernel
theorem d30_141 : decode prog_2_method_31_code 141 = .ok (.iadd, 1) := by decide +kernel
theorem d30_142 : decode prog_2_method_31_code 142 = .ok (.iconst 2, 1) := by decide +kernel
theorem d30_143 : decode prog_2_method_31_code 143 = .ok (.iadd, 1) := by decide +kernel
theorem d30_144 : decode prog_2_method_31_code 144 = .ok (.bipush 8, 2) := by decide +kernel
theorem d30_146 : decode prog_2_method_31_code 146 = .ok (.aload_n 0, 1) := by decide +kernel
theorem d30_147 : decode prog_2_method_31_code 147 = .ok (.getfield 28, 3) := by decide +kernel
theorem d30_150 : decode prog_2_method_31_code 150 = .ok (.invokeinterface 219 1, 5) := by decide +kernel
theorem d30_155 : decode prog_2_method_31_code 155 = .ok (.imul, 1) := by decide +kernel
theorem d30_156 : decode prog_2_method_31_code 156 = .ok (.iadd, 1) := by decide +kernel
theorem d30_157 : decode prog_2_method_31_code 157 = .ok (.iconst 2, 1) := by decide +kernel
theorem d30_158 : decode prog_2_method_31_code 158 = .ok (.iadd, 1) := by decide +kernel
theorem d30_159 : decode prog_2_method_31_code 159 = .ok (.istore_n 2, 1) := by decide +kernel
theorem d30_160 : decode prog_2_method_31_code 160 = .ok (.aload_n 1, 1) := by decide +kernel
theorem d30_161 : decode prog_2_method_31_code 161 = .ok (.ifnull 11, 3) := by decide +kernel
theorem d30_172 : decode prog_2_method_31_code 172 = .ok (.new 7, 3) := by decide +kernel
theorem d30_175 : decode prog_2_method_31_code 175 = .ok (.dup, 1) := by decide +kernel
theorem d30_176 : decode prog_2_method_31_code 176 = .ok (.iload_n 2, 1) := by decide +kernel
theorem d30_177 : decode prog_2_method_31_code 177 = .ok (.invokespecial 9, 3) := by decide +kernel
theorem d30_180 : decode prog_2_method_31_code 180 = .ok (.astore_n 3, 1) := by decide +kernel
theorem d30_181 : decode prog_2_method_31_code 181 = .ok (.aload_n 3, 1) := by decide +kernel
theorem d30_182 : decode prog_2_method_31_code 182 = .ok (.aload_n 0, 1) := by decide +kernel
theorem d30_183 : decode prog_2_method_31_code 183 = .ok (.getfield 220, 3) := by decide +kernel
theorem d30_186 : decode prog_2_method_31_code 186 = .ok (.invokevirtual 186, 3) := by decide +kernel
theorem d30_189 : decode prog_2_method_31_code 189 = .ok (.aload_n 3, 1) := by decide +kernel
theorem d30_190 : decode prog_2_method_31_code 190 = .ok (.aload_n 0, 1) := by decide +kernel
theorem d30_191 : decode prog_2_method_31_code 191 = .ok (.getfield 64, 3) := by decide +kernel
theorem d30_194 : decode prog_2_method_31_code 194 = .ok (.invokevirtual 186, 3) := by decide +kernel
theorem d30_197 : decode prog_2_method_31_code 197 = .ok (.aload_n 3, 1) := by decide +kernel
theorem d30_198 : decode prog_2_method_31_code 198 = .ok (.aload_n 0, 1) := by decide +kernel
theorem d30_199 : decode prog_2_method_31_code 199 = .ok (.getfield 12, 3) := by decide +kernel
theorem d30_202 : decode prog_2_method_31_code 202 = .ok (.invokevirtual 100, 3) := by decide +kernel
theorem d30_205 : decode prog_2_method_31_code 205 = .ok (.invokevirtual 223, 3) := by decide +kernel
theorem d30_208 : decode prog_2_method_31_code 208 = .ok (.aload_n 3, 1) := by decide +kernel
theorem d30_209 : decode prog_2_method_31_code 209 = .ok (.aload_n 0, 1) := by decide +kernel
theorem d30_210 : decode prog_2_method_31_code 210 = .ok (.getfield 12, 3) := by decide +kernel
theorem d30_213 : decode prog_2_method_31_code 213 = .ok (.invokevirtual 226, 3) := by decide +kernel
theorem d30_216 : decode prog_2_method_31_code 216 = .ok (.aload_n 3, 1) := by decide +kernel
theorem d30_217 : decode prog_2_method_31_code 217 = .ok (.aload_n 0, 1) := by decide +kernel
theorem d30_218 : decode prog_2_method_31_code 218 = .ok (.getfield 28, 3) := by decide +kernel
theorem d30_221 : decode prog_2_method_31_code 221 = .ok (.invokeinterface 219 1, 5) := by decide +kernel
theorem d30_226 : decode prog_2_method_31_code 226 = .ok (.invokevirtual 186, 3) := by decide +kernel
theorem d30_229 : decode prog_2_method_31_code 229 = .ok (.aload_n 0, 1) := by decide +kernel
theorem d30_230 : decode prog_2_method_31_code 230 = .ok (.getfield 28, 3) := by decide +kernel
theorem d30_233 : decode prog_2_method_31_code 233 = .ok (.invokeinterface 116 1, 5) := by decide +kernel
theorem d30_238 : decode prog_2_method_31_code 238 = .ok (.astore 4, 2) := by decide +kernel
theorem d30_240 : decode prog_2_method_31_code 240 = .ok (.aload 4, 2) := by decide +kernel
theorem d30_242 : decode prog_2_method_31_code 242 = .ok (.invokeinterface 120 1, 5) := by decide +kernel
theorem d30_247 : decode prog_2_method_31_code 247 = .ok (.ifCond .eq 82, 3) := by decide +kernel
theorem d30_250 : decode prog_2_method_31_code 250 = .ok (.aload 4, 2) := by decide +kernel
theorem d30_252 : decode prog_2_method_31_code 252 = .ok (.invokeinterface 126 1, 5) := by decide +kernel
theorem d30_257 : decode prog_2_method_31_code 257 = .ok (.checkcast 130, 3) := by decide +kernel
theorem d30_260 : decode prog_2_method_31_code 260 = .ok (.astore 5, 2) := by decide +kernel
theorem d30_262 : decode prog_2_method_31_code 262 = .ok (.aload_n 3, 1) := by decide +kernel
theorem d30_263 : decode prog_2_method_31_code 263 = .ok (.aload 5, 2) := by decide +kernel
theorem d30_265 : decode prog_2_method_31_code 265 = .ok (.invokevirtual 230, 3) := by decide +kernel
theorem d30_268 : decode prog_2_method_31_code 268 = .ok (.invokestatic 201, 3) := by decide +kernel
theorem d30_271 : decode prog_2_method_31_code 271 = .ok (.invokevirtual 186, 3) := by decide +kernel
theorem d30_274 : decode prog_2_method_31_code 274 = .ok (.aload_n 3, 1) := by decide +kernel
theorem d30_275 : decode prog_2_method_31_code 275 = .ok (.aload 5, 2) := by decide +kernel
theorem d30_277 : decode prog_2_method_31_code 277 = .ok (.invokevirtual 233, 3) := by decide +kernel
theorem d30_280 : decode prog_2_method_31_code 280 = .ok (.invokestatic 201, 3) := by decide +kernel
theorem d30_283 : decode prog_2_method_31_code 283 = .ok (.invokevirtual 186, 3) := by decide +kernel
theorem d30_286 : decode prog_2_method_31_code 286 = .ok (.aload_n 3, 1) := by decide +kernel
theorem d30_287 : decode prog_2_method_31_code 287 = .ok (.aload 5, 2) := by decide +kernel
theorem d30_289 : decode prog_2_method_31_code 289 = .ok (.invokevirtual 236, 3) := by decide +kernel
theorem d30_292 : decode prog_2_method_31_code 292 = .ok (.invokestatic 201, 3) := by decide +kernel
theorem d30_295 : decode prog_2_method_31_code 295 = .ok (.invokevirtual 186, 3) := by decide +kernel
theorem d30_298 : decode prog_2_method_31_code 298 = .ok (.aload_n 3, 1) := by decide +kernel
theorem d30_299 : decode prog_2_method_31_code 299 = .ok (.aload 5, 2) := by decide +kernel
theorem d30_301 : decode prog_2_method_31_code 301 = .ok (.invokevirtual 239, 3) := by decide +kernel
theorem d30_304 : decode prog_2_method_31_code 304 = .ok (.ifnonnull 7, 3) := by decide +kernel
theorem d30_307 : decode prog_2_method_31_code 307 = .ok (.iconst 0, 1) := by decide +kernel
theorem d30_308 : decode prog_2_method_31_code 308 = .ok (.goto 15, 3) := by decide +kernel
theorem d30_323 : decode prog_2_method_31_code 323 = .ok (.invokevirtual 186, 3) := by decide +kernel
theorem d30_326 : decode prog_2_method_31_code 326 = .ok (.goto (-86), 3) := by decide +kernel
theorem d30_329 : decode prog_2_method_31_code 329 = .ok (.aload_n 1, 1) := by decide +kernel
theorem d30_330 : decode prog_2_method_31_code 330 = .ok (.ifnonnull 11, 3) := by decide +kernel
theorem d30_333 : decode prog_2_method_31_code 333 = .ok (.aload_n 3, 1) := by decide +kernel
theorem d30_334 : decode prog_2_method_31_code 334 = .ok (.iconst 0, 1) := by decide +kernel
theorem d30_335 : decode prog_2_method_31_code 335 = .ok (.invokevirtual 186, 3) := by decide +kernel
theorem d30_338 : decode prog_2_method_31_code 338 = .ok (.goto 32, 3) := by decide +kernel
theorem d30_370 : decode prog_2_method_31_code 370 = .ok (.aload_n 3, 1) := by decide +kernel
theorem d30_371 : decode prog_2_method_31_code 371 = .ok (.invokevirtual 251, 3) := by decide +kernel
theorem d30_374 : decode prog_2_method_31_code 374 = .ok (.areturn, 1) := by decide +kernel
theorem pn_30 : plainName "com/example/proxysmith/proxysmith/Bytecode" = true := by first | (simp [plainName, overriddenIn]; done) | decide +kernel
theorem pd_30_0 : parseMethodDescriptor "()I" = some ⟨[], some .int⟩ := by decide +kernel
theorem pd_30_1 : parseMethodDescriptor "()Ljava/util/Iterator;" = some ⟨[], some (.object "java/util/Iterator")⟩ := by decide +kernel
theorem pd_30_2 : parseMethodDescriptor "()Z" = some ⟨[], some .boolean⟩ := by decide +kernel
theorem pd_30_3 : parseMethodDescriptor "(I)V" = some ⟨[.int], none⟩ := by decide +kernel
theorem pd_30_4 : parseMethodDescriptor "(Lcom/example/proxysmith/proxysmith/ClassFileWriter$Bytes;)V" = some ⟨[(.object "com/example/proxysmith/proxysmith/ClassFileWriter$Bytes")], none⟩ := by decide +kernel
theorem pd_30_5 : parseMethodDescriptor "()Ljava/lang/Object;" = some ⟨[], some (.object "java/lang/Object")⟩ := by decide +kernel
theorem pd_30_6 : parseMethodDescriptor "()Lcom/example/proxysmith/proxysmith/Bytecode$Label;" = some ⟨[], some (.object "com/example/proxysmith/proxysmith/Bytecode$Label")⟩ := by decide +kernel
theorem pd_30_7 : parseMethodDescriptor "(Lcom/example/proxysmith/proxysmith/Bytecode$Label;)I" = some ⟨[(.object "com/example/proxysmith/proxysmith/Bytecode$Label")], some .int⟩ := by decide +kernel
theorem pd_30_8 : parseMethodDescriptor "()Ljava/lang/String;" = some ⟨[], some (.object "java/lang/String")⟩ := by decide +kernel
theorem pd_30_9 : parseMethodDescriptor "()[B" = some ⟨[], some (.array .byte)⟩ := by decide +kernel
theorem ef_30 (m : MethodId) (a1 : Addr) : entryFrame m #[(.ref a1)] 6 = mkF m 0 #[.val (.ref a1), .unset, .unset, .unset, .unset, .unset] [] := by first | (simp [entryFrame, mkF, argsToLocals, Value.category]; done) | rfl
def Q30 (Z : State) (a1 : Addr) (co : Addr) (lj : Addr) (lf : Addr) (lh : Addr) (k : Nat) (ml : Int32) (b : Addr) (sz : Nat) (f : Nat → Int32) (oh : Addr) (ha : Addr) (l1 : Addr) (l2 : Addr) (l3 : Addr) (x1 : Nat) (x2 : Nat) (x3 : Nat) (h0 : Heap) (n0 : Nat) (v : Option Value) (h : Heap) (L : List Loc) : Prop := ∃ o g, v = some (.ref o) ∧ Fr n0 L ∧ Keep h0 h [] ∧ h0.size ≤ o ∧ Ari Z h o .byte (sz + 20) g ∧ own_u2 g (0) = Int32.ofNat k ∧ own_u2 g (4) = 0 ∧ own_u2 g (6) = Int32.ofNat sz ∧ own_u2 g (8 + sz) = 1 ∧ own_u2 g (10 + sz) = Int32.ofNat x1 ∧ own_u2 g (12 + sz) = Int32.ofNat x2 ∧ own_u2 g (14 + sz) = Int32.ofNat x3 ∧ own_u2 g (16 + sz) = 0 ∧ own_u2 g (18 + sz) = 0
set_option maxRecDepth 65536 in
set_option maxHeartbeats 40000000 in
theorem rm30 (l : Launch) (Z : State) (a0 : Array Value) (hw : ∀ d ∈ tables_1, d.before a0 Z = true) (ws : List Jvm.Cond) (a1 : Addr) (co : Addr) (lj : Addr) (lf : Addr) (lh : Addr) (k : Nat) (ml : Int32) (b : Addr) (sz : Nat) (f : Nat → Int32) (oh : Addr) (ha : Addr) (l1 : Addr) (l2 : Addr) (l3 : Addr) (x1 : Nat) (x2 : Nat) (x3 : Nat) (h0 : Heap) (n0 : Nat) (Z0 : n0 ≤ h0.size) (HA : Bya Z h0 a1 co lj lf lh k ml) (HB : Byb Z h0 co b sz f) (HM : Bym Z h0 lj lf lh oh ha l1 l2 l3) (F_l1_offset_0 : Fld Z h0 l1 "com/example/proxysmith/proxysmith/Bytecode$Label" "offset" "I" (.int (Int32.ofNat x1))) (F_l2_offset_0 : Fld Z h0 l2 "com/example/proxysmith/proxysmith/Bytecode$Label" "offset" "I" (.int (Int32.ofNat x2))) (F_l3_offset_0 : Fld Z h0 l3 "com/example/proxysmith/proxysmith/Bytecode$Label" "offset" "I" (.int (Int32.ofNat x3))) (hsz : sz ≤ 12) (hx1 : x1 ≤ 12) (hx2 : x2 ≤ 12) (hx3 : x3 ≤ 12) (hk : k ≤ 8) :
    MetFree l y_30 (head1 (Jvm.Cond.code y_30 prog_2_method_31_code 6 (some (.array .byte)) :: ws) ({ frames := 3, cells := 4, slots := 42, locals := 40 } : Room)) (fun a U => a = #[(.ref a1)] ∧ Z.Warmed39 U.vm ∧ U.heap = h0) (fun _ _ _ _ _ => True) (fun _ U o U' => ∃ v L, o = .returned v ∧ Q30 Z a1 co lj lf lh k ml b sz f oh ha l1 l2 l3 x1 x2 x3 h0 n0 v U'.heap L ∧ FrameEnd U o U' L ({ frames := 3, cells := 4, slots := 42, locals := 40 } : Room).cells ({ frames := 3, cells := 4, slots := 42, locals := 40 } : Room).slots) := by
  refine MetFree.of_bodySF (plainFor_of_name pn_30) hisR ?_
  intro p e s m args below meth c s₁ Bd hml0 hP hK
  obtain ⟨rfl, hZ, hh⟩ := hP
  have hx := Bd.exec
  have hby := Bd.bytes
  have hlk := Bd.notSynchronized
  have hml : c.maxLocals = 6 := hml0
  have hown : s.vm.findClass "com/example/proxysmith/proxysmith/Bytecode" = some m.cls := findClass_of_methodNamed Bd.named
  have hnm := (name_of_methodNamed Bd.named Bd.method).1
  have X0 : Stand p l e ({ frames := 3, cells := 4, slots := 42, locals := 40 } : Room) s m #[(.ref a1)] below meth c s₁ [] 0 0 := Stand.of_body Bd
  have e0 : s₁.heap = h0 := by rw [← hh, Bd.state]; rfl
  have N0 := Fr.nil n0
  have K0 : Keep h0 h0 [] := Keep.refl h0 _
  show Goes p e below s ({ frames := 3, cells := 4, slots := 42, locals := 40 } : Room).cells ({ frames := 3, cells := 4, slots := 42, locals := 40 } : Room).slots (Q30 Z a1 co lj lf lh k ml b sz f oh ha l1 l2 l3 x1 x2 x3 h0 n0) s₁ (entryFrame m #[(.ref a1)] 6)
  refine Goes.step (fun t k => castTop (ef_30 m a1) k) ?_
  obtain ⟨E_a1_0, F_a1_code_0, F_a1_jumps_0, F_a1_frames_0, F_a1_handlers_0, F_a1_reachable_0, F_a1_stack_0, F_a1_maxStack_0, F_a1_maxLocals_0⟩ := HA
  obtain ⟨E_co_0, F_co_bytes_0, F_co_size_0, A_b_0⟩ := HB
  obtain ⟨E_lj_0, F_lj_size_0, F_lj_modCount_0, E_lf_0, F_lf_size_0, E_lh_0, F_lh_size_0, F_lh_modCount_0, F_lh_elementData_0, B_oh_0, E_ha_0, F_ha_start_0, F_ha_end_0, F_ha_handler_0, F_ha_catchType_0⟩ := HM
  have hn : sz + 20 ≤ 64 := by omega
  have hn3 : sz + 20 ≤ 32 := by omega
  refine Goes.step (fun _ k => XS.aloadN X0.here hx rfl (hb hby d30_0) rfl rfl k) ?_
  obtain ⟨T1, X1, e1, st1⟩ := getF X0 hx hZ hown (host := "") (Or.inl (wof hw 27 rfl)) Via.refl e0 F_a1_code_0 (g := (mkF m 1 #[vR a1, vU, vU, vU, vU, vU] [(.ref a1)])) rfl rfl (hb hby d30_1)
  refine Goes.step st1 ?_
  show Goes p e below s _ _ _ T1 (mkF m 4 #[vR a1, vU, vU, vU, vU, vU] [(.ref co)])
  obtain ⟨T2, X2, e2, st2⟩ := own_pure (r := some (.int (Int32.ofNat sz))) (fun _ _ _ q => q) (callXV X1 hx hZ (C := "com/example/proxysmith/proxysmith/ClassFileWriter$Bytes") (b := co) (y := y_24) (z := y_24) hown (wof hw 161 rfl) (wof hw 162 rfl) (wof hw 164 rfl) (wof hw 163 rfl) (wof hw 165 rfl) (wof hw 20 rfl) (notFace_of_selects (args := #[]) (mvT hZ (wof hw 164 rfl))) (by decide) (W := 0) (argsL := []) (rest := []) (rm24 l Z a0 hw [] co sz h0 n0 Z0 F_co_size_0) (by decide) (by decide) (by decide) (by decide) e1 E_co_0 (g := (mkF m 4 #[vR a1, vU, vU, vU, vU, vU] [(.ref co)])) rfl (by rw [hml]; rfl) (lenOf pd_30_0 rfl) rfl (by show 2 * 0 + _ ≤ _; exact Nat.le_of_eq rfl) (hb hby d30_4))
  refine Goes.step st2 ?_
  show Goes p e below s _ _ _ T2 (mkF m 7 #[vR a1, vU, vU, vU, vU, vU] [(.int (Int32.ofNat sz))])
  refine Goes.step (fun _ k => X2.ldcInt hx hown (mvT hZ (wof hw 215 rfl)) (g := (mkF m 7 #[vR a1, vU, vU, vU, vU, vU] [(.int (Int32.ofNat sz))])) rfl (hb hby d30_7) _ k) ?_
  show Goes p e below s _ _ _ T2 (mkF m 9 #[vR a1, vU, vU, vU, vU, vU] [(.int (65535 : Int32)), (.int (Int32.ofNat sz))])
  refine Goes.step (fun _ k => XS.icmpYes X2.here hx rfl (pc0 := 9) (pc' := 32) rfl (hb hby d30_9) rfl (flt (own_lt65 hsz)).2.2.2 (by decide) (by decide) k) ?_
  show Goes p e below s _ _ _ T2 (mkF m 32 #[vR a1, vU, vU, vU, vU, vU] [])
  refine Goes.step (fun _ k => XS.aloadN X2.here hx rfl (hb hby d30_32) rfl rfl k) ?_
  obtain ⟨T3, X3, e3, st3⟩ := getF X2 hx hZ hown (host := "") (Or.inl (wof hw 54 rfl)) Via.refl e2 F_a1_jumps_0 (g := (mkF m 33 #[vR a1, vU, vU, vU, vU, vU] [(.ref a1)])) rfl rfl (hb hby d30_33)
  refine Goes.step st3 ?_
  show Goes p e below s _ _ _ T3 (mkF m 36 #[vR a1, vU, vU, vU, vU, vU] [(.ref lj)])
  obtain ⟨v4, T4, h4, L4, X4, e4, Q4, st4⟩ := callXF X3 hx hZ (C := "java/util/ArrayList") (b := lj) (y := y_147) (z := y_31) hown (wof hw 216 rfl) (wof hw 217 rfl) (wof hw 218 rfl) (wof hw 219 rfl) (wof hw 220 rfl) (wof hw 221 rfl) (wof hw 222 rfl) (wof hw 198 rfl) (wof hw 223 rfl) (wof hw 31 rfl) (by decide) (W := 0) (argsL := []) (rest := []) (rm31 l Z a0 hw [] lj (0 : Int32) h0 n0 Z0 F_lj_modCount_0) (by decide) (by decide) (by decide) (by decide) e3 E_lj_0 (g := (mkF m 36 #[vR a1, vU, vU, vU, vU, vU] [(.ref lj)])) rfl (by rw [hml]; rfl) (lenOf pd_30_1 rfl) rfl (by show 2 * 0 + _ ≤ _; exact Nat.le_of_eq rfl) (hb hby d30_36)
  obtain ⟨o4, rfl, NQ4, KQ4, so4, hE4, hI04, hI14, hI24, hI34⟩ := Q4
  refine Goes.step st4 ?_
  have E_a1_4 := E_a1_0.keep KQ4
  have F_a1_code_4 := F_a1_code_0.keep KQ4 nin0
  have F_a1_jumps_4 := F_a1_jumps_0.keep KQ4 nin0
  have F_a1_frames_4 := F_a1_frames_0.keep KQ4 nin0
  have F_a1_handlers_4 := F_a1_handlers_0.keep KQ4 nin0
  have F_a1_maxStack_4 := F_a1_maxStack_0.keep KQ4 nin0
  have F_a1_maxLocals_4 := F_a1_maxLocals_0.keep KQ4 nin0
  have E_co_4 := E_co_0.keep KQ4
  have F_co_bytes_4 := F_co_bytes_0.keep KQ4 nin0
  have F_co_size_4 := F_co_size_0.keep KQ4 nin0
  have A_b_4 := A_b_0.keep KQ4 nin0
  have E_lj_4 := E_lj_0.keep KQ4
  have F_lj_size_4 := F_lj_size_0.keep KQ4 nin0
  have F_lj_modCount_4 := F_lj_modCount_0.keep KQ4 nin0
  have E_lf_4 := E_lf_0.keep KQ4
  have F_lf_size_4 := F_lf_size_0.keep KQ4 nin0
  have E_lh_4 := E_lh_0.keep KQ4
  have F_lh_size_4 := F_lh_size_0.keep KQ4 nin0
  have F_lh_modCount_4 := F_lh_modCount_0.keep KQ4 nin0
  have F_lh_elementData_4 := F_lh_elementData_0.keep KQ4 nin0
  have B_oh_4 := B_oh_0.keep KQ4 nin0
  have E_ha_4 := E_ha_0.keep KQ4
  have F_ha_start_4 := F_ha_start_0.keep KQ4 nin0
  have F_ha_end_4 := F_ha_end_0.keep KQ4 nin0
  have F_ha_handler_4 := F_ha_handler_0.keep KQ4 nin0
  have F_ha_catchType_4 := F_ha_catchType_0.keep KQ4 nin0
  have F_l1_offset_4 := F_l1_offset_0.keep KQ4 nin0
  have F_l2_offset_4 := F_l2_offset_0.keep KQ4 nin0
  have F_l3_offset_4 := F_l3_offset_0.keep KQ4 nin0
  have z_4 : n0 ≤ h4.size := Nat.le_trans Z0 KQ4.1
  have K_4 : Keep h0 h4 [] := Keep.trans K0 KQ4 all0
  have N_4 := Fr.app N0 NQ4
  have ne_o4_lf : o4 ≠ lf := Nat.ne_of_gt (Nat.lt_of_lt_of_le E_lf_0.lt so4)
  have ne_o4_l3 : o4 ≠ l3 := Nat.ne_of_gt (Nat.lt_of_lt_of_le F_l3_offset_0.lt so4)
  have ne_o4_l1 : o4 ≠ l1 := Nat.ne_of_gt (Nat.lt_of_lt_of_le F_l1_offset_0.lt so4)
  have ne_o4_ha : o4 ≠ ha := Nat.ne_of_gt (Nat.lt_of_lt_of_le E_ha_0.lt so4)
  have ne_o4_lj : o4 ≠ lj := Nat.ne_of_gt (Nat.lt_of_lt_of_le E_lj_0.lt so4)
  have ne_o4_b : o4 ≠ b := Nat.ne_of_gt (Nat.lt_of_lt_of_le A_b_0.lt so4)
  have ne_o4_a1 : o4 ≠ a1 := Nat.ne_of_gt (Nat.lt_of_lt_of_le E_a1_0.lt so4)
  have ne_o4_l2 : o4 ≠ l2 := Nat.ne_of_gt (Nat.lt_of_lt_of_le F_l2_offset_0.lt so4)
  have ne_o4_oh : o4 ≠ oh := Nat.ne_of_gt (Nat.lt_of_lt_of_le B_oh_0.lt so4)
  have ne_o4_co : o4 ≠ co := Nat.ne_of_gt (Nat.lt_of_lt_of_le E_co_0.lt so4)
  have ne_o4_lh : o4 ≠ lh := Nat.ne_of_gt (Nat.lt_of_lt_of_le E_lh_0.lt so4)
  have ge_o4 : n0 ≤ o4 := Nat.le_trans Z0 so4
  have sz_o4 : h0.size ≤ o4 := Nat.le_trans K0.1 so4
  show Goes p e below s _ _ _ T4 (mkF m 41 #[vR a1, vU, vU, vU, vU, vU] [(.ref o4)])
  refine Goes.step (fun _ k => XS.astoreN X4.here hx rfl (hb hby d30_41) rfl rfl (l' := #[vR a1, vR o4, vU, vU, vU, vU]) rfl k) ?_
  refine Goes.step (fun _ k => XS.aloadN X4.here hx rfl (hb hby d30_42) rfl rfl k) ?_
  obtain ⟨T5, X5, e5, st5⟩ := own_pure5 (r := some (.int (0 : Int32))) (fun _ _ _ q => q) (callXF X4 hx hZ (C := "java/util/ArrayList$Itr") (b := o4) (y := y_148) (z := y_33) hown (wof hw 239 rfl) (wof hw 240 rfl) (wof hw 241 rfl) (wof hw 242 rfl) (wof hw 243 rfl) (wof hw 244 rfl) (wof hw 245 rfl) (wof hw 246 rfl) (wof hw 247 rfl) (wof hw 226 rfl) (by decide) (W := 0) (argsL := []) (rest := []) (rm33e l Z a0 hw [] o4 lj (0 : Int32) (0 : Int32) h4 n0 z_4 hI04 hI34 F_lj_size_4 (by decide)) (by decide) (by decide) (by decide) (by decide) e4 hE4 (g := (mkF m 43 #[vR a1, vR o4, vU, vU, vU, vU] [(.ref o4)])) rfl (by rw [hml]; rfl) (lenOf pd_30_2 rfl) rfl (by show 2 * 0 + _ ≤ _; exact Nat.le_of_eq rfl) (hb hby d30_43))
  refine Goes.step st5 ?_
  show Goes p e below s _ _ _ T5 (mkF m 48 #[vR a1, vR o4, vU, vU, vU, vU] [(.int (0 : Int32))])
  refine Goes.step (fun _ k => XS.ifYes X5.here hx rfl (pc0 := 48) (pc' := 111) rfl (hb hby d30_48) rfl ((if0 _ _).trans (teq (by decide : (0 : Int32) = (0 : Int32))).1) (by decide) (by decide) k) ?_
  show Goes p e below s _ _ _ T5 (mkF m 111 #[vR a1, vR o4, vU, vU, vU, vU] [])
  refine Goes.step (fun _ k => XS.aloadN X5.here hx rfl (hb hby d30_111) rfl rfl k) ?_
  obtain ⟨T6, X6, e6, st6⟩ := getF X5 hx hZ hown (host := "") (Or.inl (wof hw 56 rfl)) Via.refl e5 F_a1_frames_4 (g := (mkF m 112 #[vR a1, vR o4, vU, vU, vU, vU] [(.ref a1)])) rfl rfl (hb hby d30_112)
  refine Goes.step st6 ?_
  show Goes p e below s _ _ _ T6 (mkF m 115 #[vR a1, vR o4, vU, vU, vU, vU] [(.ref lf)])
  obtain ⟨T7, X7, e7, st7⟩ := own_pure5 (r := some (.int (1 : Int32))) (fun _ _ _ q => q) (callXF X6 hx hZ (C := "java/util/ArrayList") (b := lf) (y := y_149) (z := y_34) hown (wof hw 251 rfl) (wof hw 252 rfl) (wof hw 253 rfl) (wof hw 254 rfl) (wof hw 255 rfl) (wof hw 256 rfl) (wof hw 257 rfl) (wof hw 198 rfl) (wof hw 258 rfl) (wof hw 31 rfl) (by decide) (W := 0) (argsL := []) (rest := []) (rm34 l Z a0 hw [] lf h4 n0 z_4 F_lf_size_4) (by decide) (by decide) (by decide) (by decide) e6 E_lf_4 (g := (mkF m 115 #[vR a1, vR o4, vU, vU, vU, vU] [(.ref lf)])) rfl (by rw [hml]; rfl) (lenOf pd_30_2 rfl) rfl (by show 2 * 0 + _ ≤ _; exact Nat.le_of_eq rfl) (hb hby d30_115))
  refine Goes.step st7 ?_
  show Goes p e below s _ _ _ T7 (mkF m 120 #[vR a1, vR o4, vU, vU, vU, vU] [(.int (1 : Int32))])
  refine Goes.step (fun _ k => XS.ifNo X7.here hx rfl (hb hby d30_120) rfl ((if0 _ _).trans (feq (by decide : ¬ ((1 : Int32) = (0 : Int32)))).1) k) ?_
  show Goes p e below s _ _ _ T7 (mkF m 123 #[vR a1, vR o4, vU, vU, vU, vU] [])
  refine Goes.step (fun _ k => XS.aconstNull X7.here hx rfl (hb hby d30_123) k) ?_
  refine Goes.step (fun _ k => XS.goto X7.here hx rfl (pc0 := 124) (pc' := 131) rfl (hb hby d30_124) (by decide) (by decide) k) ?_
  refine Goes.step (fun _ k => XS.astoreN X7.here hx rfl (hb hby d30_131) rfl rfl (l' := #[vR a1, .val .null, vU, vU, vU, vU]) rfl k) ?_
  show Goes p e below s _ _ _ T7 (mkF m 132 #[vR a1, .val .null, vU, vU, vU, vU] [])
  refine Goes.step (fun _ k => XS.bipush X7.here hx rfl (hb hby d30_132) k) ?_
  refine Goes.step (fun _ k => XS.aloadN X7.here hx rfl (hb hby d30_134) rfl rfl k) ?_
  obtain ⟨T8, X8, e8, st8⟩ := getF X7 hx hZ hown (host := "") (Or.inl (wof hw 27 rfl)) Via.refl e7 F_a1_code_4 (g := (mkF m 135 #[vR a1, .val .null, vU, vU, vU, vU] [(.ref a1), (.int (8 : Int32))])) rfl rfl (hb hby d30_135)
  refine Goes.step st8 ?_
  show Goes p e below s _ _ _ T8 (mkF m 138 #[vR a1, .val .null, vU, vU, vU, vU] [(.ref co), (.int (8 : Int32))])
  obtain ⟨T9, X9, e9, st9⟩ := own_pure (r := some (.int (Int32.ofNat sz))) (fun _ _ _ q => q) (callXV X8 hx hZ (C := "com/example/proxysmith/proxysmith/ClassFileWriter$Bytes") (b := co) (y := y_24) (z := y_24) hown (wof hw 161 rfl) (wof hw 162 rfl) (wof hw 164 rfl) (wof hw 163 rfl) (wof hw 165 rfl) (wof hw 20 rfl) (notFace_of_selects (args := #[]) (mvT hZ (wof hw 164 rfl))) (by decide) (W := 1) (argsL := []) (rest := [(.int (8 : Int32))]) (rm24 l Z a0 hw [] co sz h4 n0 z_4 F_co_size_4) (by decide) (by decide) (by decide) (by decide) e8 E_co_4 (g := (mkF m 138 #[vR a1, .val .null, vU, vU, vU, vU] [(.ref co), (.int (8 : Int32))])) rfl (by rw [hml]; rfl) (lenOf pd_30_0 rfl) rfl (by show 2 * 0 + _ ≤ _; exact Nat.le_of_eq rfl) (hb hby d30_138))
  refine Goes.step st9 ?_
  show Goes p e below s _ _ _ T9 (mkF m 141 #[vR a1, .val .null, vU, vU, vU, vU] [(.int (Int32.ofNat sz)), (.int (8 : Int32))])
  refine Goes.step (fun _ k => XS.iadd X9.here hx rfl (hb hby d30_141) rfl k) ?_
  show Goes p e below s _ _ _ T9 (mkF m 142 #[vR a1, .val .null, vU, vU, vU, vU] [(.int ((8 : Int32) + (Int32.ofNat sz)))])
  refine Goes.step (fun _ k => XS.iconst X9.here hx rfl (hb hby d30_142) k) ?_
  refine Goes.step (fun _ k => XS.iadd X9.here hx rfl (hb hby d30_143) rfl k) ?_
  show Goes p e below s _ _ _ T9 (mkF m 144 #[vR a1, .val .null, vU, vU, vU, vU] [(.int (((8 : Int32) + (Int32.ofNat sz)) + (2 : Int32)))])
  refine Goes.step (fun _ k => XS.bipush X9.here hx rfl (hb hby d30_144) k) ?_
  refine Goes.step (fun _ k => XS.aloadN X9.here hx rfl (hb hby d30_146) rfl rfl k) ?_
  obtain ⟨T10, X10, e10, st10⟩ := getF X9 hx hZ hown (host := "") (Or.inl (wof hw 58 rfl)) Via.refl e9 F_a1_handlers_4 (g := (mkF m 147 #[vR a1, .val .null, vU, vU, vU, vU] [(.ref a1), (.int (8 : Int32)), (.int (((8 : Int32) + (Int32.ofNat sz)) + (2 : Int32)))])) rfl rfl (hb hby d30_147)
  refine Goes.step st10 ?_
  show Goes p e below s _ _ _ T10 (mkF m 150 #[vR a1, .val .null, vU, vU, vU, vU] [(.ref lh), (.int (8 : Int32)), (.int (((8 : Int32) + (Int32.ofNat sz)) + (2 : Int32)))])
  obtain ⟨T11, X11, e11, st11⟩ := own_pure5 (r := some (.int (1 : Int32))) (fun _ _ _ q => q) (callXF X10 hx hZ (C := "java/util/ArrayList") (b := lh) (y := y_150) (z := y_35) hown (wof hw 259 rfl) (wof hw 260 rfl) (wof hw 261 rfl) (wof hw 262 rfl) (wof hw 263 rfl) (wof hw 264 rfl) (wof hw 265 rfl) (wof hw 198 rfl) (wof hw 266 rfl) (wof hw 31 rfl) (by decide) (W := 2) (argsL := []) (rest := [(.int (8 : Int32)), (.int (((8 : Int32) + (Int32.ofNat sz)) + (2 : Int32)))]) (rm35 l Z a0 hw [] lh (1 : Int32) h4 n0 z_4 F_lh_size_4) (by decide) (by decide) (by decide) (by decide) e10 E_lh_4 (g := (mkF m 150 #[vR a1, .val .null, vU, vU, vU, vU] [(.ref lh), (.int (8 : Int32)), (.int (((8 : Int32) + (Int32.ofNat sz)) + (2 : Int32)))])) rfl (by rw [hml]; rfl) (lenOf pd_30_0 rfl) rfl (by show 2 * 0 + _ ≤ _; exact Nat.le_of_eq rfl) (hb hby d30_150))
  refine Goes.step st11 ?_
  show Goes p e below s _ _ _ T11 (mkF m 155 #[vR a1, .val .null, vU, vU, vU, vU] [(.int (1 : Int32)), (.int (8 : Int32)), (.int (((8 : Int32) + (Int32.ofNat sz)) + (2 : Int32)))])
  refine Goes.step (fun _ k => XS.imul X11.here hx rfl (hb hby d30_155) rfl k) ?_
  show Goes p e below s _ _ _ T11 (mkF m 156 #[vR a1, .val .null, vU, vU, vU, vU] [(.int (8 : Int32)), (.int (((8 : Int32) + (Int32.ofNat sz)) + (2 : Int32)))])
  refine Goes.step (fun _ k => XS.iadd X11.here hx rfl (hb hby d30_156) rfl k) ?_
  show Goes p e below s _ _ _ T11 (mkF m 157 #[vR a1, .val .null, vU, vU, vU, vU] [(.int ((((8 : Int32) + (Int32.ofNat sz)) + (2 : Int32)) + (8 : Int32)))])
  refine Goes.step (fun _ k => XS.iconst X11.here hx rfl (hb hby d30_157) k) ?_
  refine Goes.step (fun _ k => XS.iadd X11.here hx rfl (hb hby d30_158) rfl k) ?_
  show Goes p e below s _ _ _ T11 (mkF m 159 #[vR a1, .val .null, vU, vU, vU, vU] [(.int (((((8 : Int32) + (Int32.ofNat sz)) + (2 : Int32)) + (8 : Int32)) + (2 : Int32)))])
  rw [show (((((8 : Int32) + (Int32.ofNat sz)) + (2 : Int32)) + (8 : Int32)) + (2 : Int32)) = Int32.ofNat (sz + 20) from own_tot sz]
  refine Goes.step (fun _ k => XS.istoreN X11.here hx rfl (hb hby d30_159) rfl (l' := #[vR a1, .val .null, vI (Int32.ofNat (sz + 20)), vU, vU, vU]) rfl k) ?_
  refine Goes.step (fun _ k => XS.aloadN X11.here hx rfl (hb hby d30_160) rfl rfl k) ?_
  refine Goes.step (fun _ k => XS.ifnullYes X11.here hx rfl (pc0 := 161) (pc' := 172) rfl (hb hby d30_161) rfl (by decide) (by decide) k) ?_
  show Goes p e below s _ _ _ T11 (mkF m 172 #[vR a1, .val .null, vI (Int32.ofNat (sz + 20)), vU, vU, vU] [])
  obtain ⟨T12, h12, X12, e12, E12, A12, D12, -, st12⟩ := newO X11 hx hZ hown (wof hw 18 rfl) (wof hw 19 rfl) (wof hw 20 rfl) e11 (g := (mkF m 172 #[vR a1, .val .null, vI (Int32.ofNat (sz + 20)), vU, vU, vU] [])) rfl (hb hby d30_172) (by decide) (by decide)
  obtain ⟨b12, g_12⟩ : ∃ z, z = h4.size := ⟨_, rfl⟩
  rw [← g_12] at A12 D12 st12
  refine Goes.step st12 ?_
  have ne_a1_b12 : a1 ≠ b12 := Nat.ne_of_lt (by rw [g_12]; exact E_a1_4.lt)
  have ne_b_b12 : b ≠ b12 := Nat.ne_of_lt (by rw [g_12]; exact A_b_4.lt)
  have ne_co_b12 : co ≠ b12 := Nat.ne_of_lt (by rw [g_12]; exact E_co_4.lt)
  have ne_ha_b12 : ha ≠ b12 := Nat.ne_of_lt (by rw [g_12]; exact E_ha_4.lt)
  have ne_l1_b12 : l1 ≠ b12 := Nat.ne_of_lt (by rw [g_12]; exact F_l1_offset_4.lt)
  have ne_l2_b12 : l2 ≠ b12 := Nat.ne_of_lt (by rw [g_12]; exact F_l2_offset_4.lt)
  have ne_l3_b12 : l3 ≠ b12 := Nat.ne_of_lt (by rw [g_12]; exact F_l3_offset_4.lt)
  have ne_lh_b12 : lh ≠ b12 := Nat.ne_of_lt (by rw [g_12]; exact E_lh_4.lt)
  have ne_oh_b12 : oh ≠ b12 := Nat.ne_of_lt (by rw [g_12]; exact B_oh_4.lt)
  have ge_b12 : n0 ≤ b12 := by rw [g_12]; exact z_4
  have sz_b12 : h0.size ≤ b12 := by rw [g_12]; exact K_4.1
  have E_a1_12 := E_a1_4.ext E12
  have F_a1_code_12 := F_a1_code_4.ext E12
  have F_a1_handlers_12 := F_a1_handlers_4.ext E12
  have F_a1_maxStack_12 := F_a1_maxStack_4.ext E12
  have F_a1_maxLocals_12 := F_a1_maxLocals_4.ext E12
  have E_co_12 := E_co_4.ext E12
  have F_co_bytes_12 := F_co_bytes_4.ext E12
  have F_co_size_12 := F_co_size_4.ext E12
  have A_b_12 := A_b_4.ext E12
  have E_lh_12 := E_lh_4.ext E12
  have F_lh_size_12 := F_lh_size_4.ext E12
  have F_lh_modCount_12 := F_lh_modCount_4.ext E12
  have F_lh_elementData_12 := F_lh_elementData_4.ext E12
  have B_oh_12 := B_oh_4.ext E12
  have E_ha_12 := E_ha_4.ext E12
  have F_ha_start_12 := F_ha_start_4.ext E12
  have F_ha_end_12 := F_ha_end_4.ext E12
  have F_ha_handler_12 := F_ha_handler_4.ext E12
  have F_ha_catchType_12 := F_ha_catchType_4.ext E12
  have F_l1_offset_12 := F_l1_offset_4.ext E12
  have F_l2_offset_12 := F_l2_offset_4.ext E12
  have F_l3_offset_12 := F_l3_offset_4.ext E12
  have z_12 : n0 ≤ h12.size := Nat.le_trans z_4 E12.1
  have K_12 : Keep h0 h12 [] := K_4.ext E12
  have E_b12_12 : Exa Z h12 b12 "com/example/proxysmith/proxysmith/ClassFileWriter$Bytes" := A12
  have F_b12_bytes_12 : Fld Z h12 b12 "com/example/proxysmith/proxysmith/ClassFileWriter$Bytes" "bytes" "[B" .null := D12 (Or.inl (wof hw 26 rfl)) (ty := (.array .byte)) (by decide)
  have F_b12_size_12 : Fld Z h12 b12 "com/example/proxysmith/proxysmith/ClassFileWriter$Bytes" "size" "I" (.int (0 : Int32)) := D12 (Or.inl (wof hw 146 rfl)) (ty := .int) (by decide)
  show Goes p e below s _ _ _ T12 (mkF m 175 #[vR a1, .val .null, vI (Int32.ofNat (sz + 20)), vU, vU, vU] [(.ref b12)])
  refine Goes.step (fun _ k => XS.dup X12.here hx rfl (hb hby d30_175) rfl rfl k) ?_
  refine Goes.step (fun _ k => XS.iloadN X12.here hx rfl (hb hby d30_176) rfl k) ?_
  obtain ⟨v13, T13, h13, L13, X13, e13, Q13, st13⟩ := callXI X12 hx hZ (b := b12) (y := y_3) hown rfl (wof hw 21 rfl) (wof hw 22 rfl) (wof hw 23 rfl) (wof hw 20 rfl) (by decide) (W := 1) (argsL := [(.int (Int32.ofNat (sz + 20)))]) (rest := [(.ref b12)]) (rm3 l Z a0 hw [] b12 (sz + 20) h12 n0 z_12 E_b12_12 F_b12_bytes_12 F_b12_size_12 ge_b12 hn3) (by decide) (by decide) (by decide) (by decide) e12 (g := (mkF m 177 #[vR a1, .val .null, vI (Int32.ofNat (sz + 20)), vU, vU, vU] [(.int (Int32.ofNat (sz + 20))), (.ref b12), (.ref b12)])) rfl (by rw [hml]; rfl) (lenOf pd_30_3 rfl) rfl (by show 2 * 0 + _ ≤ _; exact Nat.le_of_eq rfl) (hb hby d30_177)
  obtain ⟨b13, rfl, NQ13, KQ13, hE13, hFb13, hFs13, hA13, hab13, hg13, hb13⟩ := Q13
  refine Goes.step st13 ?_
  have E_a1_13 := E_a1_12.keep KQ13
  have F_a1_code_13 := F_a1_code_12.keep KQ13 (ninS ne_a1_b12 nin0)
  have F_a1_handlers_13 := F_a1_handlers_12.keep KQ13 (ninS ne_a1_b12 nin0)
  have F_a1_maxStack_13 := F_a1_maxStack_12.keep KQ13 (ninS ne_a1_b12 nin0)
  have F_a1_maxLocals_13 := F_a1_maxLocals_12.keep KQ13 (ninS ne_a1_b12 nin0)
  have E_co_13 := E_co_12.keep KQ13
  have F_co_bytes_13 := F_co_bytes_12.keep KQ13 (ninS ne_co_b12 nin0)
  have F_co_size_13 := F_co_size_12.keep KQ13 (ninS ne_co_b12 nin0)
  have A_b_13 := A_b_12.keep KQ13 (ninS ne_b_b12 nin0)
  have E_lh_13 := E_lh_12.keep KQ13
  have F_lh_size_13 := F_lh_size_12.keep KQ13 (ninS ne_lh_b12 nin0)
  have F_lh_modCount_13 := F_lh_modCount_12.keep KQ13 (ninS ne_lh_b12 nin0)
  have F_lh_elementData_13 := F_lh_elementData_12.keep KQ13 (ninS ne_lh_b12 nin0)
  have B_oh_13 := B_oh_12.keep KQ13 (ninS ne_oh_b12 nin0)
  have E_ha_13 := E_ha_12.keep KQ13
  have F_ha_start_13 := F_ha_start_12.keep KQ13 (ninS ne_ha_b12 nin0)
  have F_ha_end_13 := F_ha_end_12.keep KQ13 (ninS ne_ha_b12 nin0)
  have F_ha_handler_13 := F_ha_handler_12.keep KQ13 (ninS ne_ha_b12 nin0)
  have F_ha_catchType_13 := F_ha_catchType_12.keep KQ13 (ninS ne_ha_b12 nin0)
  have F_l1_offset_13 := F_l1_offset_12.keep KQ13 (ninS ne_l1_b12 nin0)
  have F_l2_offset_13 := F_l2_offset_12.keep KQ13 (ninS ne_l2_b12 nin0)
  have F_l3_offset_13 := F_l3_offset_12.keep KQ13 (ninS ne_l3_b12 nin0)
  have E_b12_13 := E_b12_12.keep KQ13
  have z_13 : n0 ≤ h13.size := Nat.le_trans z_12 KQ13.1
  have K_13 : Keep h0 h13 [] := Keep.trans K_12 KQ13 (allS (Or.inr sz_b12) all0)
  have N_13 := Fr.app N_4 NQ13
  have ne_l3_b13 : l3 ≠ b13 := Nat.ne_of_lt (Nat.lt_of_lt_of_le F_l3_offset_12.lt hb13)
  have ne_l1_b13 : l1 ≠ b13 := Nat.ne_of_lt (Nat.lt_of_lt_of_le F_l1_offset_12.lt hb13)
  have ne_ha_b13 : ha ≠ b13 := Nat.ne_of_lt (Nat.lt_of_lt_of_le E_ha_12.lt hb13)
  have ne_b_b13 : b ≠ b13 := Nat.ne_of_lt (Nat.lt_of_lt_of_le A_b_12.lt hb13)
  have ne_a1_b13 : a1 ≠ b13 := Nat.ne_of_lt (Nat.lt_of_lt_of_le E_a1_12.lt hb13)
  have ne_l2_b13 : l2 ≠ b13 := Nat.ne_of_lt (Nat.lt_of_lt_of_le F_l2_offset_12.lt hb13)
  have ne_oh_b13 : oh ≠ b13 := Nat.ne_of_lt (Nat.lt_of_lt_of_le B_oh_12.lt hb13)
  have ne_co_b13 : co ≠ b13 := Nat.ne_of_lt (Nat.lt_of_lt_of_le E_co_12.lt hb13)
  have ne_lh_b13 : lh ≠ b13 := Nat.ne_of_lt (Nat.lt_of_lt_of_le E_lh_12.lt hb13)
  show Goes p e below s _ _ _ T13 (mkF m 180 #[vR a1, .val .null, vI (Int32.ofNat (sz + 20)), vU, vU, vU] [(.ref b12)])
  refine Goes.step (fun _ k => XS.astoreN X13.here hx rfl (hb hby d30_180) rfl rfl (l' := #[vR a1, .val .null, vI (Int32.ofNat (sz + 20)), vR b12, vU, vU]) rfl k) ?_
  refine Goes.step (fun _ k => XS.aloadN X13.here hx rfl (hb hby d30_181) rfl rfl k) ?_
  refine Goes.step (fun _ k => XS.aloadN X13.here hx rfl (hb hby d30_182) rfl rfl k) ?_
  as_aux_lemma =>
   obtain ⟨T14, X14, e14, st14⟩ := getF X13 hx hZ hown (host := "") (Or.inl (wof hw 153 rfl)) Via.refl e13 F_a1_maxStack_13 (g := (mkF m 183 #[vR a1, .val .null, vI (Int32.ofNat (sz + 20)), vR b12, vU, vU] [(.ref a1), (.ref b12)])) rfl rfl (hb hby d30_183)
   refine Goes.step st14 ?_
   show Goes p e below s _ _ _ T14 (mkF m 186 #[vR a1, .val .null, vI (Int32.ofNat (sz + 20)), vR b12, vU, vU] [(.int (Int32.ofNat k)), (.ref b12)])
   obtain ⟨v15, T15, h15, L15, X15, e15, Q15, st15⟩ := callXV X14 hx hZ (C := "com/example/proxysmith/proxysmith/ClassFileWriter$Bytes") (b := b12) (y := y_36) (z := y_36) hown (wof hw 267 rfl) (wof hw 268 rfl) (wof hw 270 rfl) (wof hw 269 rfl) (wof hw 271 rfl) (wof hw 20 rfl) (notFace_of_selects (args := #[]) (mvT hZ (wof hw 270 rfl))) (by decide) (W := 0) (argsL := [(.int (Int32.ofNat k))]) (rest := []) (rm36 l Z a0 hw [] b12 (Int32.ofNat k) b13 (sz + 20) 0 (fun _ => 0) h13 n0 z_13 hE13 hFb13 hFs13 hA13 hab13 ge_b12 hg13 (by omega) hn) (by decide) (by decide) (by decide) (by decide) e14 hE13 (g := (mkF m 186 #[vR a1, .val .null, vI (Int32.ofNat (sz + 20)), vR b12, vU, vU] [(.int (Int32.ofNat k)), (.ref b12)])) rfl (by rw [hml]; rfl) (lenOf pd_30_3 rfl) rfl (by show 2 * 0 + _ ≤ _; exact Nat.le_of_eq rfl) (hb hby d30_186)
   obtain ⟨rfl, NQ15, KQ15, hFb15, hFs15, f15, hA15, hp15, hv15⟩ := Q15
   refine Goes.step st15 ?_
   have E_a1_15 := E_a1_13.keep KQ15
   have F_a1_code_15 := F_a1_code_13.keep KQ15 (ninS ne_a1_b12 (ninS ne_a1_b13 nin0))
   have F_a1_handlers_15 := F_a1_handlers_13.keep KQ15 (ninS ne_a1_b12 (ninS ne_a1_b13 nin0))
   have F_a1_maxStack_15 := F_a1_maxStack_13.keep KQ15 (ninS ne_a1_b12 (ninS ne_a1_b13 nin0))
   have F_a1_maxLocals_15 := F_a1_maxLocals_13.keep KQ15 (ninS ne_a1_b12 (ninS ne_a1_b13 nin0))
   have E_co_15 := E_co_13.keep KQ15
   have F_co_bytes_15 := F_co_bytes_13.keep KQ15 (ninS ne_co_b12 (ninS ne_co_b13 nin0))
   have F_co_size_15 := F_co_size_13.keep KQ15 (ninS ne_co_b12 (ninS ne_co_b13 nin0))
   have A_b_15 := A_b_13.keep KQ15 (ninS ne_b_b12 (ninS ne_b_b13 nin0))
   have E_lh_15 := E_lh_13.keep KQ15
   have F_lh_size_15 := F_lh_size_13.keep KQ15 (ninS ne_lh_b12 (ninS ne_lh_b13 nin0))
   have F_lh_modCount_15 := F_lh_modCount_13.keep KQ15 (ninS ne_lh_b12 (ninS ne_lh_b13 nin0))
   have F_lh_elementData_15 := F_lh_elementData_13.keep KQ15 (ninS ne_lh_b12 (ninS ne_lh_b13 nin0))
   have B_oh_15 := B_oh_13.keep KQ15 (ninS ne_oh_b12 (ninS ne_oh_b13 nin0))
   have E_ha_15 := E_ha_13.keep KQ15
   have F_ha_start_15 := F_ha_start_13.keep KQ15 (ninS ne_ha_b12 (ninS ne_ha_b13 nin0))
   have F_ha_end_15 := F_ha_end_13.keep KQ15 (ninS ne_ha_b12 (ninS ne_ha_b13 nin0))
   have F_ha_handler_15 := F_ha_handler_13.keep KQ15 (ninS ne_ha_b12 (ninS ne_ha_b13 nin0))
   have F_ha_catchType_15 := F_ha_catchType_13.keep KQ15 (ninS ne_ha_b12 (ninS ne_ha_b13 nin0))
   have F_l1_offset_15 := F_l1_offset_13.keep KQ15 (ninS ne_l1_b12 (ninS ne_l1_b13 nin0))
   have F_l2_offset_15 := F_l2_offset_13.keep KQ15 (ninS ne_l2_b12 (ninS ne_l2_b13 nin0))
   have F_l3_offset_15 := F_l3_offset_13.keep KQ15 (ninS ne_l3_b12 (ninS ne_l3_b13 nin0))
   have hE13_15 := hE13.keep KQ15
   have z_15 : n0 ≤ h15.size := Nat.le_trans z_13 KQ15.1
   have K_15 : Keep h0 h15 [] := Keep.trans K_13 KQ15 (allS (Or.inr sz_b12) (allS (Or.inr (Nat.le_trans K_12.1 hb13)) all0))
   have N_15 := Fr.app N_13 NQ15
   show Goes p e below s _ _ _ T15 (mkF m 189 #[vR a1, .val .null, vI (Int32.ofNat (sz + 20)), vR b12, vU, vU] [])
   refine Goes.step (fun _ k => XS.aloadN X15.here hx rfl (hb hby d30_189) rfl rfl k) ?_
   refine Goes.step (fun _ k => XS.aloadN X15.here hx rfl (hb hby d30_190) rfl rfl k) ?_
   obtain ⟨T16, X16, e16, st16⟩ := getF X15 hx hZ hown (host := "") (Or.inl (wof hw 96 rfl)) Via.refl e15 F_a1_maxLocals_15 (g := (mkF m 191 #[vR a1, .val .null, vI (Int32.ofNat (sz + 20)), vR b12, vU, vU] [(.ref a1), (.ref b12)])) rfl rfl (hb hby d30_191)
   refine Goes.step st16 ?_
   show Goes p e below s _ _ _ T16 (mkF m 194 #[vR a1, .val .null, vI (Int32.ofNat (sz + 20)), vR b12, vU, vU] [(.int ml), (.ref b12)])
   obtain ⟨v17, T17, h17, L17, X17, e17, Q17, st17⟩ := callXV X16 hx hZ (C := "com/example/proxysmith/proxysmith/ClassFileWriter$Bytes") (b := b12) (y := y_36) (z := y_36) hown (wof hw 267 rfl) (wof hw 268 rfl) (wof hw 270 rfl) (wof hw 269 rfl) (wof hw 271 rfl) (wof hw 20 rfl) (notFace_of_selects (args := #[]) (mvT hZ (wof hw 270 rfl))) (by decide) (W := 0) (argsL := [(.int ml)]) (rest := []) (rm36 l Z a0 hw [] b12 ml b13 (sz + 20) ((0 + 1 + 1)) f15 h15 n0 z_15 hE13_15 hFb15 hFs15 hA15 hab13 ge_b12 hg13 (by omega) hn) (by decide) (by decide) (by decide) (by decide) e16 hE13_15 (g := (mkF m 194 #[vR a1, .val .null, vI (Int32.ofNat (sz + 20)), vR b12, vU, vU] [(.int ml), (.ref b12)])) rfl (by rw [hml]; rfl) (lenOf pd_30_3 rfl) rfl (by show 2 * 0 + _ ≤ _; exact Nat.le_of_eq rfl) (hb hby d30_194)
   obtain ⟨rfl, NQ17, KQ17, hFb17, hFs17, f17, hA17, hp17, hv17⟩ := Q17
   refine Goes.step st17 ?_
   have E_a1_17 := E_a1_15.keep KQ17
   have F_a1_code_17 := F_a1_code_15.keep KQ17 (ninS ne_a1_b12 (ninS ne_a1_b13 nin0))
   have F_a1_handlers_17 := F_a1_handlers_15.keep KQ17 (ninS ne_a1_b12 (ninS ne_a1_b13 nin0))
   have F_a1_maxStack_17 := F_a1_maxStack_15.keep KQ17 (ninS ne_a1_b12 (ninS ne_a1_b13 nin0))
   have F_a1_maxLocals_17 := F_a1_maxLocals_15.keep KQ17 (ninS ne_a1_b12 (ninS ne_a1_b13 nin0))
   have E_co_17 := E_co_15.keep KQ17
   have F_co_bytes_17 := F_co_bytes_15.keep KQ17 (ninS ne_co_b12 (ninS ne_co_b13 nin0))
   have F_co_size_17 := F_co_size_15.keep KQ17 (ninS ne_co_b12 (ninS ne_co_b13 nin0))
   have A_b_17 := A_b_15.keep KQ17 (ninS ne_b_b12 (ninS ne_b_b13 nin0))
   have E_lh_17 := E_lh_15.keep KQ17
   have F_lh_size_17 := F_lh_size_15.keep KQ17 (ninS ne_lh_b12 (ninS ne_lh_b13 nin0))
   have F_lh_modCount_17 := F_lh_modCount_15.keep KQ17 (ninS ne_lh_b12 (ninS ne_lh_b13 nin0))
   have F_lh_elementData_17 := F_lh_elementData_15.keep KQ17 (ninS ne_lh_b12 (ninS ne_lh_b13 nin0))
   have B_oh_17 := B_oh_15.keep KQ17 (ninS ne_oh_b12 (ninS ne_oh_b13 nin0))
   have E_ha_17 := E_ha_15.keep KQ17
   have F_ha_start_17 := F_ha_start_15.keep KQ17 (ninS ne_ha_b12 (ninS ne_ha_b13 nin0))
   have F_ha_end_17 := F_ha_end_15.keep KQ17 (ninS ne_ha_b12 (ninS ne_ha_b13 nin0))
   have F_ha_handler_17 := F_ha_handler_15.keep KQ17 (ninS ne_ha_b12 (ninS ne_ha_b13 nin0))
   have F_ha_catchType_17 := F_ha_catchType_15.keep KQ17 (ninS ne_ha_b12 (ninS ne_ha_b13 nin0))
   have F_l1_offset_17 := F_l1_offset_15.keep KQ17 (ninS ne_l1_b12 (ninS ne_l1_b13 nin0))
   have F_l2_offset_17 := F_l2_offset_15.keep KQ17 (ninS ne_l2_b12 (ninS ne_l2_b13 nin0))
   have F_l3_offset_17 := F_l3_offset_15.keep KQ17 (ninS ne_l3_b12 (ninS ne_l3_b13 nin0))
   have hE13_17 := hE13_15.keep KQ17
   have z_17 : n0 ≤ h17.size := Nat.le_trans z_15 KQ17.1
   have K_17 : Keep h0 h17 [] := Keep.trans K_15 KQ17 (allS (Or.inr sz_b12) (allS (Or.inr (Nat.le_trans K_12.1 hb13)) all0))
   have N_17 := Fr.app N_15 NQ17
   show Goes p e below s _ _ _ T17 (mkF m 197 #[vR a1, .val .null, vI (Int32.ofNat (sz + 20)), vR b12, vU, vU] [])
   refine Goes.step (fun _ k => XS.aloadN X17.here hx rfl (hb hby d30_197) rfl rfl k) ?_
   refine Goes.step (fun _ k => XS.aloadN X17.here hx rfl (hb hby d30_198) rfl rfl k) ?_
   obtain ⟨T18, X18, e18, st18⟩ := getF X17 hx hZ hown (host := "") (Or.inl (wof hw 27 rfl)) Via.refl e17 F_a1_code_17 (g := (mkF m 199 #[vR a1, .val .null, vI (Int32.ofNat (sz + 20)), vR b12, vU, vU] [(.ref a1), (.ref b12)])) rfl rfl (hb hby d30_199)
   refine Goes.step st18 ?_
   show Goes p e below s _ _ _ T18 (mkF m 202 #[vR a1, .val .null, vI (Int32.ofNat (sz + 20)), vR b12, vU, vU] [(.ref co), (.ref b12)])
   obtain ⟨T19, X19, e19, st19⟩ := own_pure (r := some (.int (Int32.ofNat sz))) (fun _ _ _ q => q) (callXV X18 hx hZ (C := "com/example/proxysmith/proxysmith/ClassFileWriter$Bytes") (b := co) (y := y_24) (z := y_24) hown (wof hw 161 rfl) (wof hw 162 rfl) (wof hw 164 rfl) (wof hw 163 rfl) (wof hw 165 rfl) (wof hw 20 rfl) (notFace_of_selects (args := #[]) (mvT hZ (wof hw 164 rfl))) (by decide) (W := 1) (argsL := []) (rest := [(.ref b12)]) (rm24 l Z a0 hw [] co sz h17 n0 z_17 F_co_size_17) (by decide) (by decide) (by decide) (by decide) e18 E_co_17 (g := (mkF m 202 #[vR a1, .val .null, vI (Int32.ofNat (sz + 20)), vR b12, vU, vU] [(.ref co), (.ref b12)])) rfl (by rw [hml]; rfl) (lenOf pd_30_0 rfl) rfl (by show 2 * 0 + _ ≤ _; exact Nat.le_of_eq rfl) (hb hby d30_202))
   refine Goes.step st19 ?_
   show Goes p e below s _ _ _ T19 (mkF m 205 #[vR a1, .val .null, vI (Int32.ofNat (sz + 20)), vR b12, vU, vU] [(.int (Int32.ofNat sz)), (.ref b12)])
   obtain ⟨v20, T20, h20, L20, X20, e20, Q20, st20⟩ := callXV X19 hx hZ (C := "com/example/proxysmith/proxysmith/ClassFileWriter$Bytes") (b := b12) (y := y_37) (z := y_37) hown (wof hw 272 rfl) (wof hw 273 rfl) (wof hw 275 rfl) (wof hw 274 rfl) (wof hw 276 rfl) (wof hw 20 rfl) (notFace_of_selects (args := #[]) (mvT hZ (wof hw 275 rfl))) (by decide) (W := 0) (argsL := [(.int (Int32.ofNat sz))]) (rest := []) (rm37 l Z a0 hw [] b12 (Int32.ofNat sz) b13 (sz + 20) ((0 + 1 + 1) + 1 + 1) f17 sz h17 n0 z_17 hE13_17 hFb17 hFs17 hA17 hab13 ge_b12 hg13 (by omega) hn rfl (by omega)) (by decide) (by decide) (by decide) (by decide) e19 hE13_17 (g := (mkF m 205 #[vR a1, .val .null, vI (Int32.ofNat (sz + 20)), vR b12, vU, vU] [(.int (Int32.ofNat sz)), (.ref b12)])) rfl (by rw [hml]; rfl) (lenOf pd_30_3 rfl) rfl (by show 2 * 0 + _ ≤ _; exact Nat.le_of_eq rfl) (hb hby d30_205)
   obtain ⟨rfl, NQ20, KQ20, hFb20, hFs20, f20, hA20, hp20, hv20, hw20⟩ := Q20
   refine Goes.step st20 ?_
   have E_a1_20 := E_a1_17.keep KQ20
   have F_a1_code_20 := F_a1_code_17.keep KQ20 (ninS ne_a1_b12 (ninS ne_a1_b13 nin0))
   have F_a1_handlers_20 := F_a1_handlers_17.keep KQ20 (ninS ne_a1_b12 (ninS ne_a1_b13 nin0))
   have F_a1_maxStack_20 := F_a1_maxStack_17.keep KQ20 (ninS ne_a1_b12 (ninS ne_a1_b13 nin0))
   have F_a1_maxLocals_20 := F_a1_maxLocals_17.keep KQ20 (ninS ne_a1_b12 (ninS ne_a1_b13 nin0))
   have E_co_20 := E_co_17.keep KQ20
   have F_co_bytes_20 := F_co_bytes_17.keep KQ20 (ninS ne_co_b12 (ninS ne_co_b13 nin0))
   have F_co_size_20 := F_co_size_17.keep KQ20 (ninS ne_co_b12 (ninS ne_co_b13 nin0))
   have A_b_20 := A_b_17.keep KQ20 (ninS ne_b_b12 (ninS ne_b_b13 nin0))
   have E_lh_20 := E_lh_17.keep KQ20
   have F_lh_size_20 := F_lh_size_17.keep KQ20 (ninS ne_lh_b12 (ninS ne_lh_b13 nin0))
   have F_lh_modCount_20 := F_lh_modCount_17.keep KQ20 (ninS ne_lh_b12 (ninS ne_lh_b13 nin0))
   have F_lh_elementData_20 := F_lh_elementData_17.keep KQ20 (ninS ne_lh_b12 (ninS ne_lh_b13 nin0))
   have B_oh_20 := B_oh_17.keep KQ20 (ninS ne_oh_b12 (ninS ne_oh_b13 nin0))
   have E_ha_20 := E_ha_17.keep KQ20
   have F_ha_start_20 := F_ha_start_17.keep KQ20 (ninS ne_ha_b12 (ninS ne_ha_b13 nin0))
   have F_ha_end_20 := F_ha_end_17.keep KQ20 (ninS ne_ha_b12 (ninS ne_ha_b13 nin0))
   have F_ha_handler_20 := F_ha_handler_17.keep KQ20 (ninS ne_ha_b12 (ninS ne_ha_b13 nin0))
   have F_ha_catchType_20 := F_ha_catchType_17.keep KQ20 (ninS ne_ha_b12 (ninS ne_ha_b13 nin0))
   have F_l1_offset_20 := F_l1_offset_17.keep KQ20 (ninS ne_l1_b12 (ninS ne_l1_b13 nin0))
   have F_l2_offset_20 := F_l2_offset_17.keep KQ20 (ninS ne_l2_b12 (ninS ne_l2_b13 nin0))
   have F_l3_offset_20 := F_l3_offset_17.keep KQ20 (ninS ne_l3_b12 (ninS ne_l3_b13 nin0))
   have hE13_20 := hE13_17.keep KQ20
   have z_20 : n0 ≤ h20.size := Nat.le_trans z_17 KQ20.1
   have K_20 : Keep h0 h20 [] := Keep.trans K_17 KQ20 (allS (Or.inr sz_b12) (allS (Or.inr (Nat.le_trans K_12.1 hb13)) all0))
   have N_20 := Fr.app N_17 NQ20
   show Goes p e below s _ _ _ T20 (mkF m 208 #[vR a1, .val .null, vI (Int32.ofNat (sz + 20)), vR b12, vU, vU] [])
   refine Goes.step (fun _ k => XS.aloadN X20.here hx rfl (hb hby d30_208) rfl rfl k) ?_
   refine Goes.step (fun _ k => XS.aloadN X20.here hx rfl (hb hby d30_209) rfl rfl k) ?_
   obtain ⟨T21, X21, e21, st21⟩ := getF X20 hx hZ hown (host := "") (Or.inl (wof hw 27 rfl)) Via.refl e20 F_a1_code_20 (g := (mkF m 210 #[vR a1, .val .null, vI (Int32.ofNat (sz + 20)), vR b12, vU, vU] [(.ref a1), (.ref b12)])) rfl rfl (hb hby d30_210)
   refine Goes.step st21 ?_
   show Goes p e below s _ _ _ T21 (mkF m 213 #[vR a1, .val .null, vI (Int32.ofNat (sz + 20)), vR b12, vU, vU] [(.ref co), (.ref b12)])
   obtain ⟨v22, T22, h22, L22, X22, e22, Q22, st22⟩ := callXV X21 hx hZ (C := "com/example/proxysmith/proxysmith/ClassFileWriter$Bytes") (b := b12) (y := y_38) (z := y_38) hown (wof hw 278 rfl) (wof hw 279 rfl) (wof hw 281 rfl) (wof hw 280 rfl) (wof hw 282 rfl) (wof hw 20 rfl) (notFace_of_selects (args := #[]) (mvT hZ (wof hw 281 rfl))) (by decide) (W := 0) (argsL := [(.ref co)]) (rest := []) (rm38 l Z a0 hw [] b12 co b13 (sz + 20) (((0 + 1 + 1) + 1 + 1) + 1 + 1 + 1 + 1) f20 b 32 sz f h20 n0 z_20 hE13_20 hFb20 hFs20 hA20 hab13 ge_b12 hg13 E_co_20 F_co_bytes_20 F_co_size_20 A_b_20 ne_co_b12 ne_co_b13 ne_b_b12 ne_b_b13 (by omega) hn (by omega)) (by decide) (by decide) (by decide) (by decide) e21 hE13_20 (g := (mkF m 213 #[vR a1, .val .null, vI (Int32.ofNat (sz + 20)), vR b12, vU, vU] [(.ref co), (.ref b12)])) rfl (by rw [hml]; rfl) (lenOf pd_30_4 rfl) rfl (by show 2 * 0 + _ ≤ _; exact Nat.le_of_eq rfl) (hb hby d30_213)
   obtain ⟨rfl, NQ22, KQ22, hFb22, hFs22, f22, hA22, hp22⟩ := Q22
   refine Goes.step st22 ?_
   have E_a1_22 := E_a1_20.keep KQ22
   have F_a1_code_22 := F_a1_code_20.keep KQ22 (ninS ne_a1_b12 (ninS ne_a1_b13 nin0))
   have F_a1_handlers_22 := F_a1_handlers_20.keep KQ22 (ninS ne_a1_b12 (ninS ne_a1_b13 nin0))
   have F_a1_maxStack_22 := F_a1_maxStack_20.keep KQ22 (ninS ne_a1_b12 (ninS ne_a1_b13 nin0))
   have F_a1_maxLocals_22 := F_a1_maxLocals_20.keep KQ22 (ninS ne_a1_b12 (ninS ne_a1_b13 nin0))
   have E_co_22 := E_co_20.keep KQ22
   have F_co_bytes_22 := F_co_bytes_20.keep KQ22 (ninS ne_co_b12 (ninS ne_co_b13 nin0))
   have F_co_size_22 := F_co_size_20.keep KQ22 (ninS ne_co_b12 (ninS ne_co_b13 nin0))
   have A_b_22 := A_b_20.keep KQ22 (ninS ne_b_b12 (ninS ne_b_b13 nin0))
   have E_lh_22 := E_lh_20.keep KQ22
   have F_lh_size_22 := F_lh_size_20.keep KQ22 (ninS ne_lh_b12 (ninS ne_lh_b13 nin0))
   have F_lh_modCount_22 := F_lh_modCount_20.keep KQ22 (ninS ne_lh_b12 (ninS ne_lh_b13 nin0))
   have F_lh_elementData_22 := F_lh_elementData_20.keep KQ22 (ninS ne_lh_b12 (ninS ne_lh_b13 nin0))
   have B_oh_22 := B_oh_20.keep KQ22 (ninS ne_oh_b12 (ninS ne_oh_b13 nin0))
   have E_ha_22 := E_ha_20.keep KQ22
   have F_ha_start_22 := F_ha_start_20.keep KQ22 (ninS ne_ha_b12 (ninS ne_ha_b13 nin0))
   have F_ha_end_22 := F_ha_end_20.keep KQ22 (ninS ne_ha_b12 (ninS ne_ha_b13 nin0))
   have F_ha_handler_22 := F_ha_handler_20.keep KQ22 (ninS ne_ha_b12 (ninS ne_ha_b13 nin0))
   have F_ha_catchType_22 := F_ha_catchType_20.keep KQ22 (ninS ne_ha_b12 (ninS ne_ha_b13 nin0))
   have F_l1_offset_22 := F_l1_offset_20.keep KQ22 (ninS ne_l1_b12 (ninS ne_l1_b13 nin0))
   have F_l2_offset_22 := F_l2_offset_20.keep KQ22 (ninS ne_l2_b12 (ninS ne_l2_b13 nin0))
   have F_l3_offset_22 := F_l3_offset_20.keep KQ22 (ninS ne_l3_b12 (ninS ne_l3_b13 nin0))
   have hE13_22 := hE13_20.keep KQ22
   have z_22 : n0 ≤ h22.size := Nat.le_trans z_20 KQ22.1
   have K_22 : Keep h0 h22 [] := Keep.trans K_20 KQ22 (allS (Or.inr sz_b12) (allS (Or.inr (Nat.le_trans K_12.1 hb13)) all0))
   have N_22 := Fr.app N_20 NQ22
   show Goes p e below s _ _ _ T22 (mkF m 216 #[vR a1, .val .null, vI (Int32.ofNat (sz + 20)), vR b12, vU, vU] [])
   refine Goes.step (fun _ k => XS.aloadN X22.here hx rfl (hb hby d30_216) rfl rfl k) ?_
   refine Goes.step (fun _ k => XS.aloadN X22.here hx rfl (hb hby d30_217) rfl rfl k) ?_
   obtain ⟨T23, X23, e23, st23⟩ := getF X22 hx hZ hown (host := "") (Or.inl (wof hw 58 rfl)) Via.refl e22 F_a1_handlers_22 (g := (mkF m 218 #[vR a1, .val .null, vI (Int32.ofNat (sz + 20)), vR b12, vU, vU] [(.ref a1), (.ref b12)])) rfl rfl (hb hby d30_218)
   refine Goes.step st23 ?_
   show Goes p e below s _ _ _ T23 (mkF m 221 #[vR a1, .val .null, vI (Int32.ofNat (sz + 20)), vR b12, vU, vU] [(.ref lh), (.ref b12)])
   obtain ⟨T24, X24, e24, st24⟩ := own_pure5 (r := some (.int (1 : Int32))) (fun _ _ _ q => q) (callXF X23 hx hZ (C := "java/util/ArrayList") (b := lh) (y := y_150) (z := y_35) hown (wof hw 259 rfl) (wof hw 260 rfl) (wof hw 261 rfl) (wof hw 262 rfl) (wof hw 263 rfl) (wof hw 264 rfl) (wof hw 265 rfl) (wof hw 198 rfl) (wof hw 266 rfl) (wof hw 31 rfl) (by decide) (W := 1) (argsL := []) (rest := [(.ref b12)]) (rm35 l Z a0 hw [] lh (1 : Int32) h22 n0 z_22 F_lh_size_22) (by decide) (by decide) (by decide) (by decide) e23 E_lh_22 (g := (mkF m 221 #[vR a1, .val .null, vI (Int32.ofNat (sz + 20)), vR b12, vU, vU] [(.ref lh), (.ref b12)])) rfl (by rw [hml]; rfl) (lenOf pd_30_0 rfl) rfl (by show 2 * 0 + _ ≤ _; exact Nat.le_of_eq rfl) (hb hby d30_221))
   refine Goes.step st24 ?_
   show Goes p e below s _ _ _ T24 (mkF m 226 #[vR a1, .val .null, vI (Int32.ofNat (sz + 20)), vR b12, vU, vU] [(.int (1 : Int32)), (.ref b12)])
   obtain ⟨v25, T25, h25, L25, X25, e25, Q25, st25⟩ := callXV X24 hx hZ (C := "com/example/proxysmith/proxysmith/ClassFileWriter$Bytes") (b := b12) (y := y_36) (z := y_36) hown (wof hw 267 rfl) (wof hw 268 rfl) (wof hw 270 rfl) (wof hw 269 rfl) (wof hw 271 rfl) (wof hw 20 rfl) (notFace_of_selects (args := #[]) (mvT hZ (wof hw 270 rfl))) (by decide) (W := 0) (argsL := [(.int (1 : Int32))]) (rest := []) (rm36 l Z a0 hw [] b12 (1 : Int32) b13 (sz + 20) (((((0 + 1 + 1) + 1 + 1) + 1 + 1 + 1 + 1) + sz)) f22 h22 n0 z_22 hE13_22 hFb22 hFs22 hA22 hab13 ge_b12 hg13 (by omega) hn) (by decide) (by decide) (by decide) (by decide) e24 hE13_22 (g := (mkF m 226 #[vR a1, .val .null, vI (Int32.ofNat (sz + 20)), vR b12, vU, vU] [(.int (1 : Int32)), (.ref b12)])) rfl (by rw [hml]; rfl) (lenOf pd_30_3 rfl) rfl (by show 2 * 0 + _ ≤ _; exact Nat.le_of_eq rfl) (hb hby d30_226)
   obtain ⟨rfl, NQ25, KQ25, hFb25, hFs25, f25, hA25, hp25, hv25⟩ := Q25
   refine Goes.step st25 ?_
   have E_a1_25 := E_a1_22.keep KQ25
   have F_a1_handlers_25 := F_a1_handlers_22.keep KQ25 (ninS ne_a1_b12 (ninS ne_a1_b13 nin0))
   have E_lh_25 := E_lh_22.keep KQ25
   have F_lh_size_25 := F_lh_size_22.keep KQ25 (ninS ne_lh_b12 (ninS ne_lh_b13 nin0))
   have F_lh_modCount_25 := F_lh_modCount_22.keep KQ25 (ninS ne_lh_b12 (ninS ne_lh_b13 nin0))
   have F_lh_elementData_25 := F_lh_elementData_22.keep KQ25 (ninS ne_lh_b12 (ninS ne_lh_b13 nin0))
   have B_oh_25 := B_oh_22.keep KQ25 (ninS ne_oh_b12 (ninS ne_oh_b13 nin0))
   have E_ha_25 := E_ha_22.keep KQ25
   have F_ha_start_25 := F_ha_start_22.keep KQ25 (ninS ne_ha_b12 (ninS ne_ha_b13 nin0))
   have F_ha_end_25 := F_ha_end_22.keep KQ25 (ninS ne_ha_b12 (ninS ne_ha_b13 nin0))
   have F_ha_handler_25 := F_ha_handler_22.keep KQ25 (ninS ne_ha_b12 (ninS ne_ha_b13 nin0))
   have F_ha_catchType_25 := F_ha_catchType_22.keep KQ25 (ninS ne_ha_b12 (ninS ne_ha_b13 nin0))
   have F_l1_offset_25 := F_l1_offset_22.keep KQ25 (ninS ne_l1_b12 (ninS ne_l1_b13 nin0))
   have F_l2_offset_25 := F_l2_offset_22.keep KQ25 (ninS ne_l2_b12 (ninS ne_l2_b13 nin0))
   have F_l3_offset_25 := F_l3_offset_22.keep KQ25 (ninS ne_l3_b12 (ninS ne_l3_b13 nin0))
   have hE13_25 := hE13_22.keep KQ25
   have z_25 : n0 ≤ h25.size := Nat.le_trans z_22 KQ25.1
   have K_25 : Keep h0 h25 [] := Keep.trans K_22 KQ25 (allS (Or.inr sz_b12) (allS (Or.inr (Nat.le_trans K_12.1 hb13)) all0))
   have N_25 := Fr.app N_22 NQ25
   show Goes p e below s _ _ _ T25 (mkF m 229 #[vR a1, .val .null, vI (Int32.ofNat (sz + 20)), vR b12, vU, vU] [])
   refine Goes.step (fun _ k => XS.aloadN X25.here hx rfl (hb hby d30_229) rfl rfl k) ?_
   obtain ⟨T26, X26, e26, st26⟩ := getF X25 hx hZ hown (host := "") (Or.inl (wof hw 58 rfl)) Via.refl e25 F_a1_handlers_25 (g := (mkF m 230 #[vR a1, .val .null, vI (Int32.ofNat (sz + 20)), vR b12, vU, vU] [(.ref a1)])) rfl rfl (hb hby d30_230)
   refine Goes.step st26 ?_
   show Goes p e below s _ _ _ T26 (mkF m 233 #[vR a1, .val .null, vI (Int32.ofNat (sz + 20)), vR b12, vU, vU] [(.ref lh)])
   obtain ⟨v27, T27, h27, L27, X27, e27, Q27, st27⟩ := callXF X26 hx hZ (C := "java/util/ArrayList") (b := lh) (y := y_147) (z := y_31) hown (wof hw 216 rfl) (wof hw 217 rfl) (wof hw 218 rfl) (wof hw 219 rfl) (wof hw 220 rfl) (wof hw 221 rfl) (wof hw 222 rfl) (wof hw 198 rfl) (wof hw 223 rfl) (wof hw 31 rfl) (by decide) (W := 0) (argsL := []) (rest := []) (rm31 l Z a0 hw [] lh (1 : Int32) h25 n0 z_25 F_lh_modCount_25) (by decide) (by decide) (by decide) (by decide) e26 E_lh_25 (g := (mkF m 233 #[vR a1, .val .null, vI (Int32.ofNat (sz + 20)), vR b12, vU, vU] [(.ref lh)])) rfl (by rw [hml]; rfl) (lenOf pd_30_1 rfl) rfl (by show 2 * 0 + _ ≤ _; exact Nat.le_of_eq rfl) (hb hby d30_233)
   obtain ⟨o27, rfl, NQ27, KQ27, so27, hE27, hI027, hI127, hI227, hI327⟩ := Q27
   refine Goes.step st27 ?_
   have E_a1_27 := E_a1_25.keep KQ27
   have F_a1_handlers_27 := F_a1_handlers_25.keep KQ27 nin0
   have E_lh_27 := E_lh_25.keep KQ27
   have F_lh_size_27 := F_lh_size_25.keep KQ27 nin0
   have F_lh_modCount_27 := F_lh_modCount_25.keep KQ27 nin0
   have F_lh_elementData_27 := F_lh_elementData_25.keep KQ27 nin0
   have B_oh_27 := B_oh_25.keep KQ27 nin0
   have E_ha_27 := E_ha_25.keep KQ27
   have F_ha_start_27 := F_ha_start_25.keep KQ27 nin0
   have F_ha_end_27 := F_ha_end_25.keep KQ27 nin0
   have F_ha_handler_27 := F_ha_handler_25.keep KQ27 nin0
   have F_ha_catchType_27 := F_ha_catchType_25.keep KQ27 nin0
   have F_l1_offset_27 := F_l1_offset_25.keep KQ27 nin0
   have F_l2_offset_27 := F_l2_offset_25.keep KQ27 nin0
   have F_l3_offset_27 := F_l3_offset_25.keep KQ27 nin0
   have hE13_27 := hE13_25.keep KQ27
   have hFb25_27 := hFb25.keep KQ27 nin0
   have hFs25_27 := hFs25.keep KQ27 nin0
   have hA25_27 := hA25.keep KQ27 nin0
   have z_27 : n0 ≤ h27.size := Nat.le_trans z_25 KQ27.1
   have K_27 : Keep h0 h27 [] := Keep.trans K_25 KQ27 all0
   have N_27 := Fr.app N_25 NQ27
   have ne_o27_b12 : o27 ≠ b12 := Nat.ne_of_gt (Nat.lt_of_lt_of_le hE13_25.lt so27)
   have ne_o27_l3 : o27 ≠ l3 := Nat.ne_of_gt (Nat.lt_of_lt_of_le F_l3_offset_25.lt so27)
   have ne_o27_l1 : o27 ≠ l1 := Nat.ne_of_gt (Nat.lt_of_lt_of_le F_l1_offset_25.lt so27)
   have ne_o27_ha : o27 ≠ ha := Nat.ne_of_gt (Nat.lt_of_lt_of_le E_ha_25.lt so27)
   have ne_o27_a1 : o27 ≠ a1 := Nat.ne_of_gt (Nat.lt_of_lt_of_le E_a1_25.lt so27)
   have ne_o27_l2 : o27 ≠ l2 := Nat.ne_of_gt (Nat.lt_of_lt_of_le F_l2_offset_25.lt so27)
   have ne_o27_oh : o27 ≠ oh := Nat.ne_of_gt (Nat.lt_of_lt_of_le B_oh_25.lt so27)
   have ne_o27_b13 : o27 ≠ b13 := Nat.ne_of_gt (Nat.lt_of_lt_of_le hA25.lt so27)
   have ne_o27_lh : o27 ≠ lh := Nat.ne_of_gt (Nat.lt_of_lt_of_le E_lh_25.lt so27)
   have ge_o27 : n0 ≤ o27 := Nat.le_trans z_25 so27
   have sz_o27 : h0.size ≤ o27 := Nat.le_trans K_25.1 so27
   show Goes p e below s _ _ _ T27 (mkF m 238 #[vR a1, .val .null, vI (Int32.ofNat (sz + 20)), vR b12, vU, vU] [(.ref o27)])
   refine Goes.step (fun _ k => XS.astore X27.here hx rfl (hb hby d30_238) rfl rfl (l' := #[vR a1, .val .null, vI (Int32.ofNat (sz + 20)), vR b12, vR o27, vU]) rfl k) ?_
   show Goes p e below s _ _ _ T27 (mkF m 240 #[vR a1, .val .null, vI (Int32.ofNat (sz + 20)), vR b12, vR o27, vU] [])
   refine Goes.step (fun _ k => XS.aload X27.here hx rfl (hb hby d30_240) rfl rfl k) ?_
   obtain ⟨T28, X28, e28, st28⟩ := own_pure5 (r := some (.int (1 : Int32))) (fun _ _ _ q => q) (callXF X27 hx hZ (C := "java/util/ArrayList$Itr") (b := o27) (y := y_148) (z := y_33) hown (wof hw 239 rfl) (wof hw 240 rfl) (wof hw 241 rfl) (wof hw 242 rfl) (wof hw 243 rfl) (wof hw 244 rfl) (wof hw 245 rfl) (wof hw 246 rfl) (wof hw 247 rfl) (wof hw 226 rfl) (by decide) (W := 0) (argsL := []) (rest := []) (rm33n l Z a0 hw [] o27 lh (0 : Int32) (1 : Int32) h27 n0 z_27 hI027 hI327 F_lh_size_27 (by decide)) (by decide) (by decide) (by decide) (by decide) e27 hE27 (g := (mkF m 242 #[vR a1, .val .null, vI (Int32.ofNat (sz + 20)), vR b12, vR o27, vU] [(.ref o27)])) rfl (by rw [hml]; rfl) (lenOf pd_30_2 rfl) rfl (by show 2 * 0 + _ ≤ _; exact Nat.le_of_eq rfl) (hb hby d30_242))
   refine Goes.step st28 ?_
   show Goes p e below s _ _ _ T28 (mkF m 247 #[vR a1, .val .null, vI (Int32.ofNat (sz + 20)), vR b12, vR o27, vU] [(.int (1 : Int32))])
   refine Goes.step (fun _ k => XS.ifNo X28.here hx rfl (hb hby d30_247) rfl ((if0 _ _).trans (feq (by decide : ¬ ((1 : Int32) = (0 : Int32)))).1) k) ?_
   show Goes p e below s _ _ _ T28 (mkF m 250 #[vR a1, .val .null, vI (Int32.ofNat (sz + 20)), vR b12, vR o27, vU] [])
   refine Goes.step (fun _ k => XS.aload X28.here hx rfl (hb hby d30_250) rfl rfl k) ?_
   obtain ⟨v29, T29, h29, L29, X29, e29, Q29, st29⟩ := callXF X28 hx hZ (C := "java/util/ArrayList$Itr") (b := o27) (y := y_151) (z := y_39) hown (wof hw 287 rfl) (wof hw 288 rfl) (wof hw 289 rfl) (wof hw 290 rfl) (wof hw 291 rfl) (wof hw 292 rfl) (wof hw 293 rfl) (wof hw 246 rfl) (wof hw 294 rfl) (wof hw 226 rfl) (by decide) (W := 0) (argsL := []) (rest := []) (rm39 l Z a0 hw [] o27 lh oh ha (1 : Int32) h27 n0 z_27 hE27 ge_o27 (Ne.symm ne_o27_lh) (Ne.symm ne_o27_oh) F_lh_modCount_27 hI027 hI127 hI227 hI327 F_lh_size_27 F_lh_elementData_27 B_oh_27) (by decide) (by decide) (by decide) (by decide) e28 hE27 (g := (mkF m 252 #[vR a1, .val .null, vI (Int32.ofNat (sz + 20)), vR b12, vR o27, vU] [(.ref o27)])) rfl (by rw [hml]; rfl) (lenOf pd_30_5 rfl) rfl (by show 2 * 0 + _ ≤ _; exact Nat.le_of_eq rfl) (hb hby d30_252)
   obtain ⟨rfl, NQ29, KQ29, hI029, hI129, hI229, hI329⟩ := Q29
   refine Goes.step st29 ?_
   have E_lh_29 := E_lh_27.keep KQ29
   have F_lh_size_29 := F_lh_size_27.keep KQ29 (ninS (Ne.symm ne_o27_lh) nin0)
   have F_lh_modCount_29 := F_lh_modCount_27.keep KQ29 (ninS (Ne.symm ne_o27_lh) nin0)
   have F_lh_elementData_29 := F_lh_elementData_27.keep KQ29 (ninS (Ne.symm ne_o27_lh) nin0)
   have B_oh_29 := B_oh_27.keep KQ29 (ninS (Ne.symm ne_o27_oh) nin0)
   have E_ha_29 := E_ha_27.keep KQ29
   have F_ha_start_29 := F_ha_start_27.keep KQ29 (ninS (Ne.symm ne_o27_ha) nin0)
   have F_ha_end_29 := F_ha_end_27.keep KQ29 (ninS (Ne.symm ne_o27_ha) nin0)
   have F_ha_handler_29 := F_ha_handler_27.keep KQ29 (ninS (Ne.symm ne_o27_ha) nin0)
   have F_ha_catchType_29 := F_ha_catchType_27.keep KQ29 (ninS (Ne.symm ne_o27_ha) nin0)
   have F_l1_offset_29 := F_l1_offset_27.keep KQ29 (ninS (Ne.symm ne_o27_l1) nin0)
   have F_l2_offset_29 := F_l2_offset_27.keep KQ29 (ninS (Ne.symm ne_o27_l2) nin0)
   have F_l3_offset_29 := F_l3_offset_27.keep KQ29 (ninS (Ne.symm ne_o27_l3) nin0)
   have hE13_29 := hE13_27.keep KQ29
   have hFb25_29 := hFb25_27.keep KQ29 (ninS (Ne.symm ne_o27_b12) nin0)
   have hFs25_29 := hFs25_27.keep KQ29 (ninS (Ne.symm ne_o27_b12) nin0)
   have hA25_29 := hA25_27.keep KQ29 (ninS (Ne.symm ne_o27_b13) nin0)
   have hE27_29 := hE27.keep KQ29
   have z_29 : n0 ≤ h29.size := Nat.le_trans z_27 KQ29.1
   have K_29 : Keep h0 h29 [] := Keep.trans K_27 KQ29 (allS (Or.inr sz_o27) all0)
   have N_29 := Fr.app N_27 NQ29
   show Goes p e below s _ _ _ T29 (mkF m 257 #[vR a1, .val .null, vI (Int32.ofNat (sz + 20)), vR b12, vR o27, vU] [(.ref ha)])
   obtain ⟨T30, X30, e30, st30⟩ := castY X29 hx hZ hown (wof hw 171 rfl) e29 (Ins.self E_ha_29) (g := (mkF m 257 #[vR a1, .val .null, vI (Int32.ofNat (sz + 20)), vR b12, vR o27, vU] [(.ref ha)])) rfl rfl (hb hby d30_257)
   refine Goes.step st30 ?_
   show Goes p e below s _ _ _ T30 (mkF m 260 #[vR a1, .val .null, vI (Int32.ofNat (sz + 20)), vR b12, vR o27, vU] [(.ref ha)])
   refine Goes.step (fun _ k => XS.astore X30.here hx rfl (hb hby d30_260) rfl rfl (l' := #[vR a1, .val .null, vI (Int32.ofNat (sz + 20)), vR b12, vR o27, vR ha]) rfl k) ?_
   refine Goes.step (fun _ k => XS.aloadN X30.here hx rfl (hb hby d30_262) rfl rfl k) ?_
   refine Goes.step (fun _ k => XS.aload X30.here hx rfl (hb hby d30_263) rfl rfl k) ?_
   obtain ⟨T31, X31, e31, st31⟩ := own_pure (r := some (.ref l1)) (fun _ _ _ q => q) (callXV X30 hx hZ (C := "com/example/proxysmith/proxysmith/Bytecode$Handler") (b := ha) (y := y_41) (z := y_41) hown (wof hw 302 rfl) (wof hw 303 rfl) (wof hw 305 rfl) (wof hw 304 rfl) (wof hw 306 rfl) (wof hw 173 rfl) (notFace_of_selects (args := #[]) (mvT hZ (wof hw 305 rfl))) (by decide) (W := 1) (argsL := []) (rest := [(.ref b12)]) (rm41 l Z a0 hw [] ha l1 h29 n0 z_29 F_ha_start_29) (by decide) (by decide) (by decide) (by decide) e30 E_ha_29 (g := (mkF m 265 #[vR a1, .val .null, vI (Int32.ofNat (sz + 20)), vR b12, vR o27, vR ha] [(.ref ha), (.ref b12)])) rfl (by rw [hml]; rfl) (lenOf pd_30_6 rfl) rfl (by show 2 * 0 + _ ≤ _; exact Nat.le_of_eq rfl) (hb hby d30_265))
   refine Goes.step st31 ?_
   show Goes p e below s _ _ _ T31 (mkF m 268 #[vR a1, .val .null, vI (Int32.ofNat (sz + 20)), vR b12, vR o27, vR ha] [(.ref l1), (.ref b12)])
   obtain ⟨T32, X32, e32, st32⟩ := own_pure (r := some (.int (Int32.ofNat x1))) (fun _ _ _ q => q) (callX X31 hx hZ (y := y_42) hown (wof hw 307 rfl) (wof hw 308 rfl) (wof hw 3 rfl) (wof hw 309 rfl) (by decide) (W := 1) (argsL := [(.ref l1)]) (rest := [(.ref b12)]) (rm42 l Z a0 hw [] l1 x1 h29 n0 z_29 F_l1_offset_29 (by omega)) (by decide) (by decide) (by decide) (by decide) e31 (g := (mkF m 268 #[vR a1, .val .null, vI (Int32.ofNat (sz + 20)), vR b12, vR o27, vR ha] [(.ref l1), (.ref b12)])) rfl (by rw [hml]; rfl) (lenOf pd_30_7 rfl) rfl (by show 2 * 0 + _ ≤ _; exact Nat.le_of_eq rfl) (hb hby d30_268))
   refine Goes.step st32 ?_
   show Goes p e below s _ _ _ T32 (mkF m 271 #[vR a1, .val .null, vI (Int32.ofNat (sz + 20)), vR b12, vR o27, vR ha] [(.int (Int32.ofNat x1)), (.ref b12)])
   obtain ⟨v33, T33, h33, L33, X33, e33, Q33, st33⟩ := callXV X32 hx hZ (C := "com/example/proxysmith/proxysmith/ClassFileWriter$Bytes") (b := b12) (y := y_36) (z := y_36) hown (wof hw 267 rfl) (wof hw 268 rfl) (wof hw 270 rfl) (wof hw 269 rfl) (wof hw 271 rfl) (wof hw 20 rfl) (notFace_of_selects (args := #[]) (mvT hZ (wof hw 270 rfl))) (by decide) (W := 0) (argsL := [(.int (Int32.ofNat x1))]) (rest := []) (rm36 l Z a0 hw [] b12 (Int32.ofNat x1) b13 (sz + 20) ((((((0 + 1 + 1) + 1 + 1) + 1 + 1 + 1 + 1) + sz) + 1 + 1)) f25 h29 n0 z_29 hE13_29 hFb25_29 hFs25_29 hA25_29 hab13 ge_b12 hg13 (by omega) hn) (by decide) (by decide) (by decide) (by decide) e32 hE13_29 (g := (mkF m 271 #[vR a1, .val .null, vI (Int32.ofNat (sz + 20)), vR b12, vR o27, vR ha] [(.int (Int32.ofNat x1)), (.ref b12)])) rfl (by rw [hml]; rfl) (lenOf pd_30_3 rfl) rfl (by show 2 * 0 + _ ≤ _; exact Nat.le_of_eq rfl) (hb hby d30_271)
   obtain ⟨rfl, NQ33, KQ33, hFb33, hFs33, f33, hA33, hp33, hv33⟩ := Q33
   refine Goes.step st33 ?_
   have E_lh_33 := E_lh_29.keep KQ33
   have F_lh_size_33 := F_lh_size_29.keep KQ33 (ninS ne_lh_b12 (ninS ne_lh_b13 nin0))
   have F_lh_modCount_33 := F_lh_modCount_29.keep KQ33 (ninS ne_lh_b12 (ninS ne_lh_b13 nin0))
   have F_lh_elementData_33 := F_lh_elementData_29.keep KQ33 (ninS ne_lh_b12 (ninS ne_lh_b13 nin0))
   have B_oh_33 := B_oh_29.keep KQ33 (ninS ne_oh_b12 (ninS ne_oh_b13 nin0))
   have E_ha_33 := E_ha_29.keep KQ33
   have F_ha_start_33 := F_ha_start_29.keep KQ33 (ninS ne_ha_b12 (ninS ne_ha_b13 nin0))
   have F_ha_end_33 := F_ha_end_29.keep KQ33 (ninS ne_ha_b12 (ninS ne_ha_b13 nin0))
   have F_ha_handler_33 := F_ha_handler_29.keep KQ33 (ninS ne_ha_b12 (ninS ne_ha_b13 nin0))
   have F_ha_catchType_33 := F_ha_catchType_29.keep KQ33 (ninS ne_ha_b12 (ninS ne_ha_b13 nin0))
   have F_l1_offset_33 := F_l1_offset_29.keep KQ33 (ninS ne_l1_b12 (ninS ne_l1_b13 nin0))
   have F_l2_offset_33 := F_l2_offset_29.keep KQ33 (ninS ne_l2_b12 (ninS ne_l2_b13 nin0))
   have F_l3_offset_33 := F_l3_offset_29.keep KQ33 (ninS ne_l3_b12 (ninS ne_l3_b13 nin0))
   have hE13_33 := hE13_29.keep KQ33
   have hE27_33 := hE27_29.keep KQ33
   have hI029_33 := hI029.keep KQ33 (ninS ne_o27_b12 (ninS ne_o27_b13 nin0))
   have hI129_33 := hI129.keep KQ33 (ninS ne_o27_b12 (ninS ne_o27_b13 nin0))
   have hI229_33 := hI229.keep KQ33 (ninS ne_o27_b12 (ninS ne_o27_b13 nin0))
   have hI329_33 := hI329.keep KQ33 (ninS ne_o27_b12 (ninS ne_o27_b13 nin0))
   have z_33 : n0 ≤ h33.size := Nat.le_trans z_29 KQ33.1
   have K_33 : Keep h0 h33 [] := Keep.trans K_29 KQ33 (allS (Or.inr sz_b12) (allS (Or.inr (Nat.le_trans K_12.1 hb13)) all0))
   have N_33 := Fr.app N_29 NQ33
   show Goes p e below s _ _ _ T33 (mkF m 274 #[vR a1, .val .null, vI (Int32.ofNat (sz + 20)), vR b12, vR o27, vR ha] [])
   refine Goes.step (fun _ k => XS.aloadN X33.here hx rfl (hb hby d30_274) rfl rfl k) ?_
   refine Goes.step (fun _ k => XS.aload X33.here hx rfl (hb hby d30_275) rfl rfl k) ?_
   obtain ⟨T34, X34, e34, st34⟩ := own_pure (r := some (.ref l2)) (fun _ _ _ q => q) (callXV X33 hx hZ (C := "com/example/proxysmith/proxysmith/Bytecode$Handler") (b := ha) (y := y_43) (z := y_43) hown (wof hw 310 rfl) (wof hw 311 rfl) (wof hw 313 rfl) (wof hw 312 rfl) (wof hw 314 rfl) (wof hw 173 rfl) (notFace_of_selects (args := #[]) (mvT hZ (wof hw 313 rfl))) (by decide) (W := 1) (argsL := []) (rest := [(.ref b12)]) (rm43 l Z a0 hw [] ha l2 h33 n0 z_33 F_ha_end_33) (by decide) (by decide) (by decide) (by decide) e33 E_ha_33 (g := (mkF m 277 #[vR a1, .val .null, vI (Int32.ofNat (sz + 20)), vR b12, vR o27, vR ha] [(.ref ha), (.ref b12)])) rfl (by rw [hml]; rfl) (lenOf pd_30_6 rfl) rfl (by show 2 * 0 + _ ≤ _; exact Nat.le_of_eq rfl) (hb hby d30_277))
   refine Goes.step st34 ?_
   show Goes p e below s _ _ _ T34 (mkF m 280 #[vR a1, .val .null, vI (Int32.ofNat (sz + 20)), vR b12, vR o27, vR ha] [(.ref l2), (.ref b12)])
   obtain ⟨T35, X35, e35, st35⟩ := own_pure (r := some (.int (Int32.ofNat x2))) (fun _ _ _ q => q) (callX X34 hx hZ (y := y_42) hown (wof hw 307 rfl) (wof hw 308 rfl) (wof hw 3 rfl) (wof hw 309 rfl) (by decide) (W := 1) (argsL := [(.ref l2)]) (rest := [(.ref b12)]) (rm42 l Z a0 hw [] l2 x2 h33 n0 z_33 F_l2_offset_33 (by omega)) (by decide) (by decide) (by decide) (by decide) e34 (g := (mkF m 280 #[vR a1, .val .null, vI (Int32.ofNat (sz + 20)), vR b12, vR o27, vR ha] [(.ref l2), (.ref b12)])) rfl (by rw [hml]; rfl) (lenOf pd_30_7 rfl) rfl (by show 2 * 0 + _ ≤ _; exact Nat.le_of_eq rfl) (hb hby d30_280))
   refine Goes.step st35 ?_
   show Goes p e below s _ _ _ T35 (mkF m 283 #[vR a1, .val .null, vI (Int32.ofNat (sz + 20)), vR b12, vR o27, vR ha] [(.int (Int32.ofNat x2)), (.ref b12)])
   obtain ⟨v36, T36, h36, L36, X36, e36, Q36, st36⟩ := callXV X35 hx hZ (C := "com/example/proxysmith/proxysmith/ClassFileWriter$Bytes") (b := b12) (y := y_36) (z := y_36) hown (wof hw 267 rfl) (wof hw 268 rfl) (wof hw 270 rfl) (wof hw 269 rfl) (wof hw 271 rfl) (wof hw 20 rfl) (notFace_of_selects (args := #[]) (mvT hZ (wof hw 270 rfl))) (by decide) (W := 0) (argsL := [(.int (Int32.ofNat x2))]) (rest := []) (rm36 l Z a0 hw [] b12 (Int32.ofNat x2) b13 (sz + 20) (((((((0 + 1 + 1) + 1 + 1) + 1 + 1 + 1 + 1) + sz) + 1 + 1) + 1 + 1)) f33 h33 n0 z_33 hE13_33 hFb33 hFs33 hA33 hab13 ge_b12 hg13 (by omega) hn) (by decide) (by decide) (by decide) (by decide) e35 hE13_33 (g := (mkF m 283 #[vR a1, .val .null, vI (Int32.ofNat (sz + 20)), vR b12, vR o27, vR ha] [(.int (Int32.ofNat x2)), (.ref b12)])) rfl (by rw [hml]; rfl) (lenOf pd_30_3 rfl) rfl (by show 2 * 0 + _ ≤ _; exact Nat.le_of_eq rfl) (hb hby d30_283)
   obtain ⟨rfl, NQ36, KQ36, hFb36, hFs36, f36, hA36, hp36, hv36⟩ := Q36
   refine Goes.step st36 ?_
   have E_lh_36 := E_lh_33.keep KQ36
   have F_lh_size_36 := F_lh_size_33.keep KQ36 (ninS ne_lh_b12 (ninS ne_lh_b13 nin0))
   have F_lh_modCount_36 := F_lh_modCount_33.keep KQ36 (ninS ne_lh_b12 (ninS ne_lh_b13 nin0))
   have F_lh_elementData_36 := F_lh_elementData_33.keep KQ36 (ninS ne_lh_b12 (ninS ne_lh_b13 nin0))
   have B_oh_36 := B_oh_33.keep KQ36 (ninS ne_oh_b12 (ninS ne_oh_b13 nin0))
   have E_ha_36 := E_ha_33.keep KQ36
   have F_ha_start_36 := F_ha_start_33.keep KQ36 (ninS ne_ha_b12 (ninS ne_ha_b13 nin0))
   have F_ha_end_36 := F_ha_end_33.keep KQ36 (ninS ne_ha_b12 (ninS ne_ha_b13 nin0))
   have F_ha_handler_36 := F_ha_handler_33.keep KQ36 (ninS ne_ha_b12 (ninS ne_ha_b13 nin0))
   have F_ha_catchType_36 := F_ha_catchType_33.keep KQ36 (ninS ne_ha_b12 (ninS ne_ha_b13 nin0))
   have F_l1_offset_36 := F_l1_offset_33.keep KQ36 (ninS ne_l1_b12 (ninS ne_l1_b13 nin0))
   have F_l2_offset_36 := F_l2_offset_33.keep KQ36 (ninS ne_l2_b12 (ninS ne_l2_b13 nin0))
   have F_l3_offset_36 := F_l3_offset_33.keep KQ36 (ninS ne_l3_b12 (ninS ne_l3_b13 nin0))
   have hE13_36 := hE13_33.keep KQ36
   have hE27_36 := hE27_33.keep KQ36
   have hI029_36 := hI029_33.keep KQ36 (ninS ne_o27_b12 (ninS ne_o27_b13 nin0))
   have hI129_36 := hI129_33.keep KQ36 (ninS ne_o27_b12 (ninS ne_o27_b13 nin0))
   have hI229_36 := hI229_33.keep KQ36 (ninS ne_o27_b12 (ninS ne_o27_b13 nin0))
   have hI329_36 := hI329_33.keep KQ36 (ninS ne_o27_b12 (ninS ne_o27_b13 nin0))
   have z_36 : n0 ≤ h36.size := Nat.le_trans z_33 KQ36.1
   have K_36 : Keep h0 h36 [] := Keep.trans K_33 KQ36 (allS (Or.inr sz_b12) (allS (Or.inr (Nat.le_trans K_12.1 hb13)) all0))
   have N_36 := Fr.app N_33 NQ36
   show Goes p e below s _ _ _ T36 (mkF m 286 #[vR a1, .val .null, vI (Int32.ofNat (sz + 20)), vR b12, vR o27, vR ha] [])
   refine Goes.step (fun _ k => XS.aloadN X36.here hx rfl (hb hby d30_286) rfl rfl k) ?_
   refine Goes.step (fun _ k => XS.aload X36.here hx rfl (hb hby d30_287) rfl rfl k) ?_
   obtain ⟨T37, X37, e37, st37⟩ := own_pure (r := some (.ref l3)) (fun _ _ _ q => q) (callXV X36 hx hZ (C := "com/example/proxysmith/proxysmith/Bytecode$Handler") (b := ha) (y := y_44) (z := y_44) hown (wof hw 315 rfl) (wof hw 316 rfl) (wof hw 318 rfl) (wof hw 317 rfl) (wof hw 319 rfl) (wof hw 173 rfl) (notFace_of_selects (args := #[]) (mvT hZ (wof hw 318 rfl))) (by decide) (W := 1) (argsL := []) (rest := [(.ref b12)]) (rm44 l Z a0 hw [] ha l3 h36 n0 z_36 F_ha_handler_36) (by decide) (by decide) (by decide) (by decide) e36 E_ha_36 (g := (mkF m 289 #[vR a1, .val .null, vI (Int32.ofNat (sz + 20)), vR b12, vR o27, vR ha] [(.ref ha), (.ref b12)])) rfl (by rw [hml]; rfl) (lenOf pd_30_6 rfl) rfl (by show 2 * 0 + _ ≤ _; exact Nat.le_of_eq rfl) (hb hby d30_289))
   refine Goes.step st37 ?_
   show Goes p e below s _ _ _ T37 (mkF m 292 #[vR a1, .val .null, vI (Int32.ofNat (sz + 20)), vR b12, vR o27, vR ha] [(.ref l3), (.ref b12)])
   obtain ⟨T38, X38, e38, st38⟩ := own_pure (r := some (.int (Int32.ofNat x3))) (fun _ _ _ q => q) (callX X37 hx hZ (y := y_42) hown (wof hw 307 rfl) (wof hw 308 rfl) (wof hw 3 rfl) (wof hw 309 rfl) (by decide) (W := 1) (argsL := [(.ref l3)]) (rest := [(.ref b12)]) (rm42 l Z a0 hw [] l3 x3 h36 n0 z_36 F_l3_offset_36 (by omega)) (by decide) (by decide) (by decide) (by decide) e37 (g := (mkF m 292 #[vR a1, .val .null, vI (Int32.ofNat (sz + 20)), vR b12, vR o27, vR ha] [(.ref l3), (.ref b12)])) rfl (by rw [hml]; rfl) (lenOf pd_30_7 rfl) rfl (by show 2 * 0 + _ ≤ _; exact Nat.le_of_eq rfl) (hb hby d30_292))
   refine Goes.step st38 ?_
   show Goes p e below s _ _ _ T38 (mkF m 295 #[vR a1, .val .null, vI (Int32.ofNat (sz + 20)), vR b12, vR o27, vR ha] [(.int (Int32.ofNat x3)), (.ref b12)])
   as_aux_lemma =>
    obtain ⟨v39, T39, h39, L39, X39, e39, Q39, st39⟩ := callXV X38 hx hZ (C := "com/example/proxysmith/proxysmith/ClassFileWriter$Bytes") (b := b12) (y := y_36) (z := y_36) hown (wof hw 267 rfl) (wof hw 268 rfl) (wof hw 270 rfl) (wof hw 269 rfl) (wof hw 271 rfl) (wof hw 20 rfl) (notFace_of_selects (args := #[]) (mvT hZ (wof hw 270 rfl))) (by decide) (W := 0) (argsL := [(.int (Int32.ofNat x3))]) (rest := []) (rm36 l Z a0 hw [] b12 (Int32.ofNat x3) b13 (sz + 20) ((((((((0 + 1 + 1) + 1 + 1) + 1 + 1 + 1 + 1) + sz) + 1 + 1) + 1 + 1) + 1 + 1)) f36 h36 n0 z_36 hE13_36 hFb36 hFs36 hA36 hab13 ge_b12 hg13 (by omega) hn) (by decide) (by decide) (by decide) (by decide) e38 hE13_36 (g := (mkF m 295 #[vR a1, .val .null, vI (Int32.ofNat (sz + 20)), vR b12, vR o27, vR ha] [(.int (Int32.ofNat x3)), (.ref b12)])) rfl (by rw [hml]; rfl) (lenOf pd_30_3 rfl) rfl (by show 2 * 0 + _ ≤ _; exact Nat.le_of_eq rfl) (hb hby d30_295)
    obtain ⟨rfl, NQ39, KQ39, hFb39, hFs39, f39, hA39, hp39, hv39⟩ := Q39
    refine Goes.step st39 ?_
    have E_lh_39 := E_lh_36.keep KQ39
    have F_lh_size_39 := F_lh_size_36.keep KQ39 (ninS ne_lh_b12 (ninS ne_lh_b13 nin0))
    have F_lh_modCount_39 := F_lh_modCount_36.keep KQ39 (ninS ne_lh_b12 (ninS ne_lh_b13 nin0))
    have F_lh_elementData_39 := F_lh_elementData_36.keep KQ39 (ninS ne_lh_b12 (ninS ne_lh_b13 nin0))
    have B_oh_39 := B_oh_36.keep KQ39 (ninS ne_oh_b12 (ninS ne_oh_b13 nin0))
    have E_ha_39 := E_ha_36.keep KQ39
    have F_ha_start_39 := F_ha_start_36.keep KQ39 (ninS ne_ha_b12 (ninS ne_ha_b13 nin0))
    have F_ha_end_39 := F_ha_end_36.keep KQ39 (ninS ne_ha_b12 (ninS ne_ha_b13 nin0))
    have F_ha_handler_39 := F_ha_handler_36.keep KQ39 (ninS ne_ha_b12 (ninS ne_ha_b13 nin0))
    have F_ha_catchType_39 := F_ha_catchType_36.keep KQ39 (ninS ne_ha_b12 (ninS ne_ha_b13 nin0))
    have F_l1_offset_39 := F_l1_offset_36.keep KQ39 (ninS ne_l1_b12 (ninS ne_l1_b13 nin0))
    have F_l2_offset_39 := F_l2_offset_36.keep KQ39 (ninS ne_l2_b12 (ninS ne_l2_b13 nin0))
    have F_l3_offset_39 := F_l3_offset_36.keep KQ39 (ninS ne_l3_b12 (ninS ne_l3_b13 nin0))
    have hE13_39 := hE13_36.keep KQ39
    have hE27_39 := hE27_36.keep KQ39
    have hI029_39 := hI029_36.keep KQ39 (ninS ne_o27_b12 (ninS ne_o27_b13 nin0))
    have hI129_39 := hI129_36.keep KQ39 (ninS ne_o27_b12 (ninS ne_o27_b13 nin0))
    have hI229_39 := hI229_36.keep KQ39 (ninS ne_o27_b12 (ninS ne_o27_b13 nin0))
    have hI329_39 := hI329_36.keep KQ39 (ninS ne_o27_b12 (ninS ne_o27_b13 nin0))
    have z_39 : n0 ≤ h39.size := Nat.le_trans z_36 KQ39.1
    have K_39 : Keep h0 h39 [] := Keep.trans K_36 KQ39 (allS (Or.inr sz_b12) (allS (Or.inr (Nat.le_trans K_12.1 hb13)) all0))
    have N_39 := Fr.app N_36 NQ39
    show Goes p e below s _ _ _ T39 (mkF m 298 #[vR a1, .val .null, vI (Int32.ofNat (sz + 20)), vR b12, vR o27, vR ha] [])
    refine Goes.step (fun _ k => XS.aloadN X39.here hx rfl (hb hby d30_298) rfl rfl k) ?_
    refine Goes.step (fun _ k => XS.aload X39.here hx rfl (hb hby d30_299) rfl rfl k) ?_
    obtain ⟨T40, X40, e40, st40⟩ := own_pure (r := some .null) (fun _ _ _ q => q) (callXV X39 hx hZ (C := "com/example/proxysmith/proxysmith/Bytecode$Handler") (b := ha) (y := y_45) (z := y_45) hown (wof hw 320 rfl) (wof hw 321 rfl) (wof hw 323 rfl) (wof hw 322 rfl) (wof hw 324 rfl) (wof hw 173 rfl) (notFace_of_selects (args := #[]) (mvT hZ (wof hw 323 rfl))) (by decide) (W := 1) (argsL := []) (rest := [(.ref b12)]) (rm45 l Z a0 hw [] ha h39 n0 z_39 F_ha_catchType_39) (by decide) (by decide) (by decide) (by decide) e39 E_ha_39 (g := (mkF m 301 #[vR a1, .val .null, vI (Int32.ofNat (sz + 20)), vR b12, vR o27, vR ha] [(.ref ha), (.ref b12)])) rfl (by rw [hml]; rfl) (lenOf pd_30_8 rfl) rfl (by show 2 * 0 + _ ≤ _; exact Nat.le_of_eq rfl) (hb hby d30_301))
    refine Goes.step st40 ?_
    show Goes p e below s _ _ _ T40 (mkF m 304 #[vR a1, .val .null, vI (Int32.ofNat (sz + 20)), vR b12, vR o27, vR ha] [.null, (.ref b12)])
    refine Goes.step (fun _ k => XS.ifnonnullNo X40.here hx rfl (hb hby d30_304) rfl k) ?_
    show Goes p e below s _ _ _ T40 (mkF m 307 #[vR a1, .val .null, vI (Int32.ofNat (sz + 20)), vR b12, vR o27, vR ha] [(.ref b12)])
    refine Goes.step (fun _ k => XS.iconst X40.here hx rfl (hb hby d30_307) k) ?_
    refine Goes.step (fun _ k => XS.goto X40.here hx rfl (pc0 := 308) (pc' := 323) rfl (hb hby d30_308) (by decide) (by decide) k) ?_
    obtain ⟨v41, T41, h41, L41, X41, e41, Q41, st41⟩ := callXV X40 hx hZ (C := "com/example/proxysmith/proxysmith/ClassFileWriter$Bytes") (b := b12) (y := y_36) (z := y_36) hown (wof hw 267 rfl) (wof hw 268 rfl) (wof hw 270 rfl) (wof hw 269 rfl) (wof hw 271 rfl) (wof hw 20 rfl) (notFace_of_selects (args := #[]) (mvT hZ (wof hw 270 rfl))) (by decide) (W := 0) (argsL := [(.int (0 : Int32))]) (rest := []) (rm36 l Z a0 hw [] b12 (0 : Int32) b13 (sz + 20) (((((((((0 + 1 + 1) + 1 + 1) + 1 + 1 + 1 + 1) + sz) + 1 + 1) + 1 + 1) + 1 + 1) + 1 + 1)) f39 h39 n0 z_39 hE13_39 hFb39 hFs39 hA39 hab13 ge_b12 hg13 (by omega) hn) (by decide) (by decide) (by decide) (by decide) e40 hE13_39 (g := (mkF m 323 #[vR a1, .val .null, vI (Int32.ofNat (sz + 20)), vR b12, vR o27, vR ha] [(.int (0 : Int32)), (.ref b12)])) rfl (by rw [hml]; rfl) (lenOf pd_30_3 rfl) rfl (by show 2 * 0 + _ ≤ _; exact Nat.le_of_eq rfl) (hb hby d30_323)
    obtain ⟨rfl, NQ41, KQ41, hFb41, hFs41, f41, hA41, hp41, hv41⟩ := Q41
    refine Goes.step st41 ?_
    have E_lh_41 := E_lh_39.keep KQ41
    have F_lh_size_41 := F_lh_size_39.keep KQ41 (ninS ne_lh_b12 (ninS ne_lh_b13 nin0))
    have F_lh_modCount_41 := F_lh_modCount_39.keep KQ41 (ninS ne_lh_b12 (ninS ne_lh_b13 nin0))
    have F_lh_elementData_41 := F_lh_elementData_39.keep KQ41 (ninS ne_lh_b12 (ninS ne_lh_b13 nin0))
    have B_oh_41 := B_oh_39.keep KQ41 (ninS ne_oh_b12 (ninS ne_oh_b13 nin0))
    have E_ha_41 := E_ha_39.keep KQ41
    have F_ha_start_41 := F_ha_start_39.keep KQ41 (ninS ne_ha_b12 (ninS ne_ha_b13 nin0))
    have F_ha_end_41 := F_ha_end_39.keep KQ41 (ninS ne_ha_b12 (ninS ne_ha_b13 nin0))
    have F_ha_handler_41 := F_ha_handler_39.keep KQ41 (ninS ne_ha_b12 (ninS ne_ha_b13 nin0))
    have F_ha_catchType_41 := F_ha_catchType_39.keep KQ41 (ninS ne_ha_b12 (ninS ne_ha_b13 nin0))
    have F_l1_offset_41 := F_l1_offset_39.keep KQ41 (ninS ne_l1_b12 (ninS ne_l1_b13 nin0))
    have F_l2_offset_41 := F_l2_offset_39.keep KQ41 (ninS ne_l2_b12 (ninS ne_l2_b13 nin0))
    have F_l3_offset_41 := F_l3_offset_39.keep KQ41 (ninS ne_l3_b12 (ninS ne_l3_b13 nin0))
    have hE13_41 := hE13_39.keep KQ41
    have hE27_41 := hE27_39.keep KQ41
    have hI029_41 := hI029_39.keep KQ41 (ninS ne_o27_b12 (ninS ne_o27_b13 nin0))
    have hI129_41 := hI129_39.keep KQ41 (ninS ne_o27_b12 (ninS ne_o27_b13 nin0))
    have hI229_41 := hI229_39.keep KQ41 (ninS ne_o27_b12 (ninS ne_o27_b13 nin0))
    have hI329_41 := hI329_39.keep KQ41 (ninS ne_o27_b12 (ninS ne_o27_b13 nin0))
    have z_41 : n0 ≤ h41.size := Nat.le_trans z_39 KQ41.1
    have K_41 : Keep h0 h41 [] := Keep.trans K_39 KQ41 (allS (Or.inr sz_b12) (allS (Or.inr (Nat.le_trans K_12.1 hb13)) all0))
    have N_41 := Fr.app N_39 NQ41
    show Goes p e below s _ _ _ T41 (mkF m 326 #[vR a1, .val .null, vI (Int32.ofNat (sz + 20)), vR b12, vR o27, vR ha] [])
    refine Goes.step (fun _ k => XS.goto X41.here hx rfl (pc0 := 326) (pc' := 240) rfl (hb hby d30_326) (by decide) (by decide) k) ?_
    show Goes p e below s _ _ _ T41 (mkF m 240 #[vR a1, .val .null, vI (Int32.ofNat (sz + 20)), vR b12, vR o27, vR ha] [])
    refine Goes.step (fun _ k => XS.aload X41.here hx rfl (hb hby d30_240) rfl rfl k) ?_
    obtain ⟨T42, X42, e42, st42⟩ := own_pure5 (r := some (.int (0 : Int32))) (fun _ _ _ q => q) (callXF X41 hx hZ (C := "java/util/ArrayList$Itr") (b := o27) (y := y_148) (z := y_33) hown (wof hw 239 rfl) (wof hw 240 rfl) (wof hw 241 rfl) (wof hw 242 rfl) (wof hw 243 rfl) (wof hw 244 rfl) (wof hw 245 rfl) (wof hw 246 rfl) (wof hw 247 rfl) (wof hw 226 rfl) (by decide) (W := 0) (argsL := []) (rest := []) (rm33e l Z a0 hw [] o27 lh (1 : Int32) (1 : Int32) h41 n0 z_41 hI029_41 hI329_41 F_lh_size_41 (by decide)) (by decide) (by decide) (by decide) (by decide) e41 hE27_41 (g := (mkF m 242 #[vR a1, .val .null, vI (Int32.ofNat (sz + 20)), vR b12, vR o27, vR ha] [(.ref o27)])) rfl (by rw [hml]; rfl) (lenOf pd_30_2 rfl) rfl (by show 2 * 0 + _ ≤ _; exact Nat.le_of_eq rfl) (hb hby d30_242))
    refine Goes.step st42 ?_
    show Goes p e below s _ _ _ T42 (mkF m 247 #[vR a1, .val .null, vI (Int32.ofNat (sz + 20)), vR b12, vR o27, vR ha] [(.int (0 : Int32))])
    refine Goes.step (fun _ k => XS.ifYes X42.here hx rfl (pc0 := 247) (pc' := 329) rfl (hb hby d30_247) rfl ((if0 _ _).trans (teq (by decide : (0 : Int32) = (0 : Int32))).1) (by decide) (by decide) k) ?_
    show Goes p e below s _ _ _ T42 (mkF m 329 #[vR a1, .val .null, vI (Int32.ofNat (sz + 20)), vR b12, vR o27, vR ha] [])
    refine Goes.step (fun _ k => XS.aloadN X42.here hx rfl (hb hby d30_329) rfl rfl k) ?_
    refine Goes.step (fun _ k => XS.ifnonnullNo X42.here hx rfl (hb hby d30_330) rfl k) ?_
    show Goes p e below s _ _ _ T42 (mkF m 333 #[vR a1, .val .null, vI (Int32.ofNat (sz + 20)), vR b12, vR o27, vR ha] [])
    refine Goes.step (fun _ k => XS.aloadN X42.here hx rfl (hb hby d30_333) rfl rfl k) ?_
    refine Goes.step (fun _ k => XS.iconst X42.here hx rfl (hb hby d30_334) k) ?_
    obtain ⟨v43, T43, h43, L43, X43, e43, Q43, st43⟩ := callXV X42 hx hZ (C := "com/example/proxysmith/proxysmith/ClassFileWriter$Bytes") (b := b12) (y := y_36) (z := y_36) hown (wof hw 267 rfl) (wof hw 268 rfl) (wof hw 270 rfl) (wof hw 269 rfl) (wof hw 271 rfl) (wof hw 20 rfl) (notFace_of_selects (args := #[]) (mvT hZ (wof hw 270 rfl))) (by decide) (W := 0) (argsL := [(.int (0 : Int32))]) (rest := []) (rm36 l Z a0 hw [] b12 (0 : Int32) b13 (sz + 20) ((((((((((0 + 1 + 1) + 1 + 1) + 1 + 1 + 1 + 1) + sz) + 1 + 1) + 1 + 1) + 1 + 1) + 1 + 1) + 1 + 1)) f41 h41 n0 z_41 hE13_41 hFb41 hFs41 hA41 hab13 ge_b12 hg13 (by omega) hn) (by decide) (by decide) (by decide) (by decide) e42 hE13_41 (g := (mkF m 335 #[vR a1, .val .null, vI (Int32.ofNat (sz + 20)), vR b12, vR o27, vR ha] [(.int (0 : Int32)), (.ref b12)])) rfl (by rw [hml]; rfl) (lenOf pd_30_3 rfl) rfl (by show 2 * 0 + _ ≤ _; exact Nat.le_of_eq rfl) (hb hby d30_335)
    obtain ⟨rfl, NQ43, KQ43, hFb43, hFs43, f43, hA43, hp43, hv43⟩ := Q43
    refine Goes.step st43 ?_
    have hE13_43 := hE13_41.keep KQ43
    have z_43 : n0 ≤ h43.size := Nat.le_trans z_41 KQ43.1
    have K_43 : Keep h0 h43 [] := Keep.trans K_41 KQ43 (allS (Or.inr sz_b12) (allS (Or.inr (Nat.le_trans K_12.1 hb13)) all0))
    have N_43 := Fr.app N_41 NQ43
    show Goes p e below s _ _ _ T43 (mkF m 338 #[vR a1, .val .null, vI (Int32.ofNat (sz + 20)), vR b12, vR o27, vR ha] [])
    refine Goes.step (fun _ k => XS.goto X43.here hx rfl (pc0 := 338) (pc' := 370) rfl (hb hby d30_338) (by decide) (by decide) k) ?_
    refine Goes.step (fun _ k => XS.aloadN X43.here hx rfl (hb hby d30_370) rfl rfl k) ?_
    show Goes p e below s _ _ _ T43 (mkF m 371 #[vR a1, .val .null, vI (Int32.ofNat (sz + 20)), vR b12, vR o27, vR ha] [(.ref b12)])
    have hfin : Fld Z h43 b12 "com/example/proxysmith/proxysmith/ClassFileWriter$Bytes" "size" "I" (.int (Int32.ofNat (sz + 20))) := by have q := hFs43; rw [show ((((((((((0 + 1 + 1) + 1 + 1) + 1 + 1 + 1 + 1) + sz) + 1 + 1) + 1 + 1) + 1 + 1) + 1 + 1) + 1 + 1) + 1 + 1) = (sz + 20) from by omega] at q; exact q
    obtain ⟨T44, X44, e44, st44⟩ := own_pure (r := some (.ref b13)) (fun _ _ _ q => q) (callXV X43 hx hZ (C := "com/example/proxysmith/proxysmith/ClassFileWriter$Bytes") (b := b12) (y := y_46) (z := y_46) hown (wof hw 325 rfl) (wof hw 326 rfl) (wof hw 328 rfl) (wof hw 327 rfl) (wof hw 329 rfl) (wof hw 20 rfl) (notFace_of_selects (args := #[]) (mvT hZ (wof hw 328 rfl))) (by decide) (W := 0) (argsL := []) (rest := []) (rm46 l Z a0 hw [] b12 b13 (sz + 20) f43 h43 n0 z_43 hE13_43 hFb43 hfin hA43) (by decide) (by decide) (by decide) (by decide) e43 hE13_43 (g := (mkF m 371 #[vR a1, .val .null, vI (Int32.ofNat (sz + 20)), vR b12, vR o27, vR ha] [(.ref b12)])) rfl (by rw [hml]; rfl) (lenOf pd_30_9 rfl) rfl (by show 2 * 0 + _ ≤ _; exact Nat.le_of_eq rfl) (hb hby d30_371))
    refine Goes.step st44 ?_
    show Goes p e below s _ _ _ T44 (mkF m 374 #[vR a1, .val .null, vI (Int32.ofNat (sz + 20)), vR b12, vR o27, vR ha] [(.ref b13)])
    have hu0 : own_u2 f43 (0) = Int32.ofNat k := (congrArg (own_u2 f43) (by omega : 0 = 0)).trans ((own_u2k hp43 (by omega)).trans ((own_u2k hp41 (by omega)).trans ((own_u2k hp39 (by omega)).trans ((own_u2k hp36 (by omega)).trans ((own_u2k hp33 (by omega)).trans ((own_u2k hp25 (by omega)).trans ((own_u2k hp22 (by omega)).trans ((own_u2k hp20 (by omega)).trans ((own_u2k hp17 (by omega)).trans (hv15 (own_rg (by omega)).1 (own_rg (by omega)).2))))))))))
    have hu1 : own_u2 f43 (4) = 0 := (congrArg (own_u2 f43) (by omega : 4 = ((0 + 1 + 1) + 1 + 1))).trans ((own_u2k hp43 (by omega)).trans ((own_u2k hp41 (by omega)).trans ((own_u2k hp39 (by omega)).trans ((own_u2k hp36 (by omega)).trans ((own_u2k hp33 (by omega)).trans ((own_u2k hp25 (by omega)).trans ((own_u2k hp22 (by omega)).trans hv20)))))))
    have hu2 : own_u2 f43 (6) = Int32.ofNat sz := (congrArg (own_u2 f43) (by omega : 6 = ((0 + 1 + 1) + 1 + 1) + 1 + 1)).trans ((own_u2k hp43 (by omega)).trans ((own_u2k hp41 (by omega)).trans ((own_u2k hp39 (by omega)).trans ((own_u2k hp36 (by omega)).trans ((own_u2k hp33 (by omega)).trans ((own_u2k hp25 (by omega)).trans ((own_u2k hp22 (by omega)).trans hw20)))))))
    have hu3 : own_u2 f43 (8 + sz) = 1 := (congrArg (own_u2 f43) (by omega : 8 + sz = ((((0 + 1 + 1) + 1 + 1) + 1 + 1 + 1 + 1) + sz))).trans ((own_u2k hp43 (by omega)).trans ((own_u2k hp41 (by omega)).trans ((own_u2k hp39 (by omega)).trans ((own_u2k hp36 (by omega)).trans ((own_u2k hp33 (by omega)).trans (hv25 (by decide) (by decide)))))))
    have hu4 : own_u2 f43 (10 + sz) = Int32.ofNat x1 := (congrArg (own_u2 f43) (by omega : 10 + sz = (((((0 + 1 + 1) + 1 + 1) + 1 + 1 + 1 + 1) + sz) + 1 + 1))).trans ((own_u2k hp43 (by omega)).trans ((own_u2k hp41 (by omega)).trans ((own_u2k hp39 (by omega)).trans ((own_u2k hp36 (by omega)).trans (hv33 (own_rg (by omega)).1 (own_rg (by omega)).2)))))
    have hu5 : own_u2 f43 (12 + sz) = Int32.ofNat x2 := (congrArg (own_u2 f43) (by omega : 12 + sz = ((((((0 + 1 + 1) + 1 + 1) + 1 + 1 + 1 + 1) + sz) + 1 + 1) + 1 + 1))).trans ((own_u2k hp43 (by omega)).trans ((own_u2k hp41 (by omega)).trans ((own_u2k hp39 (by omega)).trans (hv36 (own_rg (by omega)).1 (own_rg (by omega)).2))))
    have hu6 : own_u2 f43 (14 + sz) = Int32.ofNat x3 := (congrArg (own_u2 f43) (by omega : 14 + sz = (((((((0 + 1 + 1) + 1 + 1) + 1 + 1 + 1 + 1) + sz) + 1 + 1) + 1 + 1) + 1 + 1))).trans ((own_u2k hp43 (by omega)).trans ((own_u2k hp41 (by omega)).trans (hv39 (own_rg (by omega)).1 (own_rg (by omega)).2)))
    have hu7 : own_u2 f43 (16 + sz) = 0 := (congrArg (own_u2 f43) (by omega : 16 + sz = ((((((((0 + 1 + 1) + 1 + 1) + 1 + 1 + 1 + 1) + sz) + 1 + 1) + 1 + 1) + 1 + 1) + 1 + 1))).trans ((own_u2k hp43 (by omega)).trans (hv41 (by decide) (by decide)))
    have hu8 : own_u2 f43 (18 + sz) = 0 := (congrArg (own_u2 f43) (by omega : 18 + sz = (((((((((0 + 1 + 1) + 1 + 1) + 1 + 1 + 1 + 1) + sz) + 1 + 1) + 1 + 1) + 1 + 1) + 1 + 1) + 1 + 1))).trans (hv43 (by decide) (by decide))
    exact Goes.outR X44 hx hlk Bd.returns rfl rfl (hb hby d30_374) (by rw [e44]; exact ⟨b13, f43, rfl, N_43, K_43, (Nat.le_trans K_12.1 hb13), hA43, hu0, hu1, hu2, hu3, hu4, hu5, hu6, hu7, hu8⟩) (by decide) (by decide)
theorem pn_0 : plainName "com/example/proxysmith/proxysmith/BytecodePlacePinLaw" = true := by first | (simp [plainName, overriddenIn]; done) | decide +kernel
theorem pd_0_0 : parseMethodDescriptor "(Lcom/example/proxysmith/proxysmith/ClassFileWriter;Ljava/lang/String;Ljava/lang/String;)V" = some ⟨[(.object "com/example/proxysmith/proxysmith/ClassFileWriter"), (.object "java/lang/String"), (.object "java/lang/String")], none⟩ := by decide +kernel
theorem pd_0_1 : parseMethodDescriptor "()Lcom/example/proxysmith/proxysmith/Bytecode$Label;" = some ⟨[], some (.object "com/example/proxysmith/proxysmith/Bytecode$Label")⟩ := by decide +kernel
theorem pd_0_2 : parseMethodDescriptor "(Lcom/example/proxysmith/proxysmith/Bytecode$Label;)V" = some ⟨[(.object "com/example/proxysmith/proxysmith/Bytecode$Label")], none⟩ := by decide +kernel
theorem pd_0_3 : parseMethodDescriptor "(Ljava/lang/String;I)V" = some ⟨[(.object "java/lang/String"), .int], none⟩ := by decide +kernel
theorem pd_0_4 : parseMethodDescriptor "(Lcom/example/proxysmith/proxysmith/Bytecode$Label;Lcom/example/proxysmith/proxysmith/Bytecode$Label;Lcom/example/proxysmith/proxysmith/Bytecode$Label;Ljava/lang/String;)V" = some ⟨[(.object "com/example/proxysmith/proxysmith/Bytecode$Label"), (.object "com/example/proxysmith/proxysmith/Bytecode$Label"), (.object "com/example/proxysmith/proxysmith/Bytecode$Label"), (.object "java/lang/String")], none⟩ := by decide +kernel
theorem pd_0_5 : parseMethodDescriptor "()[B" = some ⟨[], some (.array .byte)⟩ := by decide +kernel
theorem pd_0_6 : parseMethodDescriptor "(I)I" = some ⟨[.int], some .int⟩ := by decide +kernel
theorem pd_0_7 : parseMethodDescriptor "([BI)I" = some ⟨[(.array .byte), .int], some .int⟩ := by decide +kernel
theorem ef_0 (m : MethodId) (p1 : Int32) (p2 : Int32) (p3 : Int32) (p4 : Int32) : entryFrame m #[(.int p1), (.int p2), (.int p3), (.int p4)] maxLocals = mkF m 0 #[.val (.int p1), .val (.int p2), .val (.int p3), .val (.int p4), .unset, .unset, .unset, .unset, .unset, .unset, .unset, .unset, .unset, .unset, .unset, .unset, .unset, .unset, .unset] [] := by first | (simp [entryFrame, mkF, argsToLocals, Value.category, maxLocals]; done) | rfl
def Q0 (Z : State) (p1 : Int32) (p2 : Int32) (p3 : Int32) (p4 : Int32) (G1 : Int32) (oF : Option Addr) (h0 : Heap) (n0 : Nat) (v : Option Value) (h : Heap) (L : List Loc) : Prop := v = some (.int (1 : Int32)) ∧ Fr n0 L
set_option maxRecDepth 65536 in
set_option maxHeartbeats 40000000 in
theorem rm0 (l : Launch) (Z : State) (a0 : Array Value) (hw : ∀ d ∈ tables_1, d.before a0 Z = true) (ws : List Jvm.Cond) (p1 : Int32) (p2 : Int32) (p3 : Int32) (p4 : Int32) (G1 : Int32) (oF : Option Addr) (h0 : Heap) (n0 : Nat) (Z0 : n0 ≤ h0.size) (O2 : Sta Z Z.heap "java/lang/String" "COMPACT_STRINGS" "Z" (.int G1)) (P3 : ¬ (G1 = (0 : Int32))) (OL : Old Z n0 h0) (O4 : Sta Z Z.heap "jdk/internal/util/Preconditions" "SIOOBE_FORMATTER" "Ljava/util/function/BiFunction;" (ov oF)) (hn0 : n0 = h0.size) (HC1 : Jvm.Lit.constHeld Z "com/example/proxysmith/proxysmith/BytecodePlacePinLaw" 10) (HC2 : Jvm.Lit.constHeld Z "com/example/proxysmith/proxysmith/BytecodePlacePinLaw" 18) (hcw : Jvm.Lit.compactW.before a0 Z = true) :
    MetFree l x (head1 (Jvm.Cond.code x code maxLocals ret :: ws) room_1) (fun a U => a = #[(.int p1), (.int p2), (.int p3), (.int p4)] ∧ Z.Warmed39 U.vm ∧ U.heap = h0 ∧ U.vm.interned = Z.vm.interned) (fun _ _ _ _ _ => True) (fun _ U o U' => ∃ v L, o = .returned v ∧ Q0 Z p1 p2 p3 p4 G1 oF h0 n0 v U'.heap L ∧ ReturnedEndW U o U' L room_1.cells room_1.slots) := by
  refine MetFree.of_bodySF (plainFor_of_name pn_0) hisR ?_
  intro p e s m args below meth c s₁ Bd hml0 hP hK
  obtain ⟨rfl, hZ, hh, hI⟩ := hP
  have hx := Bd.exec
  have hby := Bd.bytes
  have hlk := Bd.notSynchronized
  have hml : c.maxLocals = 19 := hml0
  have hown : s.vm.findClass "com/example/proxysmith/proxysmith/BytecodePlacePinLaw" = some m.cls := findClass_of_methodNamed Bd.named
  have hnm := (name_of_methodNamed Bd.named Bd.method).1
  have X0 : Stand p l e room_1 s m #[(.int p1), (.int p2), (.int p3), (.int p4)] below meth c s₁ [] 0 0 := Stand.of_body Bd
  have e0 : s₁.heap = h0 := by rw [← hh, Bd.state]; rfl
  have N0 := Fr.nil n0
  have K0 : Keep h0 h0 [] := Keep.refl h0 _
  show GoesW p e below s room_1.cells room_1.slots (Q0 Z p1 p2 p3 p4 G1 oF h0 n0) s₁ (entryFrame m #[(.int p1), (.int p2), (.int p3), (.int p4)] maxLocals)
  refine GoesW.step (fun t k => castTop (ef_0 m p1 p2 p3 p4) k) ?_
  have hkeep : ∀ (b : Addr) (cl : Cell), Z.heap[b]? = some cl → s.heap[b]? = some cl := fun b cl q => by rw [hh]; exact OL.2.2 b cl q
  have IB0 : IB Z s.vm [] := ⟨#[], by simp [hI], fun q hq => by simp at hq⟩
  have wS : ∀ a ∈ Bundle.stringAtoms, a.before a0 Z = true := fun d hd => by
    simp only [Bundle.stringAtoms, Bundle.sN, List.mem_cons, List.not_mem_nil, or_false] at hd
    rcases hd with rfl | rfl | rfl | rfl | rfl | rfl | rfl
    · exact (wof hw 5 rfl)
    · exact (wof hw 6 rfl)
    · exact (wof hw 7 rfl)
    · exact (wof hw 8 rfl)
    · exact (wof hw 9 rfl)
    · exact (wof hw 10 rfl)
    · exact (wof hw 11 rfl)
  obtain ⟨u1, eu1⟩ : ∃ u, (p1 &&& (65535 : Int32)) = u := ⟨_, rfl⟩
  obtain ⟨u2, eu2⟩ : ∃ u, (p2 &&& (65535 : Int32)) = u := ⟨_, rfl⟩
  obtain ⟨u3, eu3⟩ : ∃ u, (p3 &&& (65535 : Int32)) = u := ⟨_, rfl⟩
  obtain ⟨la, ela, hla⟩ := own_lenN u1
  obtain ⟨lb, elb, hlb⟩ := own_lenN u2
  obtain ⟨lc, elc, hlc⟩ := own_lenN u3
  refine GoesW.step (fun _ k => XS.iloadN X0.here hx rfl (hb hby at_0) rfl k) ?_
  refine GoesW.step (fun _ k => X0.ldcInt hx hown (mvT hZ (wof hw 0 rfl)) (g := (mkF m 1 #[vI p1, vI p2, vI p3, vI p4, vU, vU, vU, vU, vU, vU, vU, vU, vU, vU, vU, vU, vU, vU, vU] [(.int p1)])) rfl (hb hby at_1) _ k) ?_
  show GoesW p e below s _ _ _ s₁ (mkF m 3 #[vI p1, vI p2, vI p3, vI p4, vU, vU, vU, vU, vU, vU, vU, vU, vU, vU, vU, vU, vU, vU, vU] [(.int (65535 : Int32)), (.int p1)])
  refine GoesW.step (fun _ k => XS.iand X0.here hx rfl (hb hby at_3) rfl k) ?_
  show GoesW p e below s _ _ _ s₁ (mkF m 4 #[vI p1, vI p2, vI p3, vI p4, vU, vU, vU, vU, vU, vU, vU, vU, vU, vU, vU, vU, vU, vU, vU] [(.int (p1 &&& (65535 : Int32)))])
  rw [eu1]
  refine GoesW.step (fun _ k => XS.istore X0.here hx rfl (hb hby at_4) rfl (l' := #[vI p1, vI p2, vI p3, vI p4, vI u1, vU, vU, vU, vU, vU, vU, vU, vU, vU, vU, vU, vU, vU, vU]) rfl k) ?_
  refine GoesW.step (fun _ k => XS.iloadN X0.here hx rfl (hb hby at_6) rfl k) ?_
  refine GoesW.step (fun _ k => X0.ldcInt hx hown (mvT hZ (wof hw 0 rfl)) (g := (mkF m 7 #[vI p1, vI p2, vI p3, vI p4, vI u1, vU, vU, vU, vU, vU, vU, vU, vU, vU, vU, vU, vU, vU, vU] [(.int p2)])) rfl (hb hby at_7) _ k) ?_
  show GoesW p e below s _ _ _ s₁ (mkF m 9 #[vI p1, vI p2, vI p3, vI p4, vI u1, vU, vU, vU, vU, vU, vU, vU, vU, vU, vU, vU, vU, vU, vU] [(.int (65535 : Int32)), (.int p2)])
  refine GoesW.step (fun _ k => XS.iand X0.here hx rfl (hb hby at_9) rfl k) ?_
  show GoesW p e below s _ _ _ s₁ (mkF m 10 #[vI p1, vI p2, vI p3, vI p4, vI u1, vU, vU, vU, vU, vU, vU, vU, vU, vU, vU, vU, vU, vU, vU] [(.int (p2 &&& (65535 : Int32)))])
  rw [eu2]
  refine GoesW.step (fun _ k => XS.istore X0.here hx rfl (hb hby at_10) rfl (l' := #[vI p1, vI p2, vI p3, vI p4, vI u1, vI u2, vU, vU, vU, vU, vU, vU, vU, vU, vU, vU, vU, vU, vU]) rfl k) ?_
  refine GoesW.step (fun _ k => XS.iloadN X0.here hx rfl (hb hby at_12) rfl k) ?_
  refine GoesW.step (fun _ k => X0.ldcInt hx hown (mvT hZ (wof hw 0 rfl)) (g := (mkF m 13 #[vI p1, vI p2, vI p3, vI p4, vI u1, vI u2, vU, vU, vU, vU, vU, vU, vU, vU, vU, vU, vU, vU, vU] [(.int p3)])) rfl (hb hby at_13) _ k) ?_
  show GoesW p e below s _ _ _ s₁ (mkF m 15 #[vI p1, vI p2, vI p3, vI p4, vI u1, vI u2, vU, vU, vU, vU, vU, vU, vU, vU, vU, vU, vU, vU, vU] [(.int (65535 : Int32)), (.int p3)])
  refine GoesW.step (fun _ k => XS.iand X0.here hx rfl (hb hby at_15) rfl k) ?_
  show GoesW p e below s _ _ _ s₁ (mkF m 16 #[vI p1, vI p2, vI p3, vI p4, vI u1, vI u2, vU, vU, vU, vU, vU, vU, vU, vU, vU, vU, vU, vU, vU] [(.int (p3 &&& (65535 : Int32)))])
  rw [eu3]
  refine GoesW.step (fun _ k => XS.istore X0.here hx rfl (hb hby at_16) rfl (l' := #[vI p1, vI p2, vI p3, vI p4, vI u1, vI u2, vI u3, vU, vU, vU, vU, vU, vU, vU, vU, vU, vU, vU, vU]) rfl k) ?_
  refine GoesW.step (fun _ k => XS.iloadN X0.here hx rfl (hb hby at_18) rfl k) ?_
  refine GoesW.step (fun _ k => XS.iconst X0.here hx rfl (hb hby at_19) k) ?_
  refine GoesW.step (fun _ k => XS.iand X0.here hx rfl (hb hby at_20) rfl k) ?_
  show GoesW p e below s _ _ _ s₁ (mkF m 21 #[vI p1, vI p2, vI p3, vI p4, vI u1, vI u2, vI u3, vU, vU, vU, vU, vU, vU, vU, vU, vU, vU, vU, vU] [(.int (p4 &&& (1 : Int32)))])
  obtain ⟨x7, hx7, jx7⟩ : ∃ z : Int32, (z = 0 ∨ z = 1) ∧ ∀ t, Steps p.tables e below (s₁.setTop (mkF m 29 #[vI p1, vI p2, vI p3, vI p4, vI u1, vI u2, vI u3, vU, vU, vU, vU, vU, vU, vU, vU, vU, vU, vU, vU] [(.int z)])) t → Steps p.tables e below (s₁.setTop (mkF m 21 #[vI p1, vI p2, vI p3, vI p4, vI u1, vI u2, vI u3, vU, vU, vU, vU, vU, vU, vU, vU, vU, vU, vU, vU] [(.int (p4 &&& (1 : Int32)))])) t := by
    by_cases hc : (p4 &&& (1 : Int32)) = (0 : Int32)
    · exact ⟨0, Or.inl rfl, fun t k => XS.ifYes X0.here hx rfl (pc0 := 21) (pc' := 28) rfl (hb hby at_21) rfl ((if0 _ _).trans (teq hc).1) (by decide) (by decide) (XS.iconst X0.here hx rfl (hb hby at_28) k)⟩
    · exact ⟨1, Or.inr rfl, fun t k => XS.ifNo X0.here hx rfl (hb hby at_21) rfl ((if0 _ _).trans (feq hc).1) (XS.iconst X0.here hx rfl (hb hby at_24) (XS.goto X0.here hx rfl (pc0 := 25) (pc' := 29) rfl (hb hby at_25) (by decide) (by decide) k))⟩
  refine GoesW.step jx7 ?_
  show GoesW p e below s _ _ _ s₁ (mkF m 29 #[vI p1, vI p2, vI p3, vI p4, vI u1, vI u2, vI u3, vU, vU, vU, vU, vU, vU, vU, vU, vU, vU, vU, vU] [(.int x7)])
  refine GoesW.step (fun _ k => XS.istore X0.here hx rfl (hb hby at_29) rfl (l' := #[vI p1, vI p2, vI p3, vI p4, vI u1, vI u2, vI u3, vI x7, vU, vU, vU, vU, vU, vU, vU, vU, vU, vU, vU]) rfl k) ?_
  refine GoesW.step (fun _ k => XS.iloadN X0.here hx rfl (hb hby at_31) rfl k) ?_
  refine GoesW.step (fun _ k => XS.iconst X0.here hx rfl (hb hby at_32) k) ?_
  refine GoesW.step (fun _ k => XS.iand X0.here hx rfl (hb hby at_33) rfl k) ?_
  show GoesW p e below s _ _ _ s₁ (mkF m 34 #[vI p1, vI p2, vI p3, vI p4, vI u1, vI u2, vI u3, vI x7, vU, vU, vU, vU, vU, vU, vU, vU, vU, vU, vU] [(.int (p4 &&& (2 : Int32)))])
  obtain ⟨x8, hx8, jx8⟩ : ∃ z : Int32, (z = 0 ∨ z = 1) ∧ ∀ t, Steps p.tables e below (s₁.setTop (mkF m 42 #[vI p1, vI p2, vI p3, vI p4, vI u1, vI u2, vI u3, vI x7, vU, vU, vU, vU, vU, vU, vU, vU, vU, vU, vU] [(.int z)])) t → Steps p.tables e below (s₁.setTop (mkF m 34 #[vI p1, vI p2, vI p3, vI p4, vI u1, vI u2, vI u3, vI x7, vU, vU, vU, vU, vU, vU, vU, vU, vU, vU, vU] [(.int (p4 &&& (2 : Int32)))])) t := by
    by_cases hc : (p4 &&& (2 : Int32)) = (0 : Int32)
    · exact ⟨0, Or.inl rfl, fun t k => XS.ifYes X0.here hx rfl (pc0 := 34) (pc' := 41) rfl (hb hby at_34) rfl ((if0 _ _).trans (teq hc).1) (by decide) (by decide) (XS.iconst X0.here hx rfl (hb hby at_41) k)⟩
    · exact ⟨1, Or.inr rfl, fun t k => XS.ifNo X0.here hx rfl (hb hby at_34) rfl ((if0 _ _).trans (feq hc).1) (XS.iconst X0.here hx rfl (hb hby at_37) (XS.goto X0.here hx rfl (pc0 := 38) (pc' := 42) rfl (hb hby at_38) (by decide) (by decide) k))⟩
  refine GoesW.step jx8 ?_
  show GoesW p e below s _ _ _ s₁ (mkF m 42 #[vI p1, vI p2, vI p3, vI p4, vI u1, vI u2, vI u3, vI x7, vU, vU, vU, vU, vU, vU, vU, vU, vU, vU, vU] [(.int x8)])
  refine GoesW.step (fun _ k => XS.istore X0.here hx rfl (hb hby at_42) rfl (l' := #[vI p1, vI p2, vI p3, vI p4, vI u1, vI u2, vI u3, vI x7, vI x8, vU, vU, vU, vU, vU, vU, vU, vU, vU, vU]) rfl k) ?_
  obtain ⟨T1, h1, X1, e1, E1, A1, D1, -, st1⟩ := newO X0 hx hZ hown (wof hw 1 rfl) (wof hw 2 rfl) (wof hw 3 rfl) e0 (g := (mkF m 44 #[vI p1, vI p2, vI p3, vI p4, vI u1, vI u2, vI u3, vI x7, vI x8, vU, vU, vU, vU, vU, vU, vU, vU, vU, vU] [])) rfl (hb hby at_44) (by decide) (by decide)
  obtain ⟨b1, g_1⟩ : ∃ z, z = h0.size := ⟨_, rfl⟩
  rw [← g_1] at A1 D1 st1
  refine GoesW.step st1 ?_
  have ge_b1 : n0 ≤ b1 := by rw [g_1]; exact Z0
  have sz_b1 : h0.size ≤ b1 := by rw [g_1]; exact K0.1
  have z_1 : n0 ≤ h1.size := Nat.le_trans Z0 E1.1
  have K_1 : Keep h0 h1 [] := K0.ext E1
  have E_b1_1 : Exa Z h1 b1 "com/example/proxysmith/proxysmith/Bytecode" := A1
  have F_b1_code_1 : Fld Z h1 b1 "com/example/proxysmith/proxysmith/Bytecode" "code" "Lcom/example/proxysmith/proxysmith/ClassFileWriter$Bytes;" .null := D1 (Or.inr (wof hw 28 rfl)) (ty := (.object "com/example/proxysmith/proxysmith/ClassFileWriter$Bytes")) (by decide)
  have F_b1_jumps_1 : Fld Z h1 b1 "com/example/proxysmith/proxysmith/Bytecode" "jumps" "Ljava/util/List;" .null := D1 (Or.inr (wof hw 55 rfl)) (ty := (.object "java/util/List")) (by decide)
  have F_b1_frames_1 : Fld Z h1 b1 "com/example/proxysmith/proxysmith/Bytecode" "frames" "Ljava/util/List;" .null := D1 (Or.inr (wof hw 57 rfl)) (ty := (.object "java/util/List")) (by decide)
  have F_b1_handlers_1 : Fld Z h1 b1 "com/example/proxysmith/proxysmith/Bytecode" "handlers" "Ljava/util/List;" .null := D1 (Or.inr (wof hw 59 rfl)) (ty := (.object "java/util/List")) (by decide)
  have F_b1_reachable_1 : Fld Z h1 b1 "com/example/proxysmith/proxysmith/Bytecode" "reachable" "Z" (.int (0 : Int32)) := D1 (Or.inl (wof hw 61 rfl)) (ty := .boolean) (by decide)
  have F_b1_owner_1 : Fld Z h1 b1 "com/example/proxysmith/proxysmith/Bytecode" "owner" "Lcom/example/proxysmith/proxysmith/ClassFileWriter;" .null := D1 (Or.inr (wof hw 63 rfl)) (ty := (.object "com/example/proxysmith/proxysmith/ClassFileWriter")) (by decide)
  have F_b1_self_1 : Fld Z h1 b1 "com/example/proxysmith/proxysmith/Bytecode" "self" "Ljava/lang/String;" .null := D1 (Or.inr (wof hw 65 rfl)) (ty := (.object "java/lang/String")) (by decide)
  have F_b1_descriptor_1 : Fld Z h1 b1 "com/example/proxysmith/proxysmith/Bytecode" "descriptor" "Ljava/lang/String;" .null := D1 (Or.inr (wof hw 67 rfl)) (ty := (.object "java/lang/String")) (by decide)
  have F_b1_entrySlots_1 : Fld Z h1 b1 "com/example/proxysmith/proxysmith/Bytecode" "entrySlots" "[I" .null := D1 (Or.inr (wof hw 95 rfl)) (ty := (.array .int)) (by decide)
  have F_b1_maxLocals_1 : Fld Z h1 b1 "com/example/proxysmith/proxysmith/Bytecode" "maxLocals" "I" (.int (0 : Int32)) := D1 (Or.inl (wof hw 97 rfl)) (ty := .int) (by decide)
  have F_b1_stack_1 : Fld Z h1 b1 "com/example/proxysmith/proxysmith/Bytecode" "stack" "I" (.int (0 : Int32)) := D1 (Or.inl (wof hw 152 rfl)) (ty := .int) (by decide)
  have F_b1_maxStack_1 : Fld Z h1 b1 "com/example/proxysmith/proxysmith/Bytecode" "maxStack" "I" (.int (0 : Int32)) := D1 (Or.inl (wof hw 154 rfl)) (ty := .int) (by decide)
  show GoesW p e below s _ _ _ T1 (mkF m 47 #[vI p1, vI p2, vI p3, vI p4, vI u1, vI u2, vI u3, vI x7, vI x8, vU, vU, vU, vU, vU, vU, vU, vU, vU, vU] [(.ref b1)])
  refine GoesW.step (fun _ k => XS.dup X1.here hx rfl (hb hby at_47) rfl rfl k) ?_
  refine GoesW.step (fun _ k => XS.aconstNull X1.here hx rfl (hb hby at_48) k) ?_
  refine GoesW.step (fun _ k => XS.aconstNull X1.here hx rfl (hb hby at_49) k) ?_
  show GoesW p e below s _ _ _ T1 (mkF m 50 #[vI p1, vI p2, vI p3, vI p4, vI u1, vI u2, vI u3, vI x7, vI x8, vU, vU, vU, vU, vU, vU, vU, vU, vU, vU] [.null, .null, (.ref b1), (.ref b1)])
  obtain ⟨c2, T2, h2, k2, d2, X2, e2, E2, hS2, hk_2, hZ, hown, hE2, hC2, hV2, hB2, I2, Lt2, st2⟩ := ldcI (s := s) (vm0 := s.vm) (text := "()V") X1 hx hZ hown (wof hw 4 rfl) wS e1 ((State.WarmedH.refl s).since 0) (Nat.zero_le _) (by rw [hh, ← hn0]; exact N0) hkeep IB0 (by decide) HC1 hcw (by decide) (n := 3) (by decide) (by decide) (g := (mkF m 50 #[vI p1, vI p2, vI p3, vI p4, vI u1, vI u2, vI u3, vI x7, vI x8, vU, vU, vU, vU, vU, vU, vU, vU, vU, vU] [.null, .null, (.ref b1), (.ref b1)])) rfl (hb hby at_50) (q := 12) (by decide) (by decide) (by decide) (by decide)
  refine GoesW.step st2 ?_
  have E_b1_2 := E_b1_1.ext E2
  have F_b1_code_2 := F_b1_code_1.ext E2
  have F_b1_jumps_2 := F_b1_jumps_1.ext E2
  have F_b1_frames_2 := F_b1_frames_1.ext E2
  have F_b1_handlers_2 := F_b1_handlers_1.ext E2
  have F_b1_reachable_2 := F_b1_reachable_1.ext E2
  have F_b1_owner_2 := F_b1_owner_1.ext E2
  have F_b1_self_2 := F_b1_self_1.ext E2
  have F_b1_descriptor_2 := F_b1_descriptor_1.ext E2
  have F_b1_entrySlots_2 := F_b1_entrySlots_1.ext E2
  have F_b1_maxLocals_2 := F_b1_maxLocals_1.ext E2
  have F_b1_stack_2 := F_b1_stack_1.ext E2
  have F_b1_maxStack_2 := F_b1_maxStack_1.ext E2
  have z_2 : n0 ≤ h2.size := Nat.le_trans z_1 E2.1
  have K_2 : Keep h0 h2 [] := K_1.ext E2
  have ne_c2_b1 := Exa.ne hE2 E_b1_2 (by decide)
  have ne_d2_b1 := Ari.neExa hB2 E_b1_2 (wof hw 2 rfl)
  show GoesW p e below s _ _ _ T2 (mkF m 52 #[vI p1, vI p2, vI p3, vI p4, vI u1, vI u2, vI u3, vI x7, vI x8, vU, vU, vU, vU, vU, vU, vU, vU, vU, vU] [(.ref c2), .null, .null, (.ref b1), (.ref b1)])
  obtain ⟨v3, T3, h3, L3, X3, e3, Q3, st3⟩ := callXI X2 hx hZ (b := b1) (y := y_1) hown rfl (wof hw 12 rfl) (wof hw 13 rfl) (wof hw 14 rfl) (wof hw 3 rfl) (by decide) (W := 1) (argsL := [.null, .null, (.ref c2)]) (rest := [(.ref b1)]) (rm1 l Z a0 hw [] b1 c2 G1 oF d2 h2 n0 z_2 O2 P3 (OL.keep K_2 all0) O4 E_b1_2 F_b1_code_2 F_b1_jumps_2 F_b1_frames_2 F_b1_handlers_2 F_b1_reachable_2 F_b1_owner_2 F_b1_self_2 F_b1_descriptor_2 F_b1_entrySlots_2 F_b1_maxLocals_2 F_b1_stack_2 F_b1_maxStack_2 ge_b1 hE2 hV2 hC2 hB2 ne_c2_b1 ne_d2_b1) (by decide) (by decide) (by decide) (by decide) e2 (g := (mkF m 52 #[vI p1, vI p2, vI p3, vI p4, vI u1, vI u2, vI u3, vI x7, vI x8, vU, vU, vU, vU, vU, vU, vU, vU, vU, vU] [(.ref c2), .null, .null, (.ref b1), (.ref b1)])) rfl (by rw [hml]; rfl) (lenOf pd_0_0 rfl) rfl (by show 2 * 0 + _ ≤ _; exact Nat.le_of_eq rfl) (hb hby at_52)
  obtain ⟨co3, b3, lj3, lf3, lh3, oh3, rfl, NQ3, KQ3, HN3, ⟨zco_3, zb_3, zlj_3, zlf_3, zlh_3, zoh_3⟩, HA3, HB3, HL3⟩ := Q3
  refine GoesW.step st3 ?_
  have E_b1_3 := E_b1_2.keep KQ3
  have hE2_3 := hE2.keep KQ3
  have hV2_3 := hV2.keep KQ3 (ninS ne_c2_b1 nin0)
  have hC2_3 := hC2.keep KQ3 (ninS ne_c2_b1 nin0)
  have hB2_3 := hB2.keep KQ3 (ninS ne_d2_b1 nin0)
  have hk_3 := Nat.le_trans hk_2 KQ3.1
  have z_3 : n0 ≤ h3.size := Nat.le_trans z_2 KQ3.1
  have K_3 : Keep h0 h3 [] := Keep.trans K_2 KQ3 (allS (Or.inr sz_b1) all0)
  have N_3 := Fr.app N0 NQ3
  have ge_co3 : n0 ≤ co3 := Nat.le_trans z_2 zco_3
  have sz_co3 : h0.size ≤ co3 := Nat.le_trans K_2.1 zco_3
  have ge_b3 : n0 ≤ b3 := Nat.le_trans z_2 zb_3
  have sz_b3 : h0.size ≤ b3 := Nat.le_trans K_2.1 zb_3
  have ge_lj3 : n0 ≤ lj3 := Nat.le_trans z_2 zlj_3
  have sz_lj3 : h0.size ≤ lj3 := Nat.le_trans K_2.1 zlj_3
  have ge_lf3 : n0 ≤ lf3 := Nat.le_trans z_2 zlf_3
  have sz_lf3 : h0.size ≤ lf3 := Nat.le_trans K_2.1 zlf_3
  have ge_lh3 : n0 ≤ lh3 := Nat.le_trans z_2 zlh_3
  have sz_lh3 : h0.size ≤ lh3 := Nat.le_trans K_2.1 zlh_3
  have ge_oh3 : n0 ≤ oh3 := Nat.le_trans z_2 zoh_3
  have sz_oh3 : h0.size ≤ oh3 := Nat.le_trans K_2.1 zoh_3
  show GoesW p e below s _ _ _ T3 (mkF m 55 #[vI p1, vI p2, vI p3, vI p4, vI u1, vI u2, vI u3, vI x7, vI x8, vU, vU, vU, vU, vU, vU, vU, vU, vU, vU] [(.ref b1)])
  refine GoesW.step (fun _ k => XS.astore X3.here hx rfl (hb hby at_55) rfl rfl (l' := #[vI p1, vI p2, vI p3, vI p4, vI u1, vI u2, vI u3, vI x7, vI x8, vR b1, vU, vU, vU, vU, vU, vU, vU, vU, vU]) rfl k) ?_
  refine GoesW.step (fun _ k => XS.aload X3.here hx rfl (hb hby at_57) rfl rfl k) ?_
  obtain ⟨v4, T4, h4, L4, X4, e4, Q4, st4⟩ := callXV X3 hx hZ (C := "com/example/proxysmith/proxysmith/Bytecode") (b := b1) (y := y_12) (z := y_12) hown (wof hw 98 rfl) (wof hw 99 rfl) (wof hw 101 rfl) (wof hw 100 rfl) (wof hw 102 rfl) (wof hw 3 rfl) (notFace_of_selects (args := #[]) (mvT hZ (wof hw 101 rfl))) (by decide) (W := 0) (argsL := []) (rest := []) (rm12 l Z a0 hw [] b1 h3 n0 z_3) (by decide) (by decide) (by decide) (by decide) e3 E_b1_3 (g := (mkF m 59 #[vI p1, vI p2, vI p3, vI p4, vI u1, vI u2, vI u3, vI x7, vI x8, vR b1, vU, vU, vU, vU, vU, vU, vU, vU, vU] [(.ref b1)])) rfl (by rw [hml]; rfl) (lenOf pd_0_1 rfl) rfl (by show 2 * 0 + _ ≤ _; exact Nat.le_of_eq rfl) (hb hby at_59)
  obtain ⟨o4, rfl, NQ4, KQ4, so4, hE4, hO4⟩ := Q4
  refine GoesW.step st4 ?_
  have E_b1_4 := E_b1_3.keep KQ4
  have HA3_4 := HA3.keep KQ4 nin0
  have HB3_4 := HB3.keep KQ4 nin0 nin0
  have HL3_4 := HL3.keep KQ4 nin0 nin0 nin0 nin0
  have hk_4 := Nat.le_trans hk_3 KQ4.1
  have z_4 : n0 ≤ h4.size := Nat.le_trans z_3 KQ4.1
  have K_4 : Keep h0 h4 [] := Keep.trans K_3 KQ4 all0
  have N_4 := Fr.app N_3 NQ4
  have ne_o4_b1 : o4 ≠ b1 := Nat.ne_of_gt (Nat.lt_of_lt_of_le HA3.E.lt so4)
  have ne_o4_co3 : o4 ≠ co3 := Nat.ne_of_gt (Nat.lt_of_lt_of_le HB3.E.lt so4)
  have ne_o4_b3 : o4 ≠ b3 := Nat.ne_of_gt (Nat.lt_of_lt_of_le HB3.A.lt so4)
  have ne_o4_lj3 : o4 ≠ lj3 := Nat.ne_of_gt (Nat.lt_of_lt_of_le HL3.Elj.lt so4)
  have ne_o4_lf3 : o4 ≠ lf3 := Nat.ne_of_gt (Nat.lt_of_lt_of_le HL3.Elf.lt so4)
  have ne_o4_lh3 : o4 ≠ lh3 := Nat.ne_of_gt (Nat.lt_of_lt_of_le HL3.Elh.lt so4)
  have ne_o4_oh3 : o4 ≠ oh3 := Nat.ne_of_gt (Nat.lt_of_lt_of_le HL3.B.lt so4)
  have ge_o4 : n0 ≤ o4 := Nat.le_trans z_3 so4
  have sz_o4 : h0.size ≤ o4 := Nat.le_trans K_3.1 so4
  show GoesW p e below s _ _ _ T4 (mkF m 62 #[vI p1, vI p2, vI p3, vI p4, vI u1, vI u2, vI u3, vI x7, vI x8, vR b1, vU, vU, vU, vU, vU, vU, vU, vU, vU] [(.ref o4)])
  refine GoesW.step (fun _ k => XS.astore X4.here hx rfl (hb hby at_62) rfl rfl (l' := #[vI p1, vI p2, vI p3, vI p4, vI u1, vI u2, vI u3, vI x7, vI x8, vR b1, vR o4, vU, vU, vU, vU, vU, vU, vU, vU]) rfl k) ?_
  refine GoesW.step (fun _ k => XS.aload X4.here hx rfl (hb hby at_64) rfl rfl k) ?_
  obtain ⟨v5, T5, h5, L5, X5, e5, Q5, st5⟩ := callXV X4 hx hZ (C := "com/example/proxysmith/proxysmith/Bytecode") (b := b1) (y := y_12) (z := y_12) hown (wof hw 98 rfl) (wof hw 99 rfl) (wof hw 101 rfl) (wof hw 100 rfl) (wof hw 102 rfl) (wof hw 3 rfl) (notFace_of_selects (args := #[]) (mvT hZ (wof hw 101 rfl))) (by decide) (W := 0) (argsL := []) (rest := []) (rm12 l Z a0 hw [] b1 h4 n0 z_4) (by decide) (by decide) (by decide) (by decide) e4 E_b1_4 (g := (mkF m 66 #[vI p1, vI p2, vI p3, vI p4, vI u1, vI u2, vI u3, vI x7, vI x8, vR b1, vR o4, vU, vU, vU, vU, vU, vU, vU, vU] [(.ref b1)])) rfl (by rw [hml]; rfl) (lenOf pd_0_1 rfl) rfl (by show 2 * 0 + _ ≤ _; exact Nat.le_of_eq rfl) (hb hby at_66)
  obtain ⟨o5, rfl, NQ5, KQ5, so5, hE5, hO5⟩ := Q5
  refine GoesW.step st5 ?_
  have E_b1_5 := E_b1_4.keep KQ5
  have HA3_5 := HA3_4.keep KQ5 nin0
  have HB3_5 := HB3_4.keep KQ5 nin0 nin0
  have HL3_5 := HL3_4.keep KQ5 nin0 nin0 nin0 nin0
  have hE4_5 := hE4.keep KQ5
  have hO4_5 := hO4.keep KQ5 nin0
  have hk_5 := Nat.le_trans hk_4 KQ5.1
  have z_5 : n0 ≤ h5.size := Nat.le_trans z_4 KQ5.1
  have K_5 : Keep h0 h5 [] := Keep.trans K_4 KQ5 all0
  have N_5 := Fr.app N_4 NQ5
  have ne_o5_b1 : o5 ≠ b1 := Nat.ne_of_gt (Nat.lt_of_lt_of_le HA3_4.E.lt so5)
  have ne_o5_co3 : o5 ≠ co3 := Nat.ne_of_gt (Nat.lt_of_lt_of_le HB3_4.E.lt so5)
  have ne_o5_b3 : o5 ≠ b3 := Nat.ne_of_gt (Nat.lt_of_lt_of_le HB3_4.A.lt so5)
  have ne_o5_lj3 : o5 ≠ lj3 := Nat.ne_of_gt (Nat.lt_of_lt_of_le HL3_4.Elj.lt so5)
  have ne_o5_lf3 : o5 ≠ lf3 := Nat.ne_of_gt (Nat.lt_of_lt_of_le HL3_4.Elf.lt so5)
  have ne_o5_lh3 : o5 ≠ lh3 := Nat.ne_of_gt (Nat.lt_of_lt_of_le HL3_4.Elh.lt so5)
  have ne_o5_oh3 : o5 ≠ oh3 := Nat.ne_of_gt (Nat.lt_of_lt_of_le HL3_4.B.lt so5)
  have ne_o5_o4 : o5 ≠ o4 := Nat.ne_of_gt (Nat.lt_of_lt_of_le hE4.lt so5)
  have ge_o5 : n0 ≤ o5 := Nat.le_trans z_4 so5
  have sz_o5 : h0.size ≤ o5 := Nat.le_trans K_4.1 so5
  show GoesW p e below s _ _ _ T5 (mkF m 69 #[vI p1, vI p2, vI p3, vI p4, vI u1, vI u2, vI u3, vI x7, vI x8, vR b1, vR o4, vU, vU, vU, vU, vU, vU, vU, vU] [(.ref o5)])
  refine GoesW.step (fun _ k => XS.astore X5.here hx rfl (hb hby at_69) rfl rfl (l' := #[vI p1, vI p2, vI p3, vI p4, vI u1, vI u2, vI u3, vI x7, vI x8, vR b1, vR o4, vR o5, vU, vU, vU, vU, vU, vU, vU]) rfl k) ?_
  refine GoesW.step (fun _ k => XS.aload X5.here hx rfl (hb hby at_71) rfl rfl k) ?_
  obtain ⟨v6, T6, h6, L6, X6, e6, Q6, st6⟩ := callXV X5 hx hZ (C := "com/example/proxysmith/proxysmith/Bytecode") (b := b1) (y := y_12) (z := y_12) hown (wof hw 98 rfl) (wof hw 99 rfl) (wof hw 101 rfl) (wof hw 100 rfl) (wof hw 102 rfl) (wof hw 3 rfl) (notFace_of_selects (args := #[]) (mvT hZ (wof hw 101 rfl))) (by decide) (W := 0) (argsL := []) (rest := []) (rm12 l Z a0 hw [] b1 h5 n0 z_5) (by decide) (by decide) (by decide) (by decide) e5 E_b1_5 (g := (mkF m 73 #[vI p1, vI p2, vI p3, vI p4, vI u1, vI u2, vI u3, vI x7, vI x8, vR b1, vR o4, vR o5, vU, vU, vU, vU, vU, vU, vU] [(.ref b1)])) rfl (by rw [hml]; rfl) (lenOf pd_0_1 rfl) rfl (by show 2 * 0 + _ ≤ _; exact Nat.le_of_eq rfl) (hb hby at_73)
  obtain ⟨o6, rfl, NQ6, KQ6, so6, hE6, hO6⟩ := Q6
  refine GoesW.step st6 ?_
  have E_b1_6 := E_b1_5.keep KQ6
  have HA3_6 := HA3_5.keep KQ6 nin0
  have HB3_6 := HB3_5.keep KQ6 nin0 nin0
  have HL3_6 := HL3_5.keep KQ6 nin0 nin0 nin0 nin0
  have hE4_6 := hE4_5.keep KQ6
  have hO4_6 := hO4_5.keep KQ6 nin0
  have hE5_6 := hE5.keep KQ6
  have hO5_6 := hO5.keep KQ6 nin0
  have hk_6 := Nat.le_trans hk_5 KQ6.1
  have z_6 : n0 ≤ h6.size := Nat.le_trans z_5 KQ6.1
  have K_6 : Keep h0 h6 [] := Keep.trans K_5 KQ6 all0
  have N_6 := Fr.app N_5 NQ6
  have ne_o6_b1 : o6 ≠ b1 := Nat.ne_of_gt (Nat.lt_of_lt_of_le HA3_5.E.lt so6)
  have ne_o6_co3 : o6 ≠ co3 := Nat.ne_of_gt (Nat.lt_of_lt_of_le HB3_5.E.lt so6)
  have ne_o6_b3 : o6 ≠ b3 := Nat.ne_of_gt (Nat.lt_of_lt_of_le HB3_5.A.lt so6)
  have ne_o6_lj3 : o6 ≠ lj3 := Nat.ne_of_gt (Nat.lt_of_lt_of_le HL3_5.Elj.lt so6)
  have ne_o6_lf3 : o6 ≠ lf3 := Nat.ne_of_gt (Nat.lt_of_lt_of_le HL3_5.Elf.lt so6)
  have ne_o6_lh3 : o6 ≠ lh3 := Nat.ne_of_gt (Nat.lt_of_lt_of_le HL3_5.Elh.lt so6)
  have ne_o6_oh3 : o6 ≠ oh3 := Nat.ne_of_gt (Nat.lt_of_lt_of_le HL3_5.B.lt so6)
  have ne_o6_o4 : o6 ≠ o4 := Nat.ne_of_gt (Nat.lt_of_lt_of_le hE4_5.lt so6)
  have ne_o6_o5 : o6 ≠ o5 := Nat.ne_of_gt (Nat.lt_of_lt_of_le hE5.lt so6)
  have ge_o6 : n0 ≤ o6 := Nat.le_trans z_5 so6
  have sz_o6 : h0.size ≤ o6 := Nat.le_trans K_5.1 so6
  show GoesW p e below s _ _ _ T6 (mkF m 76 #[vI p1, vI p2, vI p3, vI p4, vI u1, vI u2, vI u3, vI x7, vI x8, vR b1, vR o4, vR o5, vU, vU, vU, vU, vU, vU, vU] [(.ref o6)])
  refine GoesW.step (fun _ k => XS.astore X6.here hx rfl (hb hby at_76) rfl rfl (l' := #[vI p1, vI p2, vI p3, vI p4, vI u1, vI u2, vI u3, vI x7, vI x8, vR b1, vR o4, vR o5, vR o6, vU, vU, vU, vU, vU, vU]) rfl k) ?_
  refine GoesW.step (fun _ k => XS.iload X6.here hx rfl (hb hby at_78) rfl k) ?_
  show GoesW p e below s _ _ _ T6 (mkF m 80 #[vI p1, vI p2, vI p3, vI p4, vI u1, vI u2, vI u3, vI x7, vI x8, vR b1, vR o4, vR o5, vR o6, vU, vU, vU, vU, vU, vU] [(.int x7)])
  as_aux_lemma =>
   rcases hx7 with rfl | rfl
   · show GoesW p e below s _ _ _ T6 (mkF m 80 #[vI p1, vI p2, vI p3, vI p4, vI u1, vI u2, vI u3, vI (0 : Int32), vI x8, vR b1, vR o4, vR o5, vR o6, vU, vU, vU, vU, vU, vU] [(.int (0 : Int32))])
     refine GoesW.step (fun _ k => XS.ifYes X6.here hx rfl (pc0 := 80) (pc' := 92) rfl (hb hby at_80) rfl ((if0 _ _).trans (teq (by decide : (0 : Int32) = (0 : Int32))).1) (by decide) (by decide) k) ?_
     show GoesW p e below s _ _ _ T6 (mkF m 92 #[vI p1, vI p2, vI p3, vI p4, vI u1, vI u2, vI u3, vI (0 : Int32), vI x8, vR b1, vR o4, vR o5, vR o6, vU, vU, vU, vU, vU, vU] [])
     refine GoesW.step (fun _ k => XS.aload X6.here hx rfl (hb hby at_92) rfl rfl k) ?_
     refine GoesW.step (fun _ k => XS.aload X6.here hx rfl (hb hby at_94) rfl rfl k) ?_
     obtain ⟨v7, T7, h7, L7, X7, e7, Q7, st7⟩ := callXV X6 hx hZ (C := "com/example/proxysmith/proxysmith/Bytecode") (b := b1) (y := y_23) (z := y_23) hown (wof hw 155 rfl) (wof hw 156 rfl) (wof hw 158 rfl) (wof hw 157 rfl) (wof hw 159 rfl) (wof hw 3 rfl) (notFace_of_selects (args := #[]) (mvT hZ (wof hw 158 rfl))) (by decide) (W := 0) (argsL := [(.ref o4)]) (rest := []) (rm23 l Z a0 hw [] b1 o4 co3 0 h6 n0 z_6 HA3_6.Fcode HB3_6.E HB3_6.size hE4_6 hO4_6 ge_o4 (Ne.symm ne_o4_b1) (Ne.symm ne_o4_co3)) (by decide) (by decide) (by decide) (by decide) e6 E_b1_6 (g := (mkF m 96 #[vI p1, vI p2, vI p3, vI p4, vI u1, vI u2, vI u3, vI (0 : Int32), vI x8, vR b1, vR o4, vR o5, vR o6, vU, vU, vU, vU, vU, vU] [(.ref o4), (.ref b1)])) rfl (by rw [hml]; rfl) (lenOf pd_0_2 rfl) rfl (by show 2 * 0 + _ ≤ _; exact Nat.le_of_eq rfl) (hb hby at_96)
     obtain ⟨rfl, NQ7, KQ7, hO7⟩ := Q7
     refine GoesW.step st7 ?_
     have E_b1_7 := E_b1_6.keep KQ7
     have HA3_7 := HA3_6.keep KQ7 (ninS (Ne.symm ne_o4_b1) nin0)
     have HB3_7 := HB3_6.keep KQ7 (ninS (Ne.symm ne_o4_co3) nin0) (ninS (Ne.symm ne_o4_b3) nin0)
     have HL3_7 := HL3_6.keep KQ7 (ninS (Ne.symm ne_o4_lj3) nin0) (ninS (Ne.symm ne_o4_lf3) nin0) (ninS (Ne.symm ne_o4_lh3) nin0) (ninS (Ne.symm ne_o4_oh3) nin0)
     have hE4_7 := hE4_6.keep KQ7
     have hE5_7 := hE5_6.keep KQ7
     have hO5_7 := hO5_6.keep KQ7 (ninS ne_o5_o4 nin0)
     have hE6_7 := hE6.keep KQ7
     have hO6_7 := hO6.keep KQ7 (ninS ne_o6_o4 nin0)
     have hk_7 := Nat.le_trans hk_6 KQ7.1
     have z_7 : n0 ≤ h7.size := Nat.le_trans z_6 KQ7.1
     have K_7 : Keep h0 h7 [] := Keep.trans K_6 KQ7 (allS (Or.inr sz_o4) all0)
     have N_7 := Fr.app N_6 NQ7
     show GoesW p e below s _ _ _ T7 (mkF m 99 #[vI p1, vI p2, vI p3, vI p4, vI u1, vI u2, vI u3, vI (0 : Int32), vI x8, vR b1, vR o4, vR o5, vR o6, vU, vU, vU, vU, vU, vU] [])
     refine GoesW.step (fun _ k => XS.aload X7.here hx rfl (hb hby at_99) rfl rfl k) ?_
     show GoesW p e below s _ _ _ T7 (mkF m 101 #[vI p1, vI p2, vI p3, vI p4, vI u1, vI u2, vI u3, vI (0 : Int32), vI x8, vR b1, vR o4, vR o5, vR o6, vU, vU, vU, vU, vU, vU] [(.ref b1)])
     obtain ⟨c8, T8, h8, k8, d8, X8, e8, E8, hS8, hk_8, hZ, hown, hE8, hC8, hV8, hB8, I8, Lt8, st8⟩ := ldcI (s := s) (vm0 := T2.vm) (text := "I") X7 hx hZ hown (wof hw 112 rfl) wS e7 hS2 hk_7 (by rw [hh, ← hn0]; exact N_7) hkeep I2 (by decide) HC2 hcw (by decide) (n := 1) (by decide) (by decide) (g := (mkF m 101 #[vI p1, vI p2, vI p3, vI p4, vI u1, vI u2, vI u3, vI (0 : Int32), vI x8, vR b1, vR o4, vR o5, vR o6, vU, vU, vU, vU, vU, vU] [(.ref b1)])) rfl (hb hby at_101) (q := 4) (by decide) (by decide) (by decide) (by decide)
     refine GoesW.step st8 ?_
     have E_b1_81 := E_b1_7.ext E8
     have HA3_81 := HA3_7.ext E8
     have HB3_81 := HB3_7.ext E8
     have HL3_81 := HL3_7.ext E8
     have hE4_81 := hE4_7.ext E8
     have hE5_81 := hE5_7.ext E8
     have hO5_81 := hO5_7.ext E8
     have hE6_81 := hE6_7.ext E8
     have hO6_81 := hO6_7.ext E8
     have hO7_81 := hO7.ext E8
     have hk_81 := Nat.le_trans hk_7 E8.1
     have z_8 : n0 ≤ h8.size := Nat.le_trans z_7 E8.1
     have K_8 : Keep h0 h8 [] := K_7.ext E8
     have ne_c8_b1 := Exa.ne hE8 HA3_81.E (by decide)
     have ne_d8_b1 := Ari.neExa hB8 HA3_81.E (wof hw 2 rfl)
     have ne_c8_co3 := Exa.ne hE8 HB3_81.E (by decide)
     have ne_d8_co3 := Ari.neExa hB8 HB3_81.E (wof hw 19 rfl)
     have ne_c8_b3 := Ne.symm (Ari.neExa HB3_81.A hE8 (wof hw 6 rfl))
     have ne_d8_b3 := Ari.neLen hB8 HB3_81.A (by decide)
     have ne_c8_o4 := Exa.ne hE8 hE4_81 (by decide)
     have ne_d8_o4 := Ari.neExa hB8 hE4_81 (wof hw 104 rfl)
     have ne_c8_o5 := Exa.ne hE8 hE5_81 (by decide)
     have ne_d8_o5 := Ari.neExa hB8 hE5_81 (wof hw 104 rfl)
     have ne_c8_o6 := Exa.ne hE8 hE6_81 (by decide)
     have ne_d8_o6 := Ari.neExa hB8 hE6_81 (wof hw 104 rfl)
     show GoesW p e below s _ _ _ T8 (mkF m 103 #[vI p1, vI p2, vI p3, vI p4, vI u1, vI u2, vI u3, vI (0 : Int32), vI x8, vR b1, vR o4, vR o5, vR o6, vU, vU, vU, vU, vU, vU] [(.ref c8), (.ref b1)])
     refine GoesW.step (fun _ k => XS.iload X8.here hx rfl (hb hby at_103) rfl k) ?_
     obtain ⟨v9, T9, h9, L9, X9, e9, Q9, st9⟩ := callXV X8 hx hZ (C := "com/example/proxysmith/proxysmith/Bytecode") (b := b1) (y := y_14) (z := y_14) hown (wof hw 113 rfl) (wof hw 114 rfl) (wof hw 116 rfl) (wof hw 115 rfl) (wof hw 117 rfl) (wof hw 3 rfl) (notFace_of_selects (args := #[]) (mvT hZ (wof hw 116 rfl))) (by decide) (W := 0) (argsL := [(.ref c8), (.int u2)]) (rest := []) (rm14 l Z a0 hw [] b1 c8 u2 G1 oF co3 lj3 lf3 lh3 0 (0 : Int32) b3 0 (fun _ => 0) d8 lb h8 n0 z_8 O2 P3 (OL.keep K_8 all0) O4 HA3_81 HB3_81 HN3.a_co HN3.a_b HN3.co_b ge_b1 ge_co3 ge_b3 hE8 hV8 hC8 hB8 ne_c8_b1 ne_c8_co3 ne_c8_b3 ne_d8_b1 ne_d8_co3 ne_d8_b3 (by decide) (by omega) elb) (by decide) (by decide) (by decide) (by decide) e8 E_b1_81 (g := (mkF m 105 #[vI p1, vI p2, vI p3, vI p4, vI u1, vI u2, vI u3, vI (0 : Int32), vI x8, vR b1, vR o4, vR o5, vR o6, vU, vU, vU, vU, vU, vU] [(.int u2), (.ref c8), (.ref b1)])) rfl (by rw [hml]; rfl) (lenOf pd_0_3 rfl) rfl (by show 2 * 0 + _ ≤ _; exact Nat.le_of_eq rfl) (hb hby at_105)
     obtain ⟨rfl, NQ9, KQ9, ml9, f9, HA9, HB9⟩ := Q9
     refine GoesW.step st9 ?_
     have E_b1_9 := E_b1_81.keep KQ9
     have HL3_9 := HL3_81.keep KQ9 (ninS (Ne.symm HN3.a_lj) (ninS (Ne.symm HN3.co_lj) (ninS (Ne.symm HN3.b_lj) nin0))) (ninS (Ne.symm HN3.a_lf) (ninS (Ne.symm HN3.co_lf) (ninS (Ne.symm HN3.b_lf) nin0))) (ninS (Ne.symm HN3.a_lh) (ninS (Ne.symm HN3.co_lh) (ninS (Ne.symm HN3.b_lh) nin0))) (ninS (Ne.symm HN3.a_oh) (ninS (Ne.symm HN3.co_oh) (ninS (Ne.symm HN3.b_oh) nin0)))
     have hE4_9 := hE4_81.keep KQ9
     have hE5_9 := hE5_81.keep KQ9
     have hO5_9 := hO5_81.keep KQ9 (ninS ne_o5_b1 (ninS ne_o5_co3 (ninS ne_o5_b3 nin0)))
     have hE6_9 := hE6_81.keep KQ9
     have hO6_9 := hO6_81.keep KQ9 (ninS ne_o6_b1 (ninS ne_o6_co3 (ninS ne_o6_b3 nin0)))
     have hO7_9 := hO7_81.keep KQ9 (ninS ne_o4_b1 (ninS ne_o4_co3 (ninS ne_o4_b3 nin0)))
     have hE8_9 := hE8.keep KQ9
     have hV8_9 := hV8.keep KQ9 (ninS ne_c8_b1 (ninS ne_c8_co3 (ninS ne_c8_b3 nin0)))
     have hC8_9 := hC8.keep KQ9 (ninS ne_c8_b1 (ninS ne_c8_co3 (ninS ne_c8_b3 nin0)))
     have hB8_9 := hB8.keep KQ9 (ninS ne_d8_b1 (ninS ne_d8_co3 (ninS ne_d8_b3 nin0)))
     have hk_9 := Nat.le_trans hk_8 KQ9.1
     have z_9 : n0 ≤ h9.size := Nat.le_trans z_8 KQ9.1
     have K_9 : Keep h0 h9 [] := Keep.trans K_8 KQ9 (allS (Or.inr sz_b1) (allS (Or.inr sz_co3) (allS (Or.inr sz_b3) all0)))
     have N_9 := Fr.app N_7 NQ9
     show GoesW p e below s _ _ _ T9 (mkF m 108 #[vI p1, vI p2, vI p3, vI p4, vI u1, vI u2, vI u3, vI (0 : Int32), vI x8, vR b1, vR o4, vR o5, vR o6, vU, vU, vU, vU, vU, vU] [])
     refine GoesW.step (fun _ k => XS.aload X9.here hx rfl (hb hby at_108) rfl rfl k) ?_
     refine GoesW.step (fun _ k => XS.aload X9.here hx rfl (hb hby at_110) rfl rfl k) ?_
     obtain ⟨v10, T10, h10, L10, X10, e10, Q10, st10⟩ := callXV X9 hx hZ (C := "com/example/proxysmith/proxysmith/Bytecode") (b := b1) (y := y_23) (z := y_23) hown (wof hw 155 rfl) (wof hw 156 rfl) (wof hw 158 rfl) (wof hw 157 rfl) (wof hw 159 rfl) (wof hw 3 rfl) (notFace_of_selects (args := #[]) (mvT hZ (wof hw 158 rfl))) (by decide) (W := 0) (argsL := [(.ref o5)]) (rest := []) (rm23 l Z a0 hw [] b1 o5 co3 (0 + lb) h9 n0 z_9 HA9.Fcode HB9.E HB9.size hE5_9 hO5_9 ge_o5 (Ne.symm ne_o5_b1) (Ne.symm ne_o5_co3)) (by decide) (by decide) (by decide) (by decide) e9 E_b1_9 (g := (mkF m 112 #[vI p1, vI p2, vI p3, vI p4, vI u1, vI u2, vI u3, vI (0 : Int32), vI x8, vR b1, vR o4, vR o5, vR o6, vU, vU, vU, vU, vU, vU] [(.ref o5), (.ref b1)])) rfl (by rw [hml]; rfl) (lenOf pd_0_2 rfl) rfl (by show 2 * 0 + _ ≤ _; exact Nat.le_of_eq rfl) (hb hby at_112)
     obtain ⟨rfl, NQ10, KQ10, hO10⟩ := Q10
     refine GoesW.step st10 ?_
     have E_b1_10 := E_b1_9.keep KQ10
     have HL3_10 := HL3_9.keep KQ10 (ninS (Ne.symm ne_o5_lj3) nin0) (ninS (Ne.symm ne_o5_lf3) nin0) (ninS (Ne.symm ne_o5_lh3) nin0) (ninS (Ne.symm ne_o5_oh3) nin0)
     have hE4_10 := hE4_9.keep KQ10
     have hE5_10 := hE5_9.keep KQ10
     have hE6_10 := hE6_9.keep KQ10
     have hO6_10 := hO6_9.keep KQ10 (ninS ne_o6_o5 nin0)
     have hO7_10 := hO7_9.keep KQ10 (ninS (Ne.symm ne_o5_o4) nin0)
     have hE8_10 := hE8_9.keep KQ10
     have hV8_10 := hV8_9.keep KQ10 (ninS ne_c8_o5 nin0)
     have hC8_10 := hC8_9.keep KQ10 (ninS ne_c8_o5 nin0)
     have hB8_10 := hB8_9.keep KQ10 (ninS ne_d8_o5 nin0)
     have HA9_10 := HA9.keep KQ10 (ninS (Ne.symm ne_o5_b1) nin0)
     have HB9_10 := HB9.keep KQ10 (ninS (Ne.symm ne_o5_co3) nin0) (ninS (Ne.symm ne_o5_b3) nin0)
     have hk_10 := Nat.le_trans hk_9 KQ10.1
     have z_10 : n0 ≤ h10.size := Nat.le_trans z_9 KQ10.1
     have K_10 : Keep h0 h10 [] := Keep.trans K_9 KQ10 (allS (Or.inr sz_o5) all0)
     have N_10 := Fr.app N_9 NQ10
     show GoesW p e below s _ _ _ T10 (mkF m 115 #[vI p1, vI p2, vI p3, vI p4, vI u1, vI u2, vI u3, vI (0 : Int32), vI x8, vR b1, vR o4, vR o5, vR o6, vU, vU, vU, vU, vU, vU] [])
     refine GoesW.step (fun _ k => XS.iload X10.here hx rfl (hb hby at_115) rfl k) ?_
     show GoesW p e below s _ _ _ T10 (mkF m 117 #[vI p1, vI p2, vI p3, vI p4, vI u1, vI u2, vI u3, vI (0 : Int32), vI x8, vR b1, vR o4, vR o5, vR o6, vU, vU, vU, vU, vU, vU] [(.int x8)])
     rcases hx8 with rfl | rfl
     · show GoesW p e below s _ _ _ T10 (mkF m 117 #[vI p1, vI p2, vI p3, vI p4, vI u1, vI u2, vI u3, vI (0 : Int32), vI (0 : Int32), vR b1, vR o4, vR o5, vR o6, vU, vU, vU, vU, vU, vU] [(.int (0 : Int32))])
       refine GoesW.step (fun _ k => XS.ifYes X10.here hx rfl (pc0 := 117) (pc' := 129) rfl (hb hby at_117) rfl ((if0 _ _).trans (teq (by decide : (0 : Int32) = (0 : Int32))).1) (by decide) (by decide) k) ?_
       show GoesW p e below s _ _ _ T10 (mkF m 129 #[vI p1, vI p2, vI p3, vI p4, vI u1, vI u2, vI u3, vI (0 : Int32), vI (0 : Int32), vR b1, vR o4, vR o5, vR o6, vU, vU, vU, vU, vU, vU] [])
       refine GoesW.step (fun _ k => XS.aload X10.here hx rfl (hb hby at_129) rfl rfl k) ?_
       refine GoesW.step (fun _ k => XS.aload X10.here hx rfl (hb hby at_131) rfl rfl k) ?_
       obtain ⟨v11, T11, h11, L11, X11, e11, Q11, st11⟩ := callXV X10 hx hZ (C := "com/example/proxysmith/proxysmith/Bytecode") (b := b1) (y := y_23) (z := y_23) hown (wof hw 155 rfl) (wof hw 156 rfl) (wof hw 158 rfl) (wof hw 157 rfl) (wof hw 159 rfl) (wof hw 3 rfl) (notFace_of_selects (args := #[]) (mvT hZ (wof hw 158 rfl))) (by decide) (W := 0) (argsL := [(.ref o6)]) (rest := []) (rm23 l Z a0 hw [] b1 o6 co3 (0 + lb) h10 n0 z_10 HA9_10.Fcode HB9_10.E HB9_10.size hE6_10 hO6_10 ge_o6 (Ne.symm ne_o6_b1) (Ne.symm ne_o6_co3)) (by decide) (by decide) (by decide) (by decide) e10 E_b1_10 (g := (mkF m 133 #[vI p1, vI p2, vI p3, vI p4, vI u1, vI u2, vI u3, vI (0 : Int32), vI (0 : Int32), vR b1, vR o4, vR o5, vR o6, vU, vU, vU, vU, vU, vU] [(.ref o6), (.ref b1)])) rfl (by rw [hml]; rfl) (lenOf pd_0_2 rfl) rfl (by show 2 * 0 + _ ≤ _; exact Nat.le_of_eq rfl) (hb hby at_133)
       obtain ⟨rfl, NQ11, KQ11, hO11⟩ := Q11
       refine GoesW.step st11 ?_
       have E_b1_11 := E_b1_10.keep KQ11
       have HL3_11 := HL3_10.keep KQ11 (ninS (Ne.symm ne_o6_lj3) nin0) (ninS (Ne.symm ne_o6_lf3) nin0) (ninS (Ne.symm ne_o6_lh3) nin0) (ninS (Ne.symm ne_o6_oh3) nin0)
       have hE4_11 := hE4_10.keep KQ11
       have hE5_11 := hE5_10.keep KQ11
       have hE6_11 := hE6_10.keep KQ11
       have hO7_11 := hO7_10.keep KQ11 (ninS (Ne.symm ne_o6_o4) nin0)
       have hE8_11 := hE8_10.keep KQ11
       have hV8_11 := hV8_10.keep KQ11 (ninS ne_c8_o6 nin0)
       have hC8_11 := hC8_10.keep KQ11 (ninS ne_c8_o6 nin0)
       have hB8_11 := hB8_10.keep KQ11 (ninS ne_d8_o6 nin0)
       have HA9_11 := HA9_10.keep KQ11 (ninS (Ne.symm ne_o6_b1) nin0)
       have HB9_11 := HB9_10.keep KQ11 (ninS (Ne.symm ne_o6_co3) nin0) (ninS (Ne.symm ne_o6_b3) nin0)
       have hO10_11 := hO10.keep KQ11 (ninS (Ne.symm ne_o6_o5) nin0)
       have hk_11 := Nat.le_trans hk_10 KQ11.1
       have z_11 : n0 ≤ h11.size := Nat.le_trans z_10 KQ11.1
       have K_11 : Keep h0 h11 [] := Keep.trans K_10 KQ11 (allS (Or.inr sz_o6) all0)
       have N_11 := Fr.app N_10 NQ11
       show GoesW p e below s _ _ _ T11 (mkF m 136 #[vI p1, vI p2, vI p3, vI p4, vI u1, vI u2, vI u3, vI (0 : Int32), vI (0 : Int32), vR b1, vR o4, vR o5, vR o6, vU, vU, vU, vU, vU, vU] [])
       refine GoesW.step (fun _ k => XS.aload X11.here hx rfl (hb hby at_136) rfl rfl k) ?_
       refine GoesW.step (fun _ k => XS.aload X11.here hx rfl (hb hby at_138) rfl rfl k) ?_
       refine GoesW.step (fun _ k => XS.aload X11.here hx rfl (hb hby at_140) rfl rfl k) ?_
       refine GoesW.step (fun _ k => XS.aload X11.here hx rfl (hb hby at_142) rfl rfl k) ?_
       refine GoesW.step (fun _ k => XS.aconstNull X11.here hx rfl (hb hby at_144) k) ?_
       obtain ⟨v12, T12, h12, L12, X12, e12, Q12, st12⟩ := callXV X11 hx hZ (C := "com/example/proxysmith/proxysmith/Bytecode") (b := b1) (y := y_25) (z := y_25) hown (wof hw 166 rfl) (wof hw 167 rfl) (wof hw 169 rfl) (wof hw 168 rfl) (wof hw 170 rfl) (wof hw 3 rfl) (notFace_of_selects (args := #[]) (mvT hZ (wof hw 169 rfl))) (by decide) (W := 0) (argsL := [(.ref o4), (.ref o5), (.ref o6), .null]) (rest := []) (rm25 l Z a0 hw [] b1 o4 o5 o6 lj3 lf3 lh3 oh3 h11 n0 z_11 HA9_11.Fhandlers HL3_11 ge_lh3 ge_oh3 HN3.lj_lh HN3.lf_lh HN3.lj_oh HN3.lf_oh HN3.lh_oh HN3.a_lh HN3.a_oh) (by decide) (by decide) (by decide) (by decide) e11 E_b1_11 (g := (mkF m 145 #[vI p1, vI p2, vI p3, vI p4, vI u1, vI u2, vI u3, vI (0 : Int32), vI (0 : Int32), vR b1, vR o4, vR o5, vR o6, vU, vU, vU, vU, vU, vU] [.null, (.ref o6), (.ref o5), (.ref o4), (.ref b1)])) rfl (by rw [hml]; rfl) (lenOf pd_0_4 rfl) rfl (by show 2 * 0 + _ ≤ _; exact Nat.le_of_eq rfl) (hb hby at_145)
       obtain ⟨ha12, rfl, NQ12, KQ12, sha12, HM12⟩ := Q12
       refine GoesW.step st12 ?_
       have E_b1_12 := E_b1_11.keep KQ12
       have hE4_12 := hE4_11.keep KQ12
       have hE5_12 := hE5_11.keep KQ12
       have hE6_12 := hE6_11.keep KQ12
       have hO7_12 := hO7_11.keep KQ12 (ninS ne_o4_lh3 (ninS ne_o4_oh3 nin0))
       have HA9_12 := HA9_11.keep KQ12 (ninS HN3.a_lh (ninS HN3.a_oh nin0))
       have HB9_12 := HB9_11.keep KQ12 (ninS HN3.co_lh (ninS HN3.co_oh nin0)) (ninS HN3.b_lh (ninS HN3.b_oh nin0))
       have hO10_12 := hO10_11.keep KQ12 (ninS ne_o5_lh3 (ninS ne_o5_oh3 nin0))
       have hO11_12 := hO11.keep KQ12 (ninS ne_o6_lh3 (ninS ne_o6_oh3 nin0))
       have hk_12 := Nat.le_trans hk_11 KQ12.1
       have z_12 : n0 ≤ h12.size := Nat.le_trans z_11 KQ12.1
       have K_12 : Keep h0 h12 [] := Keep.trans K_11 KQ12 (allS (Or.inr sz_lh3) (allS (Or.inr sz_oh3) all0))
       have N_12 := Fr.app N_11 NQ12
       show GoesW p e below s _ _ _ T12 (mkF m 148 #[vI p1, vI p2, vI p3, vI p4, vI u1, vI u2, vI u3, vI (0 : Int32), vI (0 : Int32), vR b1, vR o4, vR o5, vR o6, vU, vU, vU, vU, vU, vU] [])
       refine GoesW.step (fun _ k => XS.aload X12.here hx rfl (hb hby at_148) rfl rfl k) ?_
       obtain ⟨v13, T13, h13, L13, X13, e13, Q13, st13⟩ := callXV X12 hx hZ (C := "com/example/proxysmith/proxysmith/Bytecode") (b := b1) (y := y_30) (z := y_30) hown (wof hw 210 rfl) (wof hw 211 rfl) (wof hw 213 rfl) (wof hw 212 rfl) (wof hw 214 rfl) (wof hw 3 rfl) (notFace_of_selects (args := #[]) (mvT hZ (wof hw 213 rfl))) (by decide) (W := 0) (argsL := []) (rest := []) (rm30 l Z a0 hw [] b1 co3 lj3 lf3 lh3 (0 + 1) ml9 b3 (0 + lb) f9 oh3 ha12 o4 o5 o6 0 (0 + lb) (0 + lb) h12 n0 z_12 HA9_12 HB9_12 HM12 hO7_12 hO10_12 hO11_12 (by omega) (by omega) (by omega) (by omega) (by decide)) (by decide) (by decide) (by decide) (by decide) e12 E_b1_12 (g := (mkF m 150 #[vI p1, vI p2, vI p3, vI p4, vI u1, vI u2, vI u3, vI (0 : Int32), vI (0 : Int32), vR b1, vR o4, vR o5, vR o6, vU, vU, vU, vU, vU, vU] [(.ref b1)])) rfl (by rw [hml]; rfl) (lenOf pd_0_5 rfl) rfl (by show 2 * 0 + _ ≤ _; exact Nat.le_of_eq rfl) (hb hby at_150)
       obtain ⟨o13, g13, rfl, NQ13, KQ13, so13, hA13, hu0_13, hu1_13, hu2_13, hu3_13, hu4_13, hu5_13, hu6_13, hu7_13, hu8_13⟩ := Q13
       refine GoesW.step st13 ?_
       have E_b1_13 := E_b1_12.keep KQ13
       have hE4_13 := hE4_12.keep KQ13
       have hE5_13 := hE5_12.keep KQ13
       have hE6_13 := hE6_12.keep KQ13
       have hO7_13 := hO7_12.keep KQ13 nin0
       have HA9_13 := HA9_12.keep KQ13 nin0
       have HB9_13 := HB9_12.keep KQ13 nin0 nin0
       have hO10_13 := hO10_12.keep KQ13 nin0
       have hO11_13 := hO11_12.keep KQ13 nin0
       have HM12_13 := HM12.keep KQ13
       have hk_13 := Nat.le_trans hk_12 KQ13.1
       have z_13 : n0 ≤ h13.size := Nat.le_trans z_12 KQ13.1
       have K_13 : Keep h0 h13 [] := Keep.trans K_12 KQ13 all0
       have N_13 := Fr.app N_12 NQ13
       show GoesW p e below s _ _ _ T13 (mkF m 153 #[vI p1, vI p2, vI p3, vI p4, vI u1, vI u2, vI u3, vI (0 : Int32), vI (0 : Int32), vR b1, vR o4, vR o5, vR o6, vU, vU, vU, vU, vU, vU] [(.ref o13)])
       refine GoesW.step (fun _ k => XS.astore X13.here hx rfl (hb hby at_153) rfl rfl (l' := #[vI p1, vI p2, vI p3, vI p4, vI u1, vI u2, vI u3, vI (0 : Int32), vI (0 : Int32), vR b1, vR o4, vR o5, vR o6, vR o13, vU, vU, vU, vU, vU]) rfl k) ?_
       refine GoesW.step (fun _ k => XS.iload X13.here hx rfl (hb hby at_155) rfl k) ?_
       refine GoesW.step (fun _ k => XS.ifYes X13.here hx rfl (pc0 := 157) (pc' := 168) rfl (hb hby at_157) rfl ((if0 _ _).trans (teq (by decide : (0 : Int32) = (0 : Int32))).1) (by decide) (by decide) k) ?_
       show GoesW p e below s _ _ _ T13 (mkF m 168 #[vI p1, vI p2, vI p3, vI p4, vI u1, vI u2, vI u3, vI (0 : Int32), vI (0 : Int32), vR b1, vR o4, vR o5, vR o6, vR o13, vU, vU, vU, vU, vU] [])
       refine GoesW.step (fun _ k => XS.iconst X13.here hx rfl (hb hby at_168) k) ?_
       refine GoesW.step (fun _ k => XS.istore X13.here hx rfl (hb hby at_169) rfl (l' := #[vI p1, vI p2, vI p3, vI p4, vI u1, vI u2, vI u3, vI (0 : Int32), vI (0 : Int32), vR b1, vR o4, vR o5, vR o6, vR o13, vI (0 : Int32), vU, vU, vU, vU]) rfl k) ?_
       refine GoesW.step (fun _ k => XS.iload X13.here hx rfl (hb hby at_171) rfl k) ?_
       refine GoesW.step (fun _ k => XS.iload X13.here hx rfl (hb hby at_173) rfl k) ?_
       obtain ⟨T14, X14, e14, st14⟩ := callPure X13 hx hZ (y := y_47) hown (wof hw 330 rfl) (wof hw 331 rfl) (wof hw 332 rfl) (wof hw 333 rfl) (by decide) (W := 1) (argsL := [(.int u2)]) (rest := [(.int (0 : Int32))]) (r := (.int (f47 u2))) (fun _ _ _ q => q) (rm47 l Z a0 hw [] u2 h13 ) (by decide) (by decide) (by decide) (by decide) e13 (g := (mkF m 175 #[vI p1, vI p2, vI p3, vI p4, vI u1, vI u2, vI u3, vI (0 : Int32), vI (0 : Int32), vR b1, vR o4, vR o5, vR o6, vR o13, vI (0 : Int32), vU, vU, vU, vU] [(.int u2), (.int (0 : Int32))])) rfl (by rw [hml]; rfl) (lenOf pd_0_6 rfl) rfl (by show 2 * 0 + _ ≤ _; exact Nat.le_of_eq rfl) (hb hby at_175)
       refine GoesW.step st14 ?_
       show GoesW p e below s _ _ _ T14 (mkF m 178 #[vI p1, vI p2, vI p3, vI p4, vI u1, vI u2, vI u3, vI (0 : Int32), vI (0 : Int32), vR b1, vR o4, vR o5, vR o6, vR o13, vI (0 : Int32), vU, vU, vU, vU] [(.int (f47 u2)), (.int (0 : Int32))])
       rw [own_lenF, elb]
       refine GoesW.step (fun _ k => XS.iadd X14.here hx rfl (hb hby at_178) rfl k) ?_
       show GoesW p e below s _ _ _ T14 (mkF m 179 #[vI p1, vI p2, vI p3, vI p4, vI u1, vI u2, vI u3, vI (0 : Int32), vI (0 : Int32), vR b1, vR o4, vR o5, vR o6, vR o13, vI (0 : Int32), vU, vU, vU, vU] [(.int ((0 : Int32) + (Int32.ofNat lb)))])
       rw [show ((0 : Int32) + (Int32.ofNat lb)) = Int32.ofNat (0 + lb) from own_add _ _]
       refine GoesW.step (fun _ k => XS.istore X14.here hx rfl (hb hby at_179) rfl (l' := #[vI p1, vI p2, vI p3, vI p4, vI u1, vI u2, vI u3, vI (0 : Int32), vI (0 : Int32), vR b1, vR o4, vR o5, vR o6, vR o13, vI (0 : Int32), vI (Int32.ofNat (0 + lb)), vU, vU, vU]) rfl k) ?_
       refine GoesW.step (fun _ k => XS.iload X14.here hx rfl (hb hby at_181) rfl k) ?_
       refine GoesW.step (fun _ k => XS.iload X14.here hx rfl (hb hby at_183) rfl k) ?_
       refine GoesW.step (fun _ k => XS.ifYes X14.here hx rfl (pc0 := 185) (pc' := 196) rfl (hb hby at_185) rfl ((if0 _ _).trans (teq (by decide : (0 : Int32) = (0 : Int32))).1) (by decide) (by decide) k) ?_
       show GoesW p e below s _ _ _ T14 (mkF m 196 #[vI p1, vI p2, vI p3, vI p4, vI u1, vI u2, vI u3, vI (0 : Int32), vI (0 : Int32), vR b1, vR o4, vR o5, vR o6, vR o13, vI (0 : Int32), vI (Int32.ofNat (0 + lb)), vU, vU, vU] [(.int (Int32.ofNat (0 + lb)))])
       refine GoesW.step (fun _ k => XS.iconst X14.here hx rfl (hb hby at_196) k) ?_
       refine GoesW.step (fun _ k => XS.iadd X14.here hx rfl (hb hby at_197) rfl k) ?_
       show GoesW p e below s _ _ _ T14 (mkF m 198 #[vI p1, vI p2, vI p3, vI p4, vI u1, vI u2, vI u3, vI (0 : Int32), vI (0 : Int32), vR b1, vR o4, vR o5, vR o6, vR o13, vI (0 : Int32), vI (Int32.ofNat (0 + lb)), vU, vU, vU] [(.int ((Int32.ofNat (0 + lb)) + (0 : Int32)))])
       rw [show ((Int32.ofNat (0 + lb)) + (0 : Int32)) = Int32.ofNat ((0 + lb) + 0) from own_add _ _]
       refine GoesW.step (fun _ k => XS.istore X14.here hx rfl (hb hby at_198) rfl (l' := #[vI p1, vI p2, vI p3, vI p4, vI u1, vI u2, vI u3, vI (0 : Int32), vI (0 : Int32), vR b1, vR o4, vR o5, vR o6, vR o13, vI (0 : Int32), vI (Int32.ofNat (0 + lb)), vI (Int32.ofNat ((0 + lb) + 0)), vU, vU]) rfl k) ?_
       refine GoesW.step (fun _ k => XS.iconst X14.here hx rfl (hb hby at_200) k) ?_
       refine GoesW.step (fun _ k => XS.iload X14.here hx rfl (hb hby at_201) rfl k) ?_
       refine GoesW.step (fun _ k => XS.ifYes X14.here hx rfl (pc0 := 203) (pc' := 210) rfl (hb hby at_203) rfl ((if0 _ _).trans (teq (by decide : (0 : Int32) = (0 : Int32))).1) (by decide) (by decide) k) ?_
       show GoesW p e below s _ _ _ T14 (mkF m 210 #[vI p1, vI p2, vI p3, vI p4, vI u1, vI u2, vI u3, vI (0 : Int32), vI (0 : Int32), vR b1, vR o4, vR o5, vR o6, vR o13, vI (0 : Int32), vI (Int32.ofNat (0 + lb)), vI (Int32.ofNat ((0 + lb) + 0)), vU, vU] [(.int (1 : Int32))])
       refine GoesW.step (fun _ k => XS.iconst X14.here hx rfl (hb hby at_210) k) ?_
       refine GoesW.step (fun _ k => XS.iadd X14.here hx rfl (hb hby at_211) rfl k) ?_
       show GoesW p e below s _ _ _ T14 (mkF m 212 #[vI p1, vI p2, vI p3, vI p4, vI u1, vI u2, vI u3, vI (0 : Int32), vI (0 : Int32), vR b1, vR o4, vR o5, vR o6, vR o13, vI (0 : Int32), vI (Int32.ofNat (0 + lb)), vI (Int32.ofNat ((0 + lb) + 0)), vU, vU] [(.int (1 : Int32))])
       refine GoesW.step (fun _ k => XS.iload X14.here hx rfl (hb hby at_212) rfl k) ?_
       refine GoesW.step (fun _ k => XS.ifYes X14.here hx rfl (pc0 := 214) (pc' := 221) rfl (hb hby at_214) rfl ((if0 _ _).trans (teq (by decide : (0 : Int32) = (0 : Int32))).1) (by decide) (by decide) k) ?_
       show GoesW p e below s _ _ _ T14 (mkF m 221 #[vI p1, vI p2, vI p3, vI p4, vI u1, vI u2, vI u3, vI (0 : Int32), vI (0 : Int32), vR b1, vR o4, vR o5, vR o6, vR o13, vI (0 : Int32), vI (Int32.ofNat (0 + lb)), vI (Int32.ofNat ((0 + lb) + 0)), vU, vU] [(.int (1 : Int32))])
       refine GoesW.step (fun _ k => XS.iconst X14.here hx rfl (hb hby at_221) k) ?_
       refine GoesW.step (fun _ k => XS.iadd X14.here hx rfl (hb hby at_222) rfl k) ?_
       show GoesW p e below s _ _ _ T14 (mkF m 223 #[vI p1, vI p2, vI p3, vI p4, vI u1, vI u2, vI u3, vI (0 : Int32), vI (0 : Int32), vR b1, vR o4, vR o5, vR o6, vR o13, vI (0 : Int32), vI (Int32.ofNat (0 + lb)), vI (Int32.ofNat ((0 + lb) + 0)), vU, vU] [(.int (1 : Int32))])
       refine GoesW.step (fun _ k => XS.istore X14.here hx rfl (hb hby at_223) rfl (l' := #[vI p1, vI p2, vI p3, vI p4, vI u1, vI u2, vI u3, vI (0 : Int32), vI (0 : Int32), vR b1, vR o4, vR o5, vR o6, vR o13, vI (0 : Int32), vI (Int32.ofNat (0 + lb)), vI (Int32.ofNat ((0 + lb) + 0)), vI (1 : Int32), vU]) rfl k) ?_
       refine GoesW.step (fun _ k => XS.aload X14.here hx rfl (hb hby at_225) rfl rfl k) ?_
       refine GoesW.step (fun _ k => rdL X14 hx hZ e14 hA13 (g := (mkF m 227 #[vI p1, vI p2, vI p3, vI p4, vI u1, vI u2, vI u3, vI (0 : Int32), vI (0 : Int32), vR b1, vR o4, vR o5, vR o6, vR o13, vI (0 : Int32), vI (Int32.ofNat (0 + lb)), vI (Int32.ofNat ((0 + lb) + 0)), vI (1 : Int32), vU] [(.ref o13)])) rfl rfl (hb hby at_227) _ k) ?_
       show GoesW p e below s _ _ _ T14 (mkF m 228 #[vI p1, vI p2, vI p3, vI p4, vI u1, vI u2, vI u3, vI (0 : Int32), vI (0 : Int32), vR b1, vR o4, vR o5, vR o6, vR o13, vI (0 : Int32), vI (Int32.ofNat (0 + lb)), vI (Int32.ofNat ((0 + lb) + 0)), vI (1 : Int32), vU] [(.int (Int32.ofNat (((0 + lb) + 20))))])
       as_aux_lemma =>
        refine GoesW.step (fun _ k => XS.bipush X14.here hx rfl (hb hby at_228) k) ?_
        refine GoesW.step (fun _ k => XS.iload X14.here hx rfl (hb hby at_230) rfl k) ?_
        refine GoesW.step (fun _ k => XS.iadd X14.here hx rfl (hb hby at_232) rfl k) ?_
        show GoesW p e below s _ _ _ T14 (mkF m 233 #[vI p1, vI p2, vI p3, vI p4, vI u1, vI u2, vI u3, vI (0 : Int32), vI (0 : Int32), vR b1, vR o4, vR o5, vR o6, vR o13, vI (0 : Int32), vI (Int32.ofNat (0 + lb)), vI (Int32.ofNat ((0 + lb) + 0)), vI (1 : Int32), vU] [(.int ((20 : Int32) + (Int32.ofNat ((0 + lb) + 0)))), (.int (Int32.ofNat (((0 + lb) + 20))))])
        refine GoesW.step (fun _ k => XS.icmpYes X14.here hx rfl (pc0 := 233) (pc' := 238) rfl (hb hby at_233) rfl (teq (by rw [show ((20 : Int32) + (Int32.ofNat ((0 + lb) + 0))) = Int32.ofNat (20 + ((0 + lb) + 0)) from own_add 20 _]; exact congrArg Int32.ofNat (by omega))).1 (by decide) (by decide) k) ?_
        show GoesW p e below s _ _ _ T14 (mkF m 238 #[vI p1, vI p2, vI p3, vI p4, vI u1, vI u2, vI u3, vI (0 : Int32), vI (0 : Int32), vR b1, vR o4, vR o5, vR o6, vR o13, vI (0 : Int32), vI (Int32.ofNat (0 + lb)), vI (Int32.ofNat ((0 + lb) + 0)), vI (1 : Int32), vU] [])
        refine GoesW.step (fun _ k => XS.bipush X14.here hx rfl (hb hby at_238) k) ?_
        refine GoesW.step (fun _ k => XS.iload X14.here hx rfl (hb hby at_240) rfl k) ?_
        refine GoesW.step (fun _ k => XS.iadd X14.here hx rfl (hb hby at_242) rfl k) ?_
        show GoesW p e below s _ _ _ T14 (mkF m 243 #[vI p1, vI p2, vI p3, vI p4, vI u1, vI u2, vI u3, vI (0 : Int32), vI (0 : Int32), vR b1, vR o4, vR o5, vR o6, vR o13, vI (0 : Int32), vI (Int32.ofNat (0 + lb)), vI (Int32.ofNat ((0 + lb) + 0)), vI (1 : Int32), vU] [(.int ((8 : Int32) + (Int32.ofNat ((0 + lb) + 0))))])
        rw [show ((8 : Int32) + (Int32.ofNat ((0 + lb) + 0))) = Int32.ofNat (8 + ((0 + lb) + 0)) from own_add _ _]
        refine GoesW.step (fun _ k => XS.istore X14.here hx rfl (hb hby at_243) rfl (l' := #[vI p1, vI p2, vI p3, vI p4, vI u1, vI u2, vI u3, vI (0 : Int32), vI (0 : Int32), vR b1, vR o4, vR o5, vR o6, vR o13, vI (0 : Int32), vI (Int32.ofNat (0 + lb)), vI (Int32.ofNat ((0 + lb) + 0)), vI (1 : Int32), vI (Int32.ofNat (8 + ((0 + lb) + 0)))]) rfl k) ?_
        refine GoesW.step (fun _ k => XS.aload X14.here hx rfl (hb hby at_245) rfl rfl k) ?_
        refine GoesW.step (fun _ k => XS.iconst X14.here hx rfl (hb hby at_247) k) ?_
        obtain ⟨T15, X15, e15, st15⟩ := own_pure (r := some (.int (own_u2 g13 (0)))) (fun _ _ _ q => q) (callX X14 hx hZ (y := y_48) hown (wof hw 334 rfl) (wof hw 335 rfl) (wof hw 332 rfl) (wof hw 336 rfl) (by decide) (W := 0) (argsL := [(.ref o13), (.int (0 : Int32))]) (rest := []) (rm48 l Z a0 hw [] o13 (0 : Int32) (0) ((0 + lb) + 20) g13 h13 n0 z_13 hA13 rfl (by omega)) (by decide) (by decide) (by decide) (by decide) e14 (g := (mkF m 248 #[vI p1, vI p2, vI p3, vI p4, vI u1, vI u2, vI u3, vI (0 : Int32), vI (0 : Int32), vR b1, vR o4, vR o5, vR o6, vR o13, vI (0 : Int32), vI (Int32.ofNat (0 + lb)), vI (Int32.ofNat ((0 + lb) + 0)), vI (1 : Int32), vI (Int32.ofNat (8 + ((0 + lb) + 0)))] [(.int (0 : Int32)), (.ref o13)])) rfl (by rw [hml]; rfl) (lenOf pd_0_7 rfl) rfl (by show 2 * 0 + _ ≤ _; exact Nat.le_of_eq rfl) (hb hby at_248))
        refine GoesW.step st15 ?_
        show GoesW p e below s _ _ _ T15 (mkF m 251 #[vI p1, vI p2, vI p3, vI p4, vI u1, vI u2, vI u3, vI (0 : Int32), vI (0 : Int32), vR b1, vR o4, vR o5, vR o6, vR o13, vI (0 : Int32), vI (Int32.ofNat (0 + lb)), vI (Int32.ofNat ((0 + lb) + 0)), vI (1 : Int32), vI (Int32.ofNat (8 + ((0 + lb) + 0)))] [(.int (own_u2 g13 (0)))])
        refine GoesW.step (fun _ k => XS.iload X15.here hx rfl (hb hby at_251) rfl k) ?_
        refine GoesW.step (fun _ k => XS.icmpNo X15.here hx rfl (hb hby at_253) rfl (teq ((congrArg (own_u2 g13) (by omega)).trans (hu0_13.trans (by decide)))).2 k) ?_
        show GoesW p e below s _ _ _ T15 (mkF m 256 #[vI p1, vI p2, vI p3, vI p4, vI u1, vI u2, vI u3, vI (0 : Int32), vI (0 : Int32), vR b1, vR o4, vR o5, vR o6, vR o13, vI (0 : Int32), vI (Int32.ofNat (0 + lb)), vI (Int32.ofNat ((0 + lb) + 0)), vI (1 : Int32), vI (Int32.ofNat (8 + ((0 + lb) + 0)))] [])
        refine GoesW.step (fun _ k => XS.aload X15.here hx rfl (hb hby at_256) rfl rfl k) ?_
        refine GoesW.step (fun _ k => XS.iconst X15.here hx rfl (hb hby at_258) k) ?_
        obtain ⟨T16, X16, e16, st16⟩ := own_pure (r := some (.int (own_u2 g13 (4)))) (fun _ _ _ q => q) (callX X15 hx hZ (y := y_48) hown (wof hw 334 rfl) (wof hw 335 rfl) (wof hw 332 rfl) (wof hw 336 rfl) (by decide) (W := 0) (argsL := [(.ref o13), (.int (4 : Int32))]) (rest := []) (rm48 l Z a0 hw [] o13 (4 : Int32) (4) ((0 + lb) + 20) g13 h13 n0 z_13 hA13 rfl (by omega)) (by decide) (by decide) (by decide) (by decide) e15 (g := (mkF m 259 #[vI p1, vI p2, vI p3, vI p4, vI u1, vI u2, vI u3, vI (0 : Int32), vI (0 : Int32), vR b1, vR o4, vR o5, vR o6, vR o13, vI (0 : Int32), vI (Int32.ofNat (0 + lb)), vI (Int32.ofNat ((0 + lb) + 0)), vI (1 : Int32), vI (Int32.ofNat (8 + ((0 + lb) + 0)))] [(.int (4 : Int32)), (.ref o13)])) rfl (by rw [hml]; rfl) (lenOf pd_0_7 rfl) rfl (by show 2 * 0 + _ ≤ _; exact Nat.le_of_eq rfl) (hb hby at_259))
        refine GoesW.step st16 ?_
        show GoesW p e below s _ _ _ T16 (mkF m 262 #[vI p1, vI p2, vI p3, vI p4, vI u1, vI u2, vI u3, vI (0 : Int32), vI (0 : Int32), vR b1, vR o4, vR o5, vR o6, vR o13, vI (0 : Int32), vI (Int32.ofNat (0 + lb)), vI (Int32.ofNat ((0 + lb) + 0)), vI (1 : Int32), vI (Int32.ofNat (8 + ((0 + lb) + 0)))] [(.int (own_u2 g13 (4)))])
        refine GoesW.step (fun _ k => XS.ifNo X16.here hx rfl (hb hby at_262) rfl ((if0 _ _).trans (teq ((congrArg (own_u2 g13) (by omega)).trans (hu1_13.trans rfl))).2) k) ?_
        show GoesW p e below s _ _ _ T16 (mkF m 265 #[vI p1, vI p2, vI p3, vI p4, vI u1, vI u2, vI u3, vI (0 : Int32), vI (0 : Int32), vR b1, vR o4, vR o5, vR o6, vR o13, vI (0 : Int32), vI (Int32.ofNat (0 + lb)), vI (Int32.ofNat ((0 + lb) + 0)), vI (1 : Int32), vI (Int32.ofNat (8 + ((0 + lb) + 0)))] [])
        refine GoesW.step (fun _ k => XS.aload X16.here hx rfl (hb hby at_265) rfl rfl k) ?_
        refine GoesW.step (fun _ k => XS.bipush X16.here hx rfl (hb hby at_267) k) ?_
        obtain ⟨T17, X17, e17, st17⟩ := own_pure (r := some (.int (own_u2 g13 (6)))) (fun _ _ _ q => q) (callX X16 hx hZ (y := y_48) hown (wof hw 334 rfl) (wof hw 335 rfl) (wof hw 332 rfl) (wof hw 336 rfl) (by decide) (W := 0) (argsL := [(.ref o13), (.int (6 : Int32))]) (rest := []) (rm48 l Z a0 hw [] o13 (6 : Int32) (6) ((0 + lb) + 20) g13 h13 n0 z_13 hA13 rfl (by omega)) (by decide) (by decide) (by decide) (by decide) e16 (g := (mkF m 269 #[vI p1, vI p2, vI p3, vI p4, vI u1, vI u2, vI u3, vI (0 : Int32), vI (0 : Int32), vR b1, vR o4, vR o5, vR o6, vR o13, vI (0 : Int32), vI (Int32.ofNat (0 + lb)), vI (Int32.ofNat ((0 + lb) + 0)), vI (1 : Int32), vI (Int32.ofNat (8 + ((0 + lb) + 0)))] [(.int (6 : Int32)), (.ref o13)])) rfl (by rw [hml]; rfl) (lenOf pd_0_7 rfl) rfl (by show 2 * 0 + _ ≤ _; exact Nat.le_of_eq rfl) (hb hby at_269))
        refine GoesW.step st17 ?_
        show GoesW p e below s _ _ _ T17 (mkF m 272 #[vI p1, vI p2, vI p3, vI p4, vI u1, vI u2, vI u3, vI (0 : Int32), vI (0 : Int32), vR b1, vR o4, vR o5, vR o6, vR o13, vI (0 : Int32), vI (Int32.ofNat (0 + lb)), vI (Int32.ofNat ((0 + lb) + 0)), vI (1 : Int32), vI (Int32.ofNat (8 + ((0 + lb) + 0)))] [(.int (own_u2 g13 (6)))])
        refine GoesW.step (fun _ k => XS.iload X17.here hx rfl (hb hby at_272) rfl k) ?_
        refine GoesW.step (fun _ k => XS.icmpNo X17.here hx rfl (hb hby at_274) rfl (teq ((congrArg (own_u2 g13) (by omega)).trans (hu2_13.trans (congrArg Int32.ofNat (by omega))))).2 k) ?_
        show GoesW p e below s _ _ _ T17 (mkF m 277 #[vI p1, vI p2, vI p3, vI p4, vI u1, vI u2, vI u3, vI (0 : Int32), vI (0 : Int32), vR b1, vR o4, vR o5, vR o6, vR o13, vI (0 : Int32), vI (Int32.ofNat (0 + lb)), vI (Int32.ofNat ((0 + lb) + 0)), vI (1 : Int32), vI (Int32.ofNat (8 + ((0 + lb) + 0)))] [])
        refine GoesW.step (fun _ k => XS.aload X17.here hx rfl (hb hby at_277) rfl rfl k) ?_
        refine GoesW.step (fun _ k => XS.iload X17.here hx rfl (hb hby at_279) rfl k) ?_
        obtain ⟨T18, X18, e18, st18⟩ := own_pure (r := some (.int (own_u2 g13 ((8 + ((0 + lb) + 0)))))) (fun _ _ _ q => q) (callX X17 hx hZ (y := y_48) hown (wof hw 334 rfl) (wof hw 335 rfl) (wof hw 332 rfl) (wof hw 336 rfl) (by decide) (W := 0) (argsL := [(.ref o13), (.int (Int32.ofNat (8 + ((0 + lb) + 0))))]) (rest := []) (rm48 l Z a0 hw [] o13 (Int32.ofNat (8 + ((0 + lb) + 0))) ((8 + ((0 + lb) + 0))) ((0 + lb) + 20) g13 h13 n0 z_13 hA13 rfl (by omega)) (by decide) (by decide) (by decide) (by decide) e17 (g := (mkF m 281 #[vI p1, vI p2, vI p3, vI p4, vI u1, vI u2, vI u3, vI (0 : Int32), vI (0 : Int32), vR b1, vR o4, vR o5, vR o6, vR o13, vI (0 : Int32), vI (Int32.ofNat (0 + lb)), vI (Int32.ofNat ((0 + lb) + 0)), vI (1 : Int32), vI (Int32.ofNat (8 + ((0 + lb) + 0)))] [(.int (Int32.ofNat (8 + ((0 + lb) + 0)))), (.ref o13)])) rfl (by rw [hml]; rfl) (lenOf pd_0_7 rfl) rfl (by show 2 * 0 + _ ≤ _; exact Nat.le_of_eq rfl) (hb hby at_281))
        refine GoesW.step st18 ?_
        show GoesW p e below s _ _ _ T18 (mkF m 284 #[vI p1, vI p2, vI p3, vI p4, vI u1, vI u2, vI u3, vI (0 : Int32), vI (0 : Int32), vR b1, vR o4, vR o5, vR o6, vR o13, vI (0 : Int32), vI (Int32.ofNat (0 + lb)), vI (Int32.ofNat ((0 + lb) + 0)), vI (1 : Int32), vI (Int32.ofNat (8 + ((0 + lb) + 0)))] [(.int (own_u2 g13 ((8 + ((0 + lb) + 0)))))])
        refine GoesW.step (fun _ k => XS.iconst X18.here hx rfl (hb hby at_284) k) ?_
        refine GoesW.step (fun _ k => XS.icmpNo X18.here hx rfl (hb hby at_285) rfl (teq ((congrArg (own_u2 g13) (by omega)).trans (hu3_13.trans rfl))).2 k) ?_
        show GoesW p e below s _ _ _ T18 (mkF m 288 #[vI p1, vI p2, vI p3, vI p4, vI u1, vI u2, vI u3, vI (0 : Int32), vI (0 : Int32), vR b1, vR o4, vR o5, vR o6, vR o13, vI (0 : Int32), vI (Int32.ofNat (0 + lb)), vI (Int32.ofNat ((0 + lb) + 0)), vI (1 : Int32), vI (Int32.ofNat (8 + ((0 + lb) + 0)))] [])
        refine GoesW.step (fun _ k => XS.aload X18.here hx rfl (hb hby at_288) rfl rfl k) ?_
        refine GoesW.step (fun _ k => XS.iload X18.here hx rfl (hb hby at_290) rfl k) ?_
        refine GoesW.step (fun _ k => XS.iconst X18.here hx rfl (hb hby at_292) k) ?_
        refine GoesW.step (fun _ k => XS.iadd X18.here hx rfl (hb hby at_293) rfl k) ?_
        show GoesW p e below s _ _ _ T18 (mkF m 294 #[vI p1, vI p2, vI p3, vI p4, vI u1, vI u2, vI u3, vI (0 : Int32), vI (0 : Int32), vR b1, vR o4, vR o5, vR o6, vR o13, vI (0 : Int32), vI (Int32.ofNat (0 + lb)), vI (Int32.ofNat ((0 + lb) + 0)), vI (1 : Int32), vI (Int32.ofNat (8 + ((0 + lb) + 0)))] [(.int ((Int32.ofNat (8 + ((0 + lb) + 0))) + (2 : Int32))), (.ref o13)])
        rw [show ((Int32.ofNat (8 + ((0 + lb) + 0))) + (2 : Int32)) = Int32.ofNat ((8 + ((0 + lb) + 0)) + 2) from own_add _ _]
        obtain ⟨T19, X19, e19, st19⟩ := own_pure (r := some (.int (own_u2 g13 (((8 + ((0 + lb) + 0)) + 2))))) (fun _ _ _ q => q) (callX X18 hx hZ (y := y_48) hown (wof hw 334 rfl) (wof hw 335 rfl) (wof hw 332 rfl) (wof hw 336 rfl) (by decide) (W := 0) (argsL := [(.ref o13), (.int (Int32.ofNat ((8 + ((0 + lb) + 0)) + 2)))]) (rest := []) (rm48 l Z a0 hw [] o13 (Int32.ofNat ((8 + ((0 + lb) + 0)) + 2)) (((8 + ((0 + lb) + 0)) + 2)) ((0 + lb) + 20) g13 h13 n0 z_13 hA13 rfl (by omega)) (by decide) (by decide) (by decide) (by decide) e18 (g := (mkF m 294 #[vI p1, vI p2, vI p3, vI p4, vI u1, vI u2, vI u3, vI (0 : Int32), vI (0 : Int32), vR b1, vR o4, vR o5, vR o6, vR o13, vI (0 : Int32), vI (Int32.ofNat (0 + lb)), vI (Int32.ofNat ((0 + lb) + 0)), vI (1 : Int32), vI (Int32.ofNat (8 + ((0 + lb) + 0)))] [(.int (Int32.ofNat ((8 + ((0 + lb) + 0)) + 2))), (.ref o13)])) rfl (by rw [hml]; rfl) (lenOf pd_0_7 rfl) rfl (by show 2 * 0 + _ ≤ _; exact Nat.le_of_eq rfl) (hb hby at_294))
        refine GoesW.step st19 ?_
        show GoesW p e below s _ _ _ T19 (mkF m 297 #[vI p1, vI p2, vI p3, vI p4, vI u1, vI u2, vI u3, vI (0 : Int32), vI (0 : Int32), vR b1, vR o4, vR o5, vR o6, vR o13, vI (0 : Int32), vI (Int32.ofNat (0 + lb)), vI (Int32.ofNat ((0 + lb) + 0)), vI (1 : Int32), vI (Int32.ofNat (8 + ((0 + lb) + 0)))] [(.int (own_u2 g13 (((8 + ((0 + lb) + 0)) + 2))))])
        refine GoesW.step (fun _ k => XS.iload X19.here hx rfl (hb hby at_297) rfl k) ?_
        refine GoesW.step (fun _ k => XS.icmpNo X19.here hx rfl (hb hby at_299) rfl (teq ((congrArg (own_u2 g13) (by omega)).trans (hu4_13.trans rfl))).2 k) ?_
        show GoesW p e below s _ _ _ T19 (mkF m 302 #[vI p1, vI p2, vI p3, vI p4, vI u1, vI u2, vI u3, vI (0 : Int32), vI (0 : Int32), vR b1, vR o4, vR o5, vR o6, vR o13, vI (0 : Int32), vI (Int32.ofNat (0 + lb)), vI (Int32.ofNat ((0 + lb) + 0)), vI (1 : Int32), vI (Int32.ofNat (8 + ((0 + lb) + 0)))] [])
        refine GoesW.step (fun _ k => XS.aload X19.here hx rfl (hb hby at_302) rfl rfl k) ?_
        refine GoesW.step (fun _ k => XS.iload X19.here hx rfl (hb hby at_304) rfl k) ?_
        refine GoesW.step (fun _ k => XS.iconst X19.here hx rfl (hb hby at_306) k) ?_
        refine GoesW.step (fun _ k => XS.iadd X19.here hx rfl (hb hby at_307) rfl k) ?_
        show GoesW p e below s _ _ _ T19 (mkF m 308 #[vI p1, vI p2, vI p3, vI p4, vI u1, vI u2, vI u3, vI (0 : Int32), vI (0 : Int32), vR b1, vR o4, vR o5, vR o6, vR o13, vI (0 : Int32), vI (Int32.ofNat (0 + lb)), vI (Int32.ofNat ((0 + lb) + 0)), vI (1 : Int32), vI (Int32.ofNat (8 + ((0 + lb) + 0)))] [(.int ((Int32.ofNat (8 + ((0 + lb) + 0))) + (4 : Int32))), (.ref o13)])
        rw [show ((Int32.ofNat (8 + ((0 + lb) + 0))) + (4 : Int32)) = Int32.ofNat ((8 + ((0 + lb) + 0)) + 4) from own_add _ _]
        obtain ⟨T20, X20, e20, st20⟩ := own_pure (r := some (.int (own_u2 g13 (((8 + ((0 + lb) + 0)) + 4))))) (fun _ _ _ q => q) (callX X19 hx hZ (y := y_48) hown (wof hw 334 rfl) (wof hw 335 rfl) (wof hw 332 rfl) (wof hw 336 rfl) (by decide) (W := 0) (argsL := [(.ref o13), (.int (Int32.ofNat ((8 + ((0 + lb) + 0)) + 4)))]) (rest := []) (rm48 l Z a0 hw [] o13 (Int32.ofNat ((8 + ((0 + lb) + 0)) + 4)) (((8 + ((0 + lb) + 0)) + 4)) ((0 + lb) + 20) g13 h13 n0 z_13 hA13 rfl (by omega)) (by decide) (by decide) (by decide) (by decide) e19 (g := (mkF m 308 #[vI p1, vI p2, vI p3, vI p4, vI u1, vI u2, vI u3, vI (0 : Int32), vI (0 : Int32), vR b1, vR o4, vR o5, vR o6, vR o13, vI (0 : Int32), vI (Int32.ofNat (0 + lb)), vI (Int32.ofNat ((0 + lb) + 0)), vI (1 : Int32), vI (Int32.ofNat (8 + ((0 + lb) + 0)))] [(.int (Int32.ofNat ((8 + ((0 + lb) + 0)) + 4))), (.ref o13)])) rfl (by rw [hml]; rfl) (lenOf pd_0_7 rfl) rfl (by show 2 * 0 + _ ≤ _; exact Nat.le_of_eq rfl) (hb hby at_308))
        refine GoesW.step st20 ?_
        show GoesW p e below s _ _ _ T20 (mkF m 311 #[vI p1, vI p2, vI p3, vI p4, vI u1, vI u2, vI u3, vI (0 : Int32), vI (0 : Int32), vR b1, vR o4, vR o5, vR o6, vR o13, vI (0 : Int32), vI (Int32.ofNat (0 + lb)), vI (Int32.ofNat ((0 + lb) + 0)), vI (1 : Int32), vI (Int32.ofNat (8 + ((0 + lb) + 0)))] [(.int (own_u2 g13 (((8 + ((0 + lb) + 0)) + 4))))])
        refine GoesW.step (fun _ k => XS.iload X20.here hx rfl (hb hby at_311) rfl k) ?_
        as_aux_lemma =>
         refine GoesW.step (fun _ k => XS.icmpNo X20.here hx rfl (hb hby at_313) rfl (teq ((congrArg (own_u2 g13) (by omega)).trans (hu5_13.trans (congrArg Int32.ofNat (by omega))))).2 k) ?_
         show GoesW p e below s _ _ _ T20 (mkF m 316 #[vI p1, vI p2, vI p3, vI p4, vI u1, vI u2, vI u3, vI (0 : Int32), vI (0 : Int32), vR b1, vR o4, vR o5, vR o6, vR o13, vI (0 : Int32), vI (Int32.ofNat (0 + lb)), vI (Int32.ofNat ((0 + lb) + 0)), vI (1 : Int32), vI (Int32.ofNat (8 + ((0 + lb) + 0)))] [])
         refine GoesW.step (fun _ k => XS.aload X20.here hx rfl (hb hby at_316) rfl rfl k) ?_
         refine GoesW.step (fun _ k => XS.iload X20.here hx rfl (hb hby at_318) rfl k) ?_
         refine GoesW.step (fun _ k => XS.bipush X20.here hx rfl (hb hby at_320) k) ?_
         refine GoesW.step (fun _ k => XS.iadd X20.here hx rfl (hb hby at_322) rfl k) ?_
         show GoesW p e below s _ _ _ T20 (mkF m 323 #[vI p1, vI p2, vI p3, vI p4, vI u1, vI u2, vI u3, vI (0 : Int32), vI (0 : Int32), vR b1, vR o4, vR o5, vR o6, vR o13, vI (0 : Int32), vI (Int32.ofNat (0 + lb)), vI (Int32.ofNat ((0 + lb) + 0)), vI (1 : Int32), vI (Int32.ofNat (8 + ((0 + lb) + 0)))] [(.int ((Int32.ofNat (8 + ((0 + lb) + 0))) + (6 : Int32))), (.ref o13)])
         rw [show ((Int32.ofNat (8 + ((0 + lb) + 0))) + (6 : Int32)) = Int32.ofNat ((8 + ((0 + lb) + 0)) + 6) from own_add _ _]
         obtain ⟨T21, X21, e21, st21⟩ := own_pure (r := some (.int (own_u2 g13 (((8 + ((0 + lb) + 0)) + 6))))) (fun _ _ _ q => q) (callX X20 hx hZ (y := y_48) hown (wof hw 334 rfl) (wof hw 335 rfl) (wof hw 332 rfl) (wof hw 336 rfl) (by decide) (W := 0) (argsL := [(.ref o13), (.int (Int32.ofNat ((8 + ((0 + lb) + 0)) + 6)))]) (rest := []) (rm48 l Z a0 hw [] o13 (Int32.ofNat ((8 + ((0 + lb) + 0)) + 6)) (((8 + ((0 + lb) + 0)) + 6)) ((0 + lb) + 20) g13 h13 n0 z_13 hA13 rfl (by omega)) (by decide) (by decide) (by decide) (by decide) e20 (g := (mkF m 323 #[vI p1, vI p2, vI p3, vI p4, vI u1, vI u2, vI u3, vI (0 : Int32), vI (0 : Int32), vR b1, vR o4, vR o5, vR o6, vR o13, vI (0 : Int32), vI (Int32.ofNat (0 + lb)), vI (Int32.ofNat ((0 + lb) + 0)), vI (1 : Int32), vI (Int32.ofNat (8 + ((0 + lb) + 0)))] [(.int (Int32.ofNat ((8 + ((0 + lb) + 0)) + 6))), (.ref o13)])) rfl (by rw [hml]; rfl) (lenOf pd_0_7 rfl) rfl (by show 2 * 0 + _ ≤ _; exact Nat.le_of_eq rfl) (hb hby at_323))
         refine GoesW.step st21 ?_
         show GoesW p e below s _ _ _ T21 (mkF m 326 #[vI p1, vI p2, vI p3, vI p4, vI u1, vI u2, vI u3, vI (0 : Int32), vI (0 : Int32), vR b1, vR o4, vR o5, vR o6, vR o13, vI (0 : Int32), vI (Int32.ofNat (0 + lb)), vI (Int32.ofNat ((0 + lb) + 0)), vI (1 : Int32), vI (Int32.ofNat (8 + ((0 + lb) + 0)))] [(.int (own_u2 g13 (((8 + ((0 + lb) + 0)) + 6))))])
         refine GoesW.step (fun _ k => XS.iload X21.here hx rfl (hb hby at_326) rfl k) ?_
         refine GoesW.step (fun _ k => XS.icmpNo X21.here hx rfl (hb hby at_328) rfl (teq ((congrArg (own_u2 g13) (by omega)).trans (hu6_13.trans (congrArg Int32.ofNat (by omega))))).2 k) ?_
         show GoesW p e below s _ _ _ T21 (mkF m 331 #[vI p1, vI p2, vI p3, vI p4, vI u1, vI u2, vI u3, vI (0 : Int32), vI (0 : Int32), vR b1, vR o4, vR o5, vR o6, vR o13, vI (0 : Int32), vI (Int32.ofNat (0 + lb)), vI (Int32.ofNat ((0 + lb) + 0)), vI (1 : Int32), vI (Int32.ofNat (8 + ((0 + lb) + 0)))] [])
         refine GoesW.step (fun _ k => XS.aload X21.here hx rfl (hb hby at_331) rfl rfl k) ?_
         refine GoesW.step (fun _ k => XS.iload X21.here hx rfl (hb hby at_333) rfl k) ?_
         refine GoesW.step (fun _ k => XS.bipush X21.here hx rfl (hb hby at_335) k) ?_
         refine GoesW.step (fun _ k => XS.iadd X21.here hx rfl (hb hby at_337) rfl k) ?_
         show GoesW p e below s _ _ _ T21 (mkF m 338 #[vI p1, vI p2, vI p3, vI p4, vI u1, vI u2, vI u3, vI (0 : Int32), vI (0 : Int32), vR b1, vR o4, vR o5, vR o6, vR o13, vI (0 : Int32), vI (Int32.ofNat (0 + lb)), vI (Int32.ofNat ((0 + lb) + 0)), vI (1 : Int32), vI (Int32.ofNat (8 + ((0 + lb) + 0)))] [(.int ((Int32.ofNat (8 + ((0 + lb) + 0))) + (8 : Int32))), (.ref o13)])
         rw [show ((Int32.ofNat (8 + ((0 + lb) + 0))) + (8 : Int32)) = Int32.ofNat ((8 + ((0 + lb) + 0)) + 8) from own_add _ _]
         obtain ⟨T22, X22, e22, st22⟩ := own_pure (r := some (.int (own_u2 g13 (((8 + ((0 + lb) + 0)) + 8))))) (fun _ _ _ q => q) (callX X21 hx hZ (y := y_48) hown (wof hw 334 rfl) (wof hw 335 rfl) (wof hw 332 rfl) (wof hw 336 rfl) (by decide) (W := 0) (argsL := [(.ref o13), (.int (Int32.ofNat ((8 + ((0 + lb) + 0)) + 8)))]) (rest := []) (rm48 l Z a0 hw [] o13 (Int32.ofNat ((8 + ((0 + lb) + 0)) + 8)) (((8 + ((0 + lb) + 0)) + 8)) ((0 + lb) + 20) g13 h13 n0 z_13 hA13 rfl (by omega)) (by decide) (by decide) (by decide) (by decide) e21 (g := (mkF m 338 #[vI p1, vI p2, vI p3, vI p4, vI u1, vI u2, vI u3, vI (0 : Int32), vI (0 : Int32), vR b1, vR o4, vR o5, vR o6, vR o13, vI (0 : Int32), vI (Int32.ofNat (0 + lb)), vI (Int32.ofNat ((0 + lb) + 0)), vI (1 : Int32), vI (Int32.ofNat (8 + ((0 + lb) + 0)))] [(.int (Int32.ofNat ((8 + ((0 + lb) + 0)) + 8))), (.ref o13)])) rfl (by rw [hml]; rfl) (lenOf pd_0_7 rfl) rfl (by show 2 * 0 + _ ≤ _; exact Nat.le_of_eq rfl) (hb hby at_338))
         refine GoesW.step st22 ?_
         show GoesW p e below s _ _ _ T22 (mkF m 341 #[vI p1, vI p2, vI p3, vI p4, vI u1, vI u2, vI u3, vI (0 : Int32), vI (0 : Int32), vR b1, vR o4, vR o5, vR o6, vR o13, vI (0 : Int32), vI (Int32.ofNat (0 + lb)), vI (Int32.ofNat ((0 + lb) + 0)), vI (1 : Int32), vI (Int32.ofNat (8 + ((0 + lb) + 0)))] [(.int (own_u2 g13 (((8 + ((0 + lb) + 0)) + 8))))])
         refine GoesW.step (fun _ k => XS.ifNo X22.here hx rfl (hb hby at_341) rfl ((if0 _ _).trans (teq ((congrArg (own_u2 g13) (by omega)).trans (hu7_13.trans rfl))).2) k) ?_
         show GoesW p e below s _ _ _ T22 (mkF m 344 #[vI p1, vI p2, vI p3, vI p4, vI u1, vI u2, vI u3, vI (0 : Int32), vI (0 : Int32), vR b1, vR o4, vR o5, vR o6, vR o13, vI (0 : Int32), vI (Int32.ofNat (0 + lb)), vI (Int32.ofNat ((0 + lb) + 0)), vI (1 : Int32), vI (Int32.ofNat (8 + ((0 + lb) + 0)))] [])
         refine GoesW.step (fun _ k => XS.aload X22.here hx rfl (hb hby at_344) rfl rfl k) ?_
         refine GoesW.step (fun _ k => XS.iload X22.here hx rfl (hb hby at_346) rfl k) ?_
         refine GoesW.step (fun _ k => XS.bipush X22.here hx rfl (hb hby at_348) k) ?_
         refine GoesW.step (fun _ k => XS.iadd X22.here hx rfl (hb hby at_350) rfl k) ?_
         show GoesW p e below s _ _ _ T22 (mkF m 351 #[vI p1, vI p2, vI p3, vI p4, vI u1, vI u2, vI u3, vI (0 : Int32), vI (0 : Int32), vR b1, vR o4, vR o5, vR o6, vR o13, vI (0 : Int32), vI (Int32.ofNat (0 + lb)), vI (Int32.ofNat ((0 + lb) + 0)), vI (1 : Int32), vI (Int32.ofNat (8 + ((0 + lb) + 0)))] [(.int ((Int32.ofNat (8 + ((0 + lb) + 0))) + (10 : Int32))), (.ref o13)])
         rw [show ((Int32.ofNat (8 + ((0 + lb) + 0))) + (10 : Int32)) = Int32.ofNat ((8 + ((0 + lb) + 0)) + 10) from own_add _ _]
         obtain ⟨T23, X23, e23, st23⟩ := own_pure (r := some (.int (own_u2 g13 (((8 + ((0 + lb) + 0)) + 10))))) (fun _ _ _ q => q) (callX X22 hx hZ (y := y_48) hown (wof hw 334 rfl) (wof hw 335 rfl) (wof hw 332 rfl) (wof hw 336 rfl) (by decide) (W := 0) (argsL := [(.ref o13), (.int (Int32.ofNat ((8 + ((0 + lb) + 0)) + 10)))]) (rest := []) (rm48 l Z a0 hw [] o13 (Int32.ofNat ((8 + ((0 + lb) + 0)) + 10)) (((8 + ((0 + lb) + 0)) + 10)) ((0 + lb) + 20) g13 h13 n0 z_13 hA13 rfl (by omega)) (by decide) (by decide) (by decide) (by decide) e22 (g := (mkF m 351 #[vI p1, vI p2, vI p3, vI p4, vI u1, vI u2, vI u3, vI (0 : Int32), vI (0 : Int32), vR b1, vR o4, vR o5, vR o6, vR o13, vI (0 : Int32), vI (Int32.ofNat (0 + lb)), vI (Int32.ofNat ((0 + lb) + 0)), vI (1 : Int32), vI (Int32.ofNat (8 + ((0 + lb) + 0)))] [(.int (Int32.ofNat ((8 + ((0 + lb) + 0)) + 10))), (.ref o13)])) rfl (by rw [hml]; rfl) (lenOf pd_0_7 rfl) rfl (by show 2 * 0 + _ ≤ _; exact Nat.le_of_eq rfl) (hb hby at_351))
         refine GoesW.step st23 ?_
         show GoesW p e below s _ _ _ T23 (mkF m 354 #[vI p1, vI p2, vI p3, vI p4, vI u1, vI u2, vI u3, vI (0 : Int32), vI (0 : Int32), vR b1, vR o4, vR o5, vR o6, vR o13, vI (0 : Int32), vI (Int32.ofNat (0 + lb)), vI (Int32.ofNat ((0 + lb) + 0)), vI (1 : Int32), vI (Int32.ofNat (8 + ((0 + lb) + 0)))] [(.int (own_u2 g13 (((8 + ((0 + lb) + 0)) + 10))))])
         refine GoesW.step (fun _ k => XS.ifNo X23.here hx rfl (hb hby at_354) rfl ((if0 _ _).trans (teq ((congrArg (own_u2 g13) (by omega)).trans (hu8_13.trans rfl))).2) k) ?_
         show GoesW p e below s _ _ _ T23 (mkF m 357 #[vI p1, vI p2, vI p3, vI p4, vI u1, vI u2, vI u3, vI (0 : Int32), vI (0 : Int32), vR b1, vR o4, vR o5, vR o6, vR o13, vI (0 : Int32), vI (Int32.ofNat (0 + lb)), vI (Int32.ofNat ((0 + lb) + 0)), vI (1 : Int32), vI (Int32.ofNat (8 + ((0 + lb) + 0)))] [])
         refine GoesW.step (fun _ k => XS.iconst X23.here hx rfl (hb hby at_357) k) ?_
         refine GoesW.step (fun _ k => XS.goto X23.here hx rfl (pc0 := 358) (pc' := 362) rfl (hb hby at_358) (by decide) (by decide) k) ?_
         show GoesW p e below s _ _ _ T23 (mkF m 362 #[vI p1, vI p2, vI p3, vI p4, vI u1, vI u2, vI u3, vI (0 : Int32), vI (0 : Int32), vR b1, vR o4, vR o5, vR o6, vR o13, vI (0 : Int32), vI (Int32.ofNat (0 + lb)), vI (Int32.ofNat ((0 + lb) + 0)), vI (1 : Int32), vI (Int32.ofNat (8 + ((0 + lb) + 0)))] [(.int (1 : Int32))])
         exact GoesW.outN (s := s) (vm₁ := T8.vm) X23 hS8 (by first | (rw [e23]; exact hk_13) | exact Nat.le_refl _) hx hlk (t := .boolean) Bd.returns (by simp) (hb hby at_362) ⟨rfl, N_13⟩ (by decide) (by decide)
     · show GoesW p e below s _ _ _ T10 (mkF m 117 #[vI p1, vI p2, vI p3, vI p4, vI u1, vI u2, vI u3, vI (0 : Int32), vI (1 : Int32), vR b1, vR o4, vR o5, vR o6, vU, vU, vU, vU, vU, vU] [(.int (1 : Int32))])
       refine GoesW.step (fun _ k => XS.ifNo X10.here hx rfl (hb hby at_117) rfl ((if0 _ _).trans (feq (by decide : ¬ ((1 : Int32) = (0 : Int32)))).1) k) ?_
       show GoesW p e below s _ _ _ T10 (mkF m 120 #[vI p1, vI p2, vI p3, vI p4, vI u1, vI u2, vI u3, vI (0 : Int32), vI (1 : Int32), vR b1, vR o4, vR o5, vR o6, vU, vU, vU, vU, vU, vU] [])
       refine GoesW.step (fun _ k => XS.aload X10.here hx rfl (hb hby at_120) rfl rfl k) ?_
       show GoesW p e below s _ _ _ T10 (mkF m 122 #[vI p1, vI p2, vI p3, vI p4, vI u1, vI u2, vI u3, vI (0 : Int32), vI (1 : Int32), vR b1, vR o4, vR o5, vR o6, vU, vU, vU, vU, vU, vU] [(.ref b1)])
       refine GoesW.step (fun _ k => ldcAgain (s := s) (vm0 := T8.vm) X10 hx hZ hown (wof hw 112 rfl) Lt8 (g := (mkF m 122 #[vI p1, vI p2, vI p3, vI p4, vI u1, vI u2, vI u3, vI (0 : Int32), vI (1 : Int32), vR b1, vR o4, vR o5, vR o6, vU, vU, vU, vU, vU, vU] [(.ref b1)])) rfl (hb hby at_122) _ k) ?_
       show GoesW p e below s _ _ _ T10 (mkF m 124 #[vI p1, vI p2, vI p3, vI p4, vI u1, vI u2, vI u3, vI (0 : Int32), vI (1 : Int32), vR b1, vR o4, vR o5, vR o6, vU, vU, vU, vU, vU, vU] [(.ref c8), (.ref b1)])
       refine GoesW.step (fun _ k => XS.iload X10.here hx rfl (hb hby at_124) rfl k) ?_
       obtain ⟨v24, T24, h24, L24, X24, e24, Q24, st24⟩ := callXV X10 hx hZ (C := "com/example/proxysmith/proxysmith/Bytecode") (b := b1) (y := y_14) (z := y_14) hown (wof hw 113 rfl) (wof hw 114 rfl) (wof hw 116 rfl) (wof hw 115 rfl) (wof hw 117 rfl) (wof hw 3 rfl) (notFace_of_selects (args := #[]) (mvT hZ (wof hw 116 rfl))) (by decide) (W := 0) (argsL := [(.ref c8), (.int u3)]) (rest := []) (rm14 l Z a0 hw [] b1 c8 u3 G1 oF co3 lj3 lf3 lh3 (0 + 1) ml9 b3 (0 + lb) f9 d8 lc h10 n0 z_10 O2 P3 (OL.keep K_10 all0) O4 HA9_10 HB9_10 HN3.a_co HN3.a_b HN3.co_b ge_b1 ge_co3 ge_b3 hE8_10 hV8_10 hC8_10 hB8_10 ne_c8_b1 ne_c8_co3 ne_c8_b3 ne_d8_b1 ne_d8_co3 ne_d8_b3 (by decide) (by omega) elc) (by decide) (by decide) (by decide) (by decide) e10 E_b1_10 (g := (mkF m 126 #[vI p1, vI p2, vI p3, vI p4, vI u1, vI u2, vI u3, vI (0 : Int32), vI (1 : Int32), vR b1, vR o4, vR o5, vR o6, vU, vU, vU, vU, vU, vU] [(.int u3), (.ref c8), (.ref b1)])) rfl (by rw [hml]; rfl) (lenOf pd_0_3 rfl) rfl (by show 2 * 0 + _ ≤ _; exact Nat.le_of_eq rfl) (hb hby at_126)
       obtain ⟨rfl, NQ24, KQ24, ml24, f24, HA24, HB24⟩ := Q24
       refine GoesW.step st24 ?_
       have E_b1_24 := E_b1_10.keep KQ24
       have HL3_24 := HL3_10.keep KQ24 (ninS (Ne.symm HN3.a_lj) (ninS (Ne.symm HN3.co_lj) (ninS (Ne.symm HN3.b_lj) nin0))) (ninS (Ne.symm HN3.a_lf) (ninS (Ne.symm HN3.co_lf) (ninS (Ne.symm HN3.b_lf) nin0))) (ninS (Ne.symm HN3.a_lh) (ninS (Ne.symm HN3.co_lh) (ninS (Ne.symm HN3.b_lh) nin0))) (ninS (Ne.symm HN3.a_oh) (ninS (Ne.symm HN3.co_oh) (ninS (Ne.symm HN3.b_oh) nin0)))
       have hE4_24 := hE4_10.keep KQ24
       have hE5_24 := hE5_10.keep KQ24
       have hE6_24 := hE6_10.keep KQ24
       have hO6_24 := hO6_10.keep KQ24 (ninS ne_o6_b1 (ninS ne_o6_co3 (ninS ne_o6_b3 nin0)))
       have hO7_24 := hO7_10.keep KQ24 (ninS ne_o4_b1 (ninS ne_o4_co3 (ninS ne_o4_b3 nin0)))
       have hE8_24 := hE8_10.keep KQ24
       have hV8_24 := hV8_10.keep KQ24 (ninS ne_c8_b1 (ninS ne_c8_co3 (ninS ne_c8_b3 nin0)))
       have hC8_24 := hC8_10.keep KQ24 (ninS ne_c8_b1 (ninS ne_c8_co3 (ninS ne_c8_b3 nin0)))
       have hB8_24 := hB8_10.keep KQ24 (ninS ne_d8_b1 (ninS ne_d8_co3 (ninS ne_d8_b3 nin0)))
       have hO10_24 := hO10.keep KQ24 (ninS ne_o5_b1 (ninS ne_o5_co3 (ninS ne_o5_b3 nin0)))
       have hk_24 := Nat.le_trans hk_10 KQ24.1
       have z_24 : n0 ≤ h24.size := Nat.le_trans z_10 KQ24.1
       have K_24 : Keep h0 h24 [] := Keep.trans K_10 KQ24 (allS (Or.inr sz_b1) (allS (Or.inr sz_co3) (allS (Or.inr sz_b3) all0)))
       have N_24 := Fr.app N_10 NQ24
       show GoesW p e below s _ _ _ T24 (mkF m 129 #[vI p1, vI p2, vI p3, vI p4, vI u1, vI u2, vI u3, vI (0 : Int32), vI (1 : Int32), vR b1, vR o4, vR o5, vR o6, vU, vU, vU, vU, vU, vU] [])
       refine GoesW.step (fun _ k => XS.aload X24.here hx rfl (hb hby at_129) rfl rfl k) ?_
       refine GoesW.step (fun _ k => XS.aload X24.here hx rfl (hb hby at_131) rfl rfl k) ?_
       obtain ⟨v25, T25, h25, L25, X25, e25, Q25, st25⟩ := callXV X24 hx hZ (C := "com/example/proxysmith/proxysmith/Bytecode") (b := b1) (y := y_23) (z := y_23) hown (wof hw 155 rfl) (wof hw 156 rfl) (wof hw 158 rfl) (wof hw 157 rfl) (wof hw 159 rfl) (wof hw 3 rfl) (notFace_of_selects (args := #[]) (mvT hZ (wof hw 158 rfl))) (by decide) (W := 0) (argsL := [(.ref o6)]) (rest := []) (rm23 l Z a0 hw [] b1 o6 co3 ((0 + lb) + lc) h24 n0 z_24 HA24.Fcode HB24.E HB24.size hE6_24 hO6_24 ge_o6 (Ne.symm ne_o6_b1) (Ne.symm ne_o6_co3)) (by decide) (by decide) (by decide) (by decide) e24 E_b1_24 (g := (mkF m 133 #[vI p1, vI p2, vI p3, vI p4, vI u1, vI u2, vI u3, vI (0 : Int32), vI (1 : Int32), vR b1, vR o4, vR o5, vR o6, vU, vU, vU, vU, vU, vU] [(.ref o6), (.ref b1)])) rfl (by rw [hml]; rfl) (lenOf pd_0_2 rfl) rfl (by show 2 * 0 + _ ≤ _; exact Nat.le_of_eq rfl) (hb hby at_133)
       obtain ⟨rfl, NQ25, KQ25, hO25⟩ := Q25
       refine GoesW.step st25 ?_
       have E_b1_25 := E_b1_24.keep KQ25
       have HL3_25 := HL3_24.keep KQ25 (ninS (Ne.symm ne_o6_lj3) nin0) (ninS (Ne.symm ne_o6_lf3) nin0) (ninS (Ne.symm ne_o6_lh3) nin0) (ninS (Ne.symm ne_o6_oh3) nin0)
       have hE4_25 := hE4_24.keep KQ25
       have hE5_25 := hE5_24.keep KQ25
       have hE6_25 := hE6_24.keep KQ25
       have hO7_25 := hO7_24.keep KQ25 (ninS (Ne.symm ne_o6_o4) nin0)
       have hE8_25 := hE8_24.keep KQ25
       have hV8_25 := hV8_24.keep KQ25 (ninS ne_c8_o6 nin0)
       have hC8_25 := hC8_24.keep KQ25 (ninS ne_c8_o6 nin0)
       have hB8_25 := hB8_24.keep KQ25 (ninS ne_d8_o6 nin0)
       have hO10_25 := hO10_24.keep KQ25 (ninS (Ne.symm ne_o6_o5) nin0)
       have HA24_25 := HA24.keep KQ25 (ninS (Ne.symm ne_o6_b1) nin0)
       have HB24_25 := HB24.keep KQ25 (ninS (Ne.symm ne_o6_co3) nin0) (ninS (Ne.symm ne_o6_b3) nin0)
       have hk_25 := Nat.le_trans hk_24 KQ25.1
       have z_25 : n0 ≤ h25.size := Nat.le_trans z_24 KQ25.1
       have K_25 : Keep h0 h25 [] := Keep.trans K_24 KQ25 (allS (Or.inr sz_o6) all0)
       have N_25 := Fr.app N_24 NQ25
       show GoesW p e below s _ _ _ T25 (mkF m 136 #[vI p1, vI p2, vI p3, vI p4, vI u1, vI u2, vI u3, vI (0 : Int32), vI (1 : Int32), vR b1, vR o4, vR o5, vR o6, vU, vU, vU, vU, vU, vU] [])
       refine GoesW.step (fun _ k => XS.aload X25.here hx rfl (hb hby at_136) rfl rfl k) ?_
       refine GoesW.step (fun _ k => XS.aload X25.here hx rfl (hb hby at_138) rfl rfl k) ?_
       refine GoesW.step (fun _ k => XS.aload X25.here hx rfl (hb hby at_140) rfl rfl k) ?_
       refine GoesW.step (fun _ k => XS.aload X25.here hx rfl (hb hby at_142) rfl rfl k) ?_
       refine GoesW.step (fun _ k => XS.aconstNull X25.here hx rfl (hb hby at_144) k) ?_
       obtain ⟨v26, T26, h26, L26, X26, e26, Q26, st26⟩ := callXV X25 hx hZ (C := "com/example/proxysmith/proxysmith/Bytecode") (b := b1) (y := y_25) (z := y_25) hown (wof hw 166 rfl) (wof hw 167 rfl) (wof hw 169 rfl) (wof hw 168 rfl) (wof hw 170 rfl) (wof hw 3 rfl) (notFace_of_selects (args := #[]) (mvT hZ (wof hw 169 rfl))) (by decide) (W := 0) (argsL := [(.ref o4), (.ref o5), (.ref o6), .null]) (rest := []) (rm25 l Z a0 hw [] b1 o4 o5 o6 lj3 lf3 lh3 oh3 h25 n0 z_25 HA24_25.Fhandlers HL3_25 ge_lh3 ge_oh3 HN3.lj_lh HN3.lf_lh HN3.lj_oh HN3.lf_oh HN3.lh_oh HN3.a_lh HN3.a_oh) (by decide) (by decide) (by decide) (by decide) e25 E_b1_25 (g := (mkF m 145 #[vI p1, vI p2, vI p3, vI p4, vI u1, vI u2, vI u3, vI (0 : Int32), vI (1 : Int32), vR b1, vR o4, vR o5, vR o6, vU, vU, vU, vU, vU, vU] [.null, (.ref o6), (.ref o5), (.ref o4), (.ref b1)])) rfl (by rw [hml]; rfl) (lenOf pd_0_4 rfl) rfl (by show 2 * 0 + _ ≤ _; exact Nat.le_of_eq rfl) (hb hby at_145)
       obtain ⟨ha26, rfl, NQ26, KQ26, sha26, HM26⟩ := Q26
       refine GoesW.step st26 ?_
       have E_b1_26 := E_b1_25.keep KQ26
       have hE4_26 := hE4_25.keep KQ26
       have hE5_26 := hE5_25.keep KQ26
       have hE6_26 := hE6_25.keep KQ26
       have hO7_26 := hO7_25.keep KQ26 (ninS ne_o4_lh3 (ninS ne_o4_oh3 nin0))
       have hO10_26 := hO10_25.keep KQ26 (ninS ne_o5_lh3 (ninS ne_o5_oh3 nin0))
       have HA24_26 := HA24_25.keep KQ26 (ninS HN3.a_lh (ninS HN3.a_oh nin0))
       have HB24_26 := HB24_25.keep KQ26 (ninS HN3.co_lh (ninS HN3.co_oh nin0)) (ninS HN3.b_lh (ninS HN3.b_oh nin0))
       have hO25_26 := hO25.keep KQ26 (ninS ne_o6_lh3 (ninS ne_o6_oh3 nin0))
       have hk_26 := Nat.le_trans hk_25 KQ26.1
       have z_26 : n0 ≤ h26.size := Nat.le_trans z_25 KQ26.1
       have K_26 : Keep h0 h26 [] := Keep.trans K_25 KQ26 (allS (Or.inr sz_lh3) (allS (Or.inr sz_oh3) all0))
       have N_26 := Fr.app N_25 NQ26
       show GoesW p e below s _ _ _ T26 (mkF m 148 #[vI p1, vI p2, vI p3, vI p4, vI u1, vI u2, vI u3, vI (0 : Int32), vI (1 : Int32), vR b1, vR o4, vR o5, vR o6, vU, vU, vU, vU, vU, vU] [])
       refine GoesW.step (fun _ k => XS.aload X26.here hx rfl (hb hby at_148) rfl rfl k) ?_
       obtain ⟨v27, T27, h27, L27, X27, e27, Q27, st27⟩ := callXV X26 hx hZ (C := "com/example/proxysmith/proxysmith/Bytecode") (b := b1) (y := y_30) (z := y_30) hown (wof hw 210 rfl) (wof hw 211 rfl) (wof hw 213 rfl) (wof hw 212 rfl) (wof hw 214 rfl) (wof hw 3 rfl) (notFace_of_selects (args := #[]) (mvT hZ (wof hw 213 rfl))) (by decide) (W := 0) (argsL := []) (rest := []) (rm30 l Z a0 hw [] b1 co3 lj3 lf3 lh3 ((0 + 1) + 1) ml24 b3 ((0 + lb) + lc) f24 oh3 ha26 o4 o5 o6 0 (0 + lb) ((0 + lb) + lc) h26 n0 z_26 HA24_26 HB24_26 HM26 hO7_26 hO10_26 hO25_26 (by omega) (by omega) (by omega) (by omega) (by decide)) (by decide) (by decide) (by decide) (by decide) e26 E_b1_26 (g := (mkF m 150 #[vI p1, vI p2, vI p3, vI p4, vI u1, vI u2, vI u3, vI (0 : Int32), vI (1 : Int32), vR b1, vR o4, vR o5, vR o6, vU, vU, vU, vU, vU, vU] [(.ref b1)])) rfl (by rw [hml]; rfl) (lenOf pd_0_5 rfl) rfl (by show 2 * 0 + _ ≤ _; exact Nat.le_of_eq rfl) (hb hby at_150)
       obtain ⟨o27, g27, rfl, NQ27, KQ27, so27, hA27, hu0_27, hu1_27, hu2_27, hu3_27, hu4_27, hu5_27, hu6_27, hu7_27, hu8_27⟩ := Q27
       refine GoesW.step st27 ?_
       have E_b1_27 := E_b1_26.keep KQ27
       have hE4_27 := hE4_26.keep KQ27
       have hE5_27 := hE5_26.keep KQ27
       have hE6_27 := hE6_26.keep KQ27
       have hO7_27 := hO7_26.keep KQ27 nin0
       have hO10_27 := hO10_26.keep KQ27 nin0
       have HA24_27 := HA24_26.keep KQ27 nin0
       have HB24_27 := HB24_26.keep KQ27 nin0 nin0
       have hO25_27 := hO25_26.keep KQ27 nin0
       have HM26_27 := HM26.keep KQ27
       have hk_27 := Nat.le_trans hk_26 KQ27.1
       have z_27 : n0 ≤ h27.size := Nat.le_trans z_26 KQ27.1
       have K_27 : Keep h0 h27 [] := Keep.trans K_26 KQ27 all0
       have N_27 := Fr.app N_26 NQ27
       show GoesW p e below s _ _ _ T27 (mkF m 153 #[vI p1, vI p2, vI p3, vI p4, vI u1, vI u2, vI u3, vI (0 : Int32), vI (1 : Int32), vR b1, vR o4, vR o5, vR o6, vU, vU, vU, vU, vU, vU] [(.ref o27)])
       refine GoesW.step (fun _ k => XS.astore X27.here hx rfl (hb hby at_153) rfl rfl (l' := #[vI p1, vI p2, vI p3, vI p4, vI u1, vI u2, vI u3, vI (0 : Int32), vI (1 : Int32), vR b1, vR o4, vR o5, vR o6, vR o27, vU, vU, vU, vU, vU]) rfl k) ?_
       refine GoesW.step (fun _ k => XS.iload X27.here hx rfl (hb hby at_155) rfl k) ?_
       refine GoesW.step (fun _ k => XS.ifYes X27.here hx rfl (pc0 := 157) (pc' := 168) rfl (hb hby at_157) rfl ((if0 _ _).trans (teq (by decide : (0 : Int32) = (0 : Int32))).1) (by decide) (by decide) k) ?_
       show GoesW p e below s _ _ _ T27 (mkF m 168 #[vI p1, vI p2, vI p3, vI p4, vI u1, vI u2, vI u3, vI (0 : Int32), vI (1 : Int32), vR b1, vR o4, vR o5, vR o6, vR o27, vU, vU, vU, vU, vU] [])
       refine GoesW.step (fun _ k => XS.iconst X27.here hx rfl (hb hby at_168) k) ?_
       refine GoesW.step (fun _ k => XS.istore X27.here hx rfl (hb hby at_169) rfl (l' := #[vI p1, vI p2, vI p3, vI p4, vI u1, vI u2, vI u3, vI (0 : Int32), vI (1 : Int32), vR b1, vR o4, vR o5, vR o6, vR o27, vI (0 : Int32), vU, vU, vU, vU]) rfl k) ?_
       refine GoesW.step (fun _ k => XS.iload X27.here hx rfl (hb hby at_171) rfl k) ?_
       refine GoesW.step (fun _ k => XS.iload X27.here hx rfl (hb hby at_173) rfl k) ?_
       obtain ⟨T28, X28, e28, st28⟩ := callPure X27 hx hZ (y := y_47) hown (wof hw 330 rfl) (wof hw 331 rfl) (wof hw 332 rfl) (wof hw 333 rfl) (by decide) (W := 1) (argsL := [(.int u2)]) (rest := [(.int (0 : Int32))]) (r := (.int (f47 u2))) (fun _ _ _ q => q) (rm47 l Z a0 hw [] u2 h27 ) (by decide) (by decide) (by decide) (by decide) e27 (g := (mkF m 175 #[vI p1, vI p2, vI p3, vI p4, vI u1, vI u2, vI u3, vI (0 : Int32), vI (1 : Int32), vR b1, vR o4, vR o5, vR o6, vR o27, vI (0 : Int32), vU, vU, vU, vU] [(.int u2), (.int (0 : Int32))])) rfl (by rw [hml]; rfl) (lenOf pd_0_6 rfl) rfl (by show 2 * 0 + _ ≤ _; exact Nat.le_of_eq rfl) (hb hby at_175)
       refine GoesW.step st28 ?_
       show GoesW p e below s _ _ _ T28 (mkF m 178 #[vI p1, vI p2, vI p3, vI p4, vI u1, vI u2, vI u3, vI (0 : Int32), vI (1 : Int32), vR b1, vR o4, vR o5, vR o6, vR o27, vI (0 : Int32), vU, vU, vU, vU] [(.int (f47 u2)), (.int (0 : Int32))])
       rw [own_lenF, elb]
       refine GoesW.step (fun _ k => XS.iadd X28.here hx rfl (hb hby at_178) rfl k) ?_
       show GoesW p e below s _ _ _ T28 (mkF m 179 #[vI p1, vI p2, vI p3, vI p4, vI u1, vI u2, vI u3, vI (0 : Int32), vI (1 : Int32), vR b1, vR o4, vR o5, vR o6, vR o27, vI (0 : Int32), vU, vU, vU, vU] [(.int ((0 : Int32) + (Int32.ofNat lb)))])
       rw [show ((0 : Int32) + (Int32.ofNat lb)) = Int32.ofNat (0 + lb) from own_add _ _]
       refine GoesW.step (fun _ k => XS.istore X28.here hx rfl (hb hby at_179) rfl (l' := #[vI p1, vI p2, vI p3, vI p4, vI u1, vI u2, vI u3, vI (0 : Int32), vI (1 : Int32), vR b1, vR o4, vR o5, vR o6, vR o27, vI (0 : Int32), vI (Int32.ofNat (0 + lb)), vU, vU, vU]) rfl k) ?_
       refine GoesW.step (fun _ k => XS.iload X28.here hx rfl (hb hby at_181) rfl k) ?_
       refine GoesW.step (fun _ k => XS.iload X28.here hx rfl (hb hby at_183) rfl k) ?_
       refine GoesW.step (fun _ k => XS.ifNo X28.here hx rfl (hb hby at_185) rfl ((if0 _ _).trans (feq (by decide : ¬ ((1 : Int32) = (0 : Int32)))).1) k) ?_
       show GoesW p e below s _ _ _ T28 (mkF m 188 #[vI p1, vI p2, vI p3, vI p4, vI u1, vI u2, vI u3, vI (0 : Int32), vI (1 : Int32), vR b1, vR o4, vR o5, vR o6, vR o27, vI (0 : Int32), vI (Int32.ofNat (0 + lb)), vU, vU, vU] [(.int (Int32.ofNat (0 + lb)))])
       refine GoesW.step (fun _ k => XS.iload X28.here hx rfl (hb hby at_188) rfl k) ?_
       obtain ⟨T29, X29, e29, st29⟩ := callPure X28 hx hZ (y := y_47) hown (wof hw 330 rfl) (wof hw 331 rfl) (wof hw 332 rfl) (wof hw 333 rfl) (by decide) (W := 1) (argsL := [(.int u3)]) (rest := [(.int (Int32.ofNat (0 + lb)))]) (r := (.int (f47 u3))) (fun _ _ _ q => q) (rm47 l Z a0 hw [] u3 h27 ) (by decide) (by decide) (by decide) (by decide) e28 (g := (mkF m 190 #[vI p1, vI p2, vI p3, vI p4, vI u1, vI u2, vI u3, vI (0 : Int32), vI (1 : Int32), vR b1, vR o4, vR o5, vR o6, vR o27, vI (0 : Int32), vI (Int32.ofNat (0 + lb)), vU, vU, vU] [(.int u3), (.int (Int32.ofNat (0 + lb)))])) rfl (by rw [hml]; rfl) (lenOf pd_0_6 rfl) rfl (by show 2 * 0 + _ ≤ _; exact Nat.le_of_eq rfl) (hb hby at_190)
       refine GoesW.step st29 ?_
       show GoesW p e below s _ _ _ T29 (mkF m 193 #[vI p1, vI p2, vI p3, vI p4, vI u1, vI u2, vI u3, vI (0 : Int32), vI (1 : Int32), vR b1, vR o4, vR o5, vR o6, vR o27, vI (0 : Int32), vI (Int32.ofNat (0 + lb)), vU, vU, vU] [(.int (f47 u3)), (.int (Int32.ofNat (0 + lb)))])
       rw [own_lenF, elc]
       refine GoesW.step (fun _ k => XS.goto X29.here hx rfl (pc0 := 193) (pc' := 197) rfl (hb hby at_193) (by decide) (by decide) k) ?_
       refine GoesW.step (fun _ k => XS.iadd X29.here hx rfl (hb hby at_197) rfl k) ?_
       show GoesW p e below s _ _ _ T29 (mkF m 198 #[vI p1, vI p2, vI p3, vI p4, vI u1, vI u2, vI u3, vI (0 : Int32), vI (1 : Int32), vR b1, vR o4, vR o5, vR o6, vR o27, vI (0 : Int32), vI (Int32.ofNat (0 + lb)), vU, vU, vU] [(.int ((Int32.ofNat (0 + lb)) + (Int32.ofNat lc)))])
       rw [show ((Int32.ofNat (0 + lb)) + (Int32.ofNat lc)) = Int32.ofNat ((0 + lb) + lc) from own_add _ _]
       refine GoesW.step (fun _ k => XS.istore X29.here hx rfl (hb hby at_198) rfl (l' := #[vI p1, vI p2, vI p3, vI p4, vI u1, vI u2, vI u3, vI (0 : Int32), vI (1 : Int32), vR b1, vR o4, vR o5, vR o6, vR o27, vI (0 : Int32), vI (Int32.ofNat (0 + lb)), vI (Int32.ofNat ((0 + lb) + lc)), vU, vU]) rfl k) ?_
       refine GoesW.step (fun _ k => XS.iconst X29.here hx rfl (hb hby at_200) k) ?_
       refine GoesW.step (fun _ k => XS.iload X29.here hx rfl (hb hby at_201) rfl k) ?_
       refine GoesW.step (fun _ k => XS.ifYes X29.here hx rfl (pc0 := 203) (pc' := 210) rfl (hb hby at_203) rfl ((if0 _ _).trans (teq (by decide : (0 : Int32) = (0 : Int32))).1) (by decide) (by decide) k) ?_
       show GoesW p e below s _ _ _ T29 (mkF m 210 #[vI p1, vI p2, vI p3, vI p4, vI u1, vI u2, vI u3, vI (0 : Int32), vI (1 : Int32), vR b1, vR o4, vR o5, vR o6, vR o27, vI (0 : Int32), vI (Int32.ofNat (0 + lb)), vI (Int32.ofNat ((0 + lb) + lc)), vU, vU] [(.int (1 : Int32))])
       refine GoesW.step (fun _ k => XS.iconst X29.here hx rfl (hb hby at_210) k) ?_
       refine GoesW.step (fun _ k => XS.iadd X29.here hx rfl (hb hby at_211) rfl k) ?_
       show GoesW p e below s _ _ _ T29 (mkF m 212 #[vI p1, vI p2, vI p3, vI p4, vI u1, vI u2, vI u3, vI (0 : Int32), vI (1 : Int32), vR b1, vR o4, vR o5, vR o6, vR o27, vI (0 : Int32), vI (Int32.ofNat (0 + lb)), vI (Int32.ofNat ((0 + lb) + lc)), vU, vU] [(.int (1 : Int32))])
       refine GoesW.step (fun _ k => XS.iload X29.here hx rfl (hb hby at_212) rfl k) ?_
       as_aux_lemma =>
        refine GoesW.step (fun _ k => XS.ifNo X29.here hx rfl (hb hby at_214) rfl ((if0 _ _).trans (feq (by decide : ¬ ((1 : Int32) = (0 : Int32)))).1) k) ?_
        show GoesW p e below s _ _ _ T29 (mkF m 217 #[vI p1, vI p2, vI p3, vI p4, vI u1, vI u2, vI u3, vI (0 : Int32), vI (1 : Int32), vR b1, vR o4, vR o5, vR o6, vR o27, vI (0 : Int32), vI (Int32.ofNat (0 + lb)), vI (Int32.ofNat ((0 + lb) + lc)), vU, vU] [(.int (1 : Int32))])
        refine GoesW.step (fun _ k => XS.iconst X29.here hx rfl (hb hby at_217) k) ?_
        refine GoesW.step (fun _ k => XS.goto X29.here hx rfl (pc0 := 218) (pc' := 222) rfl (hb hby at_218) (by decide) (by decide) k) ?_
        refine GoesW.step (fun _ k => XS.iadd X29.here hx rfl (hb hby at_222) rfl k) ?_
        show GoesW p e below s _ _ _ T29 (mkF m 223 #[vI p1, vI p2, vI p3, vI p4, vI u1, vI u2, vI u3, vI (0 : Int32), vI (1 : Int32), vR b1, vR o4, vR o5, vR o6, vR o27, vI (0 : Int32), vI (Int32.ofNat (0 + lb)), vI (Int32.ofNat ((0 + lb) + lc)), vU, vU] [(.int (2 : Int32))])
        refine GoesW.step (fun _ k => XS.istore X29.here hx rfl (hb hby at_223) rfl (l' := #[vI p1, vI p2, vI p3, vI p4, vI u1, vI u2, vI u3, vI (0 : Int32), vI (1 : Int32), vR b1, vR o4, vR o5, vR o6, vR o27, vI (0 : Int32), vI (Int32.ofNat (0 + lb)), vI (Int32.ofNat ((0 + lb) + lc)), vI (2 : Int32), vU]) rfl k) ?_
        refine GoesW.step (fun _ k => XS.aload X29.here hx rfl (hb hby at_225) rfl rfl k) ?_
        refine GoesW.step (fun _ k => rdL X29 hx hZ e29 hA27 (g := (mkF m 227 #[vI p1, vI p2, vI p3, vI p4, vI u1, vI u2, vI u3, vI (0 : Int32), vI (1 : Int32), vR b1, vR o4, vR o5, vR o6, vR o27, vI (0 : Int32), vI (Int32.ofNat (0 + lb)), vI (Int32.ofNat ((0 + lb) + lc)), vI (2 : Int32), vU] [(.ref o27)])) rfl rfl (hb hby at_227) _ k) ?_
        show GoesW p e below s _ _ _ T29 (mkF m 228 #[vI p1, vI p2, vI p3, vI p4, vI u1, vI u2, vI u3, vI (0 : Int32), vI (1 : Int32), vR b1, vR o4, vR o5, vR o6, vR o27, vI (0 : Int32), vI (Int32.ofNat (0 + lb)), vI (Int32.ofNat ((0 + lb) + lc)), vI (2 : Int32), vU] [(.int (Int32.ofNat ((((0 + lb) + lc) + 20))))])
        refine GoesW.step (fun _ k => XS.bipush X29.here hx rfl (hb hby at_228) k) ?_
        refine GoesW.step (fun _ k => XS.iload X29.here hx rfl (hb hby at_230) rfl k) ?_
        refine GoesW.step (fun _ k => XS.iadd X29.here hx rfl (hb hby at_232) rfl k) ?_
        show GoesW p e below s _ _ _ T29 (mkF m 233 #[vI p1, vI p2, vI p3, vI p4, vI u1, vI u2, vI u3, vI (0 : Int32), vI (1 : Int32), vR b1, vR o4, vR o5, vR o6, vR o27, vI (0 : Int32), vI (Int32.ofNat (0 + lb)), vI (Int32.ofNat ((0 + lb) + lc)), vI (2 : Int32), vU] [(.int ((20 : Int32) + (Int32.ofNat ((0 + lb) + lc)))), (.int (Int32.ofNat ((((0 + lb) + lc) + 20))))])
        refine GoesW.step (fun _ k => XS.icmpYes X29.here hx rfl (pc0 := 233) (pc' := 238) rfl (hb hby at_233) rfl (teq (by rw [show ((20 : Int32) + (Int32.ofNat ((0 + lb) + lc))) = Int32.ofNat (20 + ((0 + lb) + lc)) from own_add 20 _]; exact congrArg Int32.ofNat (by omega))).1 (by decide) (by decide) k) ?_
        show GoesW p e below s _ _ _ T29 (mkF m 238 #[vI p1, vI p2, vI p3, vI p4, vI u1, vI u2, vI u3, vI (0 : Int32), vI (1 : Int32), vR b1, vR o4, vR o5, vR o6, vR o27, vI (0 : Int32), vI (Int32.ofNat (0 + lb)), vI (Int32.ofNat ((0 + lb) + lc)), vI (2 : Int32), vU] [])
        refine GoesW.step (fun _ k => XS.bipush X29.here hx rfl (hb hby at_238) k) ?_
        refine GoesW.step (fun _ k => XS.iload X29.here hx rfl (hb hby at_240) rfl k) ?_
        refine GoesW.step (fun _ k => XS.iadd X29.here hx rfl (hb hby at_242) rfl k) ?_
        show GoesW p e below s _ _ _ T29 (mkF m 243 #[vI p1, vI p2, vI p3, vI p4, vI u1, vI u2, vI u3, vI (0 : Int32), vI (1 : Int32), vR b1, vR o4, vR o5, vR o6, vR o27, vI (0 : Int32), vI (Int32.ofNat (0 + lb)), vI (Int32.ofNat ((0 + lb) + lc)), vI (2 : Int32), vU] [(.int ((8 : Int32) + (Int32.ofNat ((0 + lb) + lc))))])
        rw [show ((8 : Int32) + (Int32.ofNat ((0 + lb) + lc))) = Int32.ofNat (8 + ((0 + lb) + lc)) from own_add _ _]
        refine GoesW.step (fun _ k => XS.istore X29.here hx rfl (hb hby at_243) rfl (l' := #[vI p1, vI p2, vI p3, vI p4, vI u1, vI u2, vI u3, vI (0 : Int32), vI (1 : Int32), vR b1, vR o4, vR o5, vR o6, vR o27, vI (0 : Int32), vI (Int32.ofNat (0 + lb)), vI (Int32.ofNat ((0 + lb) + lc)), vI (2 : Int32), vI (Int32.ofNat (8 + ((0 + lb) + lc)))]) rfl k) ?_
        refine GoesW.step (fun _ k => XS.aload X29.here hx rfl (hb hby at_245) rfl rfl k) ?_
        refine GoesW.step (fun _ k => XS.iconst X29.here hx rfl (hb hby at_247) k) ?_
        obtain ⟨T30, X30, e30, st30⟩ := own_pure (r := some (.int (own_u2 g27 (0)))) (fun _ _ _ q => q) (callX X29 hx hZ (y := y_48) hown (wof hw 334 rfl) (wof hw 335 rfl) (wof hw 332 rfl) (wof hw 336 rfl) (by decide) (W := 0) (argsL := [(.ref o27), (.int (0 : Int32))]) (rest := []) (rm48 l Z a0 hw [] o27 (0 : Int32) (0) (((0 + lb) + lc) + 20) g27 h27 n0 z_27 hA27 rfl (by omega)) (by decide) (by decide) (by decide) (by decide) e29 (g := (mkF m 248 #[vI p1, vI p2, vI p3, vI p4, vI u1, vI u2, vI u3, vI (0 : Int32), vI (1 : Int32), vR b1, vR o4, vR o5, vR o6, vR o27, vI (0 : Int32), vI (Int32.ofNat (0 + lb)), vI (Int32.ofNat ((0 + lb) + lc)), vI (2 : Int32), vI (Int32.ofNat (8 + ((0 + lb) + lc)))] [(.int (0 : Int32)), (.ref o27)])) rfl (by rw [hml]; rfl) (lenOf pd_0_7 rfl) rfl (by show 2 * 0 + _ ≤ _; exact Nat.le_of_eq rfl) (hb hby at_248))
        refine GoesW.step st30 ?_
        show GoesW p e below s _ _ _ T30 (mkF m 251 #[vI p1, vI p2, vI p3, vI p4, vI u1, vI u2, vI u3, vI (0 : Int32), vI (1 : Int32), vR b1, vR o4, vR o5, vR o6, vR o27, vI (0 : Int32), vI (Int32.ofNat (0 + lb)), vI (Int32.ofNat ((0 + lb) + lc)), vI (2 : Int32), vI (Int32.ofNat (8 + ((0 + lb) + lc)))] [(.int (own_u2 g27 (0)))])
        refine GoesW.step (fun _ k => XS.iload X30.here hx rfl (hb hby at_251) rfl k) ?_
        refine GoesW.step (fun _ k => XS.icmpNo X30.here hx rfl (hb hby at_253) rfl (teq ((congrArg (own_u2 g27) (by omega)).trans (hu0_27.trans (by decide)))).2 k) ?_
        show GoesW p e below s _ _ _ T30 (mkF m 256 #[vI p1, vI p2, vI p3, vI p4, vI u1, vI u2, vI u3, vI (0 : Int32), vI (1 : Int32), vR b1, vR o4, vR o5, vR o6, vR o27, vI (0 : Int32), vI (Int32.ofNat (0 + lb)), vI (Int32.ofNat ((0 + lb) + lc)), vI (2 : Int32), vI (Int32.ofNat (8 + ((0 + lb) + lc)))] [])
        refine GoesW.step (fun _ k => XS.aload X30.here hx rfl (hb hby at_256) rfl rfl k) ?_
        refine GoesW.step (fun _ k => XS.iconst X30.here hx rfl (hb hby at_258) k) ?_
        obtain ⟨T31, X31, e31, st31⟩ := own_pure (r := some (.int (own_u2 g27 (4)))) (fun _ _ _ q => q) (callX X30 hx hZ (y := y_48) hown (wof hw 334 rfl) (wof hw 335 rfl) (wof hw 332 rfl) (wof hw 336 rfl) (by decide) (W := 0) (argsL := [(.ref o27), (.int (4 : Int32))]) (rest := []) (rm48 l Z a0 hw [] o27 (4 : Int32) (4) (((0 + lb) + lc) + 20) g27 h27 n0 z_27 hA27 rfl (by omega)) (by decide) (by decide) (by decide) (by decide) e30 (g := (mkF m 259 #[vI p1, vI p2, vI p3, vI p4, vI u1, vI u2, vI u3, vI (0 : Int32), vI (1 : Int32), vR b1, vR o4, vR o5, vR o6, vR o27, vI (0 : Int32), vI (Int32.ofNat (0 + lb)), vI (Int32.ofNat ((0 + lb) + lc)), vI (2 : Int32), vI (Int32.ofNat (8 + ((0 + lb) + lc)))] [(.int (4 : Int32)), (.ref o27)])) rfl (by rw [hml]; rfl) (lenOf pd_0_7 rfl) rfl (by show 2 * 0 + _ ≤ _; exact Nat.le_of_eq rfl) (hb hby at_259))
        refine GoesW.step st31 ?_
        show GoesW p e below s _ _ _ T31 (mkF m 262 #[vI p1, vI p2, vI p3, vI p4, vI u1, vI u2, vI u3, vI (0 : Int32), vI (1 : Int32), vR b1, vR o4, vR o5, vR o6, vR o27, vI (0 : Int32), vI (Int32.ofNat (0 + lb)), vI (Int32.ofNat ((0 + lb) + lc)), vI (2 : Int32), vI (Int32.ofNat (8 + ((0 + lb) + lc)))] [(.int (own_u2 g27 (4)))])
        refine GoesW.step (fun _ k => XS.ifNo X31.here hx rfl (hb hby at_262) rfl ((if0 _ _).trans (teq ((congrArg (own_u2 g27) (by omega)).trans (hu1_27.trans rfl))).2) k) ?_
        show GoesW p e below s _ _ _ T31 (mkF m 265 #[vI p1, vI p2, vI p3, vI p4, vI u1, vI u2, vI u3, vI (0 : Int32), vI (1 : Int32), vR b1, vR o4, vR o5, vR o6, vR o27, vI (0 : Int32), vI (Int32.ofNat (0 + lb)), vI (Int32.ofNat ((0 + lb) + lc)), vI (2 : Int32), vI (Int32.ofNat (8 + ((0 + lb) + lc)))] [])
        refine GoesW.step (fun _ k => XS.aload X31.here hx rfl (hb hby at_265) rfl rfl k) ?_
        refine GoesW.step (fun _ k => XS.bipush X31.here hx rfl (hb hby at_267) k) ?_
        obtain ⟨T32, X32, e32, st32⟩ := own_pure (r := some (.int (own_u2 g27 (6)))) (fun _ _ _ q => q) (callX X31 hx hZ (y := y_48) hown (wof hw 334 rfl) (wof hw 335 rfl) (wof hw 332 rfl) (wof hw 336 rfl) (by decide) (W := 0) (argsL := [(.ref o27), (.int (6 : Int32))]) (rest := []) (rm48 l Z a0 hw [] o27 (6 : Int32) (6) (((0 + lb) + lc) + 20) g27 h27 n0 z_27 hA27 rfl (by omega)) (by decide) (by decide) (by decide) (by decide) e31 (g := (mkF m 269 #[vI p1, vI p2, vI p3, vI p4, vI u1, vI u2, vI u3, vI (0 : Int32), vI (1 : Int32), vR b1, vR o4, vR o5, vR o6, vR o27, vI (0 : Int32), vI (Int32.ofNat (0 + lb)), vI (Int32.ofNat ((0 + lb) + lc)), vI (2 : Int32), vI (Int32.ofNat (8 + ((0 + lb) + lc)))] [(.int (6 : Int32)), (.ref o27)])) rfl (by rw [hml]; rfl) (lenOf pd_0_7 rfl) rfl (by show 2 * 0 + _ ≤ _; exact Nat.le_of_eq rfl) (hb hby at_269))
        refine GoesW.step st32 ?_
        show GoesW p e below s _ _ _ T32 (mkF m 272 #[vI p1, vI p2, vI p3, vI p4, vI u1, vI u2, vI u3, vI (0 : Int32), vI (1 : Int32), vR b1, vR o4, vR o5, vR o6, vR o27, vI (0 : Int32), vI (Int32.ofNat (0 + lb)), vI (Int32.ofNat ((0 + lb) + lc)), vI (2 : Int32), vI (Int32.ofNat (8 + ((0 + lb) + lc)))] [(.int (own_u2 g27 (6)))])
        refine GoesW.step (fun _ k => XS.iload X32.here hx rfl (hb hby at_272) rfl k) ?_
        refine GoesW.step (fun _ k => XS.icmpNo X32.here hx rfl (hb hby at_274) rfl (teq ((congrArg (own_u2 g27) (by omega)).trans (hu2_27.trans (congrArg Int32.ofNat (by omega))))).2 k) ?_
        show GoesW p e below s _ _ _ T32 (mkF m 277 #[vI p1, vI p2, vI p3, vI p4, vI u1, vI u2, vI u3, vI (0 : Int32), vI (1 : Int32), vR b1, vR o4, vR o5, vR o6, vR o27, vI (0 : Int32), vI (Int32.ofNat (0 + lb)), vI (Int32.ofNat ((0 + lb) + lc)), vI (2 : Int32), vI (Int32.ofNat (8 + ((0 + lb) + lc)))] [])
        refine GoesW.step (fun _ k => XS.aload X32.here hx rfl (hb hby at_277) rfl rfl k) ?_
        refine GoesW.step (fun _ k => XS.iload X32.here hx rfl (hb hby at_279) rfl k) ?_
        obtain ⟨T33, X33, e33, st33⟩ := own_pure (r := some (.int (own_u2 g27 ((8 + ((0 + lb) + lc)))))) (fun _ _ _ q => q) (callX X32 hx hZ (y := y_48) hown (wof hw 334 rfl) (wof hw 335 rfl) (wof hw 332 rfl) (wof hw 336 rfl) (by decide) (W := 0) (argsL := [(.ref o27), (.int (Int32.ofNat (8 + ((0 + lb) + lc))))]) (rest := []) (rm48 l Z a0 hw [] o27 (Int32.ofNat (8 + ((0 + lb) + lc))) ((8 + ((0 + lb) + lc))) (((0 + lb) + lc) + 20) g27 h27 n0 z_27 hA27 rfl (by omega)) (by decide) (by decide) (by decide) (by decide) e32 (g := (mkF m 281 #[vI p1, vI p2, vI p3, vI p4, vI u1, vI u2, vI u3, vI (0 : Int32), vI (1 : Int32), vR b1, vR o4, vR o5, vR o6, vR o27, vI (0 : Int32), vI (Int32.ofNat (0 + lb)), vI (Int32.ofNat ((0 + lb) + lc)), vI (2 : Int32), vI (Int32.ofNat (8 + ((0 + lb) + lc)))] [(.int (Int32.ofNat (8 + ((0 + lb) + lc)))), (.ref o27)])) rfl (by rw [hml]; rfl) (lenOf pd_0_7 rfl) rfl (by show 2 * 0 + _ ≤ _; exact Nat.le_of_eq rfl) (hb hby at_281))
        refine GoesW.step st33 ?_
        show GoesW p e below s _ _ _ T33 (mkF m 284 #[vI p1, vI p2, vI p3, vI p4, vI u1, vI u2, vI u3, vI (0 : Int32), vI (1 : Int32), vR b1, vR o4, vR o5, vR o6, vR o27, vI (0 : Int32), vI (Int32.ofNat (0 + lb)), vI (Int32.ofNat ((0 + lb) + lc)), vI (2 : Int32), vI (Int32.ofNat (8 + ((0 + lb) + lc)))] [(.int (own_u2 g27 ((8 + ((0 + lb) + lc)))))])
        refine GoesW.step (fun _ k => XS.iconst X33.here hx rfl (hb hby at_284) k) ?_
        refine GoesW.step (fun _ k => XS.icmpNo X33.here hx rfl (hb hby at_285) rfl (teq ((congrArg (own_u2 g27) (by omega)).trans (hu3_27.trans rfl))).2 k) ?_
        show GoesW p e below s _ _ _ T33 (mkF m 288 #[vI p1, vI p2, vI p3, vI p4, vI u1, vI u2, vI u3, vI (0 : Int32), vI (1 : Int32), vR b1, vR o4, vR o5, vR o6, vR o27, vI (0 : Int32), vI (Int32.ofNat (0 + lb)), vI (Int32.ofNat ((0 + lb) + lc)), vI (2 : Int32), vI (Int32.ofNat (8 + ((0 + lb) + lc)))] [])
        refine GoesW.step (fun _ k => XS.aload X33.here hx rfl (hb hby at_288) rfl rfl k) ?_
        refine GoesW.step (fun _ k => XS.iload X33.here hx rfl (hb hby at_290) rfl k) ?_
        refine GoesW.step (fun _ k => XS.iconst X33.here hx rfl (hb hby at_292) k) ?_
        refine GoesW.step (fun _ k => XS.iadd X33.here hx rfl (hb hby at_293) rfl k) ?_
        show GoesW p e below s _ _ _ T33 (mkF m 294 #[vI p1, vI p2, vI p3, vI p4, vI u1, vI u2, vI u3, vI (0 : Int32), vI (1 : Int32), vR b1, vR o4, vR o5, vR o6, vR o27, vI (0 : Int32), vI (Int32.ofNat (0 + lb)), vI (Int32.ofNat ((0 + lb) + lc)), vI (2 : Int32), vI (Int32.ofNat (8 + ((0 + lb) + lc)))] [(.int ((Int32.ofNat (8 + ((0 + lb) + lc))) + (2 : Int32))), (.ref o27)])
        rw [show ((Int32.ofNat (8 + ((0 + lb) + lc))) + (2 : Int32)) = Int32.ofNat ((8 + ((0 + lb) + lc)) + 2) from own_add _ _]
        obtain ⟨T34, X34, e34, st34⟩ := own_pure (r := some (.int (own_u2 g27 (((8 + ((0 + lb) + lc)) + 2))))) (fun _ _ _ q => q) (callX X33 hx hZ (y := y_48) hown (wof hw 334 rfl) (wof hw 335 rfl) (wof hw 332 rfl) (wof hw 336 rfl) (by decide) (W := 0) (argsL := [(.ref o27), (.int (Int32.ofNat ((8 + ((0 + lb) + lc)) + 2)))]) (rest := []) (rm48 l Z a0 hw [] o27 (Int32.ofNat ((8 + ((0 + lb) + lc)) + 2)) (((8 + ((0 + lb) + lc)) + 2)) (((0 + lb) + lc) + 20) g27 h27 n0 z_27 hA27 rfl (by omega)) (by decide) (by decide) (by decide) (by decide) e33 (g := (mkF m 294 #[vI p1, vI p2, vI p3, vI p4, vI u1, vI u2, vI u3, vI (0 : Int32), vI (1 : Int32), vR b1, vR o4, vR o5, vR o6, vR o27, vI (0 : Int32), vI (Int32.ofNat (0 + lb)), vI (Int32.ofNat ((0 + lb) + lc)), vI (2 : Int32), vI (Int32.ofNat (8 + ((0 + lb) + lc)))] [(.int (Int32.ofNat ((8 + ((0 + lb) + lc)) + 2))), (.ref o27)])) rfl (by rw [hml]; rfl) (lenOf pd_0_7 rfl) rfl (by show 2 * 0 + _ ≤ _; exact Nat.le_of_eq rfl) (hb hby at_294))
        refine GoesW.step st34 ?_
        show GoesW p e below s _ _ _ T34 (mkF m 297 #[vI p1, vI p2, vI p3, vI p4, vI u1, vI u2, vI u3, vI (0 : Int32), vI (1 : Int32), vR b1, vR o4, vR o5, vR o6, vR o27, vI (0 : Int32), vI (Int32.ofNat (0 + lb)), vI (Int32.ofNat ((0 + lb) + lc)), vI (2 : Int32), vI (Int32.ofNat (8 + ((0 + lb) + lc)))] [(.int (own_u2 g27 (((8 + ((0 + lb) + lc)) + 2))))])
        refine GoesW.step (fun _ k => XS.iload X34.here hx rfl (hb hby at_297) rfl k) ?_
        as_aux_lemma =>
         refine GoesW.step (fun _ k => XS.icmpNo X34.here hx rfl (hb hby at_299) rfl (teq ((congrArg (own_u2 g27) (by omega)).trans (hu4_27.trans rfl))).2 k) ?_
         show GoesW p e below s _ _ _ T34 (mkF m 302 #[vI p1, vI p2, vI p3, vI p4, vI u1, vI u2, vI u3, vI (0 : Int32), vI (1 : Int32), vR b1, vR o4, vR o5, vR o6, vR o27, vI (0 : Int32), vI (Int32.ofNat (0 + lb)), vI (Int32.ofNat ((0 + lb) + lc)), vI (2 : Int32), vI (Int32.ofNat (8 + ((0 + lb) + lc)))] [])
         refine GoesW.step (fun _ k => XS.aload X34.here hx rfl (hb hby at_302) rfl rfl k) ?_
         refine GoesW.step (fun _ k => XS.iload X34.here hx rfl (hb hby at_304) rfl k) ?_
         refine GoesW.step (fun _ k => XS.iconst X34.here hx rfl (hb hby at_306) k) ?_
         refine GoesW.step (fun _ k => XS.iadd X34.here hx rfl (hb hby at_307) rfl k) ?_
         show GoesW p e below s _ _ _ T34 (mkF m 308 #[vI p1, vI p2, vI p3, vI p4, vI u1, vI u2, vI u3, vI (0 : Int32), vI (1 : Int32), vR b1, vR o4, vR o5, vR o6, vR o27, vI (0 : Int32), vI (Int32.ofNat (0 + lb)), vI (Int32.ofNat ((0 + lb) + lc)), vI (2 : Int32), vI (Int32.ofNat (8 + ((0 + lb) + lc)))] [(.int ((Int32.ofNat (8 + ((0 + lb) + lc))) + (4 : Int32))), (.ref o27)])
         rw [show ((Int32.ofNat (8 + ((0 + lb) + lc))) + (4 : Int32)) = Int32.ofNat ((8 + ((0 + lb) + lc)) + 4) from own_add _ _]
         obtain ⟨T35, X35, e35, st35⟩ := own_pure (r := some (.int (own_u2 g27 (((8 + ((0 + lb) + lc)) + 4))))) (fun _ _ _ q => q) (callX X34 hx hZ (y := y_48) hown (wof hw 334 rfl) (wof hw 335 rfl) (wof hw 332 rfl) (wof hw 336 rfl) (by decide) (W := 0) (argsL := [(.ref o27), (.int (Int32.ofNat ((8 + ((0 + lb) + lc)) + 4)))]) (rest := []) (rm48 l Z a0 hw [] o27 (Int32.ofNat ((8 + ((0 + lb) + lc)) + 4)) (((8 + ((0 + lb) + lc)) + 4)) (((0 + lb) + lc) + 20) g27 h27 n0 z_27 hA27 rfl (by omega)) (by decide) (by decide) (by decide) (by decide) e34 (g := (mkF m 308 #[vI p1, vI p2, vI p3, vI p4, vI u1, vI u2, vI u3, vI (0 : Int32), vI (1 : Int32), vR b1, vR o4, vR o5, vR o6, vR o27, vI (0 : Int32), vI (Int32.ofNat (0 + lb)), vI (Int32.ofNat ((0 + lb) + lc)), vI (2 : Int32), vI (Int32.ofNat (8 + ((0 + lb) + lc)))] [(.int (Int32.ofNat ((8 + ((0 + lb) + lc)) + 4))), (.ref o27)])) rfl (by rw [hml]; rfl) (lenOf pd_0_7 rfl) rfl (by show 2 * 0 + _ ≤ _; exact Nat.le_of_eq rfl) (hb hby at_308))
         refine GoesW.step st35 ?_
         show GoesW p e below s _ _ _ T35 (mkF m 311 #[vI p1, vI p2, vI p3, vI p4, vI u1, vI u2, vI u3, vI (0 : Int32), vI (1 : Int32), vR b1, vR o4, vR o5, vR o6, vR o27, vI (0 : Int32), vI (Int32.ofNat (0 + lb)), vI (Int32.ofNat ((0 + lb) + lc)), vI (2 : Int32), vI (Int32.ofNat (8 + ((0 + lb) + lc)))] [(.int (own_u2 g27 (((8 + ((0 + lb) + lc)) + 4))))])
         refine GoesW.step (fun _ k => XS.iload X35.here hx rfl (hb hby at_311) rfl k) ?_
         refine GoesW.step (fun _ k => XS.icmpNo X35.here hx rfl (hb hby at_313) rfl (teq ((congrArg (own_u2 g27) (by omega)).trans (hu5_27.trans (congrArg Int32.ofNat (by omega))))).2 k) ?_
         show GoesW p e below s _ _ _ T35 (mkF m 316 #[vI p1, vI p2, vI p3, vI p4, vI u1, vI u2, vI u3, vI (0 : Int32), vI (1 : Int32), vR b1, vR o4, vR o5, vR o6, vR o27, vI (0 : Int32), vI (Int32.ofNat (0 + lb)), vI (Int32.ofNat ((0 + lb) + lc)), vI (2 : Int32), vI (Int32.ofNat (8 + ((0 + lb) + lc)))] [])
         refine GoesW.step (fun _ k => XS.aload X35.here hx rfl (hb hby at_316) rfl rfl k) ?_
         refine GoesW.step (fun _ k => XS.iload X35.here hx rfl (hb hby at_318) rfl k) ?_
         refine GoesW.step (fun _ k => XS.bipush X35.here hx rfl (hb hby at_320) k) ?_
         refine GoesW.step (fun _ k => XS.iadd X35.here hx rfl (hb hby at_322) rfl k) ?_
         show GoesW p e below s _ _ _ T35 (mkF m 323 #[vI p1, vI p2, vI p3, vI p4, vI u1, vI u2, vI u3, vI (0 : Int32), vI (1 : Int32), vR b1, vR o4, vR o5, vR o6, vR o27, vI (0 : Int32), vI (Int32.ofNat (0 + lb)), vI (Int32.ofNat ((0 + lb) + lc)), vI (2 : Int32), vI (Int32.ofNat (8 + ((0 + lb) + lc)))] [(.int ((Int32.ofNat (8 + ((0 + lb) + lc))) + (6 : Int32))), (.ref o27)])
         rw [show ((Int32.ofNat (8 + ((0 + lb) + lc))) + (6 : Int32)) = Int32.ofNat ((8 + ((0 + lb) + lc)) + 6) from own_add _ _]
         obtain ⟨T36, X36, e36, st36⟩ := own_pure (r := some (.int (own_u2 g27 (((8 + ((0 + lb) + lc)) + 6))))) (fun _ _ _ q => q) (callX X35 hx hZ (y := y_48) hown (wof hw 334 rfl) (wof hw 335 rfl) (wof hw 332 rfl) (wof hw 336 rfl) (by decide) (W := 0) (argsL := [(.ref o27), (.int (Int32.ofNat ((8 + ((0 + lb) + lc)) + 6)))]) (rest := []) (rm48 l Z a0 hw [] o27 (Int32.ofNat ((8 + ((0 + lb) + lc)) + 6)) (((8 + ((0 + lb) + lc)) + 6)) (((0 + lb) + lc) + 20) g27 h27 n0 z_27 hA27 rfl (by omega)) (by decide) (by decide) (by decide) (by decide) e35 (g := (mkF m 323 #[vI p1, vI p2, vI p3, vI p4, vI u1, vI u2, vI u3, vI (0 : Int32), vI (1 : Int32), vR b1, vR o4, vR o5, vR o6, vR o27, vI (0 : Int32), vI (Int32.ofNat (0 + lb)), vI (Int32.ofNat ((0 + lb) + lc)), vI (2 : Int32), vI (Int32.ofNat (8 + ((0 + lb) + lc)))] [(.int (Int32.ofNat ((8 + ((0 + lb) + lc)) + 6))), (.ref o27)])) rfl (by rw [hml]; rfl) (lenOf pd_0_7 rfl) rfl (by show 2 * 0 + _ ≤ _; exact Nat.le_of_eq rfl) (hb hby at_323))
         refine GoesW.step st36 ?_
         show GoesW p e below s _ _ _ T36 (mkF m 326 #[vI p1, vI p2, vI p3, vI p4, vI u1, vI u2, vI u3, vI (0 : Int32), vI (1 : Int32), vR b1, vR o4, vR o5, vR o6, vR o27, vI (0 : Int32), vI (Int32.ofNat (0 + lb)), vI (Int32.ofNat ((0 + lb) + lc)), vI (2 : Int32), vI (Int32.ofNat (8 + ((0 + lb) + lc)))] [(.int (own_u2 g27 (((8 + ((0 + lb) + lc)) + 6))))])
         refine GoesW.step (fun _ k => XS.iload X36.here hx rfl (hb hby at_326) rfl k) ?_
         refine GoesW.step (fun _ k => XS.icmpNo X36.here hx rfl (hb hby at_328) rfl (teq ((congrArg (own_u2 g27) (by omega)).trans (hu6_27.trans (congrArg Int32.ofNat (by omega))))).2 k) ?_
         show GoesW p e below s _ _ _ T36 (mkF m 331 #[vI p1, vI p2, vI p3, vI p4, vI u1, vI u2, vI u3, vI (0 : Int32), vI (1 : Int32), vR b1, vR o4, vR o5, vR o6, vR o27, vI (0 : Int32), vI (Int32.ofNat (0 + lb)), vI (Int32.ofNat ((0 + lb) + lc)), vI (2 : Int32), vI (Int32.ofNat (8 + ((0 + lb) + lc)))] [])
         refine GoesW.step (fun _ k => XS.aload X36.here hx rfl (hb hby at_331) rfl rfl k) ?_
         refine GoesW.step (fun _ k => XS.iload X36.here hx rfl (hb hby at_333) rfl k) ?_
         refine GoesW.step (fun _ k => XS.bipush X36.here hx rfl (hb hby at_335) k) ?_
         refine GoesW.step (fun _ k => XS.iadd X36.here hx rfl (hb hby at_337) rfl k) ?_
         show GoesW p e below s _ _ _ T36 (mkF m 338 #[vI p1, vI p2, vI p3, vI p4, vI u1, vI u2, vI u3, vI (0 : Int32), vI (1 : Int32), vR b1, vR o4, vR o5, vR o6, vR o27, vI (0 : Int32), vI (Int32.ofNat (0 + lb)), vI (Int32.ofNat ((0 + lb) + lc)), vI (2 : Int32), vI (Int32.ofNat (8 + ((0 + lb) + lc)))] [(.int ((Int32.ofNat (8 + ((0 + lb) + lc))) + (8 : Int32))), (.ref o27)])
         rw [show ((Int32.ofNat (8 + ((0 + lb) + lc))) + (8 : Int32)) = Int32.ofNat ((8 + ((0 + lb) + lc)) + 8) from own_add _ _]
         obtain ⟨T37, X37, e37, st37⟩ := own_pure (r := some (.int (own_u2 g27 (((8 + ((0 + lb) + lc)) + 8))))) (fun _ _ _ q => q) (callX X36 hx hZ (y := y_48) hown (wof hw 334 rfl) (wof hw 335 rfl) (wof hw 332 rfl) (wof hw 336 rfl) (by decide) (W := 0) (argsL := [(.ref o27), (.int (Int32.ofNat ((8 + ((0 + lb) + lc)) + 8)))]) (rest := []) (rm48 l Z a0 hw [] o27 (Int32.ofNat ((8 + ((0 + lb) + lc)) + 8)) (((8 + ((0 + lb) + lc)) + 8)) (((0 + lb) + lc) + 20) g27 h27 n0 z_27 hA27 rfl (by omega)) (by decide) (by decide) (by decide) (by decide) e36 (g := (mkF m 338 #[vI p1, vI p2, vI p3, vI p4, vI u1, vI u2, vI u3, vI (0 : Int32), vI (1 : Int32), vR b1, vR o4, vR o5, vR o6, vR o27, vI (0 : Int32), vI (Int32.ofNat (0 + lb)), vI (Int32.ofNat ((0 + lb) + lc)), vI (2 : Int32), vI (Int32.ofNat (8 + ((0 + lb) + lc)))] [(.int (Int32.ofNat ((8 + ((0 + lb) + lc)) + 8))), (.ref o27)])) rfl (by rw [hml]; rfl) (lenOf pd_0_7 rfl) rfl (by show 2 * 0 + _ ≤ _; exact Nat.le_of_eq rfl) (hb hby at_338))
         refine GoesW.step st37 ?_
         show GoesW p e below s _ _ _ T37 (mkF m 341 #[vI p1, vI p2, vI p3, vI p4, vI u1, vI u2, vI u3, vI (0 : Int32), vI (1 : Int32), vR b1, vR o4, vR o5, vR o6, vR o27, vI (0 : Int32), vI (Int32.ofNat (0 + lb)), vI (Int32.ofNat ((0 + lb) + lc)), vI (2 : Int32), vI (Int32.ofNat (8 + ((0 + lb) + lc)))] [(.int (own_u2 g27 (((8 + ((0 + lb) + lc)) + 8))))])
         refine GoesW.step (fun _ k => XS.ifNo X37.here hx rfl (hb hby at_341) rfl ((if0 _ _).trans (teq ((congrArg (own_u2 g27) (by omega)).trans (hu7_27.trans rfl))).2) k) ?_
         show GoesW p e below s _ _ _ T37 (mkF m 344 #[vI p1, vI p2, vI p3, vI p4, vI u1, vI u2, vI u3, vI (0 : Int32), vI (1 : Int32), vR b1, vR o4, vR o5, vR o6, vR o27, vI (0 : Int32), vI (Int32.ofNat (0 + lb)), vI (Int32.ofNat ((0 + lb) + lc)), vI (2 : Int32), vI (Int32.ofNat (8 + ((0 + lb) + lc)))] [])
         refine GoesW.step (fun _ k => XS.aload X37.here hx rfl (hb hby at_344) rfl rfl k) ?_
         refine GoesW.step (fun _ k => XS.iload X37.here hx rfl (hb hby at_346) rfl k) ?_
         refine GoesW.step (fun _ k => XS.bipush X37.here hx rfl (hb hby at_348) k) ?_
         refine GoesW.step (fun _ k => XS.iadd X37.here hx rfl (hb hby at_350) rfl k) ?_
         show GoesW p e below s _ _ _ T37 (mkF m 351 #[vI p1, vI p2, vI p3, vI p4, vI u1, vI u2, vI u3, vI (0 : Int32), vI (1 : Int32), vR b1, vR o4, vR o5, vR o6, vR o27, vI (0 : Int32), vI (Int32.ofNat (0 + lb)), vI (Int32.ofNat ((0 + lb) + lc)), vI (2 : Int32), vI (Int32.ofNat (8 + ((0 + lb) + lc)))] [(.int ((Int32.ofNat (8 + ((0 + lb) + lc))) + (10 : Int32))), (.ref o27)])
         rw [show ((Int32.ofNat (8 + ((0 + lb) + lc))) + (10 : Int32)) = Int32.ofNat ((8 + ((0 + lb) + lc)) + 10) from own_add _ _]
         obtain ⟨T38, X38, e38, st38⟩ := own_pure (r := some (.int (own_u2 g27 (((8 + ((0 + lb) + lc)) + 10))))) (fun _ _ _ q => q) (callX X37 hx hZ (y := y_48) hown (wof hw 334 rfl) (wof hw 335 rfl) (wof hw 332 rfl) (wof hw 336 rfl) (by decide) (W := 0) (argsL := [(.ref o27), (.int (Int32.ofNat ((8 + ((0 + lb) + lc)) + 10)))]) (rest := []) (rm48 l Z a0 hw [] o27 (Int32.ofNat ((8 + ((0 + lb) + lc)) + 10)) (((8 + ((0 + lb) + lc)) + 10)) (((0 + lb) + lc) + 20) g27 h27 n0 z_27 hA27 rfl (by omega)) (by decide) (by decide) (by decide) (by decide) e37 (g := (mkF m 351 #[vI p1, vI p2, vI p3, vI p4, vI u1, vI u2, vI u3, vI (0 : Int32), vI (1 : Int32), vR b1, vR o4, vR o5, vR o6, vR o27, vI (0 : Int32), vI (Int32.ofNat (0 + lb)), vI (Int32.ofNat ((0 + lb) + lc)), vI (2 : Int32), vI (Int32.ofNat (8 + ((0 + lb) + lc)))] [(.int (Int32.ofNat ((8 + ((0 + lb) + lc)) + 10))), (.ref o27)])) rfl (by rw [hml]; rfl) (lenOf pd_0_7 rfl) rfl (by show 2 * 0 + _ ≤ _; exact Nat.le_of_eq rfl) (hb hby at_351))
         refine GoesW.step st38 ?_
         show GoesW p e below s _ _ _ T38 (mkF m 354 #[vI p1, vI p2, vI p3, vI p4, vI u1, vI u2, vI u3, vI (0 : Int32), vI (1 : Int32), vR b1, vR o4, vR o5, vR o6, vR o27, vI (0 : Int32), vI (Int32.ofNat (0 + lb)), vI (Int32.ofNat ((0 + lb) + lc)), vI (2 : Int32), vI (Int32.ofNat (8 + ((0 + lb) + lc)))] [(.int (own_u2 g27 (((8 + ((0 + lb) + lc)) + 10))))])
         refine GoesW.step (fun _ k => XS.ifNo X38.here hx rfl (hb hby at_354) rfl ((if0 _ _).trans (teq ((congrArg (own_u2 g27) (by omega)).trans (hu8_27.trans rfl))).2) k) ?_
         show GoesW p e below s _ _ _ T38 (mkF m 357 #[vI p1, vI p2, vI p3, vI p4, vI u1, vI u2, vI u3, vI (0 : Int32), vI (1 : Int32), vR b1, vR o4, vR o5, vR o6, vR o27, vI (0 : Int32), vI (Int32.ofNat (0 + lb)), vI (Int32.ofNat ((0 + lb) + lc)), vI (2 : Int32), vI (Int32.ofNat (8 + ((0 + lb) + lc)))] [])
         refine GoesW.step (fun _ k => XS.iconst X38.here hx rfl (hb hby at_357) k) ?_
         refine GoesW.step (fun _ k => XS.goto X38.here hx rfl (pc0 := 358) (pc' := 362) rfl (hb hby at_358) (by decide) (by decide) k) ?_
         show GoesW p e below s _ _ _ T38 (mkF m 362 #[vI p1, vI p2, vI p3, vI p4, vI u1, vI u2, vI u3, vI (0 : Int32), vI (1 : Int32), vR b1, vR o4, vR o5, vR o6, vR o27, vI (0 : Int32), vI (Int32.ofNat (0 + lb)), vI (Int32.ofNat ((0 + lb) + lc)), vI (2 : Int32), vI (Int32.ofNat (8 + ((0 + lb) + lc)))] [(.int (1 : Int32))])
         exact GoesW.outN (s := s) (vm₁ := T8.vm) X38 hS8 (by first | (rw [e38]; exact hk_27) | exact Nat.le_refl _) hx hlk (t := .boolean) Bd.returns (by simp) (hb hby at_362) ⟨rfl, N_27⟩ (by decide) (by decide)
   · show GoesW p e below s _ _ _ T6 (mkF m 80 #[vI p1, vI p2, vI p3, vI p4, vI u1, vI u2, vI u3, vI (1 : Int32), vI x8, vR b1, vR o4, vR o5, vR o6, vU, vU, vU, vU, vU, vU] [(.int (1 : Int32))])
     refine GoesW.step (fun _ k => XS.ifNo X6.here hx rfl (hb hby at_80) rfl ((if0 _ _).trans (feq (by decide : ¬ ((1 : Int32) = (0 : Int32)))).1) k) ?_
     show GoesW p e below s _ _ _ T6 (mkF m 83 #[vI p1, vI p2, vI p3, vI p4, vI u1, vI u2, vI u3, vI (1 : Int32), vI x8, vR b1, vR o4, vR o5, vR o6, vU, vU, vU, vU, vU, vU] [])
     refine GoesW.step (fun _ k => XS.aload X6.here hx rfl (hb hby at_83) rfl rfl k) ?_
     show GoesW p e below s _ _ _ T6 (mkF m 85 #[vI p1, vI p2, vI p3, vI p4, vI u1, vI u2, vI u3, vI (1 : Int32), vI x8, vR b1, vR o4, vR o5, vR o6, vU, vU, vU, vU, vU, vU] [(.ref b1)])
     obtain ⟨c39, T39, h39, k39, d39, X39, e39, E39, hS39, hk_39, hZ, hown, hE39, hC39, hV39, hB39, I39, Lt39, st39⟩ := ldcI (s := s) (vm0 := T2.vm) (text := "I") X6 hx hZ hown (wof hw 112 rfl) wS e6 hS2 hk_6 (by rw [hh, ← hn0]; exact N_6) hkeep I2 (by decide) HC2 hcw (by decide) (n := 1) (by decide) (by decide) (g := (mkF m 85 #[vI p1, vI p2, vI p3, vI p4, vI u1, vI u2, vI u3, vI (1 : Int32), vI x8, vR b1, vR o4, vR o5, vR o6, vU, vU, vU, vU, vU, vU] [(.ref b1)])) rfl (hb hby at_85) (q := 4) (by decide) (by decide) (by decide) (by decide)
     refine GoesW.step st39 ?_
     have E_b1_391 := E_b1_6.ext E39
     have HA3_391 := HA3_6.ext E39
     have HB3_391 := HB3_6.ext E39
     have HL3_391 := HL3_6.ext E39
     have hE4_391 := hE4_6.ext E39
     have hO4_391 := hO4_6.ext E39
     have hE5_391 := hE5_6.ext E39
     have hO5_391 := hO5_6.ext E39
     have hE6_391 := hE6.ext E39
     have hO6_391 := hO6.ext E39
     have hk_391 := Nat.le_trans hk_6 E39.1
     have z_39 : n0 ≤ h39.size := Nat.le_trans z_6 E39.1
     have K_39 : Keep h0 h39 [] := K_6.ext E39
     have ne_c39_b1 := Exa.ne hE39 HA3_391.E (by decide)
     have ne_d39_b1 := Ari.neExa hB39 HA3_391.E (wof hw 2 rfl)
     have ne_c39_co3 := Exa.ne hE39 HB3_391.E (by decide)
     have ne_d39_co3 := Ari.neExa hB39 HB3_391.E (wof hw 19 rfl)
     have ne_c39_b3 := Ne.symm (Ari.neExa HB3_391.A hE39 (wof hw 6 rfl))
     have ne_d39_b3 := Ari.neLen hB39 HB3_391.A (by decide)
     have ne_c39_o4 := Exa.ne hE39 hE4_391 (by decide)
     have ne_d39_o4 := Ari.neExa hB39 hE4_391 (wof hw 104 rfl)
     have ne_c39_o5 := Exa.ne hE39 hE5_391 (by decide)
     have ne_d39_o5 := Ari.neExa hB39 hE5_391 (wof hw 104 rfl)
     have ne_c39_o6 := Exa.ne hE39 hE6_391 (by decide)
     have ne_d39_o6 := Ari.neExa hB39 hE6_391 (wof hw 104 rfl)
     show GoesW p e below s _ _ _ T39 (mkF m 87 #[vI p1, vI p2, vI p3, vI p4, vI u1, vI u2, vI u3, vI (1 : Int32), vI x8, vR b1, vR o4, vR o5, vR o6, vU, vU, vU, vU, vU, vU] [(.ref c39), (.ref b1)])
     refine GoesW.step (fun _ k => XS.iload X39.here hx rfl (hb hby at_87) rfl k) ?_
     obtain ⟨v40, T40, h40, L40, X40, e40, Q40, st40⟩ := callXV X39 hx hZ (C := "com/example/proxysmith/proxysmith/Bytecode") (b := b1) (y := y_14) (z := y_14) hown (wof hw 113 rfl) (wof hw 114 rfl) (wof hw 116 rfl) (wof hw 115 rfl) (wof hw 117 rfl) (wof hw 3 rfl) (notFace_of_selects (args := #[]) (mvT hZ (wof hw 116 rfl))) (by decide) (W := 0) (argsL := [(.ref c39), (.int u1)]) (rest := []) (rm14 l Z a0 hw [] b1 c39 u1 G1 oF co3 lj3 lf3 lh3 0 (0 : Int32) b3 0 (fun _ => 0) d39 la h39 n0 z_39 O2 P3 (OL.keep K_39 all0) O4 HA3_391 HB3_391 HN3.a_co HN3.a_b HN3.co_b ge_b1 ge_co3 ge_b3 hE39 hV39 hC39 hB39 ne_c39_b1 ne_c39_co3 ne_c39_b3 ne_d39_b1 ne_d39_co3 ne_d39_b3 (by decide) (by omega) ela) (by decide) (by decide) (by decide) (by decide) e39 E_b1_391 (g := (mkF m 89 #[vI p1, vI p2, vI p3, vI p4, vI u1, vI u2, vI u3, vI (1 : Int32), vI x8, vR b1, vR o4, vR o5, vR o6, vU, vU, vU, vU, vU, vU] [(.int u1), (.ref c39), (.ref b1)])) rfl (by rw [hml]; rfl) (lenOf pd_0_3 rfl) rfl (by show 2 * 0 + _ ≤ _; exact Nat.le_of_eq rfl) (hb hby at_89)
     obtain ⟨rfl, NQ40, KQ40, ml40, f40, HA40, HB40⟩ := Q40
     refine GoesW.step st40 ?_
     have E_b1_40 := E_b1_391.keep KQ40
     have HL3_40 := HL3_391.keep KQ40 (ninS (Ne.symm HN3.a_lj) (ninS (Ne.symm HN3.co_lj) (ninS (Ne.symm HN3.b_lj) nin0))) (ninS (Ne.symm HN3.a_lf) (ninS (Ne.symm HN3.co_lf) (ninS (Ne.symm HN3.b_lf) nin0))) (ninS (Ne.symm HN3.a_lh) (ninS (Ne.symm HN3.co_lh) (ninS (Ne.symm HN3.b_lh) nin0))) (ninS (Ne.symm HN3.a_oh) (ninS (Ne.symm HN3.co_oh) (ninS (Ne.symm HN3.b_oh) nin0)))
     have hE4_40 := hE4_391.keep KQ40
     have hO4_40 := hO4_391.keep KQ40 (ninS ne_o4_b1 (ninS ne_o4_co3 (ninS ne_o4_b3 nin0)))
     have hE5_40 := hE5_391.keep KQ40
     have hO5_40 := hO5_391.keep KQ40 (ninS ne_o5_b1 (ninS ne_o5_co3 (ninS ne_o5_b3 nin0)))
     have hE6_40 := hE6_391.keep KQ40
     have hO6_40 := hO6_391.keep KQ40 (ninS ne_o6_b1 (ninS ne_o6_co3 (ninS ne_o6_b3 nin0)))
     have hE39_40 := hE39.keep KQ40
     have hV39_40 := hV39.keep KQ40 (ninS ne_c39_b1 (ninS ne_c39_co3 (ninS ne_c39_b3 nin0)))
     have hC39_40 := hC39.keep KQ40 (ninS ne_c39_b1 (ninS ne_c39_co3 (ninS ne_c39_b3 nin0)))
     have hB39_40 := hB39.keep KQ40 (ninS ne_d39_b1 (ninS ne_d39_co3 (ninS ne_d39_b3 nin0)))
     have hk_40 := Nat.le_trans hk_39 KQ40.1
     have z_40 : n0 ≤ h40.size := Nat.le_trans z_39 KQ40.1
     have K_40 : Keep h0 h40 [] := Keep.trans K_39 KQ40 (allS (Or.inr sz_b1) (allS (Or.inr sz_co3) (allS (Or.inr sz_b3) all0)))
     have N_40 := Fr.app N_6 NQ40
     show GoesW p e below s _ _ _ T40 (mkF m 92 #[vI p1, vI p2, vI p3, vI p4, vI u1, vI u2, vI u3, vI (1 : Int32), vI x8, vR b1, vR o4, vR o5, vR o6, vU, vU, vU, vU, vU, vU] [])
     refine GoesW.step (fun _ k => XS.aload X40.here hx rfl (hb hby at_92) rfl rfl k) ?_
     refine GoesW.step (fun _ k => XS.aload X40.here hx rfl (hb hby at_94) rfl rfl k) ?_
     obtain ⟨v41, T41, h41, L41, X41, e41, Q41, st41⟩ := callXV X40 hx hZ (C := "com/example/proxysmith/proxysmith/Bytecode") (b := b1) (y := y_23) (z := y_23) hown (wof hw 155 rfl) (wof hw 156 rfl) (wof hw 158 rfl) (wof hw 157 rfl) (wof hw 159 rfl) (wof hw 3 rfl) (notFace_of_selects (args := #[]) (mvT hZ (wof hw 158 rfl))) (by decide) (W := 0) (argsL := [(.ref o4)]) (rest := []) (rm23 l Z a0 hw [] b1 o4 co3 (0 + la) h40 n0 z_40 HA40.Fcode HB40.E HB40.size hE4_40 hO4_40 ge_o4 (Ne.symm ne_o4_b1) (Ne.symm ne_o4_co3)) (by decide) (by decide) (by decide) (by decide) e40 E_b1_40 (g := (mkF m 96 #[vI p1, vI p2, vI p3, vI p4, vI u1, vI u2, vI u3, vI (1 : Int32), vI x8, vR b1, vR o4, vR o5, vR o6, vU, vU, vU, vU, vU, vU] [(.ref o4), (.ref b1)])) rfl (by rw [hml]; rfl) (lenOf pd_0_2 rfl) rfl (by show 2 * 0 + _ ≤ _; exact Nat.le_of_eq rfl) (hb hby at_96)
     obtain ⟨rfl, NQ41, KQ41, hO41⟩ := Q41
     refine GoesW.step st41 ?_
     have E_b1_41 := E_b1_40.keep KQ41
     have HL3_41 := HL3_40.keep KQ41 (ninS (Ne.symm ne_o4_lj3) nin0) (ninS (Ne.symm ne_o4_lf3) nin0) (ninS (Ne.symm ne_o4_lh3) nin0) (ninS (Ne.symm ne_o4_oh3) nin0)
     have hE4_41 := hE4_40.keep KQ41
     have hE5_41 := hE5_40.keep KQ41
     have hO5_41 := hO5_40.keep KQ41 (ninS ne_o5_o4 nin0)
     have hE6_41 := hE6_40.keep KQ41
     have hO6_41 := hO6_40.keep KQ41 (ninS ne_o6_o4 nin0)
     have hE39_41 := hE39_40.keep KQ41
     have hV39_41 := hV39_40.keep KQ41 (ninS ne_c39_o4 nin0)
     have hC39_41 := hC39_40.keep KQ41 (ninS ne_c39_o4 nin0)
     have hB39_41 := hB39_40.keep KQ41 (ninS ne_d39_o4 nin0)
     have HA40_41 := HA40.keep KQ41 (ninS (Ne.symm ne_o4_b1) nin0)
     have HB40_41 := HB40.keep KQ41 (ninS (Ne.symm ne_o4_co3) nin0) (ninS (Ne.symm ne_o4_b3) nin0)
     have hk_41 := Nat.le_trans hk_40 KQ41.1
     have z_41 : n0 ≤ h41.size := Nat.le_trans z_40 KQ41.1
     have K_41 : Keep h0 h41 [] := Keep.trans K_40 KQ41 (allS (Or.inr sz_o4) all0)
     have N_41 := Fr.app N_40 NQ41
     show GoesW p e below s _ _ _ T41 (mkF m 99 #[vI p1, vI p2, vI p3, vI p4, vI u1, vI u2, vI u3, vI (1 : Int32), vI x8, vR b1, vR o4, vR o5, vR o6, vU, vU, vU, vU, vU, vU] [])
     refine GoesW.step (fun _ k => XS.aload X41.here hx rfl (hb hby at_99) rfl rfl k) ?_
     show GoesW p e below s _ _ _ T41 (mkF m 101 #[vI p1, vI p2, vI p3, vI p4, vI u1, vI u2, vI u3, vI (1 : Int32), vI x8, vR b1, vR o4, vR o5, vR o6, vU, vU, vU, vU, vU, vU] [(.ref b1)])
     refine GoesW.step (fun _ k => ldcAgain (s := s) (vm0 := T39.vm) X41 hx hZ hown (wof hw 112 rfl) Lt39 (g := (mkF m 101 #[vI p1, vI p2, vI p3, vI p4, vI u1, vI u2, vI u3, vI (1 : Int32), vI x8, vR b1, vR o4, vR o5, vR o6, vU, vU, vU, vU, vU, vU] [(.ref b1)])) rfl (hb hby at_101) _ k) ?_
     show GoesW p e below s _ _ _ T41 (mkF m 103 #[vI p1, vI p2, vI p3, vI p4, vI u1, vI u2, vI u3, vI (1 : Int32), vI x8, vR b1, vR o4, vR o5, vR o6, vU, vU, vU, vU, vU, vU] [(.ref c39), (.ref b1)])
     refine GoesW.step (fun _ k => XS.iload X41.here hx rfl (hb hby at_103) rfl k) ?_
     obtain ⟨v42, T42, h42, L42, X42, e42, Q42, st42⟩ := callXV X41 hx hZ (C := "com/example/proxysmith/proxysmith/Bytecode") (b := b1) (y := y_14) (z := y_14) hown (wof hw 113 rfl) (wof hw 114 rfl) (wof hw 116 rfl) (wof hw 115 rfl) (wof hw 117 rfl) (wof hw 3 rfl) (notFace_of_selects (args := #[]) (mvT hZ (wof hw 116 rfl))) (by decide) (W := 0) (argsL := [(.ref c39), (.int u2)]) (rest := []) (rm14 l Z a0 hw [] b1 c39 u2 G1 oF co3 lj3 lf3 lh3 (0 + 1) ml40 b3 (0 + la) f40 d39 lb h41 n0 z_41 O2 P3 (OL.keep K_41 all0) O4 HA40_41 HB40_41 HN3.a_co HN3.a_b HN3.co_b ge_b1 ge_co3 ge_b3 hE39_41 hV39_41 hC39_41 hB39_41 ne_c39_b1 ne_c39_co3 ne_c39_b3 ne_d39_b1 ne_d39_co3 ne_d39_b3 (by decide) (by omega) elb) (by decide) (by decide) (by decide) (by decide) e41 E_b1_41 (g := (mkF m 105 #[vI p1, vI p2, vI p3, vI p4, vI u1, vI u2, vI u3, vI (1 : Int32), vI x8, vR b1, vR o4, vR o5, vR o6, vU, vU, vU, vU, vU, vU] [(.int u2), (.ref c39), (.ref b1)])) rfl (by rw [hml]; rfl) (lenOf pd_0_3 rfl) rfl (by show 2 * 0 + _ ≤ _; exact Nat.le_of_eq rfl) (hb hby at_105)
     obtain ⟨rfl, NQ42, KQ42, ml42, f42, HA42, HB42⟩ := Q42
     refine GoesW.step st42 ?_
     have E_b1_42 := E_b1_41.keep KQ42
     have HL3_42 := HL3_41.keep KQ42 (ninS (Ne.symm HN3.a_lj) (ninS (Ne.symm HN3.co_lj) (ninS (Ne.symm HN3.b_lj) nin0))) (ninS (Ne.symm HN3.a_lf) (ninS (Ne.symm HN3.co_lf) (ninS (Ne.symm HN3.b_lf) nin0))) (ninS (Ne.symm HN3.a_lh) (ninS (Ne.symm HN3.co_lh) (ninS (Ne.symm HN3.b_lh) nin0))) (ninS (Ne.symm HN3.a_oh) (ninS (Ne.symm HN3.co_oh) (ninS (Ne.symm HN3.b_oh) nin0)))
     have hE4_42 := hE4_41.keep KQ42
     have hE5_42 := hE5_41.keep KQ42
     have hO5_42 := hO5_41.keep KQ42 (ninS ne_o5_b1 (ninS ne_o5_co3 (ninS ne_o5_b3 nin0)))
     have hE6_42 := hE6_41.keep KQ42
     have hO6_42 := hO6_41.keep KQ42 (ninS ne_o6_b1 (ninS ne_o6_co3 (ninS ne_o6_b3 nin0)))
     have hE39_42 := hE39_41.keep KQ42
     have hV39_42 := hV39_41.keep KQ42 (ninS ne_c39_b1 (ninS ne_c39_co3 (ninS ne_c39_b3 nin0)))
     have hC39_42 := hC39_41.keep KQ42 (ninS ne_c39_b1 (ninS ne_c39_co3 (ninS ne_c39_b3 nin0)))
     have hB39_42 := hB39_41.keep KQ42 (ninS ne_d39_b1 (ninS ne_d39_co3 (ninS ne_d39_b3 nin0)))
     have hO41_42 := hO41.keep KQ42 (ninS ne_o4_b1 (ninS ne_o4_co3 (ninS ne_o4_b3 nin0)))
     have hk_42 := Nat.le_trans hk_41 KQ42.1
     have z_42 : n0 ≤ h42.size := Nat.le_trans z_41 KQ42.1
     have K_42 : Keep h0 h42 [] := Keep.trans K_41 KQ42 (allS (Or.inr sz_b1) (allS (Or.inr sz_co3) (allS (Or.inr sz_b3) all0)))
     have N_42 := Fr.app N_41 NQ42
     show GoesW p e below s _ _ _ T42 (mkF m 108 #[vI p1, vI p2, vI p3, vI p4, vI u1, vI u2, vI u3, vI (1 : Int32), vI x8, vR b1, vR o4, vR o5, vR o6, vU, vU, vU, vU, vU, vU] [])
     refine GoesW.step (fun _ k => XS.aload X42.here hx rfl (hb hby at_108) rfl rfl k) ?_
     refine GoesW.step (fun _ k => XS.aload X42.here hx rfl (hb hby at_110) rfl rfl k) ?_
     obtain ⟨v43, T43, h43, L43, X43, e43, Q43, st43⟩ := callXV X42 hx hZ (C := "com/example/proxysmith/proxysmith/Bytecode") (b := b1) (y := y_23) (z := y_23) hown (wof hw 155 rfl) (wof hw 156 rfl) (wof hw 158 rfl) (wof hw 157 rfl) (wof hw 159 rfl) (wof hw 3 rfl) (notFace_of_selects (args := #[]) (mvT hZ (wof hw 158 rfl))) (by decide) (W := 0) (argsL := [(.ref o5)]) (rest := []) (rm23 l Z a0 hw [] b1 o5 co3 ((0 + la) + lb) h42 n0 z_42 HA42.Fcode HB42.E HB42.size hE5_42 hO5_42 ge_o5 (Ne.symm ne_o5_b1) (Ne.symm ne_o5_co3)) (by decide) (by decide) (by decide) (by decide) e42 E_b1_42 (g := (mkF m 112 #[vI p1, vI p2, vI p3, vI p4, vI u1, vI u2, vI u3, vI (1 : Int32), vI x8, vR b1, vR o4, vR o5, vR o6, vU, vU, vU, vU, vU, vU] [(.ref o5), (.ref b1)])) rfl (by rw [hml]; rfl) (lenOf pd_0_2 rfl) rfl (by show 2 * 0 + _ ≤ _; exact Nat.le_of_eq rfl) (hb hby at_112)
     obtain ⟨rfl, NQ43, KQ43, hO43⟩ := Q43
     refine GoesW.step st43 ?_
     have E_b1_43 := E_b1_42.keep KQ43
     have HL3_43 := HL3_42.keep KQ43 (ninS (Ne.symm ne_o5_lj3) nin0) (ninS (Ne.symm ne_o5_lf3) nin0) (ninS (Ne.symm ne_o5_lh3) nin0) (ninS (Ne.symm ne_o5_oh3) nin0)
     have hE4_43 := hE4_42.keep KQ43
     have hE5_43 := hE5_42.keep KQ43
     have hE6_43 := hE6_42.keep KQ43
     have hO6_43 := hO6_42.keep KQ43 (ninS ne_o6_o5 nin0)
     have hE39_43 := hE39_42.keep KQ43
     have hV39_43 := hV39_42.keep KQ43 (ninS ne_c39_o5 nin0)
     have hC39_43 := hC39_42.keep KQ43 (ninS ne_c39_o5 nin0)
     have hB39_43 := hB39_42.keep KQ43 (ninS ne_d39_o5 nin0)
     have hO41_43 := hO41_42.keep KQ43 (ninS (Ne.symm ne_o5_o4) nin0)
     have HA42_43 := HA42.keep KQ43 (ninS (Ne.symm ne_o5_b1) nin0)
     have HB42_43 := HB42.keep KQ43 (ninS (Ne.symm ne_o5_co3) nin0) (ninS (Ne.symm ne_o5_b3) nin0)
     have hk_43 := Nat.le_trans hk_42 KQ43.1
     have z_43 : n0 ≤ h43.size := Nat.le_trans z_42 KQ43.1
     have K_43 : Keep h0 h43 [] := Keep.trans K_42 KQ43 (allS (Or.inr sz_o5) all0)
     have N_43 := Fr.app N_42 NQ43
     show GoesW p e below s _ _ _ T43 (mkF m 115 #[vI p1, vI p2, vI p3, vI p4, vI u1, vI u2, vI u3, vI (1 : Int32), vI x8, vR b1, vR o4, vR o5, vR o6, vU, vU, vU, vU, vU, vU] [])
     refine GoesW.step (fun _ k => XS.iload X43.here hx rfl (hb hby at_115) rfl k) ?_
     show GoesW p e below s _ _ _ T43 (mkF m 117 #[vI p1, vI p2, vI p3, vI p4, vI u1, vI u2, vI u3, vI (1 : Int32), vI x8, vR b1, vR o4, vR o5, vR o6, vU, vU, vU, vU, vU, vU] [(.int x8)])
     rcases hx8 with rfl | rfl
     · show GoesW p e below s _ _ _ T43 (mkF m 117 #[vI p1, vI p2, vI p3, vI p4, vI u1, vI u2, vI u3, vI (1 : Int32), vI (0 : Int32), vR b1, vR o4, vR o5, vR o6, vU, vU, vU, vU, vU, vU] [(.int (0 : Int32))])
       refine GoesW.step (fun _ k => XS.ifYes X43.here hx rfl (pc0 := 117) (pc' := 129) rfl (hb hby at_117) rfl ((if0 _ _).trans (teq (by decide : (0 : Int32) = (0 : Int32))).1) (by decide) (by decide) k) ?_
       show GoesW p e below s _ _ _ T43 (mkF m 129 #[vI p1, vI p2, vI p3, vI p4, vI u1, vI u2, vI u3, vI (1 : Int32), vI (0 : Int32), vR b1, vR o4, vR o5, vR o6, vU, vU, vU, vU, vU, vU] [])
       refine GoesW.step (fun _ k => XS.aload X43.here hx rfl (hb hby at_129) rfl rfl k) ?_
       refine GoesW.step (fun _ k => XS.aload X43.here hx rfl (hb hby at_131) rfl rfl k) ?_
       obtain ⟨v44, T44, h44, L44, X44, e44, Q44, st44⟩ := callXV X43 hx hZ (C := "com/example/proxysmith/proxysmith/Bytecode") (b := b1) (y := y_23) (z := y_23) hown (wof hw 155 rfl) (wof hw 156 rfl) (wof hw 158 rfl) (wof hw 157 rfl) (wof hw 159 rfl) (wof hw 3 rfl) (notFace_of_selects (args := #[]) (mvT hZ (wof hw 158 rfl))) (by decide) (W := 0) (argsL := [(.ref o6)]) (rest := []) (rm23 l Z a0 hw [] b1 o6 co3 ((0 + la) + lb) h43 n0 z_43 HA42_43.Fcode HB42_43.E HB42_43.size hE6_43 hO6_43 ge_o6 (Ne.symm ne_o6_b1) (Ne.symm ne_o6_co3)) (by decide) (by decide) (by decide) (by decide) e43 E_b1_43 (g := (mkF m 133 #[vI p1, vI p2, vI p3, vI p4, vI u1, vI u2, vI u3, vI (1 : Int32), vI (0 : Int32), vR b1, vR o4, vR o5, vR o6, vU, vU, vU, vU, vU, vU] [(.ref o6), (.ref b1)])) rfl (by rw [hml]; rfl) (lenOf pd_0_2 rfl) rfl (by show 2 * 0 + _ ≤ _; exact Nat.le_of_eq rfl) (hb hby at_133)
       obtain ⟨rfl, NQ44, KQ44, hO44⟩ := Q44
       refine GoesW.step st44 ?_
       have E_b1_44 := E_b1_43.keep KQ44
       have HL3_44 := HL3_43.keep KQ44 (ninS (Ne.symm ne_o6_lj3) nin0) (ninS (Ne.symm ne_o6_lf3) nin0) (ninS (Ne.symm ne_o6_lh3) nin0) (ninS (Ne.symm ne_o6_oh3) nin0)
       have hE4_44 := hE4_43.keep KQ44
       have hE5_44 := hE5_43.keep KQ44
       have hE6_44 := hE6_43.keep KQ44
       have hE39_44 := hE39_43.keep KQ44
       have hV39_44 := hV39_43.keep KQ44 (ninS ne_c39_o6 nin0)
       have hC39_44 := hC39_43.keep KQ44 (ninS ne_c39_o6 nin0)
       have hB39_44 := hB39_43.keep KQ44 (ninS ne_d39_o6 nin0)
       have hO41_44 := hO41_43.keep KQ44 (ninS (Ne.symm ne_o6_o4) nin0)
       have HA42_44 := HA42_43.keep KQ44 (ninS (Ne.symm ne_o6_b1) nin0)
       have HB42_44 := HB42_43.keep KQ44 (ninS (Ne.symm ne_o6_co3) nin0) (ninS (Ne.symm ne_o6_b3) nin0)
       have hO43_44 := hO43.keep KQ44 (ninS (Ne.symm ne_o6_o5) nin0)
       have hk_44 := Nat.le_trans hk_43 KQ44.1
       have z_44 : n0 ≤ h44.size := Nat.le_trans z_43 KQ44.1
       have K_44 : Keep h0 h44 [] := Keep.trans K_43 KQ44 (allS (Or.inr sz_o6) all0)
       have N_44 := Fr.app N_43 NQ44
       show GoesW p e below s _ _ _ T44 (mkF m 136 #[vI p1, vI p2, vI p3, vI p4, vI u1, vI u2, vI u3, vI (1 : Int32), vI (0 : Int32), vR b1, vR o4, vR o5, vR o6, vU, vU, vU, vU, vU, vU] [])
       refine GoesW.step (fun _ k => XS.aload X44.here hx rfl (hb hby at_136) rfl rfl k) ?_
       refine GoesW.step (fun _ k => XS.aload X44.here hx rfl (hb hby at_138) rfl rfl k) ?_
       refine GoesW.step (fun _ k => XS.aload X44.here hx rfl (hb hby at_140) rfl rfl k) ?_
       refine GoesW.step (fun _ k => XS.aload X44.here hx rfl (hb hby at_142) rfl rfl k) ?_
       refine GoesW.step (fun _ k => XS.aconstNull X44.here hx rfl (hb hby at_144) k) ?_
       obtain ⟨v45, T45, h45, L45, X45, e45, Q45, st45⟩ := callXV X44 hx hZ (C := "com/example/proxysmith/proxysmith/Bytecode") (b := b1) (y := y_25) (z := y_25) hown (wof hw 166 rfl) (wof hw 167 rfl) (wof hw 169 rfl) (wof hw 168 rfl) (wof hw 170 rfl) (wof hw 3 rfl) (notFace_of_selects (args := #[]) (mvT hZ (wof hw 169 rfl))) (by decide) (W := 0) (argsL := [(.ref o4), (.ref o5), (.ref o6), .null]) (rest := []) (rm25 l Z a0 hw [] b1 o4 o5 o6 lj3 lf3 lh3 oh3 h44 n0 z_44 HA42_44.Fhandlers HL3_44 ge_lh3 ge_oh3 HN3.lj_lh HN3.lf_lh HN3.lj_oh HN3.lf_oh HN3.lh_oh HN3.a_lh HN3.a_oh) (by decide) (by decide) (by decide) (by decide) e44 E_b1_44 (g := (mkF m 145 #[vI p1, vI p2, vI p3, vI p4, vI u1, vI u2, vI u3, vI (1 : Int32), vI (0 : Int32), vR b1, vR o4, vR o5, vR o6, vU, vU, vU, vU, vU, vU] [.null, (.ref o6), (.ref o5), (.ref o4), (.ref b1)])) rfl (by rw [hml]; rfl) (lenOf pd_0_4 rfl) rfl (by show 2 * 0 + _ ≤ _; exact Nat.le_of_eq rfl) (hb hby at_145)
       obtain ⟨ha45, rfl, NQ45, KQ45, sha45, HM45⟩ := Q45
       refine GoesW.step st45 ?_
       have E_b1_45 := E_b1_44.keep KQ45
       have hE4_45 := hE4_44.keep KQ45
       have hE5_45 := hE5_44.keep KQ45
       have hE6_45 := hE6_44.keep KQ45
       have hO41_45 := hO41_44.keep KQ45 (ninS ne_o4_lh3 (ninS ne_o4_oh3 nin0))
       have HA42_45 := HA42_44.keep KQ45 (ninS HN3.a_lh (ninS HN3.a_oh nin0))
       have HB42_45 := HB42_44.keep KQ45 (ninS HN3.co_lh (ninS HN3.co_oh nin0)) (ninS HN3.b_lh (ninS HN3.b_oh nin0))
       have hO43_45 := hO43_44.keep KQ45 (ninS ne_o5_lh3 (ninS ne_o5_oh3 nin0))
       have hO44_45 := hO44.keep KQ45 (ninS ne_o6_lh3 (ninS ne_o6_oh3 nin0))
       have hk_45 := Nat.le_trans hk_44 KQ45.1
       have z_45 : n0 ≤ h45.size := Nat.le_trans z_44 KQ45.1
       have K_45 : Keep h0 h45 [] := Keep.trans K_44 KQ45 (allS (Or.inr sz_lh3) (allS (Or.inr sz_oh3) all0))
       have N_45 := Fr.app N_44 NQ45
       show GoesW p e below s _ _ _ T45 (mkF m 148 #[vI p1, vI p2, vI p3, vI p4, vI u1, vI u2, vI u3, vI (1 : Int32), vI (0 : Int32), vR b1, vR o4, vR o5, vR o6, vU, vU, vU, vU, vU, vU] [])
       refine GoesW.step (fun _ k => XS.aload X45.here hx rfl (hb hby at_148) rfl rfl k) ?_
       obtain ⟨v46, T46, h46, L46, X46, e46, Q46, st46⟩ := callXV X45 hx hZ (C := "com/example/proxysmith/proxysmith/Bytecode") (b := b1) (y := y_30) (z := y_30) hown (wof hw 210 rfl) (wof hw 211 rfl) (wof hw 213 rfl) (wof hw 212 rfl) (wof hw 214 rfl) (wof hw 3 rfl) (notFace_of_selects (args := #[]) (mvT hZ (wof hw 213 rfl))) (by decide) (W := 0) (argsL := []) (rest := []) (rm30 l Z a0 hw [] b1 co3 lj3 lf3 lh3 ((0 + 1) + 1) ml42 b3 ((0 + la) + lb) f42 oh3 ha45 o4 o5 o6 (0 + la) ((0 + la) + lb) ((0 + la) + lb) h45 n0 z_45 HA42_45 HB42_45 HM45 hO41_45 hO43_45 hO44_45 (by omega) (by omega) (by omega) (by omega) (by decide)) (by decide) (by decide) (by decide) (by decide) e45 E_b1_45 (g := (mkF m 150 #[vI p1, vI p2, vI p3, vI p4, vI u1, vI u2, vI u3, vI (1 : Int32), vI (0 : Int32), vR b1, vR o4, vR o5, vR o6, vU, vU, vU, vU, vU, vU] [(.ref b1)])) rfl (by rw [hml]; rfl) (lenOf pd_0_5 rfl) rfl (by show 2 * 0 + _ ≤ _; exact Nat.le_of_eq rfl) (hb hby at_150)
       obtain ⟨o46, g46, rfl, NQ46, KQ46, so46, hA46, hu0_46, hu1_46, hu2_46, hu3_46, hu4_46, hu5_46, hu6_46, hu7_46, hu8_46⟩ := Q46
       refine GoesW.step st46 ?_
       have E_b1_46 := E_b1_45.keep KQ46
       have hE4_46 := hE4_45.keep KQ46
       have hE5_46 := hE5_45.keep KQ46
       have hE6_46 := hE6_45.keep KQ46
       have hO41_46 := hO41_45.keep KQ46 nin0
       have HA42_46 := HA42_45.keep KQ46 nin0
       have HB42_46 := HB42_45.keep KQ46 nin0 nin0
       have hO43_46 := hO43_45.keep KQ46 nin0
       have hO44_46 := hO44_45.keep KQ46 nin0
       have HM45_46 := HM45.keep KQ46
       have hk_46 := Nat.le_trans hk_45 KQ46.1
       have z_46 : n0 ≤ h46.size := Nat.le_trans z_45 KQ46.1
       have K_46 : Keep h0 h46 [] := Keep.trans K_45 KQ46 all0
       have N_46 := Fr.app N_45 NQ46
       show GoesW p e below s _ _ _ T46 (mkF m 153 #[vI p1, vI p2, vI p3, vI p4, vI u1, vI u2, vI u3, vI (1 : Int32), vI (0 : Int32), vR b1, vR o4, vR o5, vR o6, vU, vU, vU, vU, vU, vU] [(.ref o46)])
       refine GoesW.step (fun _ k => XS.astore X46.here hx rfl (hb hby at_153) rfl rfl (l' := #[vI p1, vI p2, vI p3, vI p4, vI u1, vI u2, vI u3, vI (1 : Int32), vI (0 : Int32), vR b1, vR o4, vR o5, vR o6, vR o46, vU, vU, vU, vU, vU]) rfl k) ?_
       refine GoesW.step (fun _ k => XS.iload X46.here hx rfl (hb hby at_155) rfl k) ?_
       refine GoesW.step (fun _ k => XS.ifNo X46.here hx rfl (hb hby at_157) rfl ((if0 _ _).trans (feq (by decide : ¬ ((1 : Int32) = (0 : Int32)))).1) k) ?_
       show GoesW p e below s _ _ _ T46 (mkF m 160 #[vI p1, vI p2, vI p3, vI p4, vI u1, vI u2, vI u3, vI (1 : Int32), vI (0 : Int32), vR b1, vR o4, vR o5, vR o6, vR o46, vU, vU, vU, vU, vU] [])
       refine GoesW.step (fun _ k => XS.iload X46.here hx rfl (hb hby at_160) rfl k) ?_
       obtain ⟨T47, X47, e47, st47⟩ := callPure X46 hx hZ (y := y_47) hown (wof hw 330 rfl) (wof hw 331 rfl) (wof hw 332 rfl) (wof hw 333 rfl) (by decide) (W := 0) (argsL := [(.int u1)]) (rest := []) (r := (.int (f47 u1))) (fun _ _ _ q => q) (rm47 l Z a0 hw [] u1 h46 ) (by decide) (by decide) (by decide) (by decide) e46 (g := (mkF m 162 #[vI p1, vI p2, vI p3, vI p4, vI u1, vI u2, vI u3, vI (1 : Int32), vI (0 : Int32), vR b1, vR o4, vR o5, vR o6, vR o46, vU, vU, vU, vU, vU] [(.int u1)])) rfl (by rw [hml]; rfl) (lenOf pd_0_6 rfl) rfl (by show 2 * 0 + _ ≤ _; exact Nat.le_of_eq rfl) (hb hby at_162)
       refine GoesW.step st47 ?_
       show GoesW p e below s _ _ _ T47 (mkF m 165 #[vI p1, vI p2, vI p3, vI p4, vI u1, vI u2, vI u3, vI (1 : Int32), vI (0 : Int32), vR b1, vR o4, vR o5, vR o6, vR o46, vU, vU, vU, vU, vU] [(.int (f47 u1))])
       rw [own_lenF, ela]
       refine GoesW.step (fun _ k => XS.goto X47.here hx rfl (pc0 := 165) (pc' := 169) rfl (hb hby at_165) (by decide) (by decide) k) ?_
       refine GoesW.step (fun _ k => XS.istore X47.here hx rfl (hb hby at_169) rfl (l' := #[vI p1, vI p2, vI p3, vI p4, vI u1, vI u2, vI u3, vI (1 : Int32), vI (0 : Int32), vR b1, vR o4, vR o5, vR o6, vR o46, vI (Int32.ofNat la), vU, vU, vU, vU]) rfl k) ?_
       refine GoesW.step (fun _ k => XS.iload X47.here hx rfl (hb hby at_171) rfl k) ?_
       refine GoesW.step (fun _ k => XS.iload X47.here hx rfl (hb hby at_173) rfl k) ?_
       obtain ⟨T48, X48, e48, st48⟩ := callPure X47 hx hZ (y := y_47) hown (wof hw 330 rfl) (wof hw 331 rfl) (wof hw 332 rfl) (wof hw 333 rfl) (by decide) (W := 1) (argsL := [(.int u2)]) (rest := [(.int (Int32.ofNat la))]) (r := (.int (f47 u2))) (fun _ _ _ q => q) (rm47 l Z a0 hw [] u2 h46 ) (by decide) (by decide) (by decide) (by decide) e47 (g := (mkF m 175 #[vI p1, vI p2, vI p3, vI p4, vI u1, vI u2, vI u3, vI (1 : Int32), vI (0 : Int32), vR b1, vR o4, vR o5, vR o6, vR o46, vI (Int32.ofNat la), vU, vU, vU, vU] [(.int u2), (.int (Int32.ofNat la))])) rfl (by rw [hml]; rfl) (lenOf pd_0_6 rfl) rfl (by show 2 * 0 + _ ≤ _; exact Nat.le_of_eq rfl) (hb hby at_175)
       refine GoesW.step st48 ?_
       show GoesW p e below s _ _ _ T48 (mkF m 178 #[vI p1, vI p2, vI p3, vI p4, vI u1, vI u2, vI u3, vI (1 : Int32), vI (0 : Int32), vR b1, vR o4, vR o5, vR o6, vR o46, vI (Int32.ofNat la), vU, vU, vU, vU] [(.int (f47 u2)), (.int (Int32.ofNat la))])
       rw [own_lenF, elb]
       refine GoesW.step (fun _ k => XS.iadd X48.here hx rfl (hb hby at_178) rfl k) ?_
       show GoesW p e below s _ _ _ T48 (mkF m 179 #[vI p1, vI p2, vI p3, vI p4, vI u1, vI u2, vI u3, vI (1 : Int32), vI (0 : Int32), vR b1, vR o4, vR o5, vR o6, vR o46, vI (Int32.ofNat la), vU, vU, vU, vU] [(.int ((Int32.ofNat la) + (Int32.ofNat lb)))])
       rw [show ((Int32.ofNat la) + (Int32.ofNat lb)) = Int32.ofNat (la + lb) from own_add _ _]
       refine GoesW.step (fun _ k => XS.istore X48.here hx rfl (hb hby at_179) rfl (l' := #[vI p1, vI p2, vI p3, vI p4, vI u1, vI u2, vI u3, vI (1 : Int32), vI (0 : Int32), vR b1, vR o4, vR o5, vR o6, vR o46, vI (Int32.ofNat la), vI (Int32.ofNat (la + lb)), vU, vU, vU]) rfl k) ?_
       refine GoesW.step (fun _ k => XS.iload X48.here hx rfl (hb hby at_181) rfl k) ?_
       refine GoesW.step (fun _ k => XS.iload X48.here hx rfl (hb hby at_183) rfl k) ?_
       refine GoesW.step (fun _ k => XS.ifYes X48.here hx rfl (pc0 := 185) (pc' := 196) rfl (hb hby at_185) rfl ((if0 _ _).trans (teq (by decide : (0 : Int32) = (0 : Int32))).1) (by decide) (by decide) k) ?_
       show GoesW p e below s _ _ _ T48 (mkF m 196 #[vI p1, vI p2, vI p3, vI p4, vI u1, vI u2, vI u3, vI (1 : Int32), vI (0 : Int32), vR b1, vR o4, vR o5, vR o6, vR o46, vI (Int32.ofNat la), vI (Int32.ofNat (la + lb)), vU, vU, vU] [(.int (Int32.ofNat (la + lb)))])
       refine GoesW.step (fun _ k => XS.iconst X48.here hx rfl (hb hby at_196) k) ?_
       refine GoesW.step (fun _ k => XS.iadd X48.here hx rfl (hb hby at_197) rfl k) ?_
       show GoesW p e below s _ _ _ T48 (mkF m 198 #[vI p1, vI p2, vI p3, vI p4, vI u1, vI u2, vI u3, vI (1 : Int32), vI (0 : Int32), vR b1, vR o4, vR o5, vR o6, vR o46, vI (Int32.ofNat la), vI (Int32.ofNat (la + lb)), vU, vU, vU] [(.int ((Int32.ofNat (la + lb)) + (0 : Int32)))])
       rw [show ((Int32.ofNat (la + lb)) + (0 : Int32)) = Int32.ofNat ((la + lb) + 0) from own_add _ _]
       refine GoesW.step (fun _ k => XS.istore X48.here hx rfl (hb hby at_198) rfl (l' := #[vI p1, vI p2, vI p3, vI p4, vI u1, vI u2, vI u3, vI (1 : Int32), vI (0 : Int32), vR b1, vR o4, vR o5, vR o6, vR o46, vI (Int32.ofNat la), vI (Int32.ofNat (la + lb)), vI (Int32.ofNat ((la + lb) + 0)), vU, vU]) rfl k) ?_
       refine GoesW.step (fun _ k => XS.iconst X48.here hx rfl (hb hby at_200) k) ?_
       refine GoesW.step (fun _ k => XS.iload X48.here hx rfl (hb hby at_201) rfl k) ?_
       refine GoesW.step (fun _ k => XS.ifNo X48.here hx rfl (hb hby at_203) rfl ((if0 _ _).trans (feq (by decide : ¬ ((1 : Int32) = (0 : Int32)))).1) k) ?_
       show GoesW p e below s _ _ _ T48 (mkF m 206 #[vI p1, vI p2, vI p3, vI p4, vI u1, vI u2, vI u3, vI (1 : Int32), vI (0 : Int32), vR b1, vR o4, vR o5, vR o6, vR o46, vI (Int32.ofNat la), vI (Int32.ofNat (la + lb)), vI (Int32.ofNat ((la + lb) + 0)), vU, vU] [(.int (1 : Int32))])
       refine GoesW.step (fun _ k => XS.iconst X48.here hx rfl (hb hby at_206) k) ?_
       refine GoesW.step (fun _ k => XS.goto X48.here hx rfl (pc0 := 207) (pc' := 211) rfl (hb hby at_207) (by decide) (by decide) k) ?_
       refine GoesW.step (fun _ k => XS.iadd X48.here hx rfl (hb hby at_211) rfl k) ?_
       show GoesW p e below s _ _ _ T48 (mkF m 212 #[vI p1, vI p2, vI p3, vI p4, vI u1, vI u2, vI u3, vI (1 : Int32), vI (0 : Int32), vR b1, vR o4, vR o5, vR o6, vR o46, vI (Int32.ofNat la), vI (Int32.ofNat (la + lb)), vI (Int32.ofNat ((la + lb) + 0)), vU, vU] [(.int (2 : Int32))])
       refine GoesW.step (fun _ k => XS.iload X48.here hx rfl (hb hby at_212) rfl k) ?_
       refine GoesW.step (fun _ k => XS.ifYes X48.here hx rfl (pc0 := 214) (pc' := 221) rfl (hb hby at_214) rfl ((if0 _ _).trans (teq (by decide : (0 : Int32) = (0 : Int32))).1) (by decide) (by decide) k) ?_
       show GoesW p e below s _ _ _ T48 (mkF m 221 #[vI p1, vI p2, vI p3, vI p4, vI u1, vI u2, vI u3, vI (1 : Int32), vI (0 : Int32), vR b1, vR o4, vR o5, vR o6, vR o46, vI (Int32.ofNat la), vI (Int32.ofNat (la + lb)), vI (Int32.ofNat ((la + lb) + 0)), vU, vU] [(.int (2 : Int32))])
       refine GoesW.step (fun _ k => XS.iconst X48.here hx rfl (hb hby at_221) k) ?_
       refine GoesW.step (fun _ k => XS.iadd X48.here hx rfl (hb hby at_222) rfl k) ?_
       show GoesW p e below s _ _ _ T48 (mkF m 223 #[vI p1, vI p2, vI p3, vI p4, vI u1, vI u2, vI u3, vI (1 : Int32), vI (0 : Int32), vR b1, vR o4, vR o5, vR o6, vR o46, vI (Int32.ofNat la), vI (Int32.ofNat (la + lb)), vI (Int32.ofNat ((la + lb) + 0)), vU, vU] [(.int (2 : Int32))])
       as_aux_lemma =>
        refine GoesW.step (fun _ k => XS.istore X48.here hx rfl (hb hby at_223) rfl (l' := #[vI p1, vI p2, vI p3, vI p4, vI u1, vI u2, vI u3, vI (1 : Int32), vI (0 : Int32), vR b1, vR o4, vR o5, vR o6, vR o46, vI (Int32.ofNat la), vI (Int32.ofNat (la + lb)), vI (Int32.ofNat ((la + lb) + 0)), vI (2 : Int32), vU]) rfl k) ?_
        refine GoesW.step (fun _ k => XS.aload X48.here hx rfl (hb hby at_225) rfl rfl k) ?_
        refine GoesW.step (fun _ k => rdL X48 hx hZ e48 hA46 (g := (mkF m 227 #[vI p1, vI p2, vI p3, vI p4, vI u1, vI u2, vI u3, vI (1 : Int32), vI (0 : Int32), vR b1, vR o4, vR o5, vR o6, vR o46, vI (Int32.ofNat la), vI (Int32.ofNat (la + lb)), vI (Int32.ofNat ((la + lb) + 0)), vI (2 : Int32), vU] [(.ref o46)])) rfl rfl (hb hby at_227) _ k) ?_
        show GoesW p e below s _ _ _ T48 (mkF m 228 #[vI p1, vI p2, vI p3, vI p4, vI u1, vI u2, vI u3, vI (1 : Int32), vI (0 : Int32), vR b1, vR o4, vR o5, vR o6, vR o46, vI (Int32.ofNat la), vI (Int32.ofNat (la + lb)), vI (Int32.ofNat ((la + lb) + 0)), vI (2 : Int32), vU] [(.int (Int32.ofNat ((((0 + la) + lb) + 20))))])
        refine GoesW.step (fun _ k => XS.bipush X48.here hx rfl (hb hby at_228) k) ?_
        refine GoesW.step (fun _ k => XS.iload X48.here hx rfl (hb hby at_230) rfl k) ?_
        refine GoesW.step (fun _ k => XS.iadd X48.here hx rfl (hb hby at_232) rfl k) ?_
        show GoesW p e below s _ _ _ T48 (mkF m 233 #[vI p1, vI p2, vI p3, vI p4, vI u1, vI u2, vI u3, vI (1 : Int32), vI (0 : Int32), vR b1, vR o4, vR o5, vR o6, vR o46, vI (Int32.ofNat la), vI (Int32.ofNat (la + lb)), vI (Int32.ofNat ((la + lb) + 0)), vI (2 : Int32), vU] [(.int ((20 : Int32) + (Int32.ofNat ((la + lb) + 0)))), (.int (Int32.ofNat ((((0 + la) + lb) + 20))))])
        refine GoesW.step (fun _ k => XS.icmpYes X48.here hx rfl (pc0 := 233) (pc' := 238) rfl (hb hby at_233) rfl (teq (by rw [show ((20 : Int32) + (Int32.ofNat ((la + lb) + 0))) = Int32.ofNat (20 + ((la + lb) + 0)) from own_add 20 _]; exact congrArg Int32.ofNat (by omega))).1 (by decide) (by decide) k) ?_
        show GoesW p e below s _ _ _ T48 (mkF m 238 #[vI p1, vI p2, vI p3, vI p4, vI u1, vI u2, vI u3, vI (1 : Int32), vI (0 : Int32), vR b1, vR o4, vR o5, vR o6, vR o46, vI (Int32.ofNat la), vI (Int32.ofNat (la + lb)), vI (Int32.ofNat ((la + lb) + 0)), vI (2 : Int32), vU] [])
        refine GoesW.step (fun _ k => XS.bipush X48.here hx rfl (hb hby at_238) k) ?_
        refine GoesW.step (fun _ k => XS.iload X48.here hx rfl (hb hby at_240) rfl k) ?_
        refine GoesW.step (fun _ k => XS.iadd X48.here hx rfl (hb hby at_242) rfl k) ?_
        show GoesW p e below s _ _ _ T48 (mkF m 243 #[vI p1, vI p2, vI p3, vI p4, vI u1, vI u2, vI u3, vI (1 : Int32), vI (0 : Int32), vR b1, vR o4, vR o5, vR o6, vR o46, vI (Int32.ofNat la), vI (Int32.ofNat (la + lb)), vI (Int32.ofNat ((la + lb) + 0)), vI (2 : Int32), vU] [(.int ((8 : Int32) + (Int32.ofNat ((la + lb) + 0))))])
        rw [show ((8 : Int32) + (Int32.ofNat ((la + lb) + 0))) = Int32.ofNat (8 + ((la + lb) + 0)) from own_add _ _]
        refine GoesW.step (fun _ k => XS.istore X48.here hx rfl (hb hby at_243) rfl (l' := #[vI p1, vI p2, vI p3, vI p4, vI u1, vI u2, vI u3, vI (1 : Int32), vI (0 : Int32), vR b1, vR o4, vR o5, vR o6, vR o46, vI (Int32.ofNat la), vI (Int32.ofNat (la + lb)), vI (Int32.ofNat ((la + lb) + 0)), vI (2 : Int32), vI (Int32.ofNat (8 + ((la + lb) + 0)))]) rfl k) ?_
        refine GoesW.step (fun _ k => XS.aload X48.here hx rfl (hb hby at_245) rfl rfl k) ?_
        refine GoesW.step (fun _ k => XS.iconst X48.here hx rfl (hb hby at_247) k) ?_
        obtain ⟨T49, X49, e49, st49⟩ := own_pure (r := some (.int (own_u2 g46 (0)))) (fun _ _ _ q => q) (callX X48 hx hZ (y := y_48) hown (wof hw 334 rfl) (wof hw 335 rfl) (wof hw 332 rfl) (wof hw 336 rfl) (by decide) (W := 0) (argsL := [(.ref o46), (.int (0 : Int32))]) (rest := []) (rm48 l Z a0 hw [] o46 (0 : Int32) (0) (((0 + la) + lb) + 20) g46 h46 n0 z_46 hA46 rfl (by omega)) (by decide) (by decide) (by decide) (by decide) e48 (g := (mkF m 248 #[vI p1, vI p2, vI p3, vI p4, vI u1, vI u2, vI u3, vI (1 : Int32), vI (0 : Int32), vR b1, vR o4, vR o5, vR o6, vR o46, vI (Int32.ofNat la), vI (Int32.ofNat (la + lb)), vI (Int32.ofNat ((la + lb) + 0)), vI (2 : Int32), vI (Int32.ofNat (8 + ((la + lb) + 0)))] [(.int (0 : Int32)), (.ref o46)])) rfl (by rw [hml]; rfl) (lenOf pd_0_7 rfl) rfl (by show 2 * 0 + _ ≤ _; exact Nat.le_of_eq rfl) (hb hby at_248))
        refine GoesW.step st49 ?_
        show GoesW p e below s _ _ _ T49 (mkF m 251 #[vI p1, vI p2, vI p3, vI p4, vI u1, vI u2, vI u3, vI (1 : Int32), vI (0 : Int32), vR b1, vR o4, vR o5, vR o6, vR o46, vI (Int32.ofNat la), vI (Int32.ofNat (la + lb)), vI (Int32.ofNat ((la + lb) + 0)), vI (2 : Int32), vI (Int32.ofNat (8 + ((la + lb) + 0)))] [(.int (own_u2 g46 (0)))])
        refine GoesW.step (fun _ k => XS.iload X49.here hx rfl (hb hby at_251) rfl k) ?_
        refine GoesW.step (fun _ k => XS.icmpNo X49.here hx rfl (hb hby at_253) rfl (teq ((congrArg (own_u2 g46) (by omega)).trans (hu0_46.trans (by decide)))).2 k) ?_
        show GoesW p e below s _ _ _ T49 (mkF m 256 #[vI p1, vI p2, vI p3, vI p4, vI u1, vI u2, vI u3, vI (1 : Int32), vI (0 : Int32), vR b1, vR o4, vR o5, vR o6, vR o46, vI (Int32.ofNat la), vI (Int32.ofNat (la + lb)), vI (Int32.ofNat ((la + lb) + 0)), vI (2 : Int32), vI (Int32.ofNat (8 + ((la + lb) + 0)))] [])
        refine GoesW.step (fun _ k => XS.aload X49.here hx rfl (hb hby at_256) rfl rfl k) ?_
        refine GoesW.step (fun _ k => XS.iconst X49.here hx rfl (hb hby at_258) k) ?_
        obtain ⟨T50, X50, e50, st50⟩ := own_pure (r := some (.int (own_u2 g46 (4)))) (fun _ _ _ q => q) (callX X49 hx hZ (y := y_48) hown (wof hw 334 rfl) (wof hw 335 rfl) (wof hw 332 rfl) (wof hw 336 rfl) (by decide) (W := 0) (argsL := [(.ref o46), (.int (4 : Int32))]) (rest := []) (rm48 l Z a0 hw [] o46 (4 : Int32) (4) (((0 + la) + lb) + 20) g46 h46 n0 z_46 hA46 rfl (by omega)) (by decide) (by decide) (by decide) (by decide) e49 (g := (mkF m 259 #[vI p1, vI p2, vI p3, vI p4, vI u1, vI u2, vI u3, vI (1 : Int32), vI (0 : Int32), vR b1, vR o4, vR o5, vR o6, vR o46, vI (Int32.ofNat la), vI (Int32.ofNat (la + lb)), vI (Int32.ofNat ((la + lb) + 0)), vI (2 : Int32), vI (Int32.ofNat (8 + ((la + lb) + 0)))] [(.int (4 : Int32)), (.ref o46)])) rfl (by rw [hml]; rfl) (lenOf pd_0_7 rfl) rfl (by show 2 * 0 + _ ≤ _; exact Nat.le_of_eq rfl) (hb hby at_259))
        refine GoesW.step st50 ?_
        show GoesW p e below s _ _ _ T50 (mkF m 262 #[vI p1, vI p2, vI p3, vI p4, vI u1, vI u2, vI u3, vI (1 : Int32), vI (0 : Int32), vR b1, vR o4, vR o5, vR o6, vR o46, vI (Int32.ofNat la), vI (Int32.ofNat (la + lb)), vI (Int32.ofNat ((la + lb) + 0)), vI (2 : Int32), vI (Int32.ofNat (8 + ((la + lb) + 0)))] [(.int (own_u2 g46 (4)))])
        refine GoesW.step (fun _ k => XS.ifNo X50.here hx rfl (hb hby at_262) rfl ((if0 _ _).trans (teq ((congrArg (own_u2 g46) (by omega)).trans (hu1_46.trans rfl))).2) k) ?_
        show GoesW p e below s _ _ _ T50 (mkF m 265 #[vI p1, vI p2, vI p3, vI p4, vI u1, vI u2, vI u3, vI (1 : Int32), vI (0 : Int32), vR b1, vR o4, vR o5, vR o6, vR o46, vI (Int32.ofNat la), vI (Int32.ofNat (la + lb)), vI (Int32.ofNat ((la + lb) + 0)), vI (2 : Int32), vI (Int32.ofNat (8 + ((la + lb) + 0)))] [])
        refine GoesW.step (fun _ k => XS.aload X50.here hx rfl (hb hby at_265) rfl rfl k) ?_
        refine GoesW.step (fun _ k => XS.bipush X50.here hx rfl (hb hby at_267) k) ?_
        obtain ⟨T51, X51, e51, st51⟩ := own_pure (r := some (.int (own_u2 g46 (6)))) (fun _ _ _ q => q) (callX X50 hx hZ (y := y_48) hown (wof hw 334 rfl) (wof hw 335 rfl) (wof hw 332 rfl) (wof hw 336 rfl) (by decide) (W := 0) (argsL := [(.ref o46), (.int (6 : Int32))]) (rest := []) (rm48 l Z a0 hw [] o46 (6 : Int32) (6) (((0 + la) + lb) + 20) g46 h46 n0 z_46 hA46 rfl (by omega)) (by decide) (by decide) (by decide) (by decide) e50 (g := (mkF m 269 #[vI p1, vI p2, vI p3, vI p4, vI u1, vI u2, vI u3, vI (1 : Int32), vI (0 : Int32), vR b1, vR o4, vR o5, vR o6, vR o46, vI (Int32.ofNat la), vI (Int32.ofNat (la + lb)), vI (Int32.ofNat ((la + lb) + 0)), vI (2 : Int32), vI (Int32.ofNat (8 + ((la + lb) + 0)))] [(.int (6 : Int32)), (.ref o46)])) rfl (by rw [hml]; rfl) (lenOf pd_0_7 rfl) rfl (by show 2 * 0 + _ ≤ _; exact Nat.le_of_eq rfl) (hb hby at_269))
        refine GoesW.step st51 ?_
        show GoesW p e below s _ _ _ T51 (mkF m 272 #[vI p1, vI p2, vI p3, vI p4, vI u1, vI u2, vI u3, vI (1 : Int32), vI (0 : Int32), vR b1, vR o4, vR o5, vR o6, vR o46, vI (Int32.ofNat la), vI (Int32.ofNat (la + lb)), vI (Int32.ofNat ((la + lb) + 0)), vI (2 : Int32), vI (Int32.ofNat (8 + ((la + lb) + 0)))] [(.int (own_u2 g46 (6)))])
        refine GoesW.step (fun _ k => XS.iload X51.here hx rfl (hb hby at_272) rfl k) ?_
        refine GoesW.step (fun _ k => XS.icmpNo X51.here hx rfl (hb hby at_274) rfl (teq ((congrArg (own_u2 g46) (by omega)).trans (hu2_46.trans (congrArg Int32.ofNat (by omega))))).2 k) ?_
        show GoesW p e below s _ _ _ T51 (mkF m 277 #[vI p1, vI p2, vI p3, vI p4, vI u1, vI u2, vI u3, vI (1 : Int32), vI (0 : Int32), vR b1, vR o4, vR o5, vR o6, vR o46, vI (Int32.ofNat la), vI (Int32.ofNat (la + lb)), vI (Int32.ofNat ((la + lb) + 0)), vI (2 : Int32), vI (Int32.ofNat (8 + ((la + lb) + 0)))] [])
        refine GoesW.step (fun _ k => XS.aload X51.here hx rfl (hb hby at_277) rfl rfl k) ?_
        refine GoesW.step (fun _ k => XS.iload X51.here hx rfl (hb hby at_279) rfl k) ?_
        obtain ⟨T52, X52, e52, st52⟩ := own_pure (r := some (.int (own_u2 g46 ((8 + ((la + lb) + 0)))))) (fun _ _ _ q => q) (callX X51 hx hZ (y := y_48) hown (wof hw 334 rfl) (wof hw 335 rfl) (wof hw 332 rfl) (wof hw 336 rfl) (by decide) (W := 0) (argsL := [(.ref o46), (.int (Int32.ofNat (8 + ((la + lb) + 0))))]) (rest := []) (rm48 l Z a0 hw [] o46 (Int32.ofNat (8 + ((la + lb) + 0))) ((8 + ((la + lb) + 0))) (((0 + la) + lb) + 20) g46 h46 n0 z_46 hA46 rfl (by omega)) (by decide) (by decide) (by decide) (by decide) e51 (g := (mkF m 281 #[vI p1, vI p2, vI p3, vI p4, vI u1, vI u2, vI u3, vI (1 : Int32), vI (0 : Int32), vR b1, vR o4, vR o5, vR o6, vR o46, vI (Int32.ofNat la), vI (Int32.ofNat (la + lb)), vI (Int32.ofNat ((la + lb) + 0)), vI (2 : Int32), vI (Int32.ofNat (8 + ((la + lb) + 0)))] [(.int (Int32.ofNat (8 + ((la + lb) + 0)))), (.ref o46)])) rfl (by rw [hml]; rfl) (lenOf pd_0_7 rfl) rfl (by show 2 * 0 + _ ≤ _; exact Nat.le_of_eq rfl) (hb hby at_281))
        refine GoesW.step st52 ?_
        show GoesW p e below s _ _ _ T52 (mkF m 284 #[vI p1, vI p2, vI p3, vI p4, vI u1, vI u2, vI u3, vI (1 : Int32), vI (0 : Int32), vR b1, vR o4, vR o5, vR o6, vR o46, vI (Int32.ofNat la), vI (Int32.ofNat (la + lb)), vI (Int32.ofNat ((la + lb) + 0)), vI (2 : Int32), vI (Int32.ofNat (8 + ((la + lb) + 0)))] [(.int (own_u2 g46 ((8 + ((la + lb) + 0)))))])
        refine GoesW.step (fun _ k => XS.iconst X52.here hx rfl (hb hby at_284) k) ?_
        refine GoesW.step (fun _ k => XS.icmpNo X52.here hx rfl (hb hby at_285) rfl (teq ((congrArg (own_u2 g46) (by omega)).trans (hu3_46.trans rfl))).2 k) ?_
        show GoesW p e below s _ _ _ T52 (mkF m 288 #[vI p1, vI p2, vI p3, vI p4, vI u1, vI u2, vI u3, vI (1 : Int32), vI (0 : Int32), vR b1, vR o4, vR o5, vR o6, vR o46, vI (Int32.ofNat la), vI (Int32.ofNat (la + lb)), vI (Int32.ofNat ((la + lb) + 0)), vI (2 : Int32), vI (Int32.ofNat (8 + ((la + lb) + 0)))] [])
        refine GoesW.step (fun _ k => XS.aload X52.here hx rfl (hb hby at_288) rfl rfl k) ?_
        refine GoesW.step (fun _ k => XS.iload X52.here hx rfl (hb hby at_290) rfl k) ?_
        refine GoesW.step (fun _ k => XS.iconst X52.here hx rfl (hb hby at_292) k) ?_
        refine GoesW.step (fun _ k => XS.iadd X52.here hx rfl (hb hby at_293) rfl k) ?_
        show GoesW p e below s _ _ _ T52 (mkF m 294 #[vI p1, vI p2, vI p3, vI p4, vI u1, vI u2, vI u3, vI (1 : Int32), vI (0 : Int32), vR b1, vR o4, vR o5, vR o6, vR o46, vI (Int32.ofNat la), vI (Int32.ofNat (la + lb)), vI (Int32.ofNat ((la + lb) + 0)), vI (2 : Int32), vI (Int32.ofNat (8 + ((la + lb) + 0)))] [(.int ((Int32.ofNat (8 + ((la + lb) + 0))) + (2 : Int32))), (.ref o46)])
        rw [show ((Int32.ofNat (8 + ((la + lb) + 0))) + (2 : Int32)) = Int32.ofNat ((8 + ((la + lb) + 0)) + 2) from own_add _ _]
        obtain ⟨T53, X53, e53, st53⟩ := own_pure (r := some (.int (own_u2 g46 (((8 + ((la + lb) + 0)) + 2))))) (fun _ _ _ q => q) (callX X52 hx hZ (y := y_48) hown (wof hw 334 rfl) (wof hw 335 rfl) (wof hw 332 rfl) (wof hw 336 rfl) (by decide) (W := 0) (argsL := [(.ref o46), (.int (Int32.ofNat ((8 + ((la + lb) + 0)) + 2)))]) (rest := []) (rm48 l Z a0 hw [] o46 (Int32.ofNat ((8 + ((la + lb) + 0)) + 2)) (((8 + ((la + lb) + 0)) + 2)) (((0 + la) + lb) + 20) g46 h46 n0 z_46 hA46 rfl (by omega)) (by decide) (by decide) (by decide) (by decide) e52 (g := (mkF m 294 #[vI p1, vI p2, vI p3, vI p4, vI u1, vI u2, vI u3, vI (1 : Int32), vI (0 : Int32), vR b1, vR o4, vR o5, vR o6, vR o46, vI (Int32.ofNat la), vI (Int32.ofNat (la + lb)), vI (Int32.ofNat ((la + lb) + 0)), vI (2 : Int32), vI (Int32.ofNat (8 + ((la + lb) + 0)))] [(.int (Int32.ofNat ((8 + ((la + lb) + 0)) + 2))), (.ref o46)])) rfl (by rw [hml]; rfl) (lenOf pd_0_7 rfl) rfl (by show 2 * 0 + _ ≤ _; exact Nat.le_of_eq rfl) (hb hby at_294))
        refine GoesW.step st53 ?_
        show GoesW p e below s _ _ _ T53 (mkF m 297 #[vI p1, vI p2, vI p3, vI p4, vI u1, vI u2, vI u3, vI (1 : Int32), vI (0 : Int32), vR b1, vR o4, vR o5, vR o6, vR o46, vI (Int32.ofNat la), vI (Int32.ofNat (la + lb)), vI (Int32.ofNat ((la + lb) + 0)), vI (2 : Int32), vI (Int32.ofNat (8 + ((la + lb) + 0)))] [(.int (own_u2 g46 (((8 + ((la + lb) + 0)) + 2))))])
        refine GoesW.step (fun _ k => XS.iload X53.here hx rfl (hb hby at_297) rfl k) ?_
        refine GoesW.step (fun _ k => XS.icmpNo X53.here hx rfl (hb hby at_299) rfl (teq ((congrArg (own_u2 g46) (by omega)).trans (hu4_46.trans (congrArg Int32.ofNat (by omega))))).2 k) ?_
        show GoesW p e below s _ _ _ T53 (mkF m 302 #[vI p1, vI p2, vI p3, vI p4, vI u1, vI u2, vI u3, vI (1 : Int32), vI (0 : Int32), vR b1, vR o4, vR o5, vR o6, vR o46, vI (Int32.ofNat la), vI (Int32.ofNat (la + lb)), vI (Int32.ofNat ((la + lb) + 0)), vI (2 : Int32), vI (Int32.ofNat (8 + ((la + lb) + 0)))] [])
        refine GoesW.step (fun _ k => XS.aload X53.here hx rfl (hb hby at_302) rfl rfl k) ?_
        refine GoesW.step (fun _ k => XS.iload X53.here hx rfl (hb hby at_304) rfl k) ?_
        refine GoesW.step (fun _ k => XS.iconst X53.here hx rfl (hb hby at_306) k) ?_
        as_aux_lemma =>
         refine GoesW.step (fun _ k => XS.iadd X53.here hx rfl (hb hby at_307) rfl k) ?_
         show GoesW p e below s _ _ _ T53 (mkF m 308 #[vI p1, vI p2, vI p3, vI p4, vI u1, vI u2, vI u3, vI (1 : Int32), vI (0 : Int32), vR b1, vR o4, vR o5, vR o6, vR o46, vI (Int32.ofNat la), vI (Int32.ofNat (la + lb)), vI (Int32.ofNat ((la + lb) + 0)), vI (2 : Int32), vI (Int32.ofNat (8 + ((la + lb) + 0)))] [(.int ((Int32.ofNat (8 + ((la + lb) + 0))) + (4 : Int32))), (.ref o46)])
         rw [show ((Int32.ofNat (8 + ((la + lb) + 0))) + (4 : Int32)) = Int32.ofNat ((8 + ((la + lb) + 0)) + 4) from own_add _ _]
         obtain ⟨T54, X54, e54, st54⟩ := own_pure (r := some (.int (own_u2 g46 (((8 + ((la + lb) + 0)) + 4))))) (fun _ _ _ q => q) (callX X53 hx hZ (y := y_48) hown (wof hw 334 rfl) (wof hw 335 rfl) (wof hw 332 rfl) (wof hw 336 rfl) (by decide) (W := 0) (argsL := [(.ref o46), (.int (Int32.ofNat ((8 + ((la + lb) + 0)) + 4)))]) (rest := []) (rm48 l Z a0 hw [] o46 (Int32.ofNat ((8 + ((la + lb) + 0)) + 4)) (((8 + ((la + lb) + 0)) + 4)) (((0 + la) + lb) + 20) g46 h46 n0 z_46 hA46 rfl (by omega)) (by decide) (by decide) (by decide) (by decide) e53 (g := (mkF m 308 #[vI p1, vI p2, vI p3, vI p4, vI u1, vI u2, vI u3, vI (1 : Int32), vI (0 : Int32), vR b1, vR o4, vR o5, vR o6, vR o46, vI (Int32.ofNat la), vI (Int32.ofNat (la + lb)), vI (Int32.ofNat ((la + lb) + 0)), vI (2 : Int32), vI (Int32.ofNat (8 + ((la + lb) + 0)))] [(.int (Int32.ofNat ((8 + ((la + lb) + 0)) + 4))), (.ref o46)])) rfl (by rw [hml]; rfl) (lenOf pd_0_7 rfl) rfl (by show 2 * 0 + _ ≤ _; exact Nat.le_of_eq rfl) (hb hby at_308))
         refine GoesW.step st54 ?_
         show GoesW p e below s _ _ _ T54 (mkF m 311 #[vI p1, vI p2, vI p3, vI p4, vI u1, vI u2, vI u3, vI (1 : Int32), vI (0 : Int32), vR b1, vR o4, vR o5, vR o6, vR o46, vI (Int32.ofNat la), vI (Int32.ofNat (la + lb)), vI (Int32.ofNat ((la + lb) + 0)), vI (2 : Int32), vI (Int32.ofNat (8 + ((la + lb) + 0)))] [(.int (own_u2 g46 (((8 + ((la + lb) + 0)) + 4))))])
         refine GoesW.step (fun _ k => XS.iload X54.here hx rfl (hb hby at_311) rfl k) ?_
         refine GoesW.step (fun _ k => XS.icmpNo X54.here hx rfl (hb hby at_313) rfl (teq ((congrArg (own_u2 g46) (by omega)).trans (hu5_46.trans (congrArg Int32.ofNat (by omega))))).2 k) ?_
         show GoesW p e below s _ _ _ T54 (mkF m 316 #[vI p1, vI p2, vI p3, vI p4, vI u1, vI u2, vI u3, vI (1 : Int32), vI (0 : Int32), vR b1, vR o4, vR o5, vR o6, vR o46, vI (Int32.ofNat la), vI (Int32.ofNat (la + lb)), vI (Int32.ofNat ((la + lb) + 0)), vI (2 : Int32), vI (Int32.ofNat (8 + ((la + lb) + 0)))] [])
         refine GoesW.step (fun _ k => XS.aload X54.here hx rfl (hb hby at_316) rfl rfl k) ?_
         refine GoesW.step (fun _ k => XS.iload X54.here hx rfl (hb hby at_318) rfl k) ?_
         refine GoesW.step (fun _ k => XS.bipush X54.here hx rfl (hb hby at_320) k) ?_
         refine GoesW.step (fun _ k => XS.iadd X54.here hx rfl (hb hby at_322) rfl k) ?_
         show GoesW p e below s _ _ _ T54 (mkF m 323 #[vI p1, vI p2, vI p3, vI p4, vI u1, vI u2, vI u3, vI (1 : Int32), vI (0 : Int32), vR b1, vR o4, vR o5, vR o6, vR o46, vI (Int32.ofNat la), vI (Int32.ofNat (la + lb)), vI (Int32.ofNat ((la + lb) + 0)), vI (2 : Int32), vI (Int32.ofNat (8 + ((la + lb) + 0)))] [(.int ((Int32.ofNat (8 + ((la + lb) + 0))) + (6 : Int32))), (.ref o46)])
         rw [show ((Int32.ofNat (8 + ((la + lb) + 0))) + (6 : Int32)) = Int32.ofNat ((8 + ((la + lb) + 0)) + 6) from own_add _ _]
         obtain ⟨T55, X55, e55, st55⟩ := own_pure (r := some (.int (own_u2 g46 (((8 + ((la + lb) + 0)) + 6))))) (fun _ _ _ q => q) (callX X54 hx hZ (y := y_48) hown (wof hw 334 rfl) (wof hw 335 rfl) (wof hw 332 rfl) (wof hw 336 rfl) (by decide) (W := 0) (argsL := [(.ref o46), (.int (Int32.ofNat ((8 + ((la + lb) + 0)) + 6)))]) (rest := []) (rm48 l Z a0 hw [] o46 (Int32.ofNat ((8 + ((la + lb) + 0)) + 6)) (((8 + ((la + lb) + 0)) + 6)) (((0 + la) + lb) + 20) g46 h46 n0 z_46 hA46 rfl (by omega)) (by decide) (by decide) (by decide) (by decide) e54 (g := (mkF m 323 #[vI p1, vI p2, vI p3, vI p4, vI u1, vI u2, vI u3, vI (1 : Int32), vI (0 : Int32), vR b1, vR o4, vR o5, vR o6, vR o46, vI (Int32.ofNat la), vI (Int32.ofNat (la + lb)), vI (Int32.ofNat ((la + lb) + 0)), vI (2 : Int32), vI (Int32.ofNat (8 + ((la + lb) + 0)))] [(.int (Int32.ofNat ((8 + ((la + lb) + 0)) + 6))), (.ref o46)])) rfl (by rw [hml]; rfl) (lenOf pd_0_7 rfl) rfl (by show 2 * 0 + _ ≤ _; exact Nat.le_of_eq rfl) (hb hby at_323))
         refine GoesW.step st55 ?_
         show GoesW p e below s _ _ _ T55 (mkF m 326 #[vI p1, vI p2, vI p3, vI p4, vI u1, vI u2, vI u3, vI (1 : Int32), vI (0 : Int32), vR b1, vR o4, vR o5, vR o6, vR o46, vI (Int32.ofNat la), vI (Int32.ofNat (la + lb)), vI (Int32.ofNat ((la + lb) + 0)), vI (2 : Int32), vI (Int32.ofNat (8 + ((la + lb) + 0)))] [(.int (own_u2 g46 (((8 + ((la + lb) + 0)) + 6))))])
         refine GoesW.step (fun _ k => XS.iload X55.here hx rfl (hb hby at_326) rfl k) ?_
         refine GoesW.step (fun _ k => XS.icmpNo X55.here hx rfl (hb hby at_328) rfl (teq ((congrArg (own_u2 g46) (by omega)).trans (hu6_46.trans (congrArg Int32.ofNat (by omega))))).2 k) ?_
         show GoesW p e below s _ _ _ T55 (mkF m 331 #[vI p1, vI p2, vI p3, vI p4, vI u1, vI u2, vI u3, vI (1 : Int32), vI (0 : Int32), vR b1, vR o4, vR o5, vR o6, vR o46, vI (Int32.ofNat la), vI (Int32.ofNat (la + lb)), vI (Int32.ofNat ((la + lb) + 0)), vI (2 : Int32), vI (Int32.ofNat (8 + ((la + lb) + 0)))] [])
         refine GoesW.step (fun _ k => XS.aload X55.here hx rfl (hb hby at_331) rfl rfl k) ?_
         refine GoesW.step (fun _ k => XS.iload X55.here hx rfl (hb hby at_333) rfl k) ?_
         refine GoesW.step (fun _ k => XS.bipush X55.here hx rfl (hb hby at_335) k) ?_
         refine GoesW.step (fun _ k => XS.iadd X55.here hx rfl (hb hby at_337) rfl k) ?_
         show GoesW p e below s _ _ _ T55 (mkF m 338 #[vI p1, vI p2, vI p3, vI p4, vI u1, vI u2, vI u3, vI (1 : Int32), vI (0 : Int32), vR b1, vR o4, vR o5, vR o6, vR o46, vI (Int32.ofNat la), vI (Int32.ofNat (la + lb)), vI (Int32.ofNat ((la + lb) + 0)), vI (2 : Int32), vI (Int32.ofNat (8 + ((la + lb) + 0)))] [(.int ((Int32.ofNat (8 + ((la + lb) + 0))) + (8 : Int32))), (.ref o46)])
         rw [show ((Int32.ofNat (8 + ((la + lb) + 0))) + (8 : Int32)) = Int32.ofNat ((8 + ((la + lb) + 0)) + 8) from own_add _ _]
         obtain ⟨T56, X56, e56, st56⟩ := own_pure (r := some (.int (own_u2 g46 (((8 + ((la + lb) + 0)) + 8))))) (fun _ _ _ q => q) (callX X55 hx hZ (y := y_48) hown (wof hw 334 rfl) (wof hw 335 rfl) (wof hw 332 rfl) (wof hw 336 rfl) (by decide) (W := 0) (argsL := [(.ref o46), (.int (Int32.ofNat ((8 + ((la + lb) + 0)) + 8)))]) (rest := []) (rm48 l Z a0 hw [] o46 (Int32.ofNat ((8 + ((la + lb) + 0)) + 8)) (((8 + ((la + lb) + 0)) + 8)) (((0 + la) + lb) + 20) g46 h46 n0 z_46 hA46 rfl (by omega)) (by decide) (by decide) (by decide) (by decide) e55 (g := (mkF m 338 #[vI p1, vI p2, vI p3, vI p4, vI u1, vI u2, vI u3, vI (1 : Int32), vI (0 : Int32), vR b1, vR o4, vR o5, vR o6, vR o46, vI (Int32.ofNat la), vI (Int32.ofNat (la + lb)), vI (Int32.ofNat ((la + lb) + 0)), vI (2 : Int32), vI (Int32.ofNat (8 + ((la + lb) + 0)))] [(.int (Int32.ofNat ((8 + ((la + lb) + 0)) + 8))), (.ref o46)])) rfl (by rw [hml]; rfl) (lenOf pd_0_7 rfl) rfl (by show 2 * 0 + _ ≤ _; exact Nat.le_of_eq rfl) (hb hby at_338))
         refine GoesW.step st56 ?_
         show GoesW p e below s _ _ _ T56 (mkF m 341 #[vI p1, vI p2, vI p3, vI p4, vI u1, vI u2, vI u3, vI (1 : Int32), vI (0 : Int32), vR b1, vR o4, vR o5, vR o6, vR o46, vI (Int32.ofNat la), vI (Int32.ofNat (la + lb)), vI (Int32.ofNat ((la + lb) + 0)), vI (2 : Int32), vI (Int32.ofNat (8 + ((la + lb) + 0)))] [(.int (own_u2 g46 (((8 + ((la + lb) + 0)) + 8))))])
         refine GoesW.step (fun _ k => XS.ifNo X56.here hx rfl (hb hby at_341) rfl ((if0 _ _).trans (teq ((congrArg (own_u2 g46) (by omega)).trans (hu7_46.trans rfl))).2) k) ?_
         show GoesW p e below s _ _ _ T56 (mkF m 344 #[vI p1, vI p2, vI p3, vI p4, vI u1, vI u2, vI u3, vI (1 : Int32), vI (0 : Int32), vR b1, vR o4, vR o5, vR o6, vR o46, vI (Int32.ofNat la), vI (Int32.ofNat (la + lb)), vI (Int32.ofNat ((la + lb) + 0)), vI (2 : Int32), vI (Int32.ofNat (8 + ((la + lb) + 0)))] [])
         refine GoesW.step (fun _ k => XS.aload X56.here hx rfl (hb hby at_344) rfl rfl k) ?_
         refine GoesW.step (fun _ k => XS.iload X56.here hx rfl (hb hby at_346) rfl k) ?_
         refine GoesW.step (fun _ k => XS.bipush X56.here hx rfl (hb hby at_348) k) ?_
         refine GoesW.step (fun _ k => XS.iadd X56.here hx rfl (hb hby at_350) rfl k) ?_
         show GoesW p e below s _ _ _ T56 (mkF m 351 #[vI p1, vI p2, vI p3, vI p4, vI u1, vI u2, vI u3, vI (1 : Int32), vI (0 : Int32), vR b1, vR o4, vR o5, vR o6, vR o46, vI (Int32.ofNat la), vI (Int32.ofNat (la + lb)), vI (Int32.ofNat ((la + lb) + 0)), vI (2 : Int32), vI (Int32.ofNat (8 + ((la + lb) + 0)))] [(.int ((Int32.ofNat (8 + ((la + lb) + 0))) + (10 : Int32))), (.ref o46)])
         rw [show ((Int32.ofNat (8 + ((la + lb) + 0))) + (10 : Int32)) = Int32.ofNat ((8 + ((la + lb) + 0)) + 10) from own_add _ _]
         obtain ⟨T57, X57, e57, st57⟩ := own_pure (r := some (.int (own_u2 g46 (((8 + ((la + lb) + 0)) + 10))))) (fun _ _ _ q => q) (callX X56 hx hZ (y := y_48) hown (wof hw 334 rfl) (wof hw 335 rfl) (wof hw 332 rfl) (wof hw 336 rfl) (by decide) (W := 0) (argsL := [(.ref o46), (.int (Int32.ofNat ((8 + ((la + lb) + 0)) + 10)))]) (rest := []) (rm48 l Z a0 hw [] o46 (Int32.ofNat ((8 + ((la + lb) + 0)) + 10)) (((8 + ((la + lb) + 0)) + 10)) (((0 + la) + lb) + 20) g46 h46 n0 z_46 hA46 rfl (by omega)) (by decide) (by decide) (by decide) (by decide) e56 (g := (mkF m 351 #[vI p1, vI p2, vI p3, vI p4, vI u1, vI u2, vI u3, vI (1 : Int32), vI (0 : Int32), vR b1, vR o4, vR o5, vR o6, vR o46, vI (Int32.ofNat la), vI (Int32.ofNat (la + lb)), vI (Int32.ofNat ((la + lb) + 0)), vI (2 : Int32), vI (Int32.ofNat (8 + ((la + lb) + 0)))] [(.int (Int32.ofNat ((8 + ((la + lb) + 0)) + 10))), (.ref o46)])) rfl (by rw [hml]; rfl) (lenOf pd_0_7 rfl) rfl (by show 2 * 0 + _ ≤ _; exact Nat.le_of_eq rfl) (hb hby at_351))
         refine GoesW.step st57 ?_
         show GoesW p e below s _ _ _ T57 (mkF m 354 #[vI p1, vI p2, vI p3, vI p4, vI u1, vI u2, vI u3, vI (1 : Int32), vI (0 : Int32), vR b1, vR o4, vR o5, vR o6, vR o46, vI (Int32.ofNat la), vI (Int32.ofNat (la + lb)), vI (Int32.ofNat ((la + lb) + 0)), vI (2 : Int32), vI (Int32.ofNat (8 + ((la + lb) + 0)))] [(.int (own_u2 g46 (((8 + ((la + lb) + 0)) + 10))))])
         refine GoesW.step (fun _ k => XS.ifNo X57.here hx rfl (hb hby at_354) rfl ((if0 _ _).trans (teq ((congrArg (own_u2 g46) (by omega)).trans (hu8_46.trans rfl))).2) k) ?_
         show GoesW p e below s _ _ _ T57 (mkF m 357 #[vI p1, vI p2, vI p3, vI p4, vI u1, vI u2, vI u3, vI (1 : Int32), vI (0 : Int32), vR b1, vR o4, vR o5, vR o6, vR o46, vI (Int32.ofNat la), vI (Int32.ofNat (la + lb)), vI (Int32.ofNat ((la + lb) + 0)), vI (2 : Int32), vI (Int32.ofNat (8 + ((la + lb) + 0)))] [])
         refine GoesW.step (fun _ k => XS.iconst X57.here hx rfl (hb hby at_357) k) ?_
         refine GoesW.step (fun _ k => XS.goto X57.here hx rfl (pc0 := 358) (pc' := 362) rfl (hb hby at_358) (by decide) (by decide) k) ?_
         show GoesW p e below s _ _ _ T57 (mkF m 362 #[vI p1, vI p2, vI p3, vI p4, vI u1, vI u2, vI u3, vI (1 : Int32), vI (0 : Int32), vR b1, vR o4, vR o5, vR o6, vR o46, vI (Int32.ofNat la), vI (Int32.ofNat (la + lb)), vI (Int32.ofNat ((la + lb) + 0)), vI (2 : Int32), vI (Int32.ofNat (8 + ((la + lb) + 0)))] [(.int (1 : Int32))])
         exact GoesW.outN (s := s) (vm₁ := T39.vm) X57 hS39 (by first | (rw [e57]; exact hk_46) | exact Nat.le_refl _) hx hlk (t := .boolean) Bd.returns (by simp) (hb hby at_362) ⟨rfl, N_46⟩ (by decide) (by decide)
     · show GoesW p e below s _ _ _ T43 (mkF m 117 #[vI p1, vI p2, vI p3, vI p4, vI u1, vI u2, vI u3, vI (1 : Int32), vI (1 : Int32), vR b1, vR o4, vR o5, vR o6, vU, vU, vU, vU, vU, vU] [(.int (1 : Int32))])
       refine GoesW.step (fun _ k => XS.ifNo X43.here hx rfl (hb hby at_117) rfl ((if0 _ _).trans (feq (by decide : ¬ ((1 : Int32) = (0 : Int32)))).1) k) ?_
       show GoesW p e below s _ _ _ T43 (mkF m 120 #[vI p1, vI p2, vI p3, vI p4, vI u1, vI u2, vI u3, vI (1 : Int32), vI (1 : Int32), vR b1, vR o4, vR o5, vR o6, vU, vU, vU, vU, vU, vU] [])
       refine GoesW.step (fun _ k => XS.aload X43.here hx rfl (hb hby at_120) rfl rfl k) ?_
       show GoesW p e below s _ _ _ T43 (mkF m 122 #[vI p1, vI p2, vI p3, vI p4, vI u1, vI u2, vI u3, vI (1 : Int32), vI (1 : Int32), vR b1, vR o4, vR o5, vR o6, vU, vU, vU, vU, vU, vU] [(.ref b1)])
       refine GoesW.step (fun _ k => ldcAgain (s := s) (vm0 := T39.vm) X43 hx hZ hown (wof hw 112 rfl) Lt39 (g := (mkF m 122 #[vI p1, vI p2, vI p3, vI p4, vI u1, vI u2, vI u3, vI (1 : Int32), vI (1 : Int32), vR b1, vR o4, vR o5, vR o6, vU, vU, vU, vU, vU, vU] [(.ref b1)])) rfl (hb hby at_122) _ k) ?_
       show GoesW p e below s _ _ _ T43 (mkF m 124 #[vI p1, vI p2, vI p3, vI p4, vI u1, vI u2, vI u3, vI (1 : Int32), vI (1 : Int32), vR b1, vR o4, vR o5, vR o6, vU, vU, vU, vU, vU, vU] [(.ref c39), (.ref b1)])
       refine GoesW.step (fun _ k => XS.iload X43.here hx rfl (hb hby at_124) rfl k) ?_
       obtain ⟨v58, T58, h58, L58, X58, e58, Q58, st58⟩ := callXV X43 hx hZ (C := "com/example/proxysmith/proxysmith/Bytecode") (b := b1) (y := y_14) (z := y_14) hown (wof hw 113 rfl) (wof hw 114 rfl) (wof hw 116 rfl) (wof hw 115 rfl) (wof hw 117 rfl) (wof hw 3 rfl) (notFace_of_selects (args := #[]) (mvT hZ (wof hw 116 rfl))) (by decide) (W := 0) (argsL := [(.ref c39), (.int u3)]) (rest := []) (rm14 l Z a0 hw [] b1 c39 u3 G1 oF co3 lj3 lf3 lh3 ((0 + 1) + 1) ml42 b3 ((0 + la) + lb) f42 d39 lc h43 n0 z_43 O2 P3 (OL.keep K_43 all0) O4 HA42_43 HB42_43 HN3.a_co HN3.a_b HN3.co_b ge_b1 ge_co3 ge_b3 hE39_43 hV39_43 hC39_43 hB39_43 ne_c39_b1 ne_c39_co3 ne_c39_b3 ne_d39_b1 ne_d39_co3 ne_d39_b3 (by decide) (by omega) elc) (by decide) (by decide) (by decide) (by decide) e43 E_b1_43 (g := (mkF m 126 #[vI p1, vI p2, vI p3, vI p4, vI u1, vI u2, vI u3, vI (1 : Int32), vI (1 : Int32), vR b1, vR o4, vR o5, vR o6, vU, vU, vU, vU, vU, vU] [(.int u3), (.ref c39), (.ref b1)])) rfl (by rw [hml]; rfl) (lenOf pd_0_3 rfl) rfl (by show 2 * 0 + _ ≤ _; exact Nat.le_of_eq rfl) (hb hby at_126)
       obtain ⟨rfl, NQ58, KQ58, ml58, f58, HA58, HB58⟩ := Q58
       refine GoesW.step st58 ?_
       have E_b1_58 := E_b1_43.keep KQ58
       have HL3_58 := HL3_43.keep KQ58 (ninS (Ne.symm HN3.a_lj) (ninS (Ne.symm HN3.co_lj) (ninS (Ne.symm HN3.b_lj) nin0))) (ninS (Ne.symm HN3.a_lf) (ninS (Ne.symm HN3.co_lf) (ninS (Ne.symm HN3.b_lf) nin0))) (ninS (Ne.symm HN3.a_lh) (ninS (Ne.symm HN3.co_lh) (ninS (Ne.symm HN3.b_lh) nin0))) (ninS (Ne.symm HN3.a_oh) (ninS (Ne.symm HN3.co_oh) (ninS (Ne.symm HN3.b_oh) nin0)))
       have hE4_58 := hE4_43.keep KQ58
       have hE5_58 := hE5_43.keep KQ58
       have hE6_58 := hE6_43.keep KQ58
       have hO6_58 := hO6_43.keep KQ58 (ninS ne_o6_b1 (ninS ne_o6_co3 (ninS ne_o6_b3 nin0)))
       have hE39_58 := hE39_43.keep KQ58
       have hV39_58 := hV39_43.keep KQ58 (ninS ne_c39_b1 (ninS ne_c39_co3 (ninS ne_c39_b3 nin0)))
       have hC39_58 := hC39_43.keep KQ58 (ninS ne_c39_b1 (ninS ne_c39_co3 (ninS ne_c39_b3 nin0)))
       have hB39_58 := hB39_43.keep KQ58 (ninS ne_d39_b1 (ninS ne_d39_co3 (ninS ne_d39_b3 nin0)))
       have hO41_58 := hO41_43.keep KQ58 (ninS ne_o4_b1 (ninS ne_o4_co3 (ninS ne_o4_b3 nin0)))
       have hO43_58 := hO43.keep KQ58 (ninS ne_o5_b1 (ninS ne_o5_co3 (ninS ne_o5_b3 nin0)))
       have hk_58 := Nat.le_trans hk_43 KQ58.1
       have z_58 : n0 ≤ h58.size := Nat.le_trans z_43 KQ58.1
       have K_58 : Keep h0 h58 [] := Keep.trans K_43 KQ58 (allS (Or.inr sz_b1) (allS (Or.inr sz_co3) (allS (Or.inr sz_b3) all0)))
       have N_58 := Fr.app N_43 NQ58
       show GoesW p e below s _ _ _ T58 (mkF m 129 #[vI p1, vI p2, vI p3, vI p4, vI u1, vI u2, vI u3, vI (1 : Int32), vI (1 : Int32), vR b1, vR o4, vR o5, vR o6, vU, vU, vU, vU, vU, vU] [])
       refine GoesW.step (fun _ k => XS.aload X58.here hx rfl (hb hby at_129) rfl rfl k) ?_
       refine GoesW.step (fun _ k => XS.aload X58.here hx rfl (hb hby at_131) rfl rfl k) ?_
       obtain ⟨v59, T59, h59, L59, X59, e59, Q59, st59⟩ := callXV X58 hx hZ (C := "com/example/proxysmith/proxysmith/Bytecode") (b := b1) (y := y_23) (z := y_23) hown (wof hw 155 rfl) (wof hw 156 rfl) (wof hw 158 rfl) (wof hw 157 rfl) (wof hw 159 rfl) (wof hw 3 rfl) (notFace_of_selects (args := #[]) (mvT hZ (wof hw 158 rfl))) (by decide) (W := 0) (argsL := [(.ref o6)]) (rest := []) (rm23 l Z a0 hw [] b1 o6 co3 (((0 + la) + lb) + lc) h58 n0 z_58 HA58.Fcode HB58.E HB58.size hE6_58 hO6_58 ge_o6 (Ne.symm ne_o6_b1) (Ne.symm ne_o6_co3)) (by decide) (by decide) (by decide) (by decide) e58 E_b1_58 (g := (mkF m 133 #[vI p1, vI p2, vI p3, vI p4, vI u1, vI u2, vI u3, vI (1 : Int32), vI (1 : Int32), vR b1, vR o4, vR o5, vR o6, vU, vU, vU, vU, vU, vU] [(.ref o6), (.ref b1)])) rfl (by rw [hml]; rfl) (lenOf pd_0_2 rfl) rfl (by show 2 * 0 + _ ≤ _; exact Nat.le_of_eq rfl) (hb hby at_133)
       obtain ⟨rfl, NQ59, KQ59, hO59⟩ := Q59
       refine GoesW.step st59 ?_
       have E_b1_59 := E_b1_58.keep KQ59
       have HL3_59 := HL3_58.keep KQ59 (ninS (Ne.symm ne_o6_lj3) nin0) (ninS (Ne.symm ne_o6_lf3) nin0) (ninS (Ne.symm ne_o6_lh3) nin0) (ninS (Ne.symm ne_o6_oh3) nin0)
       have hE4_59 := hE4_58.keep KQ59
       have hE5_59 := hE5_58.keep KQ59
       have hE6_59 := hE6_58.keep KQ59
       have hE39_59 := hE39_58.keep KQ59
       have hV39_59 := hV39_58.keep KQ59 (ninS ne_c39_o6 nin0)
       have hC39_59 := hC39_58.keep KQ59 (ninS ne_c39_o6 nin0)
       have hB39_59 := hB39_58.keep KQ59 (ninS ne_d39_o6 nin0)
       have hO41_59 := hO41_58.keep KQ59 (ninS (Ne.symm ne_o6_o4) nin0)
       have hO43_59 := hO43_58.keep KQ59 (ninS (Ne.symm ne_o6_o5) nin0)
       have HA58_59 := HA58.keep KQ59 (ninS (Ne.symm ne_o6_b1) nin0)
       have HB58_59 := HB58.keep KQ59 (ninS (Ne.symm ne_o6_co3) nin0) (ninS (Ne.symm ne_o6_b3) nin0)
       have hk_59 := Nat.le_trans hk_58 KQ59.1
       have z_59 : n0 ≤ h59.size := Nat.le_trans z_58 KQ59.1
       have K_59 : Keep h0 h59 [] := Keep.trans K_58 KQ59 (allS (Or.inr sz_o6) all0)
       have N_59 := Fr.app N_58 NQ59
       show GoesW p e below s _ _ _ T59 (mkF m 136 #[vI p1, vI p2, vI p3, vI p4, vI u1, vI u2, vI u3, vI (1 : Int32), vI (1 : Int32), vR b1, vR o4, vR o5, vR o6, vU, vU, vU, vU, vU, vU] [])
       refine GoesW.step (fun _ k => XS.aload X59.here hx rfl (hb hby at_136) rfl rfl k) ?_
       refine GoesW.step (fun _ k => XS.aload X59.here hx rfl (hb hby at_138) rfl rfl k) ?_
       refine GoesW.step (fun _ k => XS.aload X59.here hx rfl (hb hby at_140) rfl rfl k) ?_
       refine GoesW.step (fun _ k => XS.aload X59.here hx rfl (hb hby at_142) rfl rfl k) ?_
       refine GoesW.step (fun _ k => XS.aconstNull X59.here hx rfl (hb hby at_144) k) ?_
       obtain ⟨v60, T60, h60, L60, X60, e60, Q60, st60⟩ := callXV X59 hx hZ (C := "com/example/proxysmith/proxysmith/Bytecode") (b := b1) (y := y_25) (z := y_25) hown (wof hw 166 rfl) (wof hw 167 rfl) (wof hw 169 rfl) (wof hw 168 rfl) (wof hw 170 rfl) (wof hw 3 rfl) (notFace_of_selects (args := #[]) (mvT hZ (wof hw 169 rfl))) (by decide) (W := 0) (argsL := [(.ref o4), (.ref o5), (.ref o6), .null]) (rest := []) (rm25 l Z a0 hw [] b1 o4 o5 o6 lj3 lf3 lh3 oh3 h59 n0 z_59 HA58_59.Fhandlers HL3_59 ge_lh3 ge_oh3 HN3.lj_lh HN3.lf_lh HN3.lj_oh HN3.lf_oh HN3.lh_oh HN3.a_lh HN3.a_oh) (by decide) (by decide) (by decide) (by decide) e59 E_b1_59 (g := (mkF m 145 #[vI p1, vI p2, vI p3, vI p4, vI u1, vI u2, vI u3, vI (1 : Int32), vI (1 : Int32), vR b1, vR o4, vR o5, vR o6, vU, vU, vU, vU, vU, vU] [.null, (.ref o6), (.ref o5), (.ref o4), (.ref b1)])) rfl (by rw [hml]; rfl) (lenOf pd_0_4 rfl) rfl (by show 2 * 0 + _ ≤ _; exact Nat.le_of_eq rfl) (hb hby at_145)
       obtain ⟨ha60, rfl, NQ60, KQ60, sha60, HM60⟩ := Q60
       refine GoesW.step st60 ?_
       have E_b1_60 := E_b1_59.keep KQ60
       have hE4_60 := hE4_59.keep KQ60
       have hE5_60 := hE5_59.keep KQ60
       have hE6_60 := hE6_59.keep KQ60
       have hO41_60 := hO41_59.keep KQ60 (ninS ne_o4_lh3 (ninS ne_o4_oh3 nin0))
       have hO43_60 := hO43_59.keep KQ60 (ninS ne_o5_lh3 (ninS ne_o5_oh3 nin0))
       have HA58_60 := HA58_59.keep KQ60 (ninS HN3.a_lh (ninS HN3.a_oh nin0))
       have HB58_60 := HB58_59.keep KQ60 (ninS HN3.co_lh (ninS HN3.co_oh nin0)) (ninS HN3.b_lh (ninS HN3.b_oh nin0))
       have hO59_60 := hO59.keep KQ60 (ninS ne_o6_lh3 (ninS ne_o6_oh3 nin0))
       have hk_60 := Nat.le_trans hk_59 KQ60.1
       have z_60 : n0 ≤ h60.size := Nat.le_trans z_59 KQ60.1
       have K_60 : Keep h0 h60 [] := Keep.trans K_59 KQ60 (allS (Or.inr sz_lh3) (allS (Or.inr sz_oh3) all0))
       have N_60 := Fr.app N_59 NQ60
       show GoesW p e below s _ _ _ T60 (mkF m 148 #[vI p1, vI p2, vI p3, vI p4, vI u1, vI u2, vI u3, vI (1 : Int32), vI (1 : Int32), vR b1, vR o4, vR o5, vR o6, vU, vU, vU, vU, vU, vU] [])
       refine GoesW.step (fun _ k => XS.aload X60.here hx rfl (hb hby at_148) rfl rfl k) ?_
       obtain ⟨v61, T61, h61, L61, X61, e61, Q61, st61⟩ := callXV X60 hx hZ (C := "com/example/proxysmith/proxysmith/Bytecode") (b := b1) (y := y_30) (z := y_30) hown (wof hw 210 rfl) (wof hw 211 rfl) (wof hw 213 rfl) (wof hw 212 rfl) (wof hw 214 rfl) (wof hw 3 rfl) (notFace_of_selects (args := #[]) (mvT hZ (wof hw 213 rfl))) (by decide) (W := 0) (argsL := []) (rest := []) (rm30 l Z a0 hw [] b1 co3 lj3 lf3 lh3 (((0 + 1) + 1) + 1) ml58 b3 (((0 + la) + lb) + lc) f58 oh3 ha60 o4 o5 o6 (0 + la) ((0 + la) + lb) (((0 + la) + lb) + lc) h60 n0 z_60 HA58_60 HB58_60 HM60 hO41_60 hO43_60 hO59_60 (by omega) (by omega) (by omega) (by omega) (by decide)) (by decide) (by decide) (by decide) (by decide) e60 E_b1_60 (g := (mkF m 150 #[vI p1, vI p2, vI p3, vI p4, vI u1, vI u2, vI u3, vI (1 : Int32), vI (1 : Int32), vR b1, vR o4, vR o5, vR o6, vU, vU, vU, vU, vU, vU] [(.ref b1)])) rfl (by rw [hml]; rfl) (lenOf pd_0_5 rfl) rfl (by show 2 * 0 + _ ≤ _; exact Nat.le_of_eq rfl) (hb hby at_150)
       obtain ⟨o61, g61, rfl, NQ61, KQ61, so61, hA61, hu0_61, hu1_61, hu2_61, hu3_61, hu4_61, hu5_61, hu6_61, hu7_61, hu8_61⟩ := Q61
       refine GoesW.step st61 ?_
       have E_b1_61 := E_b1_60.keep KQ61
       have hE4_61 := hE4_60.keep KQ61
       have hE5_61 := hE5_60.keep KQ61
       have hE6_61 := hE6_60.keep KQ61
       have hO41_61 := hO41_60.keep KQ61 nin0
       have hO43_61 := hO43_60.keep KQ61 nin0
       have HA58_61 := HA58_60.keep KQ61 nin0
       have HB58_61 := HB58_60.keep KQ61 nin0 nin0
       have hO59_61 := hO59_60.keep KQ61 nin0
       have HM60_61 := HM60.keep KQ61
       have hk_61 := Nat.le_trans hk_60 KQ61.1
       have z_61 : n0 ≤ h61.size := Nat.le_trans z_60 KQ61.1
       have K_61 : Keep h0 h61 [] := Keep.trans K_60 KQ61 all0
       have N_61 := Fr.app N_60 NQ61
       show GoesW p e below s _ _ _ T61 (mkF m 153 #[vI p1, vI p2, vI p3, vI p4, vI u1, vI u2, vI u3, vI (1 : Int32), vI (1 : Int32), vR b1, vR o4, vR o5, vR o6, vU, vU, vU, vU, vU, vU] [(.ref o61)])
       refine GoesW.step (fun _ k => XS.astore X61.here hx rfl (hb hby at_153) rfl rfl (l' := #[vI p1, vI p2, vI p3, vI p4, vI u1, vI u2, vI u3, vI (1 : Int32), vI (1 : Int32), vR b1, vR o4, vR o5, vR o6, vR o61, vU, vU, vU, vU, vU]) rfl k) ?_
       refine GoesW.step (fun _ k => XS.iload X61.here hx rfl (hb hby at_155) rfl k) ?_
       refine GoesW.step (fun _ k => XS.ifNo X61.here hx rfl (hb hby at_157) rfl ((if0 _ _).trans (feq (by decide : ¬ ((1 : Int32) = (0 : Int32)))).1) k) ?_
       show GoesW p e below s _ _ _ T61 (mkF m 160 #[vI p1, vI p2, vI p3, vI p4, vI u1, vI u2, vI u3, vI (1 : Int32), vI (1 : Int32), vR b1, vR o4, vR o5, vR o6, vR o61, vU, vU, vU, vU, vU] [])
       refine GoesW.step (fun _ k => XS.iload X61.here hx rfl (hb hby at_160) rfl k) ?_
       obtain ⟨T62, X62, e62, st62⟩ := callPure X61 hx hZ (y := y_47) hown (wof hw 330 rfl) (wof hw 331 rfl) (wof hw 332 rfl) (wof hw 333 rfl) (by decide) (W := 0) (argsL := [(.int u1)]) (rest := []) (r := (.int (f47 u1))) (fun _ _ _ q => q) (rm47 l Z a0 hw [] u1 h61 ) (by decide) (by decide) (by decide) (by decide) e61 (g := (mkF m 162 #[vI p1, vI p2, vI p3, vI p4, vI u1, vI u2, vI u3, vI (1 : Int32), vI (1 : Int32), vR b1, vR o4, vR o5, vR o6, vR o61, vU, vU, vU, vU, vU] [(.int u1)])) rfl (by rw [hml]; rfl) (lenOf pd_0_6 rfl) rfl (by show 2 * 0 + _ ≤ _; exact Nat.le_of_eq rfl) (hb hby at_162)
       refine GoesW.step st62 ?_
       show GoesW p e below s _ _ _ T62 (mkF m 165 #[vI p1, vI p2, vI p3, vI p4, vI u1, vI u2, vI u3, vI (1 : Int32), vI (1 : Int32), vR b1, vR o4, vR o5, vR o6, vR o61, vU, vU, vU, vU, vU] [(.int (f47 u1))])
       rw [own_lenF, ela]
       refine GoesW.step (fun _ k => XS.goto X62.here hx rfl (pc0 := 165) (pc' := 169) rfl (hb hby at_165) (by decide) (by decide) k) ?_
       refine GoesW.step (fun _ k => XS.istore X62.here hx rfl (hb hby at_169) rfl (l' := #[vI p1, vI p2, vI p3, vI p4, vI u1, vI u2, vI u3, vI (1 : Int32), vI (1 : Int32), vR b1, vR o4, vR o5, vR o6, vR o61, vI (Int32.ofNat la), vU, vU, vU, vU]) rfl k) ?_
       refine GoesW.step (fun _ k => XS.iload X62.here hx rfl (hb hby at_171) rfl k) ?_
       refine GoesW.step (fun _ k => XS.iload X62.here hx rfl (hb hby at_173) rfl k) ?_
       obtain ⟨T63, X63, e63, st63⟩ := callPure X62 hx hZ (y := y_47) hown (wof hw 330 rfl) (wof hw 331 rfl) (wof hw 332 rfl) (wof hw 333 rfl) (by decide) (W := 1) (argsL := [(.int u2)]) (rest := [(.int (Int32.ofNat la))]) (r := (.int (f47 u2))) (fun _ _ _ q => q) (rm47 l Z a0 hw [] u2 h61 ) (by decide) (by decide) (by decide) (by decide) e62 (g := (mkF m 175 #[vI p1, vI p2, vI p3, vI p4, vI u1, vI u2, vI u3, vI (1 : Int32), vI (1 : Int32), vR b1, vR o4, vR o5, vR o6, vR o61, vI (Int32.ofNat la), vU, vU, vU, vU] [(.int u2), (.int (Int32.ofNat la))])) rfl (by rw [hml]; rfl) (lenOf pd_0_6 rfl) rfl (by show 2 * 0 + _ ≤ _; exact Nat.le_of_eq rfl) (hb hby at_175)
       refine GoesW.step st63 ?_
       show GoesW p e below s _ _ _ T63 (mkF m 178 #[vI p1, vI p2, vI p3, vI p4, vI u1, vI u2, vI u3, vI (1 : Int32), vI (1 : Int32), vR b1, vR o4, vR o5, vR o6, vR o61, vI (Int32.ofNat la), vU, vU, vU, vU] [(.int (f47 u2)), (.int (Int32.ofNat la))])
       rw [own_lenF, elb]
       refine GoesW.step (fun _ k => XS.iadd X63.here hx rfl (hb hby at_178) rfl k) ?_
       show GoesW p e below s _ _ _ T63 (mkF m 179 #[vI p1, vI p2, vI p3, vI p4, vI u1, vI u2, vI u3, vI (1 : Int32), vI (1 : Int32), vR b1, vR o4, vR o5, vR o6, vR o61, vI (Int32.ofNat la), vU, vU, vU, vU] [(.int ((Int32.ofNat la) + (Int32.ofNat lb)))])
       rw [show ((Int32.ofNat la) + (Int32.ofNat lb)) = Int32.ofNat (la + lb) from own_add _ _]
       refine GoesW.step (fun _ k => XS.istore X63.here hx rfl (hb hby at_179) rfl (l' := #[vI p1, vI p2, vI p3, vI p4, vI u1, vI u2, vI u3, vI (1 : Int32), vI (1 : Int32), vR b1, vR o4, vR o5, vR o6, vR o61, vI (Int32.ofNat la), vI (Int32.ofNat (la + lb)), vU, vU, vU]) rfl k) ?_
       refine GoesW.step (fun _ k => XS.iload X63.here hx rfl (hb hby at_181) rfl k) ?_
       refine GoesW.step (fun _ k => XS.iload X63.here hx rfl (hb hby at_183) rfl k) ?_
       refine GoesW.step (fun _ k => XS.ifNo X63.here hx rfl (hb hby at_185) rfl ((if0 _ _).trans (feq (by decide : ¬ ((1 : Int32) = (0 : Int32)))).1) k) ?_
       show GoesW p e below s _ _ _ T63 (mkF m 188 #[vI p1, vI p2, vI p3, vI p4, vI u1, vI u2, vI u3, vI (1 : Int32), vI (1 : Int32), vR b1, vR o4, vR o5, vR o6, vR o61, vI (Int32.ofNat la), vI (Int32.ofNat (la + lb)), vU, vU, vU] [(.int (Int32.ofNat (la + lb)))])
       refine GoesW.step (fun _ k => XS.iload X63.here hx rfl (hb hby at_188) rfl k) ?_
       obtain ⟨T64, X64, e64, st64⟩ := callPure X63 hx hZ (y := y_47) hown (wof hw 330 rfl) (wof hw 331 rfl) (wof hw 332 rfl) (wof hw 333 rfl) (by decide) (W := 1) (argsL := [(.int u3)]) (rest := [(.int (Int32.ofNat (la + lb)))]) (r := (.int (f47 u3))) (fun _ _ _ q => q) (rm47 l Z a0 hw [] u3 h61 ) (by decide) (by decide) (by decide) (by decide) e63 (g := (mkF m 190 #[vI p1, vI p2, vI p3, vI p4, vI u1, vI u2, vI u3, vI (1 : Int32), vI (1 : Int32), vR b1, vR o4, vR o5, vR o6, vR o61, vI (Int32.ofNat la), vI (Int32.ofNat (la + lb)), vU, vU, vU] [(.int u3), (.int (Int32.ofNat (la + lb)))])) rfl (by rw [hml]; rfl) (lenOf pd_0_6 rfl) rfl (by show 2 * 0 + _ ≤ _; exact Nat.le_of_eq rfl) (hb hby at_190)
       refine GoesW.step st64 ?_
       show GoesW p e below s _ _ _ T64 (mkF m 193 #[vI p1, vI p2, vI p3, vI p4, vI u1, vI u2, vI u3, vI (1 : Int32), vI (1 : Int32), vR b1, vR o4, vR o5, vR o6, vR o61, vI (Int32.ofNat la), vI (Int32.ofNat (la + lb)), vU, vU, vU] [(.int (f47 u3)), (.int (Int32.ofNat (la + lb)))])
       rw [own_lenF, elc]
       refine GoesW.step (fun _ k => XS.goto X64.here hx rfl (pc0 := 193) (pc' := 197) rfl (hb hby at_193) (by decide) (by decide) k) ?_
       refine GoesW.step (fun _ k => XS.iadd X64.here hx rfl (hb hby at_197) rfl k) ?_
       show GoesW p e below s _ _ _ T64 (mkF m 198 #[vI p1, vI p2, vI p3, vI p4, vI u1, vI u2, vI u3, vI (1 : Int32), vI (1 : Int32), vR b1, vR o4, vR o5, vR o6, vR o61, vI (Int32.ofNat la), vI (Int32.ofNat (la + lb)), vU, vU, vU] [(.int ((Int32.ofNat (la + lb)) + (Int32.ofNat lc)))])
       rw [show ((Int32.ofNat (la + lb)) + (Int32.ofNat lc)) = Int32.ofNat ((la + lb) + lc) from own_add _ _]
       refine GoesW.step (fun _ k => XS.istore X64.here hx rfl (hb hby at_198) rfl (l' := #[vI p1, vI p2, vI p3, vI p4, vI u1, vI u2, vI u3, vI (1 : Int32), vI (1 : Int32), vR b1, vR o4, vR o5, vR o6, vR o61, vI (Int32.ofNat la), vI (Int32.ofNat (la + lb)), vI (Int32.ofNat ((la + lb) + lc)), vU, vU]) rfl k) ?_
       refine GoesW.step (fun _ k => XS.iconst X64.here hx rfl (hb hby at_200) k) ?_
       refine GoesW.step (fun _ k => XS.iload X64.here hx rfl (hb hby at_201) rfl k) ?_
       refine GoesW.step (fun _ k => XS.ifNo X64.here hx rfl (hb hby at_203) rfl ((if0 _ _).trans (feq (by decide : ¬ ((1 : Int32) = (0 : Int32)))).1) k) ?_
       show GoesW p e below s _ _ _ T64 (mkF m 206 #[vI p1, vI p2, vI p3, vI p4, vI u1, vI u2, vI u3, vI (1 : Int32), vI (1 : Int32), vR b1, vR o4, vR o5, vR o6, vR o61, vI (Int32.ofNat la), vI (Int32.ofNat (la + lb)), vI (Int32.ofNat ((la + lb) + lc)), vU, vU] [(.int (1 : Int32))])
       refine GoesW.step (fun _ k => XS.iconst X64.here hx rfl (hb hby at_206) k) ?_
       as_aux_lemma =>
        refine GoesW.step (fun _ k => XS.goto X64.here hx rfl (pc0 := 207) (pc' := 211) rfl (hb hby at_207) (by decide) (by decide) k) ?_
        refine GoesW.step (fun _ k => XS.iadd X64.here hx rfl (hb hby at_211) rfl k) ?_
        show GoesW p e below s _ _ _ T64 (mkF m 212 #[vI p1, vI p2, vI p3, vI p4, vI u1, vI u2, vI u3, vI (1 : Int32), vI (1 : Int32), vR b1, vR o4, vR o5, vR o6, vR o61, vI (Int32.ofNat la), vI (Int32.ofNat (la + lb)), vI (Int32.ofNat ((la + lb) + lc)), vU, vU] [(.int (2 : Int32))])
        refine GoesW.step (fun _ k => XS.iload X64.here hx rfl (hb hby at_212) rfl k) ?_
        refine GoesW.step (fun _ k => XS.ifNo X64.here hx rfl (hb hby at_214) rfl ((if0 _ _).trans (feq (by decide : ¬ ((1 : Int32) = (0 : Int32)))).1) k) ?_
        show GoesW p e below s _ _ _ T64 (mkF m 217 #[vI p1, vI p2, vI p3, vI p4, vI u1, vI u2, vI u3, vI (1 : Int32), vI (1 : Int32), vR b1, vR o4, vR o5, vR o6, vR o61, vI (Int32.ofNat la), vI (Int32.ofNat (la + lb)), vI (Int32.ofNat ((la + lb) + lc)), vU, vU] [(.int (2 : Int32))])
        refine GoesW.step (fun _ k => XS.iconst X64.here hx rfl (hb hby at_217) k) ?_
        refine GoesW.step (fun _ k => XS.goto X64.here hx rfl (pc0 := 218) (pc' := 222) rfl (hb hby at_218) (by decide) (by decide) k) ?_
        refine GoesW.step (fun _ k => XS.iadd X64.here hx rfl (hb hby at_222) rfl k) ?_
        show GoesW p e below s _ _ _ T64 (mkF m 223 #[vI p1, vI p2, vI p3, vI p4, vI u1, vI u2, vI u3, vI (1 : Int32), vI (1 : Int32), vR b1, vR o4, vR o5, vR o6, vR o61, vI (Int32.ofNat la), vI (Int32.ofNat (la + lb)), vI (Int32.ofNat ((la + lb) + lc)), vU, vU] [(.int (3 : Int32))])
        refine GoesW.step (fun _ k => XS.istore X64.here hx rfl (hb hby at_223) rfl (l' := #[vI p1, vI p2, vI p3, vI p4, vI u1, vI u2, vI u3, vI (1 : Int32), vI (1 : Int32), vR b1, vR o4, vR o5, vR o6, vR o61, vI (Int32.ofNat la), vI (Int32.ofNat (la + lb)), vI (Int32.ofNat ((la + lb) + lc)), vI (3 : Int32), vU]) rfl k) ?_
        refine GoesW.step (fun _ k => XS.aload X64.here hx rfl (hb hby at_225) rfl rfl k) ?_
        refine GoesW.step (fun _ k => rdL X64 hx hZ e64 hA61 (g := (mkF m 227 #[vI p1, vI p2, vI p3, vI p4, vI u1, vI u2, vI u3, vI (1 : Int32), vI (1 : Int32), vR b1, vR o4, vR o5, vR o6, vR o61, vI (Int32.ofNat la), vI (Int32.ofNat (la + lb)), vI (Int32.ofNat ((la + lb) + lc)), vI (3 : Int32), vU] [(.ref o61)])) rfl rfl (hb hby at_227) _ k) ?_
        show GoesW p e below s _ _ _ T64 (mkF m 228 #[vI p1, vI p2, vI p3, vI p4, vI u1, vI u2, vI u3, vI (1 : Int32), vI (1 : Int32), vR b1, vR o4, vR o5, vR o6, vR o61, vI (Int32.ofNat la), vI (Int32.ofNat (la + lb)), vI (Int32.ofNat ((la + lb) + lc)), vI (3 : Int32), vU] [(.int (Int32.ofNat (((((0 + la) + lb) + lc) + 20))))])
        refine GoesW.step (fun _ k => XS.bipush X64.here hx rfl (hb hby at_228) k) ?_
        refine GoesW.step (fun _ k => XS.iload X64.here hx rfl (hb hby at_230) rfl k) ?_
        refine GoesW.step (fun _ k => XS.iadd X64.here hx rfl (hb hby at_232) rfl k) ?_
        show GoesW p e below s _ _ _ T64 (mkF m 233 #[vI p1, vI p2, vI p3, vI p4, vI u1, vI u2, vI u3, vI (1 : Int32), vI (1 : Int32), vR b1, vR o4, vR o5, vR o6, vR o61, vI (Int32.ofNat la), vI (Int32.ofNat (la + lb)), vI (Int32.ofNat ((la + lb) + lc)), vI (3 : Int32), vU] [(.int ((20 : Int32) + (Int32.ofNat ((la + lb) + lc)))), (.int (Int32.ofNat (((((0 + la) + lb) + lc) + 20))))])
        refine GoesW.step (fun _ k => XS.icmpYes X64.here hx rfl (pc0 := 233) (pc' := 238) rfl (hb hby at_233) rfl (teq (by rw [show ((20 : Int32) + (Int32.ofNat ((la + lb) + lc))) = Int32.ofNat (20 + ((la + lb) + lc)) from own_add 20 _]; exact congrArg Int32.ofNat (by omega))).1 (by decide) (by decide) k) ?_
        show GoesW p e below s _ _ _ T64 (mkF m 238 #[vI p1, vI p2, vI p3, vI p4, vI u1, vI u2, vI u3, vI (1 : Int32), vI (1 : Int32), vR b1, vR o4, vR o5, vR o6, vR o61, vI (Int32.ofNat la), vI (Int32.ofNat (la + lb)), vI (Int32.ofNat ((la + lb) + lc)), vI (3 : Int32), vU] [])
        refine GoesW.step (fun _ k => XS.bipush X64.here hx rfl (hb hby at_238) k) ?_
        refine GoesW.step (fun _ k => XS.iload X64.here hx rfl (hb hby at_240) rfl k) ?_
        refine GoesW.step (fun _ k => XS.iadd X64.here hx rfl (hb hby at_242) rfl k) ?_
        show GoesW p e below s _ _ _ T64 (mkF m 243 #[vI p1, vI p2, vI p3, vI p4, vI u1, vI u2, vI u3, vI (1 : Int32), vI (1 : Int32), vR b1, vR o4, vR o5, vR o6, vR o61, vI (Int32.ofNat la), vI (Int32.ofNat (la + lb)), vI (Int32.ofNat ((la + lb) + lc)), vI (3 : Int32), vU] [(.int ((8 : Int32) + (Int32.ofNat ((la + lb) + lc))))])
        rw [show ((8 : Int32) + (Int32.ofNat ((la + lb) + lc))) = Int32.ofNat (8 + ((la + lb) + lc)) from own_add _ _]
        refine GoesW.step (fun _ k => XS.istore X64.here hx rfl (hb hby at_243) rfl (l' := #[vI p1, vI p2, vI p3, vI p4, vI u1, vI u2, vI u3, vI (1 : Int32), vI (1 : Int32), vR b1, vR o4, vR o5, vR o6, vR o61, vI (Int32.ofNat la), vI (Int32.ofNat (la + lb)), vI (Int32.ofNat ((la + lb) + lc)), vI (3 : Int32), vI (Int32.ofNat (8 + ((la + lb) + lc)))]) rfl k) ?_
        refine GoesW.step (fun _ k => XS.aload X64.here hx rfl (hb hby at_245) rfl rfl k) ?_
        refine GoesW.step (fun _ k => XS.iconst X64.here hx rfl (hb hby at_247) k) ?_
        obtain ⟨T65, X65, e65, st65⟩ := own_pure (r := some (.int (own_u2 g61 (0)))) (fun _ _ _ q => q) (callX X64 hx hZ (y := y_48) hown (wof hw 334 rfl) (wof hw 335 rfl) (wof hw 332 rfl) (wof hw 336 rfl) (by decide) (W := 0) (argsL := [(.ref o61), (.int (0 : Int32))]) (rest := []) (rm48 l Z a0 hw [] o61 (0 : Int32) (0) ((((0 + la) + lb) + lc) + 20) g61 h61 n0 z_61 hA61 rfl (by omega)) (by decide) (by decide) (by decide) (by decide) e64 (g := (mkF m 248 #[vI p1, vI p2, vI p3, vI p4, vI u1, vI u2, vI u3, vI (1 : Int32), vI (1 : Int32), vR b1, vR o4, vR o5, vR o6, vR o61, vI (Int32.ofNat la), vI (Int32.ofNat (la + lb)), vI (Int32.ofNat ((la + lb) + lc)), vI (3 : Int32), vI (Int32.ofNat (8 + ((la + lb) + lc)))] [(.int (0 : Int32)), (.ref o61)])) rfl (by rw [hml]; rfl) (lenOf pd_0_7 rfl) rfl (by show 2 * 0 + _ ≤ _; exact Nat.le_of_eq rfl) (hb hby at_248))
        refine GoesW.step st65 ?_
        show GoesW p e below s _ _ _ T65 (mkF m 251 #[vI p1, vI p2, vI p3, vI p4, vI u1, vI u2, vI u3, vI (1 : Int32), vI (1 : Int32), vR b1, vR o4, vR o5, vR o6, vR o61, vI (Int32.ofNat la), vI (Int32.ofNat (la + lb)), vI (Int32.ofNat ((la + lb) + lc)), vI (3 : Int32), vI (Int32.ofNat (8 + ((la + lb) + lc)))] [(.int (own_u2 g61 (0)))])
        refine GoesW.step (fun _ k => XS.iload X65.here hx rfl (hb hby at_251) rfl k) ?_
        refine GoesW.step (fun _ k => XS.icmpNo X65.here hx rfl (hb hby at_253) rfl (teq ((congrArg (own_u2 g61) (by omega)).trans (hu0_61.trans (by decide)))).2 k) ?_
        show GoesW p e below s _ _ _ T65 (mkF m 256 #[vI p1, vI p2, vI p3, vI p4, vI u1, vI u2, vI u3, vI (1 : Int32), vI (1 : Int32), vR b1, vR o4, vR o5, vR o6, vR o61, vI (Int32.ofNat la), vI (Int32.ofNat (la + lb)), vI (Int32.ofNat ((la + lb) + lc)), vI (3 : Int32), vI (Int32.ofNat (8 + ((la + lb) + lc)))] [])
        refine GoesW.step (fun _ k => XS.aload X65.here hx rfl (hb hby at_256) rfl rfl k) ?_
        refine GoesW.step (fun _ k => XS.iconst X65.here hx rfl (hb hby at_258) k) ?_
        obtain ⟨T66, X66, e66, st66⟩ := own_pure (r := some (.int (own_u2 g61 (4)))) (fun _ _ _ q => q) (callX X65 hx hZ (y := y_48) hown (wof hw 334 rfl) (wof hw 335 rfl) (wof hw 332 rfl) (wof hw 336 rfl) (by decide) (W := 0) (argsL := [(.ref o61), (.int (4 : Int32))]) (rest := []) (rm48 l Z a0 hw [] o61 (4 : Int32) (4) ((((0 + la) + lb) + lc) + 20) g61 h61 n0 z_61 hA61 rfl (by omega)) (by decide) (by decide) (by decide) (by decide) e65 (g := (mkF m 259 #[vI p1, vI p2, vI p3, vI p4, vI u1, vI u2, vI u3, vI (1 : Int32), vI (1 : Int32), vR b1, vR o4, vR o5, vR o6, vR o61, vI (Int32.ofNat la), vI (Int32.ofNat (la + lb)), vI (Int32.ofNat ((la + lb) + lc)), vI (3 : Int32), vI (Int32.ofNat (8 + ((la + lb) + lc)))] [(.int (4 : Int32)), (.ref o61)])) rfl (by rw [hml]; rfl) (lenOf pd_0_7 rfl) rfl (by show 2 * 0 + _ ≤ _; exact Nat.le_of_eq rfl) (hb hby at_259))
        refine GoesW.step st66 ?_
        show GoesW p e below s _ _ _ T66 (mkF m 262 #[vI p1, vI p2, vI p3, vI p4, vI u1, vI u2, vI u3, vI (1 : Int32), vI (1 : Int32), vR b1, vR o4, vR o5, vR o6, vR o61, vI (Int32.ofNat la), vI (Int32.ofNat (la + lb)), vI (Int32.ofNat ((la + lb) + lc)), vI (3 : Int32), vI (Int32.ofNat (8 + ((la + lb) + lc)))] [(.int (own_u2 g61 (4)))])
        refine GoesW.step (fun _ k => XS.ifNo X66.here hx rfl (hb hby at_262) rfl ((if0 _ _).trans (teq ((congrArg (own_u2 g61) (by omega)).trans (hu1_61.trans rfl))).2) k) ?_
        show GoesW p e below s _ _ _ T66 (mkF m 265 #[vI p1, vI p2, vI p3, vI p4, vI u1, vI u2, vI u3, vI (1 : Int32), vI (1 : Int32), vR b1, vR o4, vR o5, vR o6, vR o61, vI (Int32.ofNat la), vI (Int32.ofNat (la + lb)), vI (Int32.ofNat ((la + lb) + lc)), vI (3 : Int32), vI (Int32.ofNat (8 + ((la + lb) + lc)))] [])
        refine GoesW.step (fun _ k => XS.aload X66.here hx rfl (hb hby at_265) rfl rfl k) ?_
        refine GoesW.step (fun _ k => XS.bipush X66.here hx rfl (hb hby at_267) k) ?_
        obtain ⟨T67, X67, e67, st67⟩ := own_pure (r := some (.int (own_u2 g61 (6)))) (fun _ _ _ q => q) (callX X66 hx hZ (y := y_48) hown (wof hw 334 rfl) (wof hw 335 rfl) (wof hw 332 rfl) (wof hw 336 rfl) (by decide) (W := 0) (argsL := [(.ref o61), (.int (6 : Int32))]) (rest := []) (rm48 l Z a0 hw [] o61 (6 : Int32) (6) ((((0 + la) + lb) + lc) + 20) g61 h61 n0 z_61 hA61 rfl (by omega)) (by decide) (by decide) (by decide) (by decide) e66 (g := (mkF m 269 #[vI p1, vI p2, vI p3, vI p4, vI u1, vI u2, vI u3, vI (1 : Int32), vI (1 : Int32), vR b1, vR o4, vR o5, vR o6, vR o61, vI (Int32.ofNat la), vI (Int32.ofNat (la + lb)), vI (Int32.ofNat ((la + lb) + lc)), vI (3 : Int32), vI (Int32.ofNat (8 + ((la + lb) + lc)))] [(.int (6 : Int32)), (.ref o61)])) rfl (by rw [hml]; rfl) (lenOf pd_0_7 rfl) rfl (by show 2 * 0 + _ ≤ _; exact Nat.le_of_eq rfl) (hb hby at_269))
        refine GoesW.step st67 ?_
        show GoesW p e below s _ _ _ T67 (mkF m 272 #[vI p1, vI p2, vI p3, vI p4, vI u1, vI u2, vI u3, vI (1 : Int32), vI (1 : Int32), vR b1, vR o4, vR o5, vR o6, vR o61, vI (Int32.ofNat la), vI (Int32.ofNat (la + lb)), vI (Int32.ofNat ((la + lb) + lc)), vI (3 : Int32), vI (Int32.ofNat (8 + ((la + lb) + lc)))] [(.int (own_u2 g61 (6)))])
        refine GoesW.step (fun _ k => XS.iload X67.here hx rfl (hb hby at_272) rfl k) ?_
        refine GoesW.step (fun _ k => XS.icmpNo X67.here hx rfl (hb hby at_274) rfl (teq ((congrArg (own_u2 g61) (by omega)).trans (hu2_61.trans (congrArg Int32.ofNat (by omega))))).2 k) ?_
        show GoesW p e below s _ _ _ T67 (mkF m 277 #[vI p1, vI p2, vI p3, vI p4, vI u1, vI u2, vI u3, vI (1 : Int32), vI (1 : Int32), vR b1, vR o4, vR o5, vR o6, vR o61, vI (Int32.ofNat la), vI (Int32.ofNat (la + lb)), vI (Int32.ofNat ((la + lb) + lc)), vI (3 : Int32), vI (Int32.ofNat (8 + ((la + lb) + lc)))] [])
        refine GoesW.step (fun _ k => XS.aload X67.here hx rfl (hb hby at_277) rfl rfl k) ?_
        refine GoesW.step (fun _ k => XS.iload X67.here hx rfl (hb hby at_279) rfl k) ?_
        obtain ⟨T68, X68, e68, st68⟩ := own_pure (r := some (.int (own_u2 g61 ((8 + ((la + lb) + lc)))))) (fun _ _ _ q => q) (callX X67 hx hZ (y := y_48) hown (wof hw 334 rfl) (wof hw 335 rfl) (wof hw 332 rfl) (wof hw 336 rfl) (by decide) (W := 0) (argsL := [(.ref o61), (.int (Int32.ofNat (8 + ((la + lb) + lc))))]) (rest := []) (rm48 l Z a0 hw [] o61 (Int32.ofNat (8 + ((la + lb) + lc))) ((8 + ((la + lb) + lc))) ((((0 + la) + lb) + lc) + 20) g61 h61 n0 z_61 hA61 rfl (by omega)) (by decide) (by decide) (by decide) (by decide) e67 (g := (mkF m 281 #[vI p1, vI p2, vI p3, vI p4, vI u1, vI u2, vI u3, vI (1 : Int32), vI (1 : Int32), vR b1, vR o4, vR o5, vR o6, vR o61, vI (Int32.ofNat la), vI (Int32.ofNat (la + lb)), vI (Int32.ofNat ((la + lb) + lc)), vI (3 : Int32), vI (Int32.ofNat (8 + ((la + lb) + lc)))] [(.int (Int32.ofNat (8 + ((la + lb) + lc)))), (.ref o61)])) rfl (by rw [hml]; rfl) (lenOf pd_0_7 rfl) rfl (by show 2 * 0 + _ ≤ _; exact Nat.le_of_eq rfl) (hb hby at_281))
        refine GoesW.step st68 ?_
        show GoesW p e below s _ _ _ T68 (mkF m 284 #[vI p1, vI p2, vI p3, vI p4, vI u1, vI u2, vI u3, vI (1 : Int32), vI (1 : Int32), vR b1, vR o4, vR o5, vR o6, vR o61, vI (Int32.ofNat la), vI (Int32.ofNat (la + lb)), vI (Int32.ofNat ((la + lb) + lc)), vI (3 : Int32), vI (Int32.ofNat (8 + ((la + lb) + lc)))] [(.int (own_u2 g61 ((8 + ((la + lb) + lc)))))])
        refine GoesW.step (fun _ k => XS.iconst X68.here hx rfl (hb hby at_284) k) ?_
        refine GoesW.step (fun _ k => XS.icmpNo X68.here hx rfl (hb hby at_285) rfl (teq ((congrArg (own_u2 g61) (by omega)).trans (hu3_61.trans rfl))).2 k) ?_
        show GoesW p e below s _ _ _ T68 (mkF m 288 #[vI p1, vI p2, vI p3, vI p4, vI u1, vI u2, vI u3, vI (1 : Int32), vI (1 : Int32), vR b1, vR o4, vR o5, vR o6, vR o61, vI (Int32.ofNat la), vI (Int32.ofNat (la + lb)), vI (Int32.ofNat ((la + lb) + lc)), vI (3 : Int32), vI (Int32.ofNat (8 + ((la + lb) + lc)))] [])
        refine GoesW.step (fun _ k => XS.aload X68.here hx rfl (hb hby at_288) rfl rfl k) ?_
        refine GoesW.step (fun _ k => XS.iload X68.here hx rfl (hb hby at_290) rfl k) ?_
        refine GoesW.step (fun _ k => XS.iconst X68.here hx rfl (hb hby at_292) k) ?_
        as_aux_lemma =>
         refine GoesW.step (fun _ k => XS.iadd X68.here hx rfl (hb hby at_293) rfl k) ?_
         show GoesW p e below s _ _ _ T68 (mkF m 294 #[vI p1, vI p2, vI p3, vI p4, vI u1, vI u2, vI u3, vI (1 : Int32), vI (1 : Int32), vR b1, vR o4, vR o5, vR o6, vR o61, vI (Int32.ofNat la), vI (Int32.ofNat (la + lb)), vI (Int32.ofNat ((la + lb) + lc)), vI (3 : Int32), vI (Int32.ofNat (8 + ((la + lb) + lc)))] [(.int ((Int32.ofNat (8 + ((la + lb) + lc))) + (2 : Int32))), (.ref o61)])
         rw [show ((Int32.ofNat (8 + ((la + lb) + lc))) + (2 : Int32)) = Int32.ofNat ((8 + ((la + lb) + lc)) + 2) from own_add _ _]
         obtain ⟨T69, X69, e69, st69⟩ := own_pure (r := some (.int (own_u2 g61 (((8 + ((la + lb) + lc)) + 2))))) (fun _ _ _ q => q) (callX X68 hx hZ (y := y_48) hown (wof hw 334 rfl) (wof hw 335 rfl) (wof hw 332 rfl) (wof hw 336 rfl) (by decide) (W := 0) (argsL := [(.ref o61), (.int (Int32.ofNat ((8 + ((la + lb) + lc)) + 2)))]) (rest := []) (rm48 l Z a0 hw [] o61 (Int32.ofNat ((8 + ((la + lb) + lc)) + 2)) (((8 + ((la + lb) + lc)) + 2)) ((((0 + la) + lb) + lc) + 20) g61 h61 n0 z_61 hA61 rfl (by omega)) (by decide) (by decide) (by decide) (by decide) e68 (g := (mkF m 294 #[vI p1, vI p2, vI p3, vI p4, vI u1, vI u2, vI u3, vI (1 : Int32), vI (1 : Int32), vR b1, vR o4, vR o5, vR o6, vR o61, vI (Int32.ofNat la), vI (Int32.ofNat (la + lb)), vI (Int32.ofNat ((la + lb) + lc)), vI (3 : Int32), vI (Int32.ofNat (8 + ((la + lb) + lc)))] [(.int (Int32.ofNat ((8 + ((la + lb) + lc)) + 2))), (.ref o61)])) rfl (by rw [hml]; rfl) (lenOf pd_0_7 rfl) rfl (by show 2 * 0 + _ ≤ _; exact Nat.le_of_eq rfl) (hb hby at_294))
         refine GoesW.step st69 ?_
         show GoesW p e below s _ _ _ T69 (mkF m 297 #[vI p1, vI p2, vI p3, vI p4, vI u1, vI u2, vI u3, vI (1 : Int32), vI (1 : Int32), vR b1, vR o4, vR o5, vR o6, vR o61, vI (Int32.ofNat la), vI (Int32.ofNat (la + lb)), vI (Int32.ofNat ((la + lb) + lc)), vI (3 : Int32), vI (Int32.ofNat (8 + ((la + lb) + lc)))] [(.int (own_u2 g61 (((8 + ((la + lb) + lc)) + 2))))])
         refine GoesW.step (fun _ k => XS.iload X69.here hx rfl (hb hby at_297) rfl k) ?_
         refine GoesW.step (fun _ k => XS.icmpNo X69.here hx rfl (hb hby at_299) rfl (teq ((congrArg (own_u2 g61) (by omega)).trans (hu4_61.trans (congrArg Int32.ofNat (by omega))))).2 k) ?_
         show GoesW p e below s _ _ _ T69 (mkF m 302 #[vI p1, vI p2, vI p3, vI p4, vI u1, vI u2, vI u3, vI (1 : Int32), vI (1 : Int32), vR b1, vR o4, vR o5, vR o6, vR o61, vI (Int32.ofNat la), vI (Int32.ofNat (la + lb)), vI (Int32.ofNat ((la + lb) + lc)), vI (3 : Int32), vI (Int32.ofNat (8 + ((la + lb) + lc)))] [])
         refine GoesW.step (fun _ k => XS.aload X69.here hx rfl (hb hby at_302) rfl rfl k) ?_
         refine GoesW.step (fun _ k => XS.iload X69.here hx rfl (hb hby at_304) rfl k) ?_
         refine GoesW.step (fun _ k => XS.iconst X69.here hx rfl (hb hby at_306) k) ?_
         refine GoesW.step (fun _ k => XS.iadd X69.here hx rfl (hb hby at_307) rfl k) ?_
         show GoesW p e below s _ _ _ T69 (mkF m 308 #[vI p1, vI p2, vI p3, vI p4, vI u1, vI u2, vI u3, vI (1 : Int32), vI (1 : Int32), vR b1, vR o4, vR o5, vR o6, vR o61, vI (Int32.ofNat la), vI (Int32.ofNat (la + lb)), vI (Int32.ofNat ((la + lb) + lc)), vI (3 : Int32), vI (Int32.ofNat (8 + ((la + lb) + lc)))] [(.int ((Int32.ofNat (8 + ((la + lb) + lc))) + (4 : Int32))), (.ref o61)])
         rw [show ((Int32.ofNat (8 + ((la + lb) + lc))) + (4 : Int32)) = Int32.ofNat ((8 + ((la + lb) + lc)) + 4) from own_add _ _]
         obtain ⟨T70, X70, e70, st70⟩ := own_pure (r := some (.int (own_u2 g61 (((8 + ((la + lb) + lc)) + 4))))) (fun _ _ _ q => q) (callX X69 hx hZ (y := y_48) hown (wof hw 334 rfl) (wof hw 335 rfl) (wof hw 332 rfl) (wof hw 336 rfl) (by decide) (W := 0) (argsL := [(.ref o61), (.int (Int32.ofNat ((8 + ((la + lb) + lc)) + 4)))]) (rest := []) (rm48 l Z a0 hw [] o61 (Int32.ofNat ((8 + ((la + lb) + lc)) + 4)) (((8 + ((la + lb) + lc)) + 4)) ((((0 + la) + lb) + lc) + 20) g61 h61 n0 z_61 hA61 rfl (by omega)) (by decide) (by decide) (by decide) (by decide) e69 (g := (mkF m 308 #[vI p1, vI p2, vI p3, vI p4, vI u1, vI u2, vI u3, vI (1 : Int32), vI (1 : Int32), vR b1, vR o4, vR o5, vR o6, vR o61, vI (Int32.ofNat la), vI (Int32.ofNat (la + lb)), vI (Int32.ofNat ((la + lb) + lc)), vI (3 : Int32), vI (Int32.ofNat (8 + ((la + lb) + lc)))] [(.int (Int32.ofNat ((8 + ((la + lb) + lc)) + 4))), (.ref o61)])) rfl (by rw [hml]; rfl) (lenOf pd_0_7 rfl) rfl (by show 2 * 0 + _ ≤ _; exact Nat.le_of_eq rfl) (hb hby at_308))
         refine GoesW.step st70 ?_
         show GoesW p e below s _ _ _ T70 (mkF m 311 #[vI p1, vI p2, vI p3, vI p4, vI u1, vI u2, vI u3, vI (1 : Int32), vI (1 : Int32), vR b1, vR o4, vR o5, vR o6, vR o61, vI (Int32.ofNat la), vI (Int32.ofNat (la + lb)), vI (Int32.ofNat ((la + lb) + lc)), vI (3 : Int32), vI (Int32.ofNat (8 + ((la + lb) + lc)))] [(.int (own_u2 g61 (((8 + ((la + lb) + lc)) + 4))))])
         refine GoesW.step (fun _ k => XS.iload X70.here hx rfl (hb hby at_311) rfl k) ?_
         refine GoesW.step (fun _ k => XS.icmpNo X70.here hx rfl (hb hby at_313) rfl (teq ((congrArg (own_u2 g61) (by omega)).trans (hu5_61.trans (congrArg Int32.ofNat (by omega))))).2 k) ?_
         show GoesW p e below s _ _ _ T70 (mkF m 316 #[vI p1, vI p2, vI p3, vI p4, vI u1, vI u2, vI u3, vI (1 : Int32), vI (1 : Int32), vR b1, vR o4, vR o5, vR o6, vR o61, vI (Int32.ofNat la), vI (Int32.ofNat (la + lb)), vI (Int32.ofNat ((la + lb) + lc)), vI (3 : Int32), vI (Int32.ofNat (8 + ((la + lb) + lc)))] [])
         refine GoesW.step (fun _ k => XS.aload X70.here hx rfl (hb hby at_316) rfl rfl k) ?_
         refine GoesW.step (fun _ k => XS.iload X70.here hx rfl (hb hby at_318) rfl k) ?_
         refine GoesW.step (fun _ k => XS.bipush X70.here hx rfl (hb hby at_320) k) ?_
         refine GoesW.step (fun _ k => XS.iadd X70.here hx rfl (hb hby at_322) rfl k) ?_
         show GoesW p e below s _ _ _ T70 (mkF m 323 #[vI p1, vI p2, vI p3, vI p4, vI u1, vI u2, vI u3, vI (1 : Int32), vI (1 : Int32), vR b1, vR o4, vR o5, vR o6, vR o61, vI (Int32.ofNat la), vI (Int32.ofNat (la + lb)), vI (Int32.ofNat ((la + lb) + lc)), vI (3 : Int32), vI (Int32.ofNat (8 + ((la + lb) + lc)))] [(.int ((Int32.ofNat (8 + ((la + lb) + lc))) + (6 : Int32))), (.ref o61)])
         rw [show ((Int32.ofNat (8 + ((la + lb) + lc))) + (6 : Int32)) = Int32.ofNat ((8 + ((la + lb) + lc)) + 6) from own_add _ _]
         obtain ⟨T71, X71, e71, st71⟩ := own_pure (r := some (.int (own_u2 g61 (((8 + ((la + lb) + lc)) + 6))))) (fun _ _ _ q => q) (callX X70 hx hZ (y := y_48) hown (wof hw 334 rfl) (wof hw 335 rfl) (wof hw 332 rfl) (wof hw 336 rfl) (by decide) (W := 0) (argsL := [(.ref o61), (.int (Int32.ofNat ((8 + ((la + lb) + lc)) + 6)))]) (rest := []) (rm48 l Z a0 hw [] o61 (Int32.ofNat ((8 + ((la + lb) + lc)) + 6)) (((8 + ((la + lb) + lc)) + 6)) ((((0 + la) + lb) + lc) + 20) g61 h61 n0 z_61 hA61 rfl (by omega)) (by decide) (by decide) (by decide) (by decide) e70 (g := (mkF m 323 #[vI p1, vI p2, vI p3, vI p4, vI u1, vI u2, vI u3, vI (1 : Int32), vI (1 : Int32), vR b1, vR o4, vR o5, vR o6, vR o61, vI (Int32.ofNat la), vI (Int32.ofNat (la + lb)), vI (Int32.ofNat ((la + lb) + lc)), vI (3 : Int32), vI (Int32.ofNat (8 + ((la + lb) + lc)))] [(.int (Int32.ofNat ((8 + ((la + lb) + lc)) + 6))), (.ref o61)])) rfl (by rw [hml]; rfl) (lenOf pd_0_7 rfl) rfl (by show 2 * 0 + _ ≤ _; exact Nat.le_of_eq rfl) (hb hby at_323))
         refine GoesW.step st71 ?_
         show GoesW p e below s _ _ _ T71 (mkF m 326 #[vI p1, vI p2, vI p3, vI p4, vI u1, vI u2, vI u3, vI (1 : Int32), vI (1 : Int32), vR b1, vR o4, vR o5, vR o6, vR o61, vI (Int32.ofNat la), vI (Int32.ofNat (la + lb)), vI (Int32.ofNat ((la + lb) + lc)), vI (3 : Int32), vI (Int32.ofNat (8 + ((la + lb) + lc)))] [(.int (own_u2 g61 (((8 + ((la + lb) + lc)) + 6))))])
         refine GoesW.step (fun _ k => XS.iload X71.here hx rfl (hb hby at_326) rfl k) ?_
         refine GoesW.step (fun _ k => XS.icmpNo X71.here hx rfl (hb hby at_328) rfl (teq ((congrArg (own_u2 g61) (by omega)).trans (hu6_61.trans (congrArg Int32.ofNat (by omega))))).2 k) ?_
         show GoesW p e below s _ _ _ T71 (mkF m 331 #[vI p1, vI p2, vI p3, vI p4, vI u1, vI u2, vI u3, vI (1 : Int32), vI (1 : Int32), vR b1, vR o4, vR o5, vR o6, vR o61, vI (Int32.ofNat la), vI (Int32.ofNat (la + lb)), vI (Int32.ofNat ((la + lb) + lc)), vI (3 : Int32), vI (Int32.ofNat (8 + ((la + lb) + lc)))] [])
         refine GoesW.step (fun _ k => XS.aload X71.here hx rfl (hb hby at_331) rfl rfl k) ?_
         refine GoesW.step (fun _ k => XS.iload X71.here hx rfl (hb hby at_333) rfl k) ?_
         refine GoesW.step (fun _ k => XS.bipush X71.here hx rfl (hb hby at_335) k) ?_
         refine GoesW.step (fun _ k => XS.iadd X71.here hx rfl (hb hby at_337) rfl k) ?_
         show GoesW p e below s _ _ _ T71 (mkF m 338 #[vI p1, vI p2, vI p3, vI p4, vI u1, vI u2, vI u3, vI (1 : Int32), vI (1 : Int32), vR b1, vR o4, vR o5, vR o6, vR o61, vI (Int32.ofNat la), vI (Int32.ofNat (la + lb)), vI (Int32.ofNat ((la + lb) + lc)), vI (3 : Int32), vI (Int32.ofNat (8 + ((la + lb) + lc)))] [(.int ((Int32.ofNat (8 + ((la + lb) + lc))) + (8 : Int32))), (.ref o61)])
         rw [show ((Int32.ofNat (8 + ((la + lb) + lc))) + (8 : Int32)) = Int32.ofNat ((8 + ((la + lb) + lc)) + 8) from own_add _ _]
         obtain ⟨T72, X72, e72, st72⟩ := own_pure (r := some (.int (own_u2 g61 (((8 + ((la + lb) + lc)) + 8))))) (fun _ _ _ q => q) (callX X71 hx hZ (y := y_48) hown (wof hw 334 rfl) (wof hw 335 rfl) (wof hw 332 rfl) (wof hw 336 rfl) (by decide) (W := 0) (argsL := [(.ref o61), (.int (Int32.ofNat ((8 + ((la + lb) + lc)) + 8)))]) (rest := []) (rm48 l Z a0 hw [] o61 (Int32.ofNat ((8 + ((la + lb) + lc)) + 8)) (((8 + ((la + lb) + lc)) + 8)) ((((0 + la) + lb) + lc) + 20) g61 h61 n0 z_61 hA61 rfl (by omega)) (by decide) (by decide) (by decide) (by decide) e71 (g := (mkF m 338 #[vI p1, vI p2, vI p3, vI p4, vI u1, vI u2, vI u3, vI (1 : Int32), vI (1 : Int32), vR b1, vR o4, vR o5, vR o6, vR o61, vI (Int32.ofNat la), vI (Int32.ofNat (la + lb)), vI (Int32.ofNat ((la + lb) + lc)), vI (3 : Int32), vI (Int32.ofNat (8 + ((la + lb) + lc)))] [(.int (Int32.ofNat ((8 + ((la + lb) + lc)) + 8))), (.ref o61)])) rfl (by rw [hml]; rfl) (lenOf pd_0_7 rfl) rfl (by show 2 * 0 + _ ≤ _; exact Nat.le_of_eq rfl) (hb hby at_338))
         refine GoesW.step st72 ?_
         show GoesW p e below s _ _ _ T72 (mkF m 341 #[vI p1, vI p2, vI p3, vI p4, vI u1, vI u2, vI u3, vI (1 : Int32), vI (1 : Int32), vR b1, vR o4, vR o5, vR o6, vR o61, vI (Int32.ofNat la), vI (Int32.ofNat (la + lb)), vI (Int32.ofNat ((la + lb) + lc)), vI (3 : Int32), vI (Int32.ofNat (8 + ((la + lb) + lc)))] [(.int (own_u2 g61 (((8 + ((la + lb) + lc)) + 8))))])
         refine GoesW.step (fun _ k => XS.ifNo X72.here hx rfl (hb hby at_341) rfl ((if0 _ _).trans (teq ((congrArg (own_u2 g61) (by omega)).trans (hu7_61.trans rfl))).2) k) ?_
         show GoesW p e below s _ _ _ T72 (mkF m 344 #[vI p1, vI p2, vI p3, vI p4, vI u1, vI u2, vI u3, vI (1 : Int32), vI (1 : Int32), vR b1, vR o4, vR o5, vR o6, vR o61, vI (Int32.ofNat la), vI (Int32.ofNat (la + lb)), vI (Int32.ofNat ((la + lb) + lc)), vI (3 : Int32), vI (Int32.ofNat (8 + ((la + lb) + lc)))] [])
         refine GoesW.step (fun _ k => XS.aload X72.here hx rfl (hb hby at_344) rfl rfl k) ?_
         refine GoesW.step (fun _ k => XS.iload X72.here hx rfl (hb hby at_346) rfl k) ?_
         refine GoesW.step (fun _ k => XS.bipush X72.here hx rfl (hb hby at_348) k) ?_
         refine GoesW.step (fun _ k => XS.iadd X72.here hx rfl (hb hby at_350) rfl k) ?_
         show GoesW p e below s _ _ _ T72 (mkF m 351 #[vI p1, vI p2, vI p3, vI p4, vI u1, vI u2, vI u3, vI (1 : Int32), vI (1 : Int32), vR b1, vR o4, vR o5, vR o6, vR o61, vI (Int32.ofNat la), vI (Int32.ofNat (la + lb)), vI (Int32.ofNat ((la + lb) + lc)), vI (3 : Int32), vI (Int32.ofNat (8 + ((la + lb) + lc)))] [(.int ((Int32.ofNat (8 + ((la + lb) + lc))) + (10 : Int32))), (.ref o61)])
         rw [show ((Int32.ofNat (8 + ((la + lb) + lc))) + (10 : Int32)) = Int32.ofNat ((8 + ((la + lb) + lc)) + 10) from own_add _ _]
         obtain ⟨T73, X73, e73, st73⟩ := own_pure (r := some (.int (own_u2 g61 (((8 + ((la + lb) + lc)) + 10))))) (fun _ _ _ q => q) (callX X72 hx hZ (y := y_48) hown (wof hw 334 rfl) (wof hw 335 rfl) (wof hw 332 rfl) (wof hw 336 rfl) (by decide) (W := 0) (argsL := [(.ref o61), (.int (Int32.ofNat ((8 + ((la + lb) + lc)) + 10)))]) (rest := []) (rm48 l Z a0 hw [] o61 (Int32.ofNat ((8 + ((la + lb) + lc)) + 10)) (((8 + ((la + lb) + lc)) + 10)) ((((0 + la) + lb) + lc) + 20) g61 h61 n0 z_61 hA61 rfl (by omega)) (by decide) (by decide) (by decide) (by decide) e72 (g := (mkF m 351 #[vI p1, vI p2, vI p3, vI p4, vI u1, vI u2, vI u3, vI (1 : Int32), vI (1 : Int32), vR b1, vR o4, vR o5, vR o6, vR o61, vI (Int32.ofNat la), vI (Int32.ofNat (la + lb)), vI (Int32.ofNat ((la + lb) + lc)), vI (3 : Int32), vI (Int32.ofNat (8 + ((la + lb) + lc)))] [(.int (Int32.ofNat ((8 + ((la + lb) + lc)) + 10))), (.ref o61)])) rfl (by rw [hml]; rfl) (lenOf pd_0_7 rfl) rfl (by show 2 * 0 + _ ≤ _; exact Nat.le_of_eq rfl) (hb hby at_351))
         refine GoesW.step st73 ?_
         show GoesW p e below s _ _ _ T73 (mkF m 354 #[vI p1, vI p2, vI p3, vI p4, vI u1, vI u2, vI u3, vI (1 : Int32), vI (1 : Int32), vR b1, vR o4, vR o5, vR o6, vR o61, vI (Int32.ofNat la), vI (Int32.ofNat (la + lb)), vI (Int32.ofNat ((la + lb) + lc)), vI (3 : Int32), vI (Int32.ofNat (8 + ((la + lb) + lc)))] [(.int (own_u2 g61 (((8 + ((la + lb) + lc)) + 10))))])
         refine GoesW.step (fun _ k => XS.ifNo X73.here hx rfl (hb hby at_354) rfl ((if0 _ _).trans (teq ((congrArg (own_u2 g61) (by omega)).trans (hu8_61.trans rfl))).2) k) ?_
         show GoesW p e below s _ _ _ T73 (mkF m 357 #[vI p1, vI p2, vI p3, vI p4, vI u1, vI u2, vI u3, vI (1 : Int32), vI (1 : Int32), vR b1, vR o4, vR o5, vR o6, vR o61, vI (Int32.ofNat la), vI (Int32.ofNat (la + lb)), vI (Int32.ofNat ((la + lb) + lc)), vI (3 : Int32), vI (Int32.ofNat (8 + ((la + lb) + lc)))] [])
         refine GoesW.step (fun _ k => XS.iconst X73.here hx rfl (hb hby at_357) k) ?_
         refine GoesW.step (fun _ k => XS.goto X73.here hx rfl (pc0 := 358) (pc' := 362) rfl (hb hby at_358) (by decide) (by decide) k) ?_
         show GoesW p e below s _ _ _ T73 (mkF m 362 #[vI p1, vI p2, vI p3, vI p4, vI u1, vI u2, vI u3, vI (1 : Int32), vI (1 : Int32), vR b1, vR o4, vR o5, vR o6, vR o61, vI (Int32.ofNat la), vI (Int32.ofNat (la + lb)), vI (Int32.ofNat ((la + lb) + lc)), vI (3 : Int32), vI (Int32.ofNat (8 + ((la + lb) + lc)))] [(.int (1 : Int32))])
         exact GoesW.outN (s := s) (vm₁ := T39.vm) X73 hS39 (by first | (rw [e73]; exact hk_61) | exact Nat.le_refl _) hx hlk (t := .boolean) Bd.returns (by simp) (hb hby at_362) ⟨rfl, N_61⟩ (by decide) (by decide)
set_option maxRecDepth 65536 in
set_option maxHeartbeats 40000000 in
theorem comes_1 {Post : Tables → Env → Array Value → State → Outcome → State → Prop} (hpost : ∀ tb e args s v u, (limb_1_1.after args s (.returned v) u = true ∧ limb_1_2.after args s (.returned v) u = true ∧ True) → FramedW s (.returned v) u (Jvm.fieldLocs frame_1_writes args s ++ Jvm.arrayLocs frame_1_arrays args s ++ Jvm.staticLocs frame_1_statics s) 48 2368 → Post tb e args s (.returned v) u) :
    ArmFor flags0 classFile x code maxLocals ret World_1 tables_1 room_1 Calls_1 rest_1 Pre_1 Post := by
  intro l hfl _ _ p e ha hc hk s m args below hf hA hF happ hP
  obtain ⟨hcalls, hrest, hpre⟩ := hP
  obtain ⟨-, -, -, hnamed, -, -, -, hat⟩ := (Spec.applies_iff hf).mp happ
  obtain ⟨hg, hn⟩ := and_e (Cond.before_iff.mp (show (Jvm.Cond.and given_1 narrow_1).before args s = true from hpre))
  obtain ⟨hcnt, g0⟩ := and_e hg
  obtain ⟨i0, g1⟩ := and_e g0
  obtain ⟨i1, g2⟩ := and_e g1
  obtain ⟨i2, g3⟩ := and_e g2
  have i3 := g3
  obtain ⟨w0, w1, w2, w3, rfl⟩ : ∃ w0 w1 w2 w3 : Value, args = #[w0, w1, w2, w3] := by
    have hs : args.size = 4 := by simpa [Cond.value, given_1] using hcnt
    obtain ⟨L⟩ := args
    match L, hs with
    | [w0, w1, w2, w3], _ => exact ⟨w0, w1, w2, w3, rfl⟩
  have hw := fun d (hd : d ∈ tables_1) => atoms_spec (ws := Jvm.Cond.code x code maxLocals ret :: tables_1) hat d (List.mem_cons_of_mem _ hd)
  obtain ⟨z0, e0⟩ := is_v i0
  obtain rfl : w0 = (.int z0) := Option.some.inj e0
  obtain ⟨z1, e1⟩ := is_v i1
  obtain rfl : w1 = (.int z1) := Option.some.inj e1
  obtain ⟨z2, e2⟩ := is_v i2
  obtain rfl : w2 = (.int z2) := Option.some.inj e2
  obtain ⟨z3, e3⟩ := is_v i3
  obtain rfl : w3 = (.int z3) := Option.some.inj e3
  obtain ⟨hsets, hown0⟩ := atoms_of _ (rest_1_c_eq ▸ (show rest_1_c.before _ s = true from hrest))
  have n5 := not_v (Cond.before_iff.mp (hsets _ (List.mem_of_getElem? (i := 2) rfl)))
  obtain ⟨i11, e10⟩ := is_v (Cond.before_iff.mp (hsets _ (List.mem_of_getElem? (i := 1) rfl)))
  have S12 : Sta s s.heap "java/lang/String" "COMPACT_STRINGS" "Z" (.int i11) := Sta.start e10 (Or.inl (hsets _ (List.mem_of_getElem? (i := 0) rfl)))
  have c17 : ¬ (i11 = (0 : Int32)) := gotF (Cond.eq_ints e10 (Term.int_eval (0))) n5
  obtain ⟨o13, e13⟩ : ∃ oF : Option Addr, (Term.static "jdk/internal/util/Preconditions" "SIOOBE_FORMATTER" "Ljava/util/function/BiFunction;").eval _ s none [] s = some (ov oF) := own_isref (Cond.before_iff.mp (hsets _ (List.mem_of_getElem? (i := 8) rfl)))
  have S14 : Sta s s.heap "jdk/internal/util/Preconditions" "SIOOBE_FORMATTER" "Ljava/util/function/BiFunction;" (ov o13) := Sta.start e13 (Or.inl (hsets _ (List.mem_of_getElem? (i := 7) rfl)))
  have hc1 : Jvm.Lit.constHeld s "com/example/proxysmith/proxysmith/BytecodePlacePinLaw" 10 := hcalls.1 _ (List.mem_of_getElem? (i := 0) rfl)
  have hc2 : Jvm.Lit.constHeld s "com/example/proxysmith/proxysmith/BytecodePlacePinLaw" 18 := hcalls.1 _ (List.mem_of_getElem? (i := 1) rfl)
  have hcw := hsets _ (List.mem_of_getElem? (i := 2) rfl)
  obtain ⟨n, o, h1, h2, h3, v, L, rfl, ⟨rfl, N⟩, hq⟩ := rm0 l s _ hw tables_1 z0 z1 z2 z3 i11 o13 s.heap s.heap.size (Nat.le_refl _) S12 c17 (Old.start s) S14 rfl hc1 hc2 hcw p e ha hc hk s m _ below hf ((Spec.applies_iff_loose hf).mp happ).1 ⟨rfl, State.Warmed39.refl s, rfl, rfl⟩ trivial
  refine ⟨n, _, h1, h2, h3, hpost _ _ _ _ _ _ ⟨Cond.after_iff.mpr rfl, Cond.after_iff.mpr (eq_i res_at (Term.int_eval (1)) rfl), trivial⟩ ⟨hq.1, hq.2.1, hq.2.2.1, (hq.2.2.2.sift fun y hy => Or.inr (N y hy)).mono (by decide) (by decide)⟩⟩
theorem main_1_1 : Claimed_1_1 := comes_1 fun _ _ _ _ _ _ h hF => ⟨h.1, hF⟩
theorem main_1_2 : Claimed_1_2 := comes_1 fun _ _ _ _ _ _ h hF => ⟨h.2.1, hF⟩
end Jvm.Pilot.@@N@@
namespace Jvm.Pilot.@@N@@
open Jvm Jvm.ClassFile Sem Op Lib Jvm.Free Jvm.Stand Jvm.Pilot.@@N@@.Jvm.D
/-! MADE BY PROGRAM (witnessworld.py) out of the Statement's table words and the real class files: 34 classes; the members and pool entries that the words name. The judged class is class 1, her method 3. -/
namespace start1
open Jvm.ClassFile
def u (s : String) : CpInfo := .utf8 (stringToUtf16 s)
/-- a pool by its gaps: so many unusable entries, then the entry; so many at the end -/
def gap : Nat → List CpInfo → List CpInfo
  | 0, r => r
  | n + 1, r => .unusable :: gap n r
def poolList (es : List (Nat × CpInfo)) (last : Nat) : List CpInfo := es.foldr (fun e r => gap e.1 (e.2 :: r)) (gap last [])
def pool (es : List (Nat × CpInfo)) (last : Nat) : Array CpInfo := ⟨poolList es last⟩
def fileOf (pool : Array CpInfo) (this : Nat) (attrs : Array Attribute := #[]) (ms : Array MethodInfo := #[]) (fl : Nat := 33) (sup : Nat := 0) (ifs : Array Nat := #[]) (fds : Array FieldInfo := #[]) : ClassFile where
  minorVersion := 0
  majorVersion := 65
  constantPool := pool
  accessFlags := fl
  thisClass := this
  superClass := sup
  interfaces := ifs
  fields := fds
  methods := ms
  attributes := attrs
def plain (name : String) (sup : Option ClassId) : Class where
  name := name
  kind := .ordinary
  loader := none
  accessFlags := 33
  super := sup
  interfaces := #[]
  cf := none
  fields := #[]
  methods := #[]
  instanceTypes := #[]
  staticTypes := #[]
  resolved := #[]
  callSites := []
  init := .initialized
  statics := none
  mirror := none

def pool0 : Array CpInfo := pool [(5, u "<init>"), (0, u "()V"), (1, .class_ 10), (1, u "java/lang/Object")] 113

def k0c0 : Code := { maxStack := 0, maxLocals := 1, code := object_method_1_code, exceptionTable := #[], attributes := #[] }
def k0m0 : Method := { name := "<init>", desc := "()V", sig := { parameters := [], returnType := none }, accessFlags := 1, code := some k0c0 }
/-- java/lang/Object -/
def k0 : Class := { plain "java/lang/Object" none with
  accessFlags := 33
  interfaces := #[]
  cf := some (fileOf pool0 8 #[] #[{ accessFlags := 1, nameIndex := 5, descriptorIndex := 6, attributes := #[] }] 33 0 #[] #[])
  fields := #[]
  methods := #[k0m0]
  instanceTypes := #[]
  staticTypes := #[]
  resolved := Array.replicate 124 none
  statics := none }

def pool1 : Array CpInfo := pool [(2, .class_ 4), (1, u "java/lang/Object"), (0, u "<init>"), (0, u "()V"), (0, .integer 65535), (0, .class_ 9), (0, u "com/example/proxysmith/proxysmith/Bytecode"), (0, .string 6), (0, .methodref 8 12), (0, .nameAndType 5 13), (0, u "(Lcom/example/proxysmith/proxysmith/ClassFileWriter;Ljava/lang/String;Ljava/lang/String;)V"), (0, .methodref 8 15), (0, .nameAndType 16 17), (0, u "label"), (0, u "()Lcom/example/proxysmith/proxysmith/Bytecode$Label;"), (0, .string 19), (0, u "I"), (0, .methodref 8 21), (0, .nameAndType 22 23), (0, u "load"), (0, u "(Ljava/lang/String;I)V"), (0, .methodref 8 25), (0, .nameAndType 26 27), (0, u "place"), (0, u "(Lcom/example/proxysmith/proxysmith/Bytecode$Label;)V"), (0, .methodref 8 29), (0, .nameAndType 30 31), (0, u "handle"), (0, u "(Lcom/example/proxysmith/proxysmith/Bytecode$Label;Lcom/example/proxysmith/proxysmith/Bytecode$Label;Lcom/example/proxysmith/proxysmith/Bytecode$Label;Ljava/lang/String;)V"), (0, .methodref 8 33), (0, .nameAndType 34 35), (0, u "toAttribute"), (0, u "()[B"), (0, .methodref 37 38), (0, .class_ 39), (0, .nameAndType 40 41), (0, u "com/example/proxysmith/proxysmith/BytecodePlacePinLaw"), (0, u "len"), (0, u "(I)I"), (0, .methodref 37 43), (0, .nameAndType 44 45), (0, u "u2"), (0, u "([BI)I"), (3, u "law"), (0, u "(IIII)Z")] 8

def k1m0 : Method := { name := "<init>", desc := "()V", sig := { parameters := [], returnType := none }, accessFlags := 1, code := none }
def k1c1 : Code := { maxStack := 2, maxLocals := 1, code := method_2_code, exceptionTable := #[], attributes := #[] }
def k1m1 : Method := { name := "len", desc := "(I)I", sig := { parameters := [.int], returnType := some .int }, accessFlags := 10, code := some k1c1 }
def k1c2 : Code := { maxStack := 4, maxLocals := 2, code := method_3_code, exceptionTable := #[], attributes := #[] }
def k1m2 : Method := { name := "u2", desc := "([BI)I", sig := { parameters := [(.array .byte), .int], returnType := some .int }, accessFlags := 10, code := some k1c2 }
def k1c3 : Code := { maxStack := 5, maxLocals := 19, code := code, exceptionTable := #[], attributes := #[] }
def k1m3 : Method := { name := "law", desc := "(IIII)Z", sig := { parameters := [.int, .int, .int, .int], returnType := some .boolean }, accessFlags := 9, code := some k1c3 }
/-- com/example/proxysmith/proxysmith/BytecodePlacePinLaw -/
def k1 : Class := { plain "com/example/proxysmith/proxysmith/BytecodePlacePinLaw" (some 0) with
  accessFlags := 49
  interfaces := #[]
  cf := some (fileOf pool1 37 #[] #[{ accessFlags := 1, nameIndex := 5, descriptorIndex := 6, attributes := #[] }, { accessFlags := 10, nameIndex := 40, descriptorIndex := 41, attributes := #[] }, { accessFlags := 10, nameIndex := 44, descriptorIndex := 45, attributes := #[] }, { accessFlags := 9, nameIndex := 49, descriptorIndex := 50, attributes := #[] }] 49 2 #[] #[])
  fields := #[]
  methods := #[k1m0, k1m1, k1m2, k1m3]
  instanceTypes := #[]
  staticTypes := #[]
  resolved := Array.replicate 59 none
  statics := none }

def pool2 : Array CpInfo := pool [(1, .methodref 2 3), (0, .class_ 4), (0, .nameAndType 5 6), (0, u "java/lang/Object"), (0, u "<init>"), (0, u "()V"), (0, .class_ 8), (0, u "com/example/proxysmith/proxysmith/ClassFileWriter$Bytes"), (0, .methodref 7 10), (0, .nameAndType 5 11), (0, u "(I)V"), (0, .fieldref 13 14), (0, .class_ 15), (0, .nameAndType 16 17), (0, u "com/example/proxysmith/proxysmith/Bytecode"), (0, u "code"), (0, u "Lcom/example/proxysmith/proxysmith/ClassFileWriter$Bytes;"), (0, .class_ 19), (0, u "java/util/ArrayList"), (0, .methodref 18 10), (0, .fieldref 13 22), (0, .nameAndType 23 24), (0, u "jumps"), (0, u "Ljava/util/List;"), (0, .fieldref 13 26), (0, .nameAndType 27 24), (0, u "frames"), (0, .fieldref 13 29), (0, .nameAndType 30 24), (0, u "handlers"), (0, .fieldref 13 32), (0, .nameAndType 33 34), (0, u "reachable"), (0, u "Z"), (0, .fieldref 13 36), (0, .nameAndType 37 38), (0, u "owner"), (0, u "Lcom/example/proxysmith/proxysmith/ClassFileWriter;"), (0, .fieldref 13 40), (0, .nameAndType 41 42), (0, u "self"), (0, u "Ljava/lang/String;"), (0, .fieldref 13 44), (0, .nameAndType 45 42), (0, u "descriptor"), (0, .methodref 47 48), (0, .class_ 49), (0, .nameAndType 50 51), (0, u "java/lang/String"), (0, u "charAt"), (0, u "(I)C"), (4, .fieldref 13 57), (0, .nameAndType 58 59), (0, u "entrySlots"), (0, u "[I"), (0, .methodref 13 61), (0, .nameAndType 62 63), (0, u "slots"), (0, u "(C)I"), (0, .fieldref 13 65), (0, .nameAndType 66 67), (0, u "maxLocals"), (0, u "I"), (2, u "entryLocals"), (0, .interfaceMethodref 72 73), (0, .class_ 74), (0, .nameAndType 75 76), (0, u "java/util/List"), (0, u "add"), (0, u "(Ljava/lang/Object;)Z"), (10, .class_ 88), (0, u "com/example/proxysmith/proxysmith/Bytecode$Label"), (0, .methodref 87 3), (0, .fieldref 87 91), (0, .nameAndType 92 67), (0, u "offset"), (7, .methodref 7 101), (0, .nameAndType 102 103), (0, u "size"), (0, u "()I"), (2, u "place"), (0, u "(Lcom/example/proxysmith/proxysmith/Bytecode$Label;)V"), (0, .class_ 109), (0, u "com/example/proxysmith/proxysmith/Bytecode$Frame"), (3, .fieldref 13 114), (0, .nameAndType 115 67), (0, u "stack"), (0, .interfaceMethodref 72 117), (0, .nameAndType 118 119), (0, u "iterator"), (0, u "()Ljava/util/Iterator;"), (0, .interfaceMethodref 121 122), (0, .class_ 123), (0, .nameAndType 124 125), (0, u "java/util/Iterator"), (0, u "hasNext"), (0, u "()Z"), (0, .interfaceMethodref 121 127), (0, .nameAndType 128 129), (0, u "next"), (0, u "()Ljava/lang/Object;"), (0, .class_ 131), (0, u "com/example/proxysmith/proxysmith/Bytecode$Handler"), (0, .methodref 130 133), (0, .nameAndType 5 134), (0, u "(Lcom/example/proxysmith/proxysmith/Bytecode$Label;Lcom/example/proxysmith/proxysmith/Bytecode$Label;Lcom/example/proxysmith/proxysmith/Bytecode$Label;Ljava/lang/String;)V"), (0, .methodref 13 136), (0, .nameAndType 137 138), (0, u "local"), (0, u "(IIILjava/lang/String;)V"), (0, .methodref 13 140), (0, .nameAndType 141 11), (0, u "push"), (3, .methodref 13 146), (0, .nameAndType 147 148), (0, u "op"), (0, u "(II)V"), (5, u "(Ljava/lang/String;)I"), (15, .methodref 13 171), (0, .nameAndType 172 154), (0, u "kind"), (8, .class_ 182), (0, u "com/example/proxysmith/proxysmith/Bytecode$Jump"), (3, .methodref 7 187), (0, .nameAndType 188 11), (0, u "u2"), (0, .integer 65535), (10, u "()Lcom/example/proxysmith/proxysmith/Bytecode$Label;"), (0, .methodref 13 202), (0, .nameAndType 203 204), (0, u "offsetOf"), (0, u "(Lcom/example/proxysmith/proxysmith/Bytecode$Label;)I"), (7, .interfaceMethodref 72 213), (0, .nameAndType 214 125), (0, u "isEmpty"), (3, u "()[B"), (0, .interfaceMethodref 72 101), (0, .fieldref 13 221), (0, .nameAndType 222 67), (0, u "maxStack"), (0, .methodref 7 224), (0, .nameAndType 225 11), (0, u "u4"), (0, .methodref 7 227), (0, .nameAndType 228 229), (0, u "bytes"), (0, u "(Lcom/example/proxysmith/proxysmith/ClassFileWriter$Bytes;)V"), (0, .methodref 130 231), (0, .nameAndType 232 200), (0, u "start"), (0, .methodref 130 234), (0, .nameAndType 235 200), (0, u "end"), (0, .methodref 130 237), (0, .nameAndType 238 200), (0, u "handler"), (0, .methodref 130 240), (0, .nameAndType 241 242), (0, u "catchType"), (0, u "()Ljava/lang/String;"), (8, .methodref 7 252), (0, .nameAndType 253 218), (0, u "toByteArray"), (4, .methodref 7 259), (0, .nameAndType 260 11), (0, u "u1"), (24, u "(II)I"), (0, .methodref 287 288), (0, .class_ 289), (0, .nameAndType 290 285), (0, u "java/lang/Math"), (0, u "max"), (18, u "UNINITIALIZED_THIS"), (1, u "IFEQ"), (1, u "IFNE"), (1, u "IF_ACMPNE"), (1, u "GOTO"), (1, u "IFNULL"), (1, u "IFNONNULL"), (1, u "ACONST_NULL"), (1, u "ICONST_0"), (1, u "LCONST_0"), (1, u "FCONST_0"), (1, u "DCONST_0"), (1, u "LDC"), (1, u "LDC_W"), (1, u "ILOAD"), (1, u "ILOAD_0"), (1, u "ISTORE"), (1, u "ISTORE_0"), (1, u "POP"), (1, u "DUP"), (1, u "IRETURN"), (1, u "RETURN"), (1, u "GETSTATIC"), (1, u "PUTSTATIC"), (1, u "GETFIELD"), (1, u "PUTFIELD"), (1, u "INVOKEVIRTUAL"), (1, u "INVOKESPECIAL"), (1, u "INVOKESTATIC"), (1, u "INVOKEINTERFACE"), (1, u "NEW"), (1, u "ATHROW"), (1, u "CHECKCAST"), (1, u "MONITORENTER"), (1, u "MONITOREXIT"), (1, u "WIDE"), (1, u "ITEM_TOP"), (1, u "ITEM_INTEGER"), (0, u "ITEM_FLOAT"), (1, u "ITEM_DOUBLE"), (0, u "ITEM_LONG"), (1, u "ITEM_UNINITIALIZED_THIS"), (1, u "ITEM_OBJECT"), (1, u "FULL_FRAME"), (6, u "(Lcom/example/proxysmith/proxysmith/ClassFileWriter;Ljava/lang/String;Ljava/lang/String;)V"), (4, u "label"), (1, u "handle"), (0, u "load"), (0, u "(Ljava/lang/String;I)V"), (22, u "toAttribute")] 31

def k2c0 : Code := { maxStack := 4, maxLocals := 8, code := prog_2_method_1_code, exceptionTable := #[], attributes := #[] }
def k2m0 : Method := { name := "<init>", desc := "(Lcom/example/proxysmith/proxysmith/ClassFileWriter;Ljava/lang/String;Ljava/lang/String;)V", sig := { parameters := [(.object "com/example/proxysmith/proxysmith/ClassFileWriter"), (.object "java/lang/String"), (.object "java/lang/String")], returnType := none }, accessFlags := 0, code := some k2c0 }
def k2c1 : Code := { maxStack := 2, maxLocals := 1, code := prog_2_method_4_code, exceptionTable := #[], attributes := #[] }
def k2m1 : Method := { name := "label", desc := "()Lcom/example/proxysmith/proxysmith/Bytecode$Label;", sig := { parameters := [], returnType := some (.object "com/example/proxysmith/proxysmith/Bytecode$Label") }, accessFlags := 0, code := some k2c1 }
def k2c2 : Code := { maxStack := 3, maxLocals := 2, code := prog_2_method_5_code, exceptionTable := #[], attributes := #[] }
def k2m2 : Method := { name := "place", desc := "(Lcom/example/proxysmith/proxysmith/Bytecode$Label;)V", sig := { parameters := [(.object "com/example/proxysmith/proxysmith/Bytecode$Label")], returnType := none }, accessFlags := 0, code := some k2c2 }
def k2c3 : Code := { maxStack := 7, maxLocals := 5, code := prog_2_method_7_code, exceptionTable := #[], attributes := #[] }
def k2m3 : Method := { name := "handle", desc := "(Lcom/example/proxysmith/proxysmith/Bytecode$Label;Lcom/example/proxysmith/proxysmith/Bytecode$Label;Lcom/example/proxysmith/proxysmith/Bytecode$Label;Ljava/lang/String;)V", sig := { parameters := [(.object "com/example/proxysmith/proxysmith/Bytecode$Label"), (.object "com/example/proxysmith/proxysmith/Bytecode$Label"), (.object "com/example/proxysmith/proxysmith/Bytecode$Label"), (.object "java/lang/String")], returnType := none }, accessFlags := 0, code := some k2c3 }
def k2c4 : Code := { maxStack := 5, maxLocals := 3, code := prog_2_method_8_code, exceptionTable := #[], attributes := #[] }
def k2m4 : Method := { name := "load", desc := "(Ljava/lang/String;I)V", sig := { parameters := [(.object "java/lang/String"), .int], returnType := none }, accessFlags := 0, code := some k2c4 }
def k2c5 : Code := { maxStack := 3, maxLocals := 6, code := prog_2_method_31_code, exceptionTable := #[], attributes := #[] }
def k2m5 : Method := { name := "toAttribute", desc := "()[B", sig := { parameters := [], returnType := some (.array .byte) }, accessFlags := 0, code := some k2c5 }
def k2c6 : Code := { maxStack := 3, maxLocals := 1, code := prog_2_method_34_code, exceptionTable := #[], attributes := #[] }
def k2m6 : Method := { name := "offsetOf", desc := "(Lcom/example/proxysmith/proxysmith/Bytecode$Label;)I", sig := { parameters := [(.object "com/example/proxysmith/proxysmith/Bytecode$Label")], returnType := some .int }, accessFlags := 10, code := some k2c6 }
def k2c7 : Code := { maxStack := 2, maxLocals := 1, code := prog_2_method_35_code, exceptionTable := #[], attributes := #[] }
def k2m7 : Method := { name := "kind", desc := "(Ljava/lang/String;)I", sig := { parameters := [(.object "java/lang/String")], returnType := some .int }, accessFlags := 10, code := some k2c7 }
def k2c8 : Code := { maxStack := 1, maxLocals := 1, code := prog_2_method_36_code, exceptionTable := #[], attributes := #[] }
def k2m8 : Method := { name := "slots", desc := "(C)I", sig := { parameters := [.char], returnType := some .int }, accessFlags := 10, code := some k2c8 }
def k2c9 : Code := { maxStack := 5, maxLocals := 6, code := prog_2_method_39_code, exceptionTable := #[], attributes := #[] }
def k2m9 : Method := { name := "local", desc := "(IIILjava/lang/String;)V", sig := { parameters := [.int, .int, .int, (.object "java/lang/String")], returnType := none }, accessFlags := 2, code := some k2c9 }
def k2c10 : Code := { maxStack := 3, maxLocals := 2, code := prog_2_method_44_code, exceptionTable := #[], attributes := #[] }
def k2m10 : Method := { name := "push", desc := "(I)V", sig := { parameters := [.int], returnType := none }, accessFlags := 2, code := some k2c10 }
def k2c11 : Code := { maxStack := 3, maxLocals := 3, code := prog_2_method_46_code, exceptionTable := #[], attributes := #[] }
def k2m11 : Method := { name := "op", desc := "(II)V", sig := { parameters := [.int, .int], returnType := none }, accessFlags := 2, code := some k2c11 }
/-- com/example/proxysmith/proxysmith/Bytecode -/
def k2 : Class := { plain "com/example/proxysmith/proxysmith/Bytecode" (some 0) with
  accessFlags := 48
  interfaces := #[]
  cf := some (fileOf pool2 13 #[.nestMembers #[130, 108, 181, 87]] #[{ accessFlags := 0, nameIndex := 5, descriptorIndex := 400, attributes := #[] }, { accessFlags := 0, nameIndex := 405, descriptorIndex := 200, attributes := #[] }, { accessFlags := 0, nameIndex := 106, descriptorIndex := 107, attributes := #[] }, { accessFlags := 0, nameIndex := 407, descriptorIndex := 134, attributes := #[] }, { accessFlags := 0, nameIndex := 408, descriptorIndex := 409, attributes := #[] }, { accessFlags := 0, nameIndex := 432, descriptorIndex := 218, attributes := #[] }, { accessFlags := 10, nameIndex := 203, descriptorIndex := 204, attributes := #[] }, { accessFlags := 10, nameIndex := 172, descriptorIndex := 154, attributes := #[] }, { accessFlags := 10, nameIndex := 62, descriptorIndex := 63, attributes := #[] }, { accessFlags := 2, nameIndex := 137, descriptorIndex := 138, attributes := #[] }, { accessFlags := 2, nameIndex := 141, descriptorIndex := 11, attributes := #[] }, { accessFlags := 2, nameIndex := 147, descriptorIndex := 148, attributes := #[] }] 48 2 #[] #[{ accessFlags := 24, nameIndex := 309, descriptorIndex := 42, attributes := #[] }, { accessFlags := 24, nameIndex := 311, descriptorIndex := 67, attributes := #[] }, { accessFlags := 24, nameIndex := 313, descriptorIndex := 67, attributes := #[] }, { accessFlags := 24, nameIndex := 315, descriptorIndex := 67, attributes := #[] }, { accessFlags := 24, nameIndex := 317, descriptorIndex := 67, attributes := #[] }, { accessFlags := 24, nameIndex := 319, descriptorIndex := 67, attributes := #[] }, { accessFlags := 24, nameIndex := 321, descriptorIndex := 67, attributes := #[] }, { accessFlags := 26, nameIndex := 323, descriptorIndex := 67, attributes := #[] }, { accessFlags := 26, nameIndex := 325, descriptorIndex := 67, attributes := #[] }, { accessFlags := 26, nameIndex := 327, descriptorIndex := 67, attributes := #[] }, { accessFlags := 26, nameIndex := 329, descriptorIndex := 67, attributes := #[] }, { accessFlags := 26, nameIndex := 331, descriptorIndex := 67, attributes := #[] }, { accessFlags := 26, nameIndex := 333, descriptorIndex := 67, attributes := #[] }, { accessFlags := 26, nameIndex := 335, descriptorIndex := 67, attributes := #[] }, { accessFlags := 26, nameIndex := 337, descriptorIndex := 67, attributes := #[] }, { accessFlags := 26, nameIndex := 339, descriptorIndex := 67, attributes := #[] }, { accessFlags := 26, nameIndex := 341, descriptorIndex := 67, attributes := #[] }, { accessFlags := 26, nameIndex := 343, descriptorIndex := 67, attributes := #[] }, { accessFlags := 26, nameIndex := 345, descriptorIndex := 67, attributes := #[] }, { accessFlags := 26, nameIndex := 347, descriptorIndex := 67, attributes := #[] }, { accessFlags := 26, nameIndex := 349, descriptorIndex := 67, attributes := #[] }, { accessFlags := 26, nameIndex := 351, descriptorIndex := 67, attributes := #[] }, { accessFlags := 26, nameIndex := 353, descriptorIndex := 67, attributes := #[] }, { accessFlags := 26, nameIndex := 355, descriptorIndex := 67, attributes := #[] }, { accessFlags := 26, nameIndex := 357, descriptorIndex := 67, attributes := #[] }, { accessFlags := 26, nameIndex := 359, descriptorIndex := 67, attributes := #[] }, { accessFlags := 26, nameIndex := 361, descriptorIndex := 67, attributes := #[] }, { accessFlags := 26, nameIndex := 363, descriptorIndex := 67, attributes := #[] }, { accessFlags := 26, nameIndex := 365, descriptorIndex := 67, attributes := #[] }, { accessFlags := 26, nameIndex := 367, descriptorIndex := 67, attributes := #[] }, { accessFlags := 26, nameIndex := 369, descriptorIndex := 67, attributes := #[] }, { accessFlags := 26, nameIndex := 371, descriptorIndex := 67, attributes := #[] }, { accessFlags := 26, nameIndex := 373, descriptorIndex := 67, attributes := #[] }, { accessFlags := 26, nameIndex := 375, descriptorIndex := 67, attributes := #[] }, { accessFlags := 26, nameIndex := 377, descriptorIndex := 67, attributes := #[] }, { accessFlags := 26, nameIndex := 379, descriptorIndex := 67, attributes := #[] }, { accessFlags := 26, nameIndex := 381, descriptorIndex := 67, attributes := #[] }, { accessFlags := 26, nameIndex := 383, descriptorIndex := 67, attributes := #[] }, { accessFlags := 26, nameIndex := 384, descriptorIndex := 67, attributes := #[] }, { accessFlags := 26, nameIndex := 386, descriptorIndex := 67, attributes := #[] }, { accessFlags := 26, nameIndex := 387, descriptorIndex := 67, attributes := #[] }, { accessFlags := 26, nameIndex := 389, descriptorIndex := 67, attributes := #[] }, { accessFlags := 26, nameIndex := 391, descriptorIndex := 67, attributes := #[] }, { accessFlags := 26, nameIndex := 393, descriptorIndex := 67, attributes := #[] }, { accessFlags := 18, nameIndex := 37, descriptorIndex := 38, attributes := #[] }, { accessFlags := 18, nameIndex := 41, descriptorIndex := 42, attributes := #[] }, { accessFlags := 18, nameIndex := 45, descriptorIndex := 42, attributes := #[] }, { accessFlags := 18, nameIndex := 58, descriptorIndex := 59, attributes := #[] }, { accessFlags := 2, nameIndex := 70, descriptorIndex := 24, attributes := #[] }, { accessFlags := 18, nameIndex := 16, descriptorIndex := 17, attributes := #[] }, { accessFlags := 18, nameIndex := 23, descriptorIndex := 24, attributes := #[] }, { accessFlags := 18, nameIndex := 27, descriptorIndex := 24, attributes := #[] }, { accessFlags := 18, nameIndex := 30, descriptorIndex := 24, attributes := #[] }, { accessFlags := 2, nameIndex := 115, descriptorIndex := 67, attributes := #[] }, { accessFlags := 2, nameIndex := 222, descriptorIndex := 67, attributes := #[] }, { accessFlags := 2, nameIndex := 66, descriptorIndex := 67, attributes := #[] }, { accessFlags := 2, nameIndex := 33, descriptorIndex := 34, attributes := #[] }])
  fields := #[{ name := "UNINITIALIZED_THIS", type := (.object "java/lang/String"), accessFlags := 24, slot := 0, constantValue := 0 }, { name := "IFEQ", type := .int, accessFlags := 24, slot := 1, constantValue := 0 }, { name := "IFNE", type := .int, accessFlags := 24, slot := 2, constantValue := 0 }, { name := "IF_ACMPNE", type := .int, accessFlags := 24, slot := 3, constantValue := 0 }, { name := "GOTO", type := .int, accessFlags := 24, slot := 4, constantValue := 0 }, { name := "IFNULL", type := .int, accessFlags := 24, slot := 5, constantValue := 0 }, { name := "IFNONNULL", type := .int, accessFlags := 24, slot := 6, constantValue := 0 }, { name := "ACONST_NULL", type := .int, accessFlags := 26, slot := 7, constantValue := 0 }, { name := "ICONST_0", type := .int, accessFlags := 26, slot := 8, constantValue := 0 }, { name := "LCONST_0", type := .int, accessFlags := 26, slot := 9, constantValue := 0 }, { name := "FCONST_0", type := .int, accessFlags := 26, slot := 10, constantValue := 0 }, { name := "DCONST_0", type := .int, accessFlags := 26, slot := 11, constantValue := 0 }, { name := "LDC", type := .int, accessFlags := 26, slot := 12, constantValue := 0 }, { name := "LDC_W", type := .int, accessFlags := 26, slot := 13, constantValue := 0 }, { name := "ILOAD", type := .int, accessFlags := 26, slot := 14, constantValue := 0 }, { name := "ILOAD_0", type := .int, accessFlags := 26, slot := 15, constantValue := 0 }, { name := "ISTORE", type := .int, accessFlags := 26, slot := 16, constantValue := 0 }, { name := "ISTORE_0", type := .int, accessFlags := 26, slot := 17, constantValue := 0 }, { name := "POP", type := .int, accessFlags := 26, slot := 18, constantValue := 0 }, { name := "DUP", type := .int, accessFlags := 26, slot := 19, constantValue := 0 }, { name := "IRETURN", type := .int, accessFlags := 26, slot := 20, constantValue := 0 }, { name := "RETURN", type := .int, accessFlags := 26, slot := 21, constantValue := 0 }, { name := "GETSTATIC", type := .int, accessFlags := 26, slot := 22, constantValue := 0 }, { name := "PUTSTATIC", type := .int, accessFlags := 26, slot := 23, constantValue := 0 }, { name := "GETFIELD", type := .int, accessFlags := 26, slot := 24, constantValue := 0 }, { name := "PUTFIELD", type := .int, accessFlags := 26, slot := 25, constantValue := 0 }, { name := "INVOKEVIRTUAL", type := .int, accessFlags := 26, slot := 26, constantValue := 0 }, { name := "INVOKESPECIAL", type := .int, accessFlags := 26, slot := 27, constantValue := 0 }, { name := "INVOKESTATIC", type := .int, accessFlags := 26, slot := 28, constantValue := 0 }, { name := "INVOKEINTERFACE", type := .int, accessFlags := 26, slot := 29, constantValue := 0 }, { name := "NEW", type := .int, accessFlags := 26, slot := 30, constantValue := 0 }, { name := "ATHROW", type := .int, accessFlags := 26, slot := 31, constantValue := 0 }, { name := "CHECKCAST", type := .int, accessFlags := 26, slot := 32, constantValue := 0 }, { name := "MONITORENTER", type := .int, accessFlags := 26, slot := 33, constantValue := 0 }, { name := "MONITOREXIT", type := .int, accessFlags := 26, slot := 34, constantValue := 0 }, { name := "WIDE", type := .int, accessFlags := 26, slot := 35, constantValue := 0 }, { name := "ITEM_TOP", type := .int, accessFlags := 26, slot := 36, constantValue := 0 }, { name := "ITEM_INTEGER", type := .int, accessFlags := 26, slot := 37, constantValue := 0 }, { name := "ITEM_FLOAT", type := .int, accessFlags := 26, slot := 38, constantValue := 0 }, { name := "ITEM_DOUBLE", type := .int, accessFlags := 26, slot := 39, constantValue := 0 }, { name := "ITEM_LONG", type := .int, accessFlags := 26, slot := 40, constantValue := 0 }, { name := "ITEM_UNINITIALIZED_THIS", type := .int, accessFlags := 26, slot := 41, constantValue := 0 }, { name := "ITEM_OBJECT", type := .int, accessFlags := 26, slot := 42, constantValue := 0 }, { name := "FULL_FRAME", type := .int, accessFlags := 26, slot := 43, constantValue := 0 }, { name := "owner", type := (.object "com/example/proxysmith/proxysmith/ClassFileWriter"), accessFlags := 18, slot := 0, constantValue := 0 }, { name := "self", type := (.object "java/lang/String"), accessFlags := 18, slot := 1, constantValue := 0 }, { name := "descriptor", type := (.object "java/lang/String"), accessFlags := 18, slot := 2, constantValue := 0 }, { name := "entrySlots", type := (.array .int), accessFlags := 18, slot := 3, constantValue := 0 }, { name := "entryLocals", type := (.object "java/util/List"), accessFlags := 2, slot := 4, constantValue := 0 }, { name := "code", type := (.object "com/example/proxysmith/proxysmith/ClassFileWriter$Bytes"), accessFlags := 18, slot := 5, constantValue := 0 }, { name := "jumps", type := (.object "java/util/List"), accessFlags := 18, slot := 6, constantValue := 0 }, { name := "frames", type := (.object "java/util/List"), accessFlags := 18, slot := 7, constantValue := 0 }, { name := "handlers", type := (.object "java/util/List"), accessFlags := 18, slot := 8, constantValue := 0 }, { name := "stack", type := .int, accessFlags := 2, slot := 9, constantValue := 0 }, { name := "maxStack", type := .int, accessFlags := 2, slot := 10, constantValue := 0 }, { name := "maxLocals", type := .int, accessFlags := 2, slot := 11, constantValue := 0 }, { name := "reachable", type := .boolean, accessFlags := 2, slot := 12, constantValue := 0 }]
  methods := #[k2m0, k2m1, k2m2, k2m3, k2m4, k2m5, k2m6, k2m7, k2m8, k2m9, k2m10, k2m11]
  instanceTypes := #[(.object "com/example/proxysmith/proxysmith/ClassFileWriter"), (.object "java/lang/String"), (.object "java/lang/String"), (.array .int), (.object "java/util/List"), (.object "com/example/proxysmith/proxysmith/ClassFileWriter$Bytes"), (.object "java/util/List"), (.object "java/util/List"), (.object "java/util/List"), .int, .int, .int, .boolean]
  staticTypes := #[(.object "java/lang/String"), .int, .int, .int, .int, .int, .int, .int, .int, .int, .int, .int, .int, .int, .int, .int, .int, .int, .int, .int, .int, .int, .int, .int, .int, .int, .int, .int, .int, .int, .int, .int, .int, .int, .int, .int, .int, .int, .int, .int, .int, .int, .int, .int]
  resolved := ⟨List.replicate 87 none ++ some (.cls 21) :: (List.replicate 2 none ++ some (.field 21 0) :: (List.replicate 39 none ++ some (.cls 24) :: none :: some (.method ⟨24, 0⟩) :: List.replicate 331 none))⟩
  statics := none }

def pool3 : Array CpInfo := pool [(1, .class_ 2), (0, u "java/io/Serializable"), (0, .class_ 4), (0, u "java/lang/Object")] 2

/-- java/io/Serializable -/
def k3 : Class := { plain "java/io/Serializable" (some 0) with
  accessFlags := 1537
  interfaces := #[]
  cf := some (fileOf pool3 1 #[] #[] 1537 3 #[] #[])
  fields := #[]
  methods := #[]
  instanceTypes := #[]
  staticTypes := #[]
  resolved := Array.replicate 7 none
  statics := none }

def pool4 : Array CpInfo := pool [(1, .class_ 2), (0, u "java/lang/Comparable"), (0, .class_ 4), (0, u "java/lang/Object")] 7

/-- java/lang/Comparable -/
def k4 : Class := { plain "java/lang/Comparable" (some 0) with
  accessFlags := 1537
  interfaces := #[]
  cf := some (fileOf pool4 1 #[] #[] 1537 3 #[] #[])
  fields := #[]
  methods := #[]
  instanceTypes := #[]
  staticTypes := #[]
  resolved := Array.replicate 12 none
  statics := none }

def pool5 : Array CpInfo := pool [(2, .class_ 4), (1, u "java/lang/CharSequence"), (42, .class_ 48), (0, u "java/lang/CharSequence$1CodePointIterator"), (10, .class_ 60), (0, u "java/lang/CharSequence$1CharIterator"), (5, .class_ 67), (0, u "java/lang/Object")] 63

/-- java/lang/CharSequence -/
def k5 : Class := { plain "java/lang/CharSequence" (some 0) with
  accessFlags := 1537
  interfaces := #[]
  cf := some (fileOf pool5 2 #[.nestMembers #[47, 59]] #[] 1537 66 #[] #[])
  fields := #[]
  methods := #[]
  instanceTypes := #[]
  staticTypes := #[]
  resolved := Array.replicate 131 none
  statics := none }

def pool6 : Array CpInfo := pool [(1, .class_ 2), (0, u "java/lang/constant/Constable"), (0, .class_ 4), (0, u "java/lang/Object")] 6

/-- java/lang/constant/Constable -/
def k6 : Class := { plain "java/lang/constant/Constable" (some 0) with
  accessFlags := 1537
  interfaces := #[]
  cf := some (fileOf pool6 1 #[] #[] 1537 3 #[] #[])
  fields := #[]
  methods := #[]
  instanceTypes := #[]
  staticTypes := #[]
  resolved := Array.replicate 11 none
  statics := none }

def pool7 : Array CpInfo := pool [(1, .class_ 2), (0, u "java/lang/constant/ConstantDesc"), (0, .class_ 4), (0, u "java/lang/Object")] 32

/-- java/lang/constant/ConstantDesc -/
def k7 : Class := { plain "java/lang/constant/ConstantDesc" (some 0) with
  accessFlags := 1537
  interfaces := #[]
  cf := some (fileOf pool7 1 #[] #[] 1537 3 #[] #[])
  fields := #[]
  methods := #[]
  instanceTypes := #[]
  staticTypes := #[]
  resolved := Array.replicate 37 none
  statics := none }

def pool8 : Array CpInfo := pool [(2, .class_ 4), (1, u "java/lang/Object"), (0, u "<init>"), (0, u "()V"), (2, .fieldref 10 11), (0, .class_ 12), (0, .nameAndType 13 14), (0, u "java/lang/String"), (0, u "value"), (0, u "[B"), (0, .fieldref 10 16), (0, .nameAndType 17 18), (0, u "coder"), (0, u "B"), (2, u "hash"), (0, u "I"), (2, u "hashIsZero"), (0, u "Z"), (11, .fieldref 10 39), (0, .nameAndType 40 26), (0, u "COMPACT_STRINGS"), (66, .class_ 109), (1, u "java/lang/StringLatin1"), (32, u "()Z"), (220, u "([BI)C"), (27, u "(II)V"), (35, u "(I)C"), (64, .methodref 10 493), (0, .nameAndType 494 142), (0, u "isLatin1"), (0, .methodref 107 496), (0, .nameAndType 497 363), (0, u "charAt"), (3, u "checkIndex"), (73, .class_ 576), (0, u "java/lang/CharSequence"), (22, u "CASE_INSENSITIVE_ORDER"), (0, u "Ljava/util/Comparator;"), (452, .fieldref 1054 1055), (0, .class_ 1056), (0, .nameAndType 1057 1058), (0, u "jdk/internal/util/Preconditions"), (0, u "SIOOBE_FORMATTER"), (0, u "Ljava/util/function/BiFunction;"), (0, .methodref 1054 1060), (0, .nameAndType 501 1061), (0, u "(IILjava/util/function/BiFunction;)I"), (39, u "serialPersistentFields"), (0, u "[Ljava/io/ObjectStreamField;"), (0, .class_ 1104), (0, u "java/lang/String$CaseInsensitiveComparator"), (1, .class_ 1107), (0, u "java/io/Serializable"), (0, .class_ 1109), (0, u "java/lang/Comparable"), (0, .class_ 1111), (0, u "java/lang/constant/Constable"), (0, .class_ 1113), (0, u "java/lang/constant/ConstantDesc"), (2, u "serialVersionUID"), (0, u "J"), (3, u "REPL"), (0, u "C"), (2, u "LATIN1"), (1, u "UTF16")] 323

def k8m0 : Method := { name := "<init>", desc := "()V", sig := { parameters := [], returnType := none }, accessFlags := 1, code := none }
def k8c1 : Code := { maxStack := 2, maxLocals := 2, code := jdk_42_method_56_code, exceptionTable := #[], attributes := #[] }
def k8m1 : Method := { name := "charAt", desc := "(I)C", sig := { parameters := [.int], returnType := some .char }, accessFlags := 1, code := some k8c1 }
def k8c2 : Code := { maxStack := 1, maxLocals := 1, code := jdk_42_method_154_code, exceptionTable := #[], attributes := #[] }
def k8m2 : Method := { name := "isLatin1", desc := "()Z", sig := { parameters := [], returnType := some .boolean }, accessFlags := 0, code := some k8c2 }
def k8c3 : Code := { maxStack := 3, maxLocals := 2, code := jdk_42_method_155_code, exceptionTable := #[], attributes := #[] }
def k8m3 : Method := { name := "checkIndex", desc := "(II)V", sig := { parameters := [.int, .int], returnType := none }, accessFlags := 8, code := some k8c3 }
/-- java/lang/String -/
def k8 : Class := { plain "java/lang/String" (some 0) with
  accessFlags := 49
  interfaces := #[3, 4, 5, 6, 7]
  cf := some (fileOf pool8 10 #[.nestMembers #[1103]] #[{ accessFlags := 1, nameIndex := 5, descriptorIndex := 6, attributes := #[] }, { accessFlags := 1, nameIndex := 497, descriptorIndex := 427, attributes := #[] }, { accessFlags := 0, nameIndex := 494, descriptorIndex := 142, attributes := #[] }, { accessFlags := 8, nameIndex := 501, descriptorIndex := 391, attributes := #[] }] 49 2 #[1106, 1108, 575, 1110, 1112] #[{ accessFlags := 18, nameIndex := 13, descriptorIndex := 14, attributes := #[] }, { accessFlags := 18, nameIndex := 17, descriptorIndex := 18, attributes := #[] }, { accessFlags := 2, nameIndex := 21, descriptorIndex := 22, attributes := #[] }, { accessFlags := 2, nameIndex := 25, descriptorIndex := 26, attributes := #[] }, { accessFlags := 26, nameIndex := 1116, descriptorIndex := 1117, attributes := #[] }, { accessFlags := 24, nameIndex := 40, descriptorIndex := 26, attributes := #[] }, { accessFlags := 26, nameIndex := 1101, descriptorIndex := 1102, attributes := #[] }, { accessFlags := 26, nameIndex := 1121, descriptorIndex := 1122, attributes := #[] }, { accessFlags := 25, nameIndex := 599, descriptorIndex := 600, attributes := #[] }, { accessFlags := 24, nameIndex := 1125, descriptorIndex := 18, attributes := #[] }, { accessFlags := 24, nameIndex := 1127, descriptorIndex := 18, attributes := #[] }])
  fields := #[{ name := "value", type := (.array .byte), accessFlags := 18, slot := 0, constantValue := 0 }, { name := "coder", type := .byte, accessFlags := 18, slot := 1, constantValue := 0 }, { name := "hash", type := .int, accessFlags := 2, slot := 2, constantValue := 0 }, { name := "hashIsZero", type := .boolean, accessFlags := 2, slot := 3, constantValue := 0 }, { name := "serialVersionUID", type := .long, accessFlags := 26, slot := 0, constantValue := 0 }, { name := "COMPACT_STRINGS", type := .boolean, accessFlags := 24, slot := 1, constantValue := 0 }, { name := "serialPersistentFields", type := (.array (.object "java/io/ObjectStreamField")), accessFlags := 26, slot := 2, constantValue := 0 }, { name := "REPL", type := .char, accessFlags := 26, slot := 3, constantValue := 0 }, { name := "CASE_INSENSITIVE_ORDER", type := (.object "java/util/Comparator"), accessFlags := 25, slot := 4, constantValue := 0 }, { name := "LATIN1", type := .byte, accessFlags := 24, slot := 5, constantValue := 0 }, { name := "UTF16", type := .byte, accessFlags := 24, slot := 6, constantValue := 0 }]
  methods := #[k8m0, k8m1, k8m2, k8m3]
  instanceTypes := #[(.array .byte), .byte, .int, .boolean]
  staticTypes := #[.long, .boolean, (.array (.object "java/io/ObjectStreamField")), .char, (.object "java/util/Comparator"), .byte, .byte]
  resolved := Array.replicate 1451 none
  statics := some 0 }

def pool9 : Array CpInfo := pool [(1, .class_ 2), (0, u "com/example/proxysmith/proxysmith/ClassFileWriter"), (0, .methodref 4 5), (0, .class_ 6), (0, .nameAndType 7 8), (0, u "java/lang/Object"), (0, u "<init>"), (0, u "()V"), (0, .fieldref 10 11), (0, .class_ 12), (0, .nameAndType 13 14), (0, u "com/example/proxysmith/proxysmith/ClassFileWriter$Bytes"), (0, u "bytes"), (0, u "[B"), (0, .methodref 10 16), (0, .nameAndType 17 18), (0, u "room"), (0, u "(I)V"), (0, .fieldref 10 20), (0, .nameAndType 21 22), (0, u "size"), (0, u "I"), (0, .methodref 10 24), (0, .nameAndType 25 18), (0, u "u2"), (0, .methodref 27 28), (0, .class_ 29), (0, .nameAndType 30 31), (0, u "java/lang/System"), (0, u "arraycopy"), (0, u "(Ljava/lang/Object;ILjava/lang/Object;II)V"), (5, u "()I"), (24, .methodref 63 64), (0, .class_ 65), (0, .nameAndType 66 67), (0, u "java/lang/Math"), (0, u "max"), (0, u "(II)I"), (2, u "u1"), (0, u "u4"), (1, u "(Lcom/example/proxysmith/proxysmith/ClassFileWriter$Bytes;)V"), (4, u "toByteArray"), (0, u "()[B")] 21

def k9c0 : Code := { maxStack := 2, maxLocals := 2, code := prog_13_method_1_code, exceptionTable := #[], attributes := #[] }
def k9m0 : Method := { name := "<init>", desc := "(I)V", sig := { parameters := [.int], returnType := none }, accessFlags := 0, code := some k9c0 }
def k9c1 : Code := { maxStack := 5, maxLocals := 2, code := prog_13_method_2_code, exceptionTable := #[], attributes := #[] }
def k9m1 : Method := { name := "u1", desc := "(I)V", sig := { parameters := [.int], returnType := none }, accessFlags := 0, code := some k9c1 }
def k9c2 : Code := { maxStack := 5, maxLocals := 2, code := prog_13_method_3_code, exceptionTable := #[], attributes := #[] }
def k9m2 : Method := { name := "u2", desc := "(I)V", sig := { parameters := [.int], returnType := none }, accessFlags := 0, code := some k9c2 }
def k9c3 : Code := { maxStack := 3, maxLocals := 2, code := prog_13_method_4_code, exceptionTable := #[], attributes := #[] }
def k9m3 : Method := { name := "u4", desc := "(I)V", sig := { parameters := [.int], returnType := none }, accessFlags := 0, code := some k9c3 }
def k9c4 : Code := { maxStack := 5, maxLocals := 2, code := prog_13_method_6_code, exceptionTable := #[], attributes := #[] }
def k9m4 : Method := { name := "bytes", desc := "(Lcom/example/proxysmith/proxysmith/ClassFileWriter$Bytes;)V", sig := { parameters := [(.object "com/example/proxysmith/proxysmith/ClassFileWriter$Bytes")], returnType := none }, accessFlags := 0, code := some k9c4 }
def k9c5 : Code := { maxStack := 1, maxLocals := 1, code := prog_13_method_9_code, exceptionTable := #[], attributes := #[] }
def k9m5 : Method := { name := "size", desc := "()I", sig := { parameters := [], returnType := some .int }, accessFlags := 0, code := some k9c5 }
def k9c6 : Code := { maxStack := 2, maxLocals := 1, code := prog_13_method_10_code, exceptionTable := #[], attributes := #[] }
def k9m6 : Method := { name := "toByteArray", desc := "()[B", sig := { parameters := [], returnType := some (.array .byte) }, accessFlags := 0, code := some k9c6 }
def k9c7 : Code := { maxStack := 5, maxLocals := 2, code := prog_13_method_11_code, exceptionTable := #[], attributes := #[] }
def k9m7 : Method := { name := "room", desc := "(I)V", sig := { parameters := [.int], returnType := none }, accessFlags := 2, code := some k9c7 }
/-- com/example/proxysmith/proxysmith/ClassFileWriter$Bytes -/
def k9 : Class := { plain "com/example/proxysmith/proxysmith/ClassFileWriter$Bytes" (some 0) with
  accessFlags := 48
  interfaces := #[]
  cf := some (fileOf pool9 10 #[.nestHost 1] #[{ accessFlags := 0, nameIndex := 7, descriptorIndex := 18, attributes := #[] }, { accessFlags := 0, nameIndex := 70, descriptorIndex := 18, attributes := #[] }, { accessFlags := 0, nameIndex := 25, descriptorIndex := 18, attributes := #[] }, { accessFlags := 0, nameIndex := 71, descriptorIndex := 18, attributes := #[] }, { accessFlags := 0, nameIndex := 13, descriptorIndex := 73, attributes := #[] }, { accessFlags := 0, nameIndex := 21, descriptorIndex := 37, attributes := #[] }, { accessFlags := 0, nameIndex := 78, descriptorIndex := 79, attributes := #[] }, { accessFlags := 2, nameIndex := 17, descriptorIndex := 18, attributes := #[] }] 48 4 #[] #[{ accessFlags := 2, nameIndex := 13, descriptorIndex := 14, attributes := #[] }, { accessFlags := 2, nameIndex := 21, descriptorIndex := 22, attributes := #[] }])
  fields := #[{ name := "bytes", type := (.array .byte), accessFlags := 2, slot := 0, constantValue := 0 }, { name := "size", type := .int, accessFlags := 2, slot := 1, constantValue := 0 }]
  methods := #[k9m0, k9m1, k9m2, k9m3, k9m4, k9m5, k9m6, k9m7]
  instanceTypes := #[(.array .byte), .int]
  staticTypes := #[]
  resolved := Array.replicate 101 none
  statics := none }

def pool10 : Array CpInfo := pool [(8, .class_ 10), (1, u "java/lang/Iterable"), (24, .class_ 36), (0, u "java/lang/Object")] 25

/-- java/lang/Iterable -/
def k10 : Class := { plain "java/lang/Iterable" (some 0) with
  accessFlags := 1537
  interfaces := #[]
  cf := some (fileOf pool10 8 #[] #[] 1537 35 #[] #[])
  fields := #[]
  methods := #[]
  instanceTypes := #[]
  staticTypes := #[]
  resolved := Array.replicate 62 none
  statics := none }

def pool11 : Array CpInfo := pool [(10, .class_ 12), (1, u "java/util/Collection"), (47, .class_ 61), (0, u "java/lang/Object"), (0, .class_ 63), (0, u "java/lang/Iterable")] 51

/-- java/util/Collection -/
def k11 : Class := { plain "java/util/Collection" (some 0) with
  accessFlags := 1537
  interfaces := #[10]
  cf := some (fileOf pool11 10 #[] #[] 1537 60 #[62] #[])
  fields := #[]
  methods := #[]
  instanceTypes := #[]
  staticTypes := #[]
  resolved := Array.replicate 115 none
  statics := none }

def pool12 : Array CpInfo := pool [(1, .methodref 2 3), (0, .class_ 4), (0, .nameAndType 5 6), (0, u "java/lang/Object"), (0, u "<init>"), (0, u "()V"), (1, .class_ 10), (1, u "java/util/AbstractCollection"), (66, .class_ 78), (0, u "java/util/Collection")] 81

def k12c0 : Code := { maxStack := 1, maxLocals := 1, code := jdk_22_method_1_code, exceptionTable := #[], attributes := #[] }
def k12m0 : Method := { name := "<init>", desc := "()V", sig := { parameters := [], returnType := none }, accessFlags := 4, code := some k12c0 }
/-- java/util/AbstractCollection -/
def k12 : Class := { plain "java/util/AbstractCollection" (some 0) with
  accessFlags := 1057
  interfaces := #[11]
  cf := some (fileOf pool12 8 #[] #[{ accessFlags := 4, nameIndex := 5, descriptorIndex := 6, attributes := #[] }] 1057 2 #[77] #[])
  fields := #[]
  methods := #[k12m0]
  instanceTypes := #[]
  staticTypes := #[]
  resolved := Array.replicate 160 none
  statics := none }

def pool13 : Array CpInfo := pool [(8, .class_ 10), (1, u "java/util/SequencedCollection"), (15, .class_ 27), (0, u "java/lang/Object"), (0, .class_ 29), (0, u "java/util/Collection")] 27

/-- java/util/SequencedCollection -/
def k13 : Class := { plain "java/util/SequencedCollection" (some 0) with
  accessFlags := 1537
  interfaces := #[11]
  cf := some (fileOf pool13 8 #[] #[] 1537 26 #[28] #[])
  fields := #[]
  methods := #[]
  instanceTypes := #[]
  staticTypes := #[]
  resolved := Array.replicate 57 none
  statics := none }

def pool14 : Array CpInfo := pool [(8, .class_ 10), (1, u "java/util/List"), (7, u "()Z"), (41, u "add"), (3, u "(Ljava/lang/Object;)Z"), (2, u "isEmpty"), (11, u "size"), (0, u "()I"), (22, .class_ 104), (0, u "java/lang/Object"), (15, .class_ 121), (0, u "java/util/SequencedCollection"), (1, u "iterator"), (0, u "()Ljava/util/Iterator;")] 126

def k14m0 : Method := { name := "size", desc := "()I", sig := { parameters := [], returnType := some .int }, accessFlags := 1025, code := none }
def k14m1 : Method := { name := "isEmpty", desc := "()Z", sig := { parameters := [], returnType := some .boolean }, accessFlags := 1025, code := none }
def k14m2 : Method := { name := "iterator", desc := "()Ljava/util/Iterator;", sig := { parameters := [], returnType := some (.object "java/util/Iterator") }, accessFlags := 1025, code := none }
def k14m3 : Method := { name := "add", desc := "(Ljava/lang/Object;)Z", sig := { parameters := [(.object "java/lang/Object")], returnType := some .boolean }, accessFlags := 1025, code := none }
/-- java/util/List -/
def k14 : Class := { plain "java/util/List" (some 0) with
  accessFlags := 1537
  interfaces := #[13]
  cf := some (fileOf pool14 8 #[] #[{ accessFlags := 1025, nameIndex := 79, descriptorIndex := 80, attributes := #[] }, { accessFlags := 1025, nameIndex := 67, descriptorIndex := 18, attributes := #[] }, { accessFlags := 1025, nameIndex := 123, descriptorIndex := 124, attributes := #[] }, { accessFlags := 1025, nameIndex := 60, descriptorIndex := 64, attributes := #[] }] 1537 103 #[120] #[])
  fields := #[]
  methods := #[k14m0, k14m1, k14m2, k14m3]
  instanceTypes := #[]
  staticTypes := #[]
  resolved := Array.replicate 251 none
  statics := none }

def pool15 : Array CpInfo := pool [(1, .methodref 2 3), (0, .class_ 4), (0, .nameAndType 5 6), (0, u "java/util/AbstractCollection"), (0, u "<init>"), (0, u "()V"), (0, .fieldref 8 9), (0, .class_ 10), (0, .nameAndType 11 12), (0, u "java/util/AbstractList"), (0, u "modCount"), (0, u "I"), (64, .class_ 78), (0, u "java/util/AbstractList$Itr"), (3, .class_ 83), (0, u "java/util/AbstractList$ListItr"), (9, .class_ 94), (0, u "java/util/AbstractList$RandomAccessSubList"), (3, .class_ 99), (0, u "java/util/AbstractList$SubList"), (33, .class_ 134), (0, u "java/util/List"), (73, .class_ 209), (0, u "java/util/AbstractList$SubList$1"), (0, .class_ 211), (0, u "java/util/AbstractList$RandomAccessSpliterator")] 6

def k15c0 : Code := { maxStack := 2, maxLocals := 1, code := jdk_39_method_1_code, exceptionTable := #[], attributes := #[] }
def k15m0 : Method := { name := "<init>", desc := "()V", sig := { parameters := [], returnType := none }, accessFlags := 4, code := some k15c0 }
/-- java/util/AbstractList -/
def k15 : Class := { plain "java/util/AbstractList" (some 12) with
  accessFlags := 1057
  interfaces := #[14]
  cf := some (fileOf pool15 8 #[.nestMembers #[93, 98, 208, 210, 82, 77]] #[{ accessFlags := 4, nameIndex := 5, descriptorIndex := 6, attributes := #[] }] 1057 2 #[133] #[{ accessFlags := 132, nameIndex := 11, descriptorIndex := 12, attributes := #[] }])
  fields := #[{ name := "modCount", type := .int, accessFlags := 132, slot := 0, constantValue := 0 }]
  methods := #[k15m0]
  instanceTypes := #[.int]
  staticTypes := #[]
  resolved := Array.replicate 218 none
  statics := none }

def pool16 : Array CpInfo := pool [(1, .class_ 2), (0, u "java/util/RandomAccess"), (0, .class_ 4), (0, u "java/lang/Object")] 2

/-- java/util/RandomAccess -/
def k16 : Class := { plain "java/util/RandomAccess" (some 0) with
  accessFlags := 1537
  interfaces := #[]
  cf := some (fileOf pool16 1 #[] #[] 1537 3 #[] #[])
  fields := #[]
  methods := #[]
  instanceTypes := #[]
  staticTypes := #[]
  resolved := Array.replicate 7 none
  statics := none }

def pool17 : Array CpInfo := pool [(1, .class_ 2), (0, u "java/lang/Cloneable"), (0, .class_ 4), (0, u "java/lang/Object")] 2

/-- java/lang/Cloneable -/
def k17 : Class := { plain "java/lang/Cloneable" (some 0) with
  accessFlags := 1537
  interfaces := #[]
  cf := some (fileOf pool17 1 #[] #[] 1537 3 #[] #[])
  fields := #[]
  methods := #[]
  instanceTypes := #[]
  staticTypes := #[]
  resolved := Array.replicate 7 none
  statics := none }

def pool18 : Array CpInfo := pool [(1, .methodref 2 3), (0, .class_ 4), (0, .nameAndType 5 6), (0, u "java/util/AbstractList"), (0, u "<init>"), (0, u "()V"), (0, .class_ 8), (0, u "java/lang/Object"), (0, .fieldref 10 11), (0, .class_ 12), (0, .nameAndType 13 14), (0, u "java/util/ArrayList"), (0, u "elementData"), (0, u "[Ljava/lang/Object;"), (2, u "EMPTY_ELEMENTDATA"), (23, u "DEFAULTCAPACITY_EMPTY_ELEMENTDATA"), (6, .fieldref 10 49), (0, .nameAndType 50 51), (0, u "size"), (0, u "I"), (11, .fieldref 10 64), (0, .nameAndType 65 51), (0, u "modCount"), (30, u "(Ljava/lang/Object;)Z"), (34, .methodref 10 132), (0, .nameAndType 133 134), (0, u "add"), (0, u "(Ljava/lang/Object;[Ljava/lang/Object;I)V"), (3, u "(I)V"), (9, .class_ 149), (0, u "java/util/List"), (16, u "iterator"), (0, u "()Ljava/util/Iterator;"), (5, u "()Z"), (12, u "()I"), (75, .class_ 263), (0, u "java/util/ArrayList$ListItr"), (3, .class_ 268), (0, u "java/util/ArrayList$Itr"), (0, .methodref 267 270), (0, .nameAndType 5 271), (0, u "(Ljava/util/ArrayList;)V"), (4, .class_ 277), (0, u "java/util/ArrayList$SubList"), (12, .class_ 291), (0, u "java/util/ArrayList$ArrayListSpliterator"), (37, .class_ 330), (0, u "java/util/RandomAccess"), (0, .class_ 332), (0, u "java/lang/Cloneable"), (0, .class_ 334), (0, u "java/io/Serializable"), (0, u "serialVersionUID"), (0, u "J"), (3, u "DEFAULT_CAPACITY"), (22, u "isEmpty"), (136, .class_ 501), (0, u "java/util/ArrayList$SubList$2"), (0, .class_ 503), (0, u "java/util/ArrayList$SubList$1")] 5

def k18c0 : Code := { maxStack := 4, maxLocals := 2, code := jdk_38_method_1_code, exceptionTable := #[], attributes := #[] }
def k18m0 : Method := { name := "<init>", desc := "(I)V", sig := { parameters := [.int], returnType := none }, accessFlags := 1, code := some k18c0 }
def k18m1 : Method := { name := "<init>", desc := "()V", sig := { parameters := [], returnType := none }, accessFlags := 1, code := none }
def k18c2 : Code := { maxStack := 1, maxLocals := 1, code := jdk_38_method_8_code, exceptionTable := #[], attributes := #[] }
def k18m2 : Method := { name := "size", desc := "()I", sig := { parameters := [], returnType := some .int }, accessFlags := 1, code := some k18c2 }
def k18c3 : Code := { maxStack := 1, maxLocals := 1, code := jdk_38_method_9_code, exceptionTable := #[], attributes := #[] }
def k18m3 : Method := { name := "isEmpty", desc := "()Z", sig := { parameters := [], returnType := some .boolean }, accessFlags := 1, code := some k18c3 }
def k18c4 : Code := { maxStack := 3, maxLocals := 4, code := jdk_38_method_24_code, exceptionTable := #[], attributes := #[] }
def k18m4 : Method := { name := "add", desc := "(Ljava/lang/Object;[Ljava/lang/Object;I)V", sig := { parameters := [(.object "java/lang/Object"), (.array (.object "java/lang/Object")), .int], returnType := none }, accessFlags := 2, code := some k18c4 }
def k18c5 : Code := { maxStack := 4, maxLocals := 2, code := jdk_38_method_25_code, exceptionTable := #[], attributes := #[] }
def k18m5 : Method := { name := "add", desc := "(Ljava/lang/Object;)Z", sig := { parameters := [(.object "java/lang/Object")], returnType := some .boolean }, accessFlags := 1, code := some k18c5 }
def k18c6 : Code := { maxStack := 3, maxLocals := 1, code := jdk_38_method_55_code, exceptionTable := #[], attributes := #[] }
def k18m6 : Method := { name := "iterator", desc := "()Ljava/util/Iterator;", sig := { parameters := [], returnType := some (.object "java/util/Iterator") }, accessFlags := 1, code := some k18c6 }
/-- java/util/ArrayList -/
def k18 : Class := { plain "java/util/ArrayList" (some 15) with
  accessFlags := 33
  interfaces := #[14, 16, 17, 3]
  cf := some (fileOf pool18 10 #[.nestMembers #[290, 276, 500, 502, 262, 267]] #[{ accessFlags := 1, nameIndex := 5, descriptorIndex := 138, attributes := #[] }, { accessFlags := 1, nameIndex := 5, descriptorIndex := 6, attributes := #[] }, { accessFlags := 1, nameIndex := 50, descriptorIndex := 186, attributes := #[] }, { accessFlags := 1, nameIndex := 363, descriptorIndex := 173, attributes := #[] }, { accessFlags := 2, nameIndex := 133, descriptorIndex := 134, attributes := #[] }, { accessFlags := 1, nameIndex := 133, descriptorIndex := 96, attributes := #[] }, { accessFlags := 1, nameIndex := 166, descriptorIndex := 167, attributes := #[] }] 33 2 #[148, 329, 331, 333] #[{ accessFlags := 26, nameIndex := 335, descriptorIndex := 336, attributes := #[] }, { accessFlags := 26, nameIndex := 340, descriptorIndex := 51, attributes := #[] }, { accessFlags := 26, nameIndex := 17, descriptorIndex := 14, attributes := #[] }, { accessFlags := 26, nameIndex := 41, descriptorIndex := 14, attributes := #[] }, { accessFlags := 128, nameIndex := 13, descriptorIndex := 14, attributes := #[] }, { accessFlags := 2, nameIndex := 50, descriptorIndex := 51, attributes := #[] }])
  fields := #[{ name := "serialVersionUID", type := .long, accessFlags := 26, slot := 0, constantValue := 0 }, { name := "DEFAULT_CAPACITY", type := .int, accessFlags := 26, slot := 1, constantValue := 0 }, { name := "EMPTY_ELEMENTDATA", type := (.array (.object "java/lang/Object")), accessFlags := 26, slot := 2, constantValue := 0 }, { name := "DEFAULTCAPACITY_EMPTY_ELEMENTDATA", type := (.array (.object "java/lang/Object")), accessFlags := 26, slot := 3, constantValue := 0 }, { name := "elementData", type := (.array (.object "java/lang/Object")), accessFlags := 128, slot := 1, constantValue := 0 }, { name := "size", type := .int, accessFlags := 2, slot := 2, constantValue := 0 }]
  methods := #[k18m0, k18m1, k18m2, k18m3, k18m4, k18m5, k18m6]
  instanceTypes := #[.int, (.array (.object "java/lang/Object")), .int]
  staticTypes := #[.long, .int, (.array (.object "java/lang/Object")), (.array (.object "java/lang/Object"))]
  resolved := Array.replicate 509 none
  statics := none }

def pool19 : Array CpInfo := pool [(1, .class_ 2), (0, u "java/lang/String"), (1, .class_ 6), (1, u "java/lang/Object"), (0, u "<init>"), (0, u "()V"), (0, .methodref 1 10), (0, .nameAndType 11 12), (0, u "checkIndex"), (0, u "(II)V"), (1, .class_ 16), (1, u "java/lang/StringLatin1"), (36, u "([BI)C"), (67, u "$assertionsDisabled"), (0, u "Z"), (98, .class_ 223), (1, u "java/lang/StringLatin1$LinesSpliterator"), (28, u "charAt"), (137, .class_ 391), (0, u "java/lang/StringLatin1$CharsSpliterator")] 3

def k19m0 : Method := { name := "<init>", desc := "()V", sig := { parameters := [], returnType := none }, accessFlags := 0, code := none }
def k19c1 : Code := { maxStack := 2, maxLocals := 2, code := jdk_43_method_2_code, exceptionTable := #[], attributes := #[] }
def k19m1 : Method := { name := "charAt", desc := "([BI)C", sig := { parameters := [(.array .byte), .int], returnType := some .char }, accessFlags := 9, code := some k19c1 }
/-- java/lang/StringLatin1 -/
def k19 : Class := { plain "java/lang/StringLatin1" (some 0) with
  accessFlags := 48
  interfaces := #[]
  cf := some (fileOf pool19 14 #[.nestMembers #[390, 221]] #[{ accessFlags := 0, nameIndex := 7, descriptorIndex := 8, attributes := #[] }, { accessFlags := 9, nameIndex := 252, descriptorIndex := 53, attributes := #[] }] 48 4 #[] #[{ accessFlags := 4120, nameIndex := 121, descriptorIndex := 122, attributes := #[] }])
  fields := #[{ name := "$assertionsDisabled", type := .boolean, accessFlags := 4120, slot := 0, constantValue := 0 }]
  methods := #[k19m0, k19m1]
  instanceTypes := #[]
  staticTypes := #[.boolean]
  resolved := Array.replicate 395 none
  statics := none }

def pool20 : Array CpInfo := pool [(2, .class_ 4), (1, u "java/lang/Object"), (0, u "<init>"), (0, u "()V"), (17, .class_ 26), (1, u "jdk/internal/util/Preconditions"), (6, u "checkIndex"), (21, .class_ 56), (0, u "jdk/internal/util/Preconditions$4"), (57, .class_ 115), (0, u "jdk/internal/util/Preconditions$1"), (7, u "SIOOBE_FORMATTER"), (0, u "Ljava/util/function/BiFunction;"), (0, .class_ 126), (0, u "jdk/internal/util/Preconditions$2"), (3, u "AIOOBE_FORMATTER"), (0, .class_ 132), (0, u "jdk/internal/util/Preconditions$3"), (3, u "IOOBE_FORMATTER"), (41, u "(IILjava/util/function/BiFunction;)I")] 15

def k20m0 : Method := { name := "<init>", desc := "()V", sig := { parameters := [], returnType := none }, accessFlags := 1, code := none }
def k20c1 : Code := { maxStack := 3, maxLocals := 3, code := jdk_41_method_11_code, exceptionTable := #[], attributes := #[] }
def k20m1 : Method := { name := "checkIndex", desc := "(IILjava/util/function/BiFunction;)I", sig := { parameters := [.int, .int, (.object "java/util/function/BiFunction")], returnType := some .int }, accessFlags := 9, code := some k20c1 }
/-- jdk/internal/util/Preconditions -/
def k20 : Class := { plain "jdk/internal/util/Preconditions" (some 0) with
  accessFlags := 33
  interfaces := #[]
  cf := some (fileOf pool20 24 #[.nestMembers #[55, 131, 125, 114]] #[{ accessFlags := 1, nameIndex := 5, descriptorIndex := 6, attributes := #[] }, { accessFlags := 9, nameIndex := 33, descriptorIndex := 178, attributes := #[] }] 33 2 #[] #[{ accessFlags := 25, nameIndex := 123, descriptorIndex := 124, attributes := #[] }, { accessFlags := 25, nameIndex := 130, descriptorIndex := 124, attributes := #[] }, { accessFlags := 25, nameIndex := 136, descriptorIndex := 124, attributes := #[] }])
  fields := #[{ name := "SIOOBE_FORMATTER", type := (.object "java/util/function/BiFunction"), accessFlags := 25, slot := 0, constantValue := 0 }, { name := "AIOOBE_FORMATTER", type := (.object "java/util/function/BiFunction"), accessFlags := 25, slot := 1, constantValue := 0 }, { name := "IOOBE_FORMATTER", type := (.object "java/util/function/BiFunction"), accessFlags := 25, slot := 2, constantValue := 0 }]
  methods := #[k20m0, k20m1]
  instanceTypes := #[]
  staticTypes := #[(.object "java/util/function/BiFunction"), (.object "java/util/function/BiFunction"), (.object "java/util/function/BiFunction")]
  resolved := Array.replicate 194 none
  statics := some 1 }

def pool21 : Array CpInfo := pool [(1, .methodref 2 3), (0, .class_ 4), (0, .nameAndType 5 6), (0, u "java/lang/Object"), (0, u "<init>"), (0, u "()V"), (0, .fieldref 8 9), (0, .class_ 10), (0, .nameAndType 11 12), (0, u "com/example/proxysmith/proxysmith/Bytecode$Label"), (0, u "offset"), (0, u "I"), (5, .class_ 19), (0, u "com/example/proxysmith/proxysmith/Bytecode")] 2

def k21c0 : Code := { maxStack := 2, maxLocals := 1, code := prog_6_method_1_code, exceptionTable := #[], attributes := #[] }
def k21m0 : Method := { name := "<init>", desc := "()V", sig := { parameters := [], returnType := none }, accessFlags := 0, code := some k21c0 }
/-- com/example/proxysmith/proxysmith/Bytecode$Label -/
def k21 : Class := { plain "com/example/proxysmith/proxysmith/Bytecode$Label" (some 0) with
  accessFlags := 48
  interfaces := #[]
  cf := some (fileOf pool21 8 #[.nestHost 18] #[{ accessFlags := 0, nameIndex := 5, descriptorIndex := 6, attributes := #[] }] 48 2 #[] #[{ accessFlags := 2, nameIndex := 11, descriptorIndex := 12, attributes := #[] }])
  fields := #[{ name := "offset", type := .int, accessFlags := 2, slot := 0, constantValue := 0 }]
  methods := #[k21m0]
  instanceTypes := #[.int]
  staticTypes := #[]
  resolved := Array.replicate 22 none
  statics := none }

def pool22 : Array CpInfo := pool [(1, .class_ 2), (0, u "java/lang/Math"), (1, .class_ 6), (1, u "java/lang/Object"), (0, u "<init>"), (0, u "()V"), (89, .class_ 100), (1, u "java/lang/Math$RandomNumberGeneratorHolder"), (71, u "negativeZeroFloatBits"), (0, u "J"), (2, u "negativeZeroDoubleBits"), (21, u "max"), (46, u "$assertionsDisabled"), (0, u "Z"), (88, u "(II)I"), (2, u "twoToTheDoubleScaleDown"), (0, u "D"), (4, u "twoToTheDoubleScaleUp"), (9, u "E"), (3, u "PI"), (2, u "TAU"), (2, u "DEGREES_TO_RADIANS"), (0, u "RADIANS_TO_DEGREES")] 94

def k22m0 : Method := { name := "<init>", desc := "()V", sig := { parameters := [], returnType := none }, accessFlags := 2, code := none }
def k22c1 : Code := { maxStack := 2, maxLocals := 2, code := jdk_29_method_65_code, exceptionTable := #[], attributes := #[] }
def k22m1 : Method := { name := "max", desc := "(II)I", sig := { parameters := [.int, .int], returnType := some .int }, accessFlags := 9, code := some k22c1 }
/-- java/lang/Math -/
def k22 : Class := { plain "java/lang/Math" (some 0) with
  accessFlags := 49
  interfaces := #[]
  cf := some (fileOf pool22 1 #[.nestMembers #[98]] #[{ accessFlags := 2, nameIndex := 7, descriptorIndex := 8, attributes := #[] }, { accessFlags := 9, nameIndex := 198, descriptorIndex := 335, attributes := #[] }] 49 4 #[] #[{ accessFlags := 25, nameIndex := 354, descriptorIndex := 339, attributes := #[] }, { accessFlags := 25, nameIndex := 358, descriptorIndex := 339, attributes := #[] }, { accessFlags := 25, nameIndex := 361, descriptorIndex := 339, attributes := #[] }, { accessFlags := 26, nameIndex := 364, descriptorIndex := 339, attributes := #[] }, { accessFlags := 26, nameIndex := 365, descriptorIndex := 339, attributes := #[] }, { accessFlags := 26, nameIndex := 172, descriptorIndex := 173, attributes := #[] }, { accessFlags := 26, nameIndex := 176, descriptorIndex := 173, attributes := #[] }, { accessFlags := 8, nameIndex := 344, descriptorIndex := 339, attributes := #[] }, { accessFlags := 8, nameIndex := 338, descriptorIndex := 339, attributes := #[] }, { accessFlags := 4120, nameIndex := 245, descriptorIndex := 246, attributes := #[] }])
  fields := #[{ name := "E", type := .double, accessFlags := 25, slot := 0, constantValue := 0 }, { name := "PI", type := .double, accessFlags := 25, slot := 1, constantValue := 0 }, { name := "TAU", type := .double, accessFlags := 25, slot := 2, constantValue := 0 }, { name := "DEGREES_TO_RADIANS", type := .double, accessFlags := 26, slot := 3, constantValue := 0 }, { name := "RADIANS_TO_DEGREES", type := .double, accessFlags := 26, slot := 4, constantValue := 0 }, { name := "negativeZeroFloatBits", type := .long, accessFlags := 26, slot := 5, constantValue := 0 }, { name := "negativeZeroDoubleBits", type := .long, accessFlags := 26, slot := 6, constantValue := 0 }, { name := "twoToTheDoubleScaleUp", type := .double, accessFlags := 8, slot := 7, constantValue := 0 }, { name := "twoToTheDoubleScaleDown", type := .double, accessFlags := 8, slot := 8, constantValue := 0 }, { name := "$assertionsDisabled", type := .boolean, accessFlags := 4120, slot := 9, constantValue := 0 }]
  methods := #[k22m0, k22m1]
  instanceTypes := #[]
  staticTypes := #[.double, .double, .double, .double, .double, .long, .long, .double, .double, .boolean]
  resolved := Array.replicate 460 none
  statics := none }

def pool23 : Array CpInfo := pool [(1, .methodref 2 3), (0, .class_ 4), (0, .nameAndType 5 6), (0, u "java/lang/Object"), (0, u "<init>"), (0, u "()V"), (0, .class_ 8), (0, u "java/lang/Record")] 13

def k23c0 : Code := { maxStack := 1, maxLocals := 1, code := jdk_30_method_1_code, exceptionTable := #[], attributes := #[] }
def k23m0 : Method := { name := "<init>", desc := "()V", sig := { parameters := [], returnType := none }, accessFlags := 4, code := some k23c0 }
/-- java/lang/Record -/
def k23 : Class := { plain "java/lang/Record" (some 0) with
  accessFlags := 1057
  interfaces := #[]
  cf := some (fileOf pool23 7 #[] #[{ accessFlags := 4, nameIndex := 5, descriptorIndex := 6, attributes := #[] }] 1057 2 #[] #[])
  fields := #[]
  methods := #[k23m0]
  instanceTypes := #[]
  staticTypes := #[]
  resolved := Array.replicate 22 none
  statics := none }

def pool24 : Array CpInfo := pool [(1, .methodref 2 3), (0, .class_ 4), (0, .nameAndType 5 6), (0, u "java/lang/Record"), (0, u "<init>"), (0, u "()V"), (0, .fieldref 8 9), (0, .class_ 10), (0, .nameAndType 11 12), (0, u "com/example/proxysmith/proxysmith/Bytecode$Handler"), (0, u "start"), (0, u "Lcom/example/proxysmith/proxysmith/Bytecode$Label;"), (0, .fieldref 8 14), (0, .nameAndType 15 12), (0, u "end"), (0, .fieldref 8 17), (0, .nameAndType 18 12), (0, u "handler"), (0, .fieldref 8 20), (0, .nameAndType 21 22), (0, u "catchType"), (0, u "Ljava/lang/String;"), (12, u "(Lcom/example/proxysmith/proxysmith/Bytecode$Label;Lcom/example/proxysmith/proxysmith/Bytecode$Label;Lcom/example/proxysmith/proxysmith/Bytecode$Label;Ljava/lang/String;)V"), (3, u "()Ljava/lang/String;"), (2, u "()Lcom/example/proxysmith/proxysmith/Bytecode$Label;"), (3, .class_ 47), (0, u "com/example/proxysmith/proxysmith/Bytecode")] 25

def k24c0 : Code := { maxStack := 2, maxLocals := 5, code := prog_4_method_1_code, exceptionTable := #[], attributes := #[] }
def k24m0 : Method := { name := "<init>", desc := "(Lcom/example/proxysmith/proxysmith/Bytecode$Label;Lcom/example/proxysmith/proxysmith/Bytecode$Label;Lcom/example/proxysmith/proxysmith/Bytecode$Label;Ljava/lang/String;)V", sig := { parameters := [(.object "com/example/proxysmith/proxysmith/Bytecode$Label"), (.object "com/example/proxysmith/proxysmith/Bytecode$Label"), (.object "com/example/proxysmith/proxysmith/Bytecode$Label"), (.object "java/lang/String")], returnType := none }, accessFlags := 2, code := some k24c0 }
def k24c1 : Code := { maxStack := 1, maxLocals := 1, code := prog_4_method_5_code, exceptionTable := #[], attributes := #[] }
def k24m1 : Method := { name := "start", desc := "()Lcom/example/proxysmith/proxysmith/Bytecode$Label;", sig := { parameters := [], returnType := some (.object "com/example/proxysmith/proxysmith/Bytecode$Label") }, accessFlags := 1, code := some k24c1 }
def k24c2 : Code := { maxStack := 1, maxLocals := 1, code := prog_4_method_6_code, exceptionTable := #[], attributes := #[] }
def k24m2 : Method := { name := "end", desc := "()Lcom/example/proxysmith/proxysmith/Bytecode$Label;", sig := { parameters := [], returnType := some (.object "com/example/proxysmith/proxysmith/Bytecode$Label") }, accessFlags := 1, code := some k24c2 }
def k24c3 : Code := { maxStack := 1, maxLocals := 1, code := prog_4_method_7_code, exceptionTable := #[], attributes := #[] }
def k24m3 : Method := { name := "handler", desc := "()Lcom/example/proxysmith/proxysmith/Bytecode$Label;", sig := { parameters := [], returnType := some (.object "com/example/proxysmith/proxysmith/Bytecode$Label") }, accessFlags := 1, code := some k24c3 }
def k24c4 : Code := { maxStack := 1, maxLocals := 1, code := prog_4_method_8_code, exceptionTable := #[], attributes := #[] }
def k24m4 : Method := { name := "catchType", desc := "()Ljava/lang/String;", sig := { parameters := [], returnType := some (.object "java/lang/String") }, accessFlags := 1, code := some k24c4 }
/-- com/example/proxysmith/proxysmith/Bytecode$Handler -/
def k24 : Class := { plain "com/example/proxysmith/proxysmith/Bytecode$Handler" (some 23) with
  accessFlags := 48
  interfaces := #[]
  cf := some (fileOf pool24 8 #[.nestHost 46] #[{ accessFlags := 2, nameIndex := 5, descriptorIndex := 35, attributes := #[] }, { accessFlags := 1, nameIndex := 11, descriptorIndex := 42, attributes := #[] }, { accessFlags := 1, nameIndex := 15, descriptorIndex := 42, attributes := #[] }, { accessFlags := 1, nameIndex := 18, descriptorIndex := 42, attributes := #[] }, { accessFlags := 1, nameIndex := 21, descriptorIndex := 39, attributes := #[] }] 48 2 #[] #[{ accessFlags := 18, nameIndex := 11, descriptorIndex := 12, attributes := #[] }, { accessFlags := 18, nameIndex := 15, descriptorIndex := 12, attributes := #[] }, { accessFlags := 18, nameIndex := 18, descriptorIndex := 12, attributes := #[] }, { accessFlags := 18, nameIndex := 21, descriptorIndex := 22, attributes := #[] }])
  fields := #[{ name := "start", type := (.object "com/example/proxysmith/proxysmith/Bytecode$Label"), accessFlags := 18, slot := 0, constantValue := 0 }, { name := "end", type := (.object "com/example/proxysmith/proxysmith/Bytecode$Label"), accessFlags := 18, slot := 1, constantValue := 0 }, { name := "handler", type := (.object "com/example/proxysmith/proxysmith/Bytecode$Label"), accessFlags := 18, slot := 2, constantValue := 0 }, { name := "catchType", type := (.object "java/lang/String"), accessFlags := 18, slot := 3, constantValue := 0 }]
  methods := #[k24m0, k24m1, k24m2, k24m3, k24m4]
  instanceTypes := #[(.object "com/example/proxysmith/proxysmith/Bytecode$Label"), (.object "com/example/proxysmith/proxysmith/Bytecode$Label"), (.object "com/example/proxysmith/proxysmith/Bytecode$Label"), (.object "java/lang/String")]
  staticTypes := #[]
  resolved := Array.replicate 73 none
  statics := none }

def pool25 : Array CpInfo := pool [(16, .class_ 18), (1, u "java/util/Iterator"), (0, u "hasNext"), (0, u "()Z"), (2, u "next"), (0, u "()Ljava/lang/Object;"), (6, .class_ 32), (0, u "java/lang/Object")] 20

def k25m0 : Method := { name := "hasNext", desc := "()Z", sig := { parameters := [], returnType := some .boolean }, accessFlags := 1025, code := none }
def k25m1 : Method := { name := "next", desc := "()Ljava/lang/Object;", sig := { parameters := [], returnType := some (.object "java/lang/Object") }, accessFlags := 1025, code := none }
/-- java/util/Iterator -/
def k25 : Class := { plain "java/util/Iterator" (some 0) with
  accessFlags := 1537
  interfaces := #[]
  cf := some (fileOf pool25 16 #[] #[{ accessFlags := 1025, nameIndex := 19, descriptorIndex := 20, attributes := #[] }, { accessFlags := 1025, nameIndex := 23, descriptorIndex := 24, attributes := #[] }] 1537 31 #[] #[])
  fields := #[]
  methods := #[k25m0, k25m1]
  instanceTypes := #[]
  staticTypes := #[]
  resolved := Array.replicate 53 none
  statics := none }

def pool26 : Array CpInfo := pool [(1, .fieldref 2 3), (0, .class_ 4), (0, .nameAndType 5 6), (0, u "java/util/ArrayList$Itr"), (0, u "this$0"), (0, u "Ljava/util/ArrayList;"), (0, .methodref 8 9), (0, .class_ 10), (0, .nameAndType 11 12), (0, u "java/lang/Object"), (0, u "<init>"), (0, u "()V"), (0, .fieldref 2 14), (0, .nameAndType 15 16), (0, u "lastRet"), (0, u "I"), (0, .fieldref 18 19), (0, .class_ 20), (0, .nameAndType 21 16), (0, u "java/util/ArrayList"), (0, u "modCount"), (0, .fieldref 2 23), (0, .nameAndType 24 16), (0, u "expectedModCount"), (0, .fieldref 2 26), (0, .nameAndType 27 16), (0, u "cursor"), (0, .fieldref 18 29), (0, .nameAndType 30 16), (0, u "size"), (0, .methodref 2 32), (0, .nameAndType 33 12), (0, u "checkForComodification"), (3, .fieldref 18 38), (0, .nameAndType 39 40), (0, u "elementData"), (0, u "[Ljava/lang/Object;"), (28, .class_ 70), (0, u "java/util/Iterator"), (0, u "(Ljava/util/ArrayList;)V"), (8, u "hasNext"), (0, u "()Z"), (1, u "next"), (0, u "()Ljava/lang/Object;")] 19

def k26c0 : Code := { maxStack := 2, maxLocals := 2, code := jdk_49_method_1_code, exceptionTable := #[], attributes := #[] }
def k26m0 : Method := { name := "<init>", desc := "(Ljava/util/ArrayList;)V", sig := { parameters := [(.object "java/util/ArrayList")], returnType := none }, accessFlags := 0, code := some k26c0 }
def k26c1 : Code := { maxStack := 2, maxLocals := 1, code := jdk_49_method_2_code, exceptionTable := #[], attributes := #[] }
def k26m1 : Method := { name := "hasNext", desc := "()Z", sig := { parameters := [], returnType := some .boolean }, accessFlags := 1, code := some k26c1 }
def k26c2 : Code := { maxStack := 4, maxLocals := 3, code := jdk_49_method_3_code, exceptionTable := #[], attributes := #[] }
def k26m2 : Method := { name := "next", desc := "()Ljava/lang/Object;", sig := { parameters := [], returnType := some (.object "java/lang/Object") }, accessFlags := 1, code := some k26c2 }
def k26c3 : Code := { maxStack := 2, maxLocals := 1, code := jdk_49_method_6_code, exceptionTable := #[], attributes := #[] }
def k26m3 : Method := { name := "checkForComodification", desc := "()V", sig := { parameters := [], returnType := none }, accessFlags := 16, code := some k26c3 }
/-- java/util/ArrayList$Itr -/
def k26 : Class := { plain "java/util/ArrayList$Itr" (some 0) with
  accessFlags := 32
  interfaces := #[25]
  cf := some (fileOf pool26 2 #[.nestHost 18] #[{ accessFlags := 0, nameIndex := 11, descriptorIndex := 71, attributes := #[] }, { accessFlags := 1, nameIndex := 80, descriptorIndex := 81, attributes := #[] }, { accessFlags := 1, nameIndex := 83, descriptorIndex := 84, attributes := #[] }, { accessFlags := 16, nameIndex := 33, descriptorIndex := 12, attributes := #[] }] 32 8 #[69] #[{ accessFlags := 0, nameIndex := 27, descriptorIndex := 16, attributes := #[] }, { accessFlags := 0, nameIndex := 15, descriptorIndex := 16, attributes := #[] }, { accessFlags := 0, nameIndex := 24, descriptorIndex := 16, attributes := #[] }, { accessFlags := 4112, nameIndex := 5, descriptorIndex := 6, attributes := #[] }])
  fields := #[{ name := "cursor", type := .int, accessFlags := 0, slot := 0, constantValue := 0 }, { name := "lastRet", type := .int, accessFlags := 0, slot := 1, constantValue := 0 }, { name := "expectedModCount", type := .int, accessFlags := 0, slot := 2, constantValue := 0 }, { name := "this$0", type := (.object "java/util/ArrayList"), accessFlags := 4112, slot := 3, constantValue := 0 }]
  methods := #[k26m0, k26m1, k26m2, k26m3]
  instanceTypes := #[.int, .int, .int, (.object "java/util/ArrayList")]
  staticTypes := #[]
  resolved := Array.replicate 104 none
  statics := none }

def pool27 : Array CpInfo := pool [(2, .class_ 4), (1, u "java/lang/Object"), (0, u "<init>"), (0, u "()V"), (1, .class_ 10), (1, u "java/lang/System"), (0, u "allowSecurityManager"), (0, u "I"), (16, u "cons"), (0, u "Ljava/io/Console;"), (77, .class_ 110), (1, u "java/lang/System$CallersHolder"), (43, u "initialErrStream"), (0, u "Ljava/io/PrintStream;"), (19, u "security"), (0, u "Ljava/lang/SecurityManager;"), (31, .class_ 209), (0, u "java/lang/System$1"), (7, u "props"), (0, u "Ljava/util/Properties;"), (2, u "lineSeparator"), (0, u "Ljava/lang/String;"), (96, .class_ 321), (1, u "java/lang/System$LoggerFinder"), (5, .class_ 328), (0, u "java/lang/System$Logger"), (67, u "err"), (2, u "out"), (91, u "notSupportedJnuEncoding"), (15, u "in"), (17, u "initialIn"), (0, u "Ljava/io/InputStream;"), (35, u "bootLayer"), (0, u "Ljava/lang/ModuleLayer;"), (99, .class_ 664), (0, u "java/lang/System$2"), (9, u "NEVER"), (2, u "MAYBE"), (49, u "arraycopy"), (0, u "(Ljava/lang/Object;ILjava/lang/Object;II)V"), (72, .class_ 802), (0, u "java/lang/System$Logger$Level")] 31

def k27m0 : Method := { name := "<init>", desc := "()V", sig := { parameters := [], returnType := none }, accessFlags := 2, code := none }
def k27m1 : Method := { name := "arraycopy", desc := "(Ljava/lang/Object;ILjava/lang/Object;II)V", sig := { parameters := [(.object "java/lang/Object"), .int, (.object "java/lang/Object"), .int, .int], returnType := none }, accessFlags := 265, code := none }
/-- java/lang/System -/
def k27 : Class := { plain "java/lang/System" (some 0) with
  accessFlags := 49
  interfaces := #[]
  cf := some (fileOf pool27 8 #[.nestMembers #[319, 327, 801, 108, 663, 208]] #[{ accessFlags := 2, nameIndex := 5, descriptorIndex := 6, attributes := #[] }, { accessFlags := 265, nameIndex := 727, descriptorIndex := 728, attributes := #[] }] 49 2 #[] #[{ accessFlags := 25, nameIndex := 507, descriptorIndex := 526, attributes := #[] }, { accessFlags := 25, nameIndex := 399, descriptorIndex := 155, attributes := #[] }, { accessFlags := 25, nameIndex := 396, descriptorIndex := 155, attributes := #[] }, { accessFlags := 10, nameIndex := 525, descriptorIndex := 526, attributes := #[] }, { accessFlags := 26, nameIndex := 674, descriptorIndex := 12, attributes := #[] }, { accessFlags := 26, nameIndex := 677, descriptorIndex := 12, attributes := #[] }, { accessFlags := 10, nameIndex := 11, descriptorIndex := 12, attributes := #[] }, { accessFlags := 74, nameIndex := 175, descriptorIndex := 176, attributes := #[] }, { accessFlags := 10, nameIndex := 491, descriptorIndex := 222, attributes := #[] }, { accessFlags := 74, nameIndex := 29, descriptorIndex := 30, attributes := #[] }, { accessFlags := 74, nameIndex := 154, descriptorIndex := 155, attributes := #[] }, { accessFlags := 10, nameIndex := 217, descriptorIndex := 218, attributes := #[] }, { accessFlags := 10, nameIndex := 221, descriptorIndex := 222, attributes := #[] }, { accessFlags := 8, nameIndex := 562, descriptorIndex := 563, attributes := #[] }])
  fields := #[{ name := "in", type := (.object "java/io/InputStream"), accessFlags := 25, slot := 0, constantValue := 0 }, { name := "out", type := (.object "java/io/PrintStream"), accessFlags := 25, slot := 1, constantValue := 0 }, { name := "err", type := (.object "java/io/PrintStream"), accessFlags := 25, slot := 2, constantValue := 0 }, { name := "initialIn", type := (.object "java/io/InputStream"), accessFlags := 10, slot := 3, constantValue := 0 }, { name := "NEVER", type := .int, accessFlags := 26, slot := 4, constantValue := 0 }, { name := "MAYBE", type := .int, accessFlags := 26, slot := 5, constantValue := 0 }, { name := "allowSecurityManager", type := .int, accessFlags := 10, slot := 6, constantValue := 0 }, { name := "security", type := (.object "java/lang/SecurityManager"), accessFlags := 74, slot := 7, constantValue := 0 }, { name := "notSupportedJnuEncoding", type := (.object "java/lang/String"), accessFlags := 10, slot := 8, constantValue := 0 }, { name := "cons", type := (.object "java/io/Console"), accessFlags := 74, slot := 9, constantValue := 0 }, { name := "initialErrStream", type := (.object "java/io/PrintStream"), accessFlags := 74, slot := 10, constantValue := 0 }, { name := "props", type := (.object "java/util/Properties"), accessFlags := 10, slot := 11, constantValue := 0 }, { name := "lineSeparator", type := (.object "java/lang/String"), accessFlags := 10, slot := 12, constantValue := 0 }, { name := "bootLayer", type := (.object "java/lang/ModuleLayer"), accessFlags := 8, slot := 13, constantValue := 0 }]
  methods := #[k27m0, k27m1]
  instanceTypes := #[]
  staticTypes := #[(.object "java/io/InputStream"), (.object "java/io/PrintStream"), (.object "java/io/PrintStream"), (.object "java/io/InputStream"), .int, .int, .int, (.object "java/lang/SecurityManager"), (.object "java/lang/String"), (.object "java/io/Console"), (.object "java/io/PrintStream"), (.object "java/util/Properties"), (.object "java/lang/String"), (.object "java/lang/ModuleLayer")]
  resolved := Array.replicate 834 none
  statics := none }

def pool28 : Array CpInfo := pool [(9, u "<init>"), (6, .class_ 18), (1, u "java/lang/Object"), (0, u "()V"), (1, .class_ 23), (1, u "jdk/internal/util/ArraysSupport"), (0, u "LOG2_ARRAY_LONG_INDEX_SCALE"), (0, u "I"), (2, u "U"), (0, u "Ljdk/internal/misc/Unsafe;"), (8, u "BIG_ENDIAN"), (0, u "Z"), (8, u "LOG2_BYTE_BIT_SIZE"), (4, u "LOG2_ARRAY_INT_INDEX_SCALE"), (54, u "JLA"), (0, u "Ljdk/internal/access/JavaLangAccess;"), (11, u "LOG2_ARRAY_BOOLEAN_INDEX_SCALE"), (9, u "LOG2_ARRAY_BYTE_INDEX_SCALE"), (5, u "LOG2_ARRAY_CHAR_INDEX_SCALE"), (5, u "LOG2_ARRAY_SHORT_INDEX_SCALE"), (18, u "LOG2_ARRAY_FLOAT_INDEX_SCALE"), (24, u "LOG2_ARRAY_DOUBLE_INDEX_SCALE"), (89, u "T_BOOLEAN"), (2, u "T_CHAR"), (1, u "T_FLOAT"), (1, u "T_DOUBLE"), (1, u "T_BYTE"), (1, u "T_SHORT"), (1, u "T_INT"), (1, u "T_LONG"), (1, u "SOFT_MAX_ARRAY_LENGTH")] 83

def k28m0 : Method := { name := "<init>", desc := "()V", sig := { parameters := [], returnType := none }, accessFlags := 2, code := none }
/-- jdk/internal/util/ArraysSupport -/
def k28 : Class := { plain "jdk/internal/util/ArraysSupport" (some 0) with
  accessFlags := 33
  interfaces := #[]
  cf := some (fileOf pool28 21 #[] #[{ accessFlags := 2, nameIndex := 9, descriptorIndex := 19, attributes := #[] }] 33 16 #[] #[{ accessFlags := 24, nameIndex := 28, descriptorIndex := 29, attributes := #[] }, { accessFlags := 26, nameIndex := 38, descriptorIndex := 39, attributes := #[] }, { accessFlags := 25, nameIndex := 121, descriptorIndex := 25, attributes := #[] }, { accessFlags := 25, nameIndex := 131, descriptorIndex := 25, attributes := #[] }, { accessFlags := 25, nameIndex := 137, descriptorIndex := 25, attributes := #[] }, { accessFlags := 25, nameIndex := 143, descriptorIndex := 25, attributes := #[] }, { accessFlags := 25, nameIndex := 53, descriptorIndex := 25, attributes := #[] }, { accessFlags := 25, nameIndex := 24, descriptorIndex := 25, attributes := #[] }, { accessFlags := 25, nameIndex := 162, descriptorIndex := 25, attributes := #[] }, { accessFlags := 25, nameIndex := 187, descriptorIndex := 25, attributes := #[] }, { accessFlags := 26, nameIndex := 48, descriptorIndex := 25, attributes := #[] }, { accessFlags := 25, nameIndex := 277, descriptorIndex := 25, attributes := #[] }, { accessFlags := 25, nameIndex := 280, descriptorIndex := 25, attributes := #[] }, { accessFlags := 25, nameIndex := 282, descriptorIndex := 25, attributes := #[] }, { accessFlags := 25, nameIndex := 284, descriptorIndex := 25, attributes := #[] }, { accessFlags := 25, nameIndex := 286, descriptorIndex := 25, attributes := #[] }, { accessFlags := 25, nameIndex := 288, descriptorIndex := 25, attributes := #[] }, { accessFlags := 25, nameIndex := 290, descriptorIndex := 25, attributes := #[] }, { accessFlags := 25, nameIndex := 292, descriptorIndex := 25, attributes := #[] }, { accessFlags := 26, nameIndex := 108, descriptorIndex := 109, attributes := #[] }, { accessFlags := 25, nameIndex := 294, descriptorIndex := 25, attributes := #[] }])
  fields := #[{ name := "U", type := (.object "jdk/internal/misc/Unsafe"), accessFlags := 24, slot := 0, constantValue := 0 }, { name := "BIG_ENDIAN", type := .boolean, accessFlags := 26, slot := 1, constantValue := 0 }, { name := "LOG2_ARRAY_BOOLEAN_INDEX_SCALE", type := .int, accessFlags := 25, slot := 2, constantValue := 0 }, { name := "LOG2_ARRAY_BYTE_INDEX_SCALE", type := .int, accessFlags := 25, slot := 3, constantValue := 0 }, { name := "LOG2_ARRAY_CHAR_INDEX_SCALE", type := .int, accessFlags := 25, slot := 4, constantValue := 0 }, { name := "LOG2_ARRAY_SHORT_INDEX_SCALE", type := .int, accessFlags := 25, slot := 5, constantValue := 0 }, { name := "LOG2_ARRAY_INT_INDEX_SCALE", type := .int, accessFlags := 25, slot := 6, constantValue := 0 }, { name := "LOG2_ARRAY_LONG_INDEX_SCALE", type := .int, accessFlags := 25, slot := 7, constantValue := 0 }, { name := "LOG2_ARRAY_FLOAT_INDEX_SCALE", type := .int, accessFlags := 25, slot := 8, constantValue := 0 }, { name := "LOG2_ARRAY_DOUBLE_INDEX_SCALE", type := .int, accessFlags := 25, slot := 9, constantValue := 0 }, { name := "LOG2_BYTE_BIT_SIZE", type := .int, accessFlags := 26, slot := 10, constantValue := 0 }, { name := "T_BOOLEAN", type := .int, accessFlags := 25, slot := 11, constantValue := 0 }, { name := "T_CHAR", type := .int, accessFlags := 25, slot := 12, constantValue := 0 }, { name := "T_FLOAT", type := .int, accessFlags := 25, slot := 13, constantValue := 0 }, { name := "T_DOUBLE", type := .int, accessFlags := 25, slot := 14, constantValue := 0 }, { name := "T_BYTE", type := .int, accessFlags := 25, slot := 15, constantValue := 0 }, { name := "T_SHORT", type := .int, accessFlags := 25, slot := 16, constantValue := 0 }, { name := "T_INT", type := .int, accessFlags := 25, slot := 17, constantValue := 0 }, { name := "T_LONG", type := .int, accessFlags := 25, slot := 18, constantValue := 0 }, { name := "JLA", type := (.object "jdk/internal/access/JavaLangAccess"), accessFlags := 26, slot := 19, constantValue := 0 }, { name := "SOFT_MAX_ARRAY_LENGTH", type := .int, accessFlags := 25, slot := 20, constantValue := 0 }]
  methods := #[k28m0]
  instanceTypes := #[]
  staticTypes := #[(.object "jdk/internal/misc/Unsafe"), .boolean, .int, .int, .int, .int, .int, .int, .int, .int, .int, .int, .int, .int, .int, .int, .int, .int, .int, (.object "jdk/internal/access/JavaLangAccess"), .int]
  resolved := Array.replicate 378 none
  statics := none }

/-- the primitive byte -/
def k29 : Class := { plain "byte" none with kind := .primitive 'B', accessFlags := 0x411 }
/-- [B -/
def k30 : Class := { plain "[B" (some 0) with kind := .array 29 .byte, interfaces := #[17, 3], accessFlags := 1041 }

/-- the primitive int -/
def k31 : Class := { plain "int" none with kind := .primitive 'I', accessFlags := 0x411 }
/-- [I -/
def k32 : Class := { plain "[I" (some 0) with kind := .array 31 .int, interfaces := #[17, 3], accessFlags := 1041 }

/-- [Ljava/lang/Object; -/
def k33 : Class := { plain "[Ljava/lang/Object;" (some 0) with kind := .array 0 (.object "java/lang/Object"), interfaces := #[17, 3], accessFlags := 1041 }

def heap : Heap := #[{ cls := 8, slots := #[.long 0, .int 1, .null, .int 0, .null, .int 0, .int 0], vm := .statics 8 },
  { cls := 20, slots := #[.null, .null, .null], vm := .statics 20 }]
def classes : Array Class := #[k0, k1, k2, k3, k4, k5, k6, k7, k8, k9, k10, k11, k12, k13, k14, k15, k16, k17, k18, k19, k20, k21, k22, k23, k24, k25, k26, k27, k28, k29, k30, k31, k32, k33]
def interned : List (Array UInt16 × Addr) := []
def slotsUsed : Nat := 10
def theMethod : MethodId := ⟨1, 3⟩
def args0 : Array Value := #[.int 3, .int 5, .int 300, .int 3]
def aboutOver (below : List Frame) : State where
  vm := { classes := classes, interned := interned.toArray }
  heap := heap
  slotsUsed := slotsUsed
  threads := #[{ frames := .invoking theMethod args0 :: below }]
def below0 : List Frame := [.native { method := ⟨0, 0⟩, args := #[] }]
def about1 : State := aboutOver below0
def p0 : Program := .bare "" "" ""
def e0 : Env := launch0.env 0 0 0
theorem w_frames : about1.frames = Frame.invoking theMethod args0 :: below0 := rfl
set_option maxRecDepth 65536 in
theorem w_args : argsFit about1.vm theMethod args0 = true := by decide +kernel
set_option maxRecDepth 65536 in
theorem w_heap : heapFits about1 = true := by decide +kernel
set_option maxRecDepth 65536 in
theorem w_runnable : about1.curStatus? = some .runnable := by decide +kernel
set_option maxRecDepth 65536 in
theorem w_alone : about1.alone = true := by decide +kernel
set_option maxRecDepth 65536 in
theorem w_named : about1.methodNamed? x = some theMethod := by decide +kernel
set_option maxRecDepth 65536 in
theorem w_hears : about1.hears theMethod below0 = true := by decide +kernel
set_option maxRecDepth 65536 in
theorem w_ripe : about1.ripe theMethod args0 below0 = true := by decide +kernel
theorem w_running : about1.status = .running := rfl
set_option maxRecDepth 65536 in
theorem w_room : about1.hasRoom e0.platform room_1 = true :=
  launch0.hasRoom_least _ room_1 (by decide +kernel) (by decide +kernel) (by decide +kernel) (by decide +kernel) (by decide +kernel) (by decide +kernel)
theorem allAtoms_all (ts : List Jvm.Cond) (a : Array Jvm.Value) (st : Jvm.State) : (allAtoms ts).before a st = ts.all (fun c => c.before a st) := by
  induction ts with
  | nil => rfl
  | cons c t ih =>
    show (Jvm.Cond.and c (allAtoms t)).before a st = _
    rw [Jvm.Cond.before_and, ih, List.all_cons]
def words1 : List Jvm.Cond := Jvm.Cond.code x code maxLocals ret :: tables_1
/-- a 'code' word, met by the world's own term for the bytes: nothing is compared byte by byte -/
theorem code_word {y : MethodName} {bytes : ByteArray} {mx : Nat} {rt : Option FieldType} {a : Array Value} {s : State} {m : MethodId} {meth : Method} {c : Code} (h1 : s.methodNamed? y = some m) (h2 : s.vm.method? m = some meth) (h3 : meth.code = some c) (h4 : c.code = bytes)
    (h5 : (c.maxLocals == mx && c.exceptionTable.isEmpty && decide (c.maxStack ≤ mostOperands) && decide (meth.sig.returnType = rt) && !meth.locks && decide (parseMethodDescriptor y.desc = some meth.sig)) = true) : (Jvm.Cond.code y bytes mx rt).before a s = true := by
  simp only [Bool.and_eq_true, beq_iff_eq, Bool.not_eq_true', decide_eq_true_eq] at h5
  obtain ⟨⟨⟨⟨⟨g1, g2⟩, g3⟩, g4⟩, g5⟩, g6⟩ := h5
  simp [Cond.before, Cond.holds, Cond.value, h1, h2, h3, h4, g1, g2, g3, g4, g5, g6]
def isCode : Jvm.Cond → Bool
  | .code _ _ _ _ => true
  | _ => false
theorem all_split {L : List Jvm.Cond} {P : Jvm.Cond → Bool} (h1 : L.all (fun c => isCode c || P c) = true) (h2 : ∀ c ∈ L.filter isCode, P c = true) : L.all P = true := by
  refine List.all_eq_true.mpr fun c hc => ?_
  have h := List.all_eq_true.mp h1 c hc
  rcases Bool.eq_false_or_eq_true (isCode c) with hi | hi
  · exact h2 c (List.mem_filter.mpr ⟨hc, hi⟩)
  · simpa [hi] using h
set_option maxRecDepth 65536 in
theorem w_c0 : (Jvm.Cond.code x code maxLocals ret).before args0 about1 = true := code_word (m := ⟨1, 3⟩) (meth := k1m3) (c := k1c3) (by decide +kernel) rfl rfl rfl (by decide +kernel)
set_option maxRecDepth 65536 in
theorem w_c1 : (Jvm.Cond.code ({ cls := "com/example/proxysmith/proxysmith/Bytecode", name := "<init>", desc := "(Lcom/example/proxysmith/proxysmith/ClassFileWriter;Ljava/lang/String;Ljava/lang/String;)V" } : Jvm.MethodName) prog_2_method_1_code (8 : Nat) (Option.none : Option Jvm.ClassFile.FieldType)).before args0 about1 = true := code_word (m := ⟨2, 0⟩) (meth := k2m0) (c := k2c0) (by decide +kernel) rfl rfl rfl (by decide +kernel)
set_option maxRecDepth 65536 in
theorem w_c2 : (Jvm.Cond.code ({ cls := "java/lang/Object", name := "<init>", desc := "()V" } : Jvm.MethodName) object_method_1_code (1 : Nat) (Option.none : Option Jvm.ClassFile.FieldType)).before args0 about1 = true := code_word (m := ⟨0, 0⟩) (meth := k0m0) (c := k0c0) (by decide +kernel) rfl rfl rfl (by decide +kernel)
set_option maxRecDepth 65536 in
theorem w_c3 : (Jvm.Cond.code ({ cls := "com/example/proxysmith/proxysmith/ClassFileWriter$Bytes", name := "<init>", desc := "(I)V" } : Jvm.MethodName) prog_13_method_1_code (2 : Nat) (Option.none : Option Jvm.ClassFile.FieldType)).before args0 about1 = true := code_word (m := ⟨9, 0⟩) (meth := k9m0) (c := k9c0) (by decide +kernel) rfl rfl rfl (by decide +kernel)
set_option maxRecDepth 65536 in
theorem w_c4 : (Jvm.Cond.code ({ cls := "java/util/ArrayList", name := "<init>", desc := "(I)V" } : Jvm.MethodName) jdk_38_method_1_code (2 : Nat) (Option.none : Option Jvm.ClassFile.FieldType)).before args0 about1 = true := code_word (m := ⟨18, 0⟩) (meth := k18m0) (c := k18c0) (by decide +kernel) rfl rfl rfl (by decide +kernel)
set_option maxRecDepth 65536 in
theorem w_c5 : (Jvm.Cond.code ({ cls := "java/util/AbstractList", name := "<init>", desc := "()V" } : Jvm.MethodName) jdk_39_method_1_code (1 : Nat) (Option.none : Option Jvm.ClassFile.FieldType)).before args0 about1 = true := code_word (m := ⟨15, 0⟩) (meth := k15m0) (c := k15c0) (by decide +kernel) rfl rfl rfl (by decide +kernel)
set_option maxRecDepth 65536 in
theorem w_c6 : (Jvm.Cond.code ({ cls := "java/util/AbstractCollection", name := "<init>", desc := "()V" } : Jvm.MethodName) jdk_22_method_1_code (1 : Nat) (Option.none : Option Jvm.ClassFile.FieldType)).before args0 about1 = true := code_word (m := ⟨12, 0⟩) (meth := k12m0) (c := k12c0) (by decide +kernel) rfl rfl rfl (by decide +kernel)
set_option maxRecDepth 65536 in
theorem w_c7 : (Jvm.Cond.code ({ cls := "java/lang/String", name := "charAt", desc := "(I)C" } : Jvm.MethodName) jdk_42_method_56_code (2 : Nat) (Option.some Jvm.ClassFile.FieldType.char)).before args0 about1 = true := code_word (m := ⟨8, 1⟩) (meth := k8m1) (c := k8c1) (by decide +kernel) rfl rfl rfl (by decide +kernel)
set_option maxRecDepth 65536 in
theorem w_c8 : (Jvm.Cond.code ({ cls := "java/lang/String", name := "isLatin1", desc := "()Z" } : Jvm.MethodName) jdk_42_method_154_code (1 : Nat) (Option.some Jvm.ClassFile.FieldType.boolean)).before args0 about1 = true := code_word (m := ⟨8, 2⟩) (meth := k8m2) (c := k8c2) (by decide +kernel) rfl rfl rfl (by decide +kernel)
set_option maxRecDepth 65536 in
theorem w_c9 : (Jvm.Cond.code ({ cls := "java/lang/StringLatin1", name := "charAt", desc := "([BI)C" } : Jvm.MethodName) jdk_43_method_2_code (2 : Nat) (Option.some Jvm.ClassFile.FieldType.char)).before args0 about1 = true := code_word (m := ⟨19, 1⟩) (meth := k19m1) (c := k19c1) (by decide +kernel) rfl rfl rfl (by decide +kernel)
set_option maxRecDepth 65536 in
theorem w_c10 : (Jvm.Cond.code ({ cls := "java/lang/String", name := "checkIndex", desc := "(II)V" } : Jvm.MethodName) jdk_42_method_155_code (2 : Nat) (Option.none : Option Jvm.ClassFile.FieldType)).before args0 about1 = true := code_word (m := ⟨8, 3⟩) (meth := k8m3) (c := k8c3) (by decide +kernel) rfl rfl rfl (by decide +kernel)
set_option maxRecDepth 65536 in
theorem w_c11 : (Jvm.Cond.code ({ cls := "jdk/internal/util/Preconditions", name := "checkIndex", desc := "(IILjava/util/function/BiFunction;)I" } : Jvm.MethodName) jdk_41_method_11_code (3 : Nat) (Option.some Jvm.ClassFile.FieldType.int)).before args0 about1 = true := code_word (m := ⟨20, 1⟩) (meth := k20m1) (c := k20c1) (by decide +kernel) rfl rfl rfl (by decide +kernel)
set_option maxRecDepth 65536 in
theorem w_c12 : (Jvm.Cond.code ({ cls := "com/example/proxysmith/proxysmith/Bytecode", name := "label", desc := "()Lcom/example/proxysmith/proxysmith/Bytecode$Label;" } : Jvm.MethodName) prog_2_method_4_code (1 : Nat) (Option.some (Jvm.ClassFile.FieldType.object "com/example/proxysmith/proxysmith/Bytecode$Label"))).before args0 about1 = true := code_word (m := ⟨2, 1⟩) (meth := k2m1) (c := k2c1) (by decide +kernel) rfl rfl rfl (by decide +kernel)
set_option maxRecDepth 65536 in
theorem w_c13 : (Jvm.Cond.code ({ cls := "com/example/proxysmith/proxysmith/Bytecode$Label", name := "<init>", desc := "()V" } : Jvm.MethodName) prog_6_method_1_code (1 : Nat) (Option.none : Option Jvm.ClassFile.FieldType)).before args0 about1 = true := code_word (m := ⟨21, 0⟩) (meth := k21m0) (c := k21c0) (by decide +kernel) rfl rfl rfl (by decide +kernel)
set_option maxRecDepth 65536 in
theorem w_c14 : (Jvm.Cond.code ({ cls := "com/example/proxysmith/proxysmith/Bytecode", name := "load", desc := "(Ljava/lang/String;I)V" } : Jvm.MethodName) prog_2_method_8_code (3 : Nat) (Option.none : Option Jvm.ClassFile.FieldType)).before args0 about1 = true := code_word (m := ⟨2, 4⟩) (meth := k2m4) (c := k2c4) (by decide +kernel) rfl rfl rfl (by decide +kernel)
set_option maxRecDepth 65536 in
theorem w_c15 : (Jvm.Cond.code ({ cls := "com/example/proxysmith/proxysmith/Bytecode", name := "local", desc := "(IIILjava/lang/String;)V" } : Jvm.MethodName) prog_2_method_39_code (6 : Nat) (Option.none : Option Jvm.ClassFile.FieldType)).before args0 about1 = true := code_word (m := ⟨2, 9⟩) (meth := k2m9) (c := k2c9) (by decide +kernel) rfl rfl rfl (by decide +kernel)
set_option maxRecDepth 65536 in
theorem w_c16 : (Jvm.Cond.code ({ cls := "com/example/proxysmith/proxysmith/Bytecode", name := "slots", desc := "(C)I" } : Jvm.MethodName) prog_2_method_36_code (1 : Nat) (Option.some Jvm.ClassFile.FieldType.int)).before args0 about1 = true := code_word (m := ⟨2, 8⟩) (meth := k2m8) (c := k2c8) (by decide +kernel) rfl rfl rfl (by decide +kernel)
set_option maxRecDepth 65536 in
theorem w_c17 : (Jvm.Cond.code ({ cls := "java/lang/Math", name := "max", desc := "(II)I" } : Jvm.MethodName) jdk_29_method_65_code (2 : Nat) (Option.some Jvm.ClassFile.FieldType.int)).before args0 about1 = true := code_word (m := ⟨22, 1⟩) (meth := k22m1) (c := k22c1) (by decide +kernel) rfl rfl rfl (by decide +kernel)
set_option maxRecDepth 65536 in
theorem w_c18 : (Jvm.Cond.code ({ cls := "com/example/proxysmith/proxysmith/Bytecode", name := "kind", desc := "(Ljava/lang/String;)I" } : Jvm.MethodName) prog_2_method_35_code (1 : Nat) (Option.some Jvm.ClassFile.FieldType.int)).before args0 about1 = true := code_word (m := ⟨2, 7⟩) (meth := k2m7) (c := k2c7) (by decide +kernel) rfl rfl rfl (by decide +kernel)
set_option maxRecDepth 65536 in
theorem w_c19 : (Jvm.Cond.code ({ cls := "com/example/proxysmith/proxysmith/Bytecode", name := "op", desc := "(II)V" } : Jvm.MethodName) prog_2_method_46_code (3 : Nat) (Option.none : Option Jvm.ClassFile.FieldType)).before args0 about1 = true := code_word (m := ⟨2, 11⟩) (meth := k2m11) (c := k2c11) (by decide +kernel) rfl rfl rfl (by decide +kernel)
set_option maxRecDepth 65536 in
theorem w_c20 : (Jvm.Cond.code ({ cls := "com/example/proxysmith/proxysmith/ClassFileWriter$Bytes", name := "u1", desc := "(I)V" } : Jvm.MethodName) prog_13_method_2_code (2 : Nat) (Option.none : Option Jvm.ClassFile.FieldType)).before args0 about1 = true := code_word (m := ⟨9, 1⟩) (meth := k9m1) (c := k9c1) (by decide +kernel) rfl rfl rfl (by decide +kernel)
set_option maxRecDepth 65536 in
theorem w_c21 : (Jvm.Cond.code ({ cls := "com/example/proxysmith/proxysmith/ClassFileWriter$Bytes", name := "room", desc := "(I)V" } : Jvm.MethodName) prog_13_method_11_code (2 : Nat) (Option.none : Option Jvm.ClassFile.FieldType)).before args0 about1 = true := code_word (m := ⟨9, 7⟩) (meth := k9m7) (c := k9c7) (by decide +kernel) rfl rfl rfl (by decide +kernel)
set_option maxRecDepth 65536 in
theorem w_c22 : (Jvm.Cond.code ({ cls := "com/example/proxysmith/proxysmith/Bytecode", name := "push", desc := "(I)V" } : Jvm.MethodName) prog_2_method_44_code (2 : Nat) (Option.none : Option Jvm.ClassFile.FieldType)).before args0 about1 = true := code_word (m := ⟨2, 10⟩) (meth := k2m10) (c := k2c10) (by decide +kernel) rfl rfl rfl (by decide +kernel)
set_option maxRecDepth 65536 in
theorem w_c23 : (Jvm.Cond.code ({ cls := "com/example/proxysmith/proxysmith/Bytecode", name := "place", desc := "(Lcom/example/proxysmith/proxysmith/Bytecode$Label;)V" } : Jvm.MethodName) prog_2_method_5_code (2 : Nat) (Option.none : Option Jvm.ClassFile.FieldType)).before args0 about1 = true := code_word (m := ⟨2, 2⟩) (meth := k2m2) (c := k2c2) (by decide +kernel) rfl rfl rfl (by decide +kernel)
set_option maxRecDepth 65536 in
theorem w_c24 : (Jvm.Cond.code ({ cls := "com/example/proxysmith/proxysmith/ClassFileWriter$Bytes", name := "size", desc := "()I" } : Jvm.MethodName) prog_13_method_9_code (1 : Nat) (Option.some Jvm.ClassFile.FieldType.int)).before args0 about1 = true := code_word (m := ⟨9, 5⟩) (meth := k9m5) (c := k9c5) (by decide +kernel) rfl rfl rfl (by decide +kernel)
set_option maxRecDepth 65536 in
theorem w_c25 : (Jvm.Cond.code ({ cls := "com/example/proxysmith/proxysmith/Bytecode", name := "handle", desc := "(Lcom/example/proxysmith/proxysmith/Bytecode$Label;Lcom/example/proxysmith/proxysmith/Bytecode$Label;Lcom/example/proxysmith/proxysmith/Bytecode$Label;Ljava/lang/String;)V" } : Jvm.MethodName) prog_2_method_7_code (5 : Nat) (Option.none : Option Jvm.ClassFile.FieldType)).before args0 about1 = true := code_word (m := ⟨2, 3⟩) (meth := k2m3) (c := k2c3) (by decide +kernel) rfl rfl rfl (by decide +kernel)
set_option maxRecDepth 65536 in
theorem w_c26 : (Jvm.Cond.code ({ cls := "com/example/proxysmith/proxysmith/Bytecode$Handler", name := "<init>", desc := "(Lcom/example/proxysmith/proxysmith/Bytecode$Label;Lcom/example/proxysmith/proxysmith/Bytecode$Label;Lcom/example/proxysmith/proxysmith/Bytecode$Label;Ljava/lang/String;)V" } : Jvm.MethodName) prog_4_method_1_code (5 : Nat) (Option.none : Option Jvm.ClassFile.FieldType)).before args0 about1 = true := code_word (m := ⟨24, 0⟩) (meth := k24m0) (c := k24c0) (by decide +kernel) rfl rfl rfl (by decide +kernel)
set_option maxRecDepth 65536 in
theorem w_c27 : (Jvm.Cond.code ({ cls := "java/lang/Record", name := "<init>", desc := "()V" } : Jvm.MethodName) jdk_30_method_1_code (1 : Nat) (Option.none : Option Jvm.ClassFile.FieldType)).before args0 about1 = true := code_word (m := ⟨23, 0⟩) (meth := k23m0) (c := k23c0) (by decide +kernel) rfl rfl rfl (by decide +kernel)
set_option maxRecDepth 65536 in
theorem w_c28 : (Jvm.Cond.code ({ cls := "java/util/ArrayList", name := "add", desc := "(Ljava/lang/Object;)Z" } : Jvm.MethodName) jdk_38_method_25_code (2 : Nat) (Option.some Jvm.ClassFile.FieldType.boolean)).before args0 about1 = true := code_word (m := ⟨18, 5⟩) (meth := k18m5) (c := k18c5) (by decide +kernel) rfl rfl rfl (by decide +kernel)
set_option maxRecDepth 65536 in
theorem w_c29 : (Jvm.Cond.code ({ cls := "java/util/ArrayList", name := "add", desc := "(Ljava/lang/Object;[Ljava/lang/Object;I)V" } : Jvm.MethodName) jdk_38_method_24_code (4 : Nat) (Option.none : Option Jvm.ClassFile.FieldType)).before args0 about1 = true := code_word (m := ⟨18, 4⟩) (meth := k18m4) (c := k18c4) (by decide +kernel) rfl rfl rfl (by decide +kernel)
set_option maxRecDepth 65536 in
theorem w_c30 : (Jvm.Cond.code ({ cls := "com/example/proxysmith/proxysmith/Bytecode", name := "toAttribute", desc := "()[B" } : Jvm.MethodName) prog_2_method_31_code (6 : Nat) (Option.some (Jvm.ClassFile.FieldType.array Jvm.ClassFile.FieldType.byte))).before args0 about1 = true := code_word (m := ⟨2, 5⟩) (meth := k2m5) (c := k2c5) (by decide +kernel) rfl rfl rfl (by decide +kernel)
set_option maxRecDepth 65536 in
theorem w_c31 : (Jvm.Cond.code ({ cls := "java/util/ArrayList", name := "iterator", desc := "()Ljava/util/Iterator;" } : Jvm.MethodName) jdk_38_method_55_code (1 : Nat) (Option.some (Jvm.ClassFile.FieldType.object "java/util/Iterator"))).before args0 about1 = true := code_word (m := ⟨18, 6⟩) (meth := k18m6) (c := k18c6) (by decide +kernel) rfl rfl rfl (by decide +kernel)
set_option maxRecDepth 65536 in
theorem w_c32 : (Jvm.Cond.code ({ cls := "java/util/ArrayList$Itr", name := "<init>", desc := "(Ljava/util/ArrayList;)V" } : Jvm.MethodName) jdk_49_method_1_code (2 : Nat) (Option.none : Option Jvm.ClassFile.FieldType)).before args0 about1 = true := code_word (m := ⟨26, 0⟩) (meth := k26m0) (c := k26c0) (by decide +kernel) rfl rfl rfl (by decide +kernel)
set_option maxRecDepth 65536 in
theorem w_c33 : (Jvm.Cond.code ({ cls := "java/util/ArrayList$Itr", name := "hasNext", desc := "()Z" } : Jvm.MethodName) jdk_49_method_2_code (1 : Nat) (Option.some Jvm.ClassFile.FieldType.boolean)).before args0 about1 = true := code_word (m := ⟨26, 1⟩) (meth := k26m1) (c := k26c1) (by decide +kernel) rfl rfl rfl (by decide +kernel)
set_option maxRecDepth 65536 in
theorem w_c34 : (Jvm.Cond.code ({ cls := "java/util/ArrayList", name := "isEmpty", desc := "()Z" } : Jvm.MethodName) jdk_38_method_9_code (1 : Nat) (Option.some Jvm.ClassFile.FieldType.boolean)).before args0 about1 = true := code_word (m := ⟨18, 3⟩) (meth := k18m3) (c := k18c3) (by decide +kernel) rfl rfl rfl (by decide +kernel)
set_option maxRecDepth 65536 in
theorem w_c35 : (Jvm.Cond.code ({ cls := "java/util/ArrayList", name := "size", desc := "()I" } : Jvm.MethodName) jdk_38_method_8_code (1 : Nat) (Option.some Jvm.ClassFile.FieldType.int)).before args0 about1 = true := code_word (m := ⟨18, 2⟩) (meth := k18m2) (c := k18c2) (by decide +kernel) rfl rfl rfl (by decide +kernel)
set_option maxRecDepth 65536 in
theorem w_c36 : (Jvm.Cond.code ({ cls := "com/example/proxysmith/proxysmith/ClassFileWriter$Bytes", name := "u2", desc := "(I)V" } : Jvm.MethodName) prog_13_method_3_code (2 : Nat) (Option.none : Option Jvm.ClassFile.FieldType)).before args0 about1 = true := code_word (m := ⟨9, 2⟩) (meth := k9m2) (c := k9c2) (by decide +kernel) rfl rfl rfl (by decide +kernel)
set_option maxRecDepth 65536 in
theorem w_c37 : (Jvm.Cond.code ({ cls := "com/example/proxysmith/proxysmith/ClassFileWriter$Bytes", name := "u4", desc := "(I)V" } : Jvm.MethodName) prog_13_method_4_code (2 : Nat) (Option.none : Option Jvm.ClassFile.FieldType)).before args0 about1 = true := code_word (m := ⟨9, 3⟩) (meth := k9m3) (c := k9c3) (by decide +kernel) rfl rfl rfl (by decide +kernel)
set_option maxRecDepth 65536 in
theorem w_c38 : (Jvm.Cond.code ({ cls := "com/example/proxysmith/proxysmith/ClassFileWriter$Bytes", name := "bytes", desc := "(Lcom/example/proxysmith/proxysmith/ClassFileWriter$Bytes;)V" } : Jvm.MethodName) prog_13_method_6_code (2 : Nat) (Option.none : Option Jvm.ClassFile.FieldType)).before args0 about1 = true := code_word (m := ⟨9, 4⟩) (meth := k9m4) (c := k9c4) (by decide +kernel) rfl rfl rfl (by decide +kernel)
set_option maxRecDepth 65536 in
theorem w_c39 : (Jvm.Cond.code ({ cls := "java/util/ArrayList$Itr", name := "next", desc := "()Ljava/lang/Object;" } : Jvm.MethodName) jdk_49_method_3_code (3 : Nat) (Option.some (Jvm.ClassFile.FieldType.object "java/lang/Object"))).before args0 about1 = true := code_word (m := ⟨26, 2⟩) (meth := k26m2) (c := k26c2) (by decide +kernel) rfl rfl rfl (by decide +kernel)
set_option maxRecDepth 65536 in
theorem w_c40 : (Jvm.Cond.code ({ cls := "java/util/ArrayList$Itr", name := "checkForComodification", desc := "()V" } : Jvm.MethodName) jdk_49_method_6_code (1 : Nat) (Option.none : Option Jvm.ClassFile.FieldType)).before args0 about1 = true := code_word (m := ⟨26, 3⟩) (meth := k26m3) (c := k26c3) (by decide +kernel) rfl rfl rfl (by decide +kernel)
set_option maxRecDepth 65536 in
theorem w_c41 : (Jvm.Cond.code ({ cls := "com/example/proxysmith/proxysmith/Bytecode$Handler", name := "start", desc := "()Lcom/example/proxysmith/proxysmith/Bytecode$Label;" } : Jvm.MethodName) prog_4_method_5_code (1 : Nat) (Option.some (Jvm.ClassFile.FieldType.object "com/example/proxysmith/proxysmith/Bytecode$Label"))).before args0 about1 = true := code_word (m := ⟨24, 1⟩) (meth := k24m1) (c := k24c1) (by decide +kernel) rfl rfl rfl (by decide +kernel)
set_option maxRecDepth 65536 in
theorem w_c42 : (Jvm.Cond.code ({ cls := "com/example/proxysmith/proxysmith/Bytecode", name := "offsetOf", desc := "(Lcom/example/proxysmith/proxysmith/Bytecode$Label;)I" } : Jvm.MethodName) prog_2_method_34_code (1 : Nat) (Option.some Jvm.ClassFile.FieldType.int)).before args0 about1 = true := code_word (m := ⟨2, 6⟩) (meth := k2m6) (c := k2c6) (by decide +kernel) rfl rfl rfl (by decide +kernel)
set_option maxRecDepth 65536 in
theorem w_c43 : (Jvm.Cond.code ({ cls := "com/example/proxysmith/proxysmith/Bytecode$Handler", name := "end", desc := "()Lcom/example/proxysmith/proxysmith/Bytecode$Label;" } : Jvm.MethodName) prog_4_method_6_code (1 : Nat) (Option.some (Jvm.ClassFile.FieldType.object "com/example/proxysmith/proxysmith/Bytecode$Label"))).before args0 about1 = true := code_word (m := ⟨24, 2⟩) (meth := k24m2) (c := k24c2) (by decide +kernel) rfl rfl rfl (by decide +kernel)
set_option maxRecDepth 65536 in
theorem w_c44 : (Jvm.Cond.code ({ cls := "com/example/proxysmith/proxysmith/Bytecode$Handler", name := "handler", desc := "()Lcom/example/proxysmith/proxysmith/Bytecode$Label;" } : Jvm.MethodName) prog_4_method_7_code (1 : Nat) (Option.some (Jvm.ClassFile.FieldType.object "com/example/proxysmith/proxysmith/Bytecode$Label"))).before args0 about1 = true := code_word (m := ⟨24, 3⟩) (meth := k24m3) (c := k24c3) (by decide +kernel) rfl rfl rfl (by decide +kernel)
set_option maxRecDepth 65536 in
theorem w_c45 : (Jvm.Cond.code ({ cls := "com/example/proxysmith/proxysmith/Bytecode$Handler", name := "catchType", desc := "()Ljava/lang/String;" } : Jvm.MethodName) prog_4_method_8_code (1 : Nat) (Option.some (Jvm.ClassFile.FieldType.object "java/lang/String"))).before args0 about1 = true := code_word (m := ⟨24, 4⟩) (meth := k24m4) (c := k24c4) (by decide +kernel) rfl rfl rfl (by decide +kernel)
set_option maxRecDepth 65536 in
theorem w_c46 : (Jvm.Cond.code ({ cls := "com/example/proxysmith/proxysmith/ClassFileWriter$Bytes", name := "toByteArray", desc := "()[B" } : Jvm.MethodName) prog_13_method_10_code (1 : Nat) (Option.some (Jvm.ClassFile.FieldType.array Jvm.ClassFile.FieldType.byte))).before args0 about1 = true := code_word (m := ⟨9, 6⟩) (meth := k9m6) (c := k9c6) (by decide +kernel) rfl rfl rfl (by decide +kernel)
set_option maxRecDepth 65536 in
theorem w_c47 : (Jvm.Cond.code ({ cls := "com/example/proxysmith/proxysmith/BytecodePlacePinLaw", name := "len", desc := "(I)I" } : Jvm.MethodName) method_2_code (1 : Nat) (Option.some Jvm.ClassFile.FieldType.int)).before args0 about1 = true := code_word (m := ⟨1, 1⟩) (meth := k1m1) (c := k1c1) (by decide +kernel) rfl rfl rfl (by decide +kernel)
set_option maxRecDepth 65536 in
theorem w_c48 : (Jvm.Cond.code ({ cls := "com/example/proxysmith/proxysmith/BytecodePlacePinLaw", name := "u2", desc := "([BI)I" } : Jvm.MethodName) method_3_code (2 : Nat) (Option.some Jvm.ClassFile.FieldType.int)).before args0 about1 = true := code_word (m := ⟨1, 2⟩) (meth := k1m2) (c := k1c2) (by decide +kernel) rfl rfl rfl (by decide +kernel)
def codes1 : List Jvm.Cond := [Jvm.Cond.code x code maxLocals ret, Jvm.Cond.code ({ cls := "com/example/proxysmith/proxysmith/Bytecode", name := "<init>", desc := "(Lcom/example/proxysmith/proxysmith/ClassFileWriter;Ljava/lang/String;Ljava/lang/String;)V" } : Jvm.MethodName) prog_2_method_1_code (8 : Nat) (Option.none : Option Jvm.ClassFile.FieldType), Jvm.Cond.code ({ cls := "java/lang/Object", name := "<init>", desc := "()V" } : Jvm.MethodName) object_method_1_code (1 : Nat) (Option.none : Option Jvm.ClassFile.FieldType), Jvm.Cond.code ({ cls := "com/example/proxysmith/proxysmith/ClassFileWriter$Bytes", name := "<init>", desc := "(I)V" } : Jvm.MethodName) prog_13_method_1_code (2 : Nat) (Option.none : Option Jvm.ClassFile.FieldType), Jvm.Cond.code ({ cls := "java/util/ArrayList", name := "<init>", desc := "(I)V" } : Jvm.MethodName) jdk_38_method_1_code (2 : Nat) (Option.none : Option Jvm.ClassFile.FieldType), Jvm.Cond.code ({ cls := "java/util/AbstractList", name := "<init>", desc := "()V" } : Jvm.MethodName) jdk_39_method_1_code (1 : Nat) (Option.none : Option Jvm.ClassFile.FieldType), Jvm.Cond.code ({ cls := "java/util/AbstractCollection", name := "<init>", desc := "()V" } : Jvm.MethodName) jdk_22_method_1_code (1 : Nat) (Option.none : Option Jvm.ClassFile.FieldType), Jvm.Cond.code ({ cls := "java/lang/String", name := "charAt", desc := "(I)C" } : Jvm.MethodName) jdk_42_method_56_code (2 : Nat) (Option.some Jvm.ClassFile.FieldType.char), Jvm.Cond.code ({ cls := "java/lang/String", name := "isLatin1", desc := "()Z" } : Jvm.MethodName) jdk_42_method_154_code (1 : Nat) (Option.some Jvm.ClassFile.FieldType.boolean), Jvm.Cond.code ({ cls := "java/lang/StringLatin1", name := "charAt", desc := "([BI)C" } : Jvm.MethodName) jdk_43_method_2_code (2 : Nat) (Option.some Jvm.ClassFile.FieldType.char), Jvm.Cond.code ({ cls := "java/lang/String", name := "checkIndex", desc := "(II)V" } : Jvm.MethodName) jdk_42_method_155_code (2 : Nat) (Option.none : Option Jvm.ClassFile.FieldType), Jvm.Cond.code ({ cls := "jdk/internal/util/Preconditions", name := "checkIndex", desc := "(IILjava/util/function/BiFunction;)I" } : Jvm.MethodName) jdk_41_method_11_code (3 : Nat) (Option.some Jvm.ClassFile.FieldType.int), Jvm.Cond.code ({ cls := "com/example/proxysmith/proxysmith/Bytecode", name := "label", desc := "()Lcom/example/proxysmith/proxysmith/Bytecode$Label;" } : Jvm.MethodName) prog_2_method_4_code (1 : Nat) (Option.some (Jvm.ClassFile.FieldType.object "com/example/proxysmith/proxysmith/Bytecode$Label")), Jvm.Cond.code ({ cls := "com/example/proxysmith/proxysmith/Bytecode$Label", name := "<init>", desc := "()V" } : Jvm.MethodName) prog_6_method_1_code (1 : Nat) (Option.none : Option Jvm.ClassFile.FieldType), Jvm.Cond.code ({ cls := "com/example/proxysmith/proxysmith/Bytecode", name := "load", desc := "(Ljava/lang/String;I)V" } : Jvm.MethodName) prog_2_method_8_code (3 : Nat) (Option.none : Option Jvm.ClassFile.FieldType), Jvm.Cond.code ({ cls := "com/example/proxysmith/proxysmith/Bytecode", name := "local", desc := "(IIILjava/lang/String;)V" } : Jvm.MethodName) prog_2_method_39_code (6 : Nat) (Option.none : Option Jvm.ClassFile.FieldType), Jvm.Cond.code ({ cls := "com/example/proxysmith/proxysmith/Bytecode", name := "slots", desc := "(C)I" } : Jvm.MethodName) prog_2_method_36_code (1 : Nat) (Option.some Jvm.ClassFile.FieldType.int), Jvm.Cond.code ({ cls := "java/lang/Math", name := "max", desc := "(II)I" } : Jvm.MethodName) jdk_29_method_65_code (2 : Nat) (Option.some Jvm.ClassFile.FieldType.int), Jvm.Cond.code ({ cls := "com/example/proxysmith/proxysmith/Bytecode", name := "kind", desc := "(Ljava/lang/String;)I" } : Jvm.MethodName) prog_2_method_35_code (1 : Nat) (Option.some Jvm.ClassFile.FieldType.int), Jvm.Cond.code ({ cls := "com/example/proxysmith/proxysmith/Bytecode", name := "op", desc := "(II)V" } : Jvm.MethodName) prog_2_method_46_code (3 : Nat) (Option.none : Option Jvm.ClassFile.FieldType), Jvm.Cond.code ({ cls := "com/example/proxysmith/proxysmith/ClassFileWriter$Bytes", name := "u1", desc := "(I)V" } : Jvm.MethodName) prog_13_method_2_code (2 : Nat) (Option.none : Option Jvm.ClassFile.FieldType), Jvm.Cond.code ({ cls := "com/example/proxysmith/proxysmith/ClassFileWriter$Bytes", name := "room", desc := "(I)V" } : Jvm.MethodName) prog_13_method_11_code (2 : Nat) (Option.none : Option Jvm.ClassFile.FieldType), Jvm.Cond.code ({ cls := "com/example/proxysmith/proxysmith/Bytecode", name := "push", desc := "(I)V" } : Jvm.MethodName) prog_2_method_44_code (2 : Nat) (Option.none : Option Jvm.ClassFile.FieldType), Jvm.Cond.code ({ cls := "com/example/proxysmith/proxysmith/Bytecode", name := "place", desc := "(Lcom/example/proxysmith/proxysmith/Bytecode$Label;)V" } : Jvm.MethodName) prog_2_method_5_code (2 : Nat) (Option.none : Option Jvm.ClassFile.FieldType), Jvm.Cond.code ({ cls := "com/example/proxysmith/proxysmith/ClassFileWriter$Bytes", name := "size", desc := "()I" } : Jvm.MethodName) prog_13_method_9_code (1 : Nat) (Option.some Jvm.ClassFile.FieldType.int), Jvm.Cond.code ({ cls := "com/example/proxysmith/proxysmith/Bytecode", name := "handle", desc := "(Lcom/example/proxysmith/proxysmith/Bytecode$Label;Lcom/example/proxysmith/proxysmith/Bytecode$Label;Lcom/example/proxysmith/proxysmith/Bytecode$Label;Ljava/lang/String;)V" } : Jvm.MethodName) prog_2_method_7_code (5 : Nat) (Option.none : Option Jvm.ClassFile.FieldType), Jvm.Cond.code ({ cls := "com/example/proxysmith/proxysmith/Bytecode$Handler", name := "<init>", desc := "(Lcom/example/proxysmith/proxysmith/Bytecode$Label;Lcom/example/proxysmith/proxysmith/Bytecode$Label;Lcom/example/proxysmith/proxysmith/Bytecode$Label;Ljava/lang/String;)V" } : Jvm.MethodName) prog_4_method_1_code (5 : Nat) (Option.none : Option Jvm.ClassFile.FieldType), Jvm.Cond.code ({ cls := "java/lang/Record", name := "<init>", desc := "()V" } : Jvm.MethodName) jdk_30_method_1_code (1 : Nat) (Option.none : Option Jvm.ClassFile.FieldType), Jvm.Cond.code ({ cls := "java/util/ArrayList", name := "add", desc := "(Ljava/lang/Object;)Z" } : Jvm.MethodName) jdk_38_method_25_code (2 : Nat) (Option.some Jvm.ClassFile.FieldType.boolean), Jvm.Cond.code ({ cls := "java/util/ArrayList", name := "add", desc := "(Ljava/lang/Object;[Ljava/lang/Object;I)V" } : Jvm.MethodName) jdk_38_method_24_code (4 : Nat) (Option.none : Option Jvm.ClassFile.FieldType), Jvm.Cond.code ({ cls := "com/example/proxysmith/proxysmith/Bytecode", name := "toAttribute", desc := "()[B" } : Jvm.MethodName) prog_2_method_31_code (6 : Nat) (Option.some (Jvm.ClassFile.FieldType.array Jvm.ClassFile.FieldType.byte)), Jvm.Cond.code ({ cls := "java/util/ArrayList", name := "iterator", desc := "()Ljava/util/Iterator;" } : Jvm.MethodName) jdk_38_method_55_code (1 : Nat) (Option.some (Jvm.ClassFile.FieldType.object "java/util/Iterator")), Jvm.Cond.code ({ cls := "java/util/ArrayList$Itr", name := "<init>", desc := "(Ljava/util/ArrayList;)V" } : Jvm.MethodName) jdk_49_method_1_code (2 : Nat) (Option.none : Option Jvm.ClassFile.FieldType), Jvm.Cond.code ({ cls := "java/util/ArrayList$Itr", name := "hasNext", desc := "()Z" } : Jvm.MethodName) jdk_49_method_2_code (1 : Nat) (Option.some Jvm.ClassFile.FieldType.boolean), Jvm.Cond.code ({ cls := "java/util/ArrayList", name := "isEmpty", desc := "()Z" } : Jvm.MethodName) jdk_38_method_9_code (1 : Nat) (Option.some Jvm.ClassFile.FieldType.boolean), Jvm.Cond.code ({ cls := "java/util/ArrayList", name := "size", desc := "()I" } : Jvm.MethodName) jdk_38_method_8_code (1 : Nat) (Option.some Jvm.ClassFile.FieldType.int), Jvm.Cond.code ({ cls := "com/example/proxysmith/proxysmith/ClassFileWriter$Bytes", name := "u2", desc := "(I)V" } : Jvm.MethodName) prog_13_method_3_code (2 : Nat) (Option.none : Option Jvm.ClassFile.FieldType), Jvm.Cond.code ({ cls := "com/example/proxysmith/proxysmith/ClassFileWriter$Bytes", name := "u4", desc := "(I)V" } : Jvm.MethodName) prog_13_method_4_code (2 : Nat) (Option.none : Option Jvm.ClassFile.FieldType), Jvm.Cond.code ({ cls := "com/example/proxysmith/proxysmith/ClassFileWriter$Bytes", name := "bytes", desc := "(Lcom/example/proxysmith/proxysmith/ClassFileWriter$Bytes;)V" } : Jvm.MethodName) prog_13_method_6_code (2 : Nat) (Option.none : Option Jvm.ClassFile.FieldType), Jvm.Cond.code ({ cls := "java/util/ArrayList$Itr", name := "next", desc := "()Ljava/lang/Object;" } : Jvm.MethodName) jdk_49_method_3_code (3 : Nat) (Option.some (Jvm.ClassFile.FieldType.object "java/lang/Object")), Jvm.Cond.code ({ cls := "java/util/ArrayList$Itr", name := "checkForComodification", desc := "()V" } : Jvm.MethodName) jdk_49_method_6_code (1 : Nat) (Option.none : Option Jvm.ClassFile.FieldType), Jvm.Cond.code ({ cls := "com/example/proxysmith/proxysmith/Bytecode$Handler", name := "start", desc := "()Lcom/example/proxysmith/proxysmith/Bytecode$Label;" } : Jvm.MethodName) prog_4_method_5_code (1 : Nat) (Option.some (Jvm.ClassFile.FieldType.object "com/example/proxysmith/proxysmith/Bytecode$Label")), Jvm.Cond.code ({ cls := "com/example/proxysmith/proxysmith/Bytecode", name := "offsetOf", desc := "(Lcom/example/proxysmith/proxysmith/Bytecode$Label;)I" } : Jvm.MethodName) prog_2_method_34_code (1 : Nat) (Option.some Jvm.ClassFile.FieldType.int), Jvm.Cond.code ({ cls := "com/example/proxysmith/proxysmith/Bytecode$Handler", name := "end", desc := "()Lcom/example/proxysmith/proxysmith/Bytecode$Label;" } : Jvm.MethodName) prog_4_method_6_code (1 : Nat) (Option.some (Jvm.ClassFile.FieldType.object "com/example/proxysmith/proxysmith/Bytecode$Label")), Jvm.Cond.code ({ cls := "com/example/proxysmith/proxysmith/Bytecode$Handler", name := "handler", desc := "()Lcom/example/proxysmith/proxysmith/Bytecode$Label;" } : Jvm.MethodName) prog_4_method_7_code (1 : Nat) (Option.some (Jvm.ClassFile.FieldType.object "com/example/proxysmith/proxysmith/Bytecode$Label")), Jvm.Cond.code ({ cls := "com/example/proxysmith/proxysmith/Bytecode$Handler", name := "catchType", desc := "()Ljava/lang/String;" } : Jvm.MethodName) prog_4_method_8_code (1 : Nat) (Option.some (Jvm.ClassFile.FieldType.object "java/lang/String")), Jvm.Cond.code ({ cls := "com/example/proxysmith/proxysmith/ClassFileWriter$Bytes", name := "toByteArray", desc := "()[B" } : Jvm.MethodName) prog_13_method_10_code (1 : Nat) (Option.some (Jvm.ClassFile.FieldType.array Jvm.ClassFile.FieldType.byte)), Jvm.Cond.code ({ cls := "com/example/proxysmith/proxysmith/BytecodePlacePinLaw", name := "len", desc := "(I)I" } : Jvm.MethodName) method_2_code (1 : Nat) (Option.some Jvm.ClassFile.FieldType.int), Jvm.Cond.code ({ cls := "com/example/proxysmith/proxysmith/BytecodePlacePinLaw", name := "u2", desc := "([BI)I" } : Jvm.MethodName) method_3_code (2 : Nat) (Option.some Jvm.ClassFile.FieldType.int)]
set_option maxRecDepth 65536 in
theorem codes_eq : words1.filter isCode = codes1 := rfl
theorem w_codes : ∀ c ∈ words1.filter isCode, c.before args0 about1 = true := by
  rw [codes_eq]
  intro c hc
  simp only [codes1, List.mem_cons, List.not_mem_nil, or_false] at hc
  rcases hc with rfl | rfl | rfl | rfl | rfl | rfl | rfl | rfl | rfl | rfl | rfl | rfl | rfl | rfl | rfl | rfl | rfl | rfl | rfl | rfl | rfl | rfl | rfl | rfl | rfl | rfl | rfl | rfl | rfl | rfl | rfl | rfl | rfl | rfl | rfl | rfl | rfl | rfl | rfl | rfl | rfl | rfl | rfl | rfl | rfl | rfl | rfl | rfl | rfl
  · exact w_c0
  · exact w_c1
  · exact w_c2
  · exact w_c3
  · exact w_c4
  · exact w_c5
  · exact w_c6
  · exact w_c7
  · exact w_c8
  · exact w_c9
  · exact w_c10
  · exact w_c11
  · exact w_c12
  · exact w_c13
  · exact w_c14
  · exact w_c15
  · exact w_c16
  · exact w_c17
  · exact w_c18
  · exact w_c19
  · exact w_c20
  · exact w_c21
  · exact w_c22
  · exact w_c23
  · exact w_c24
  · exact w_c25
  · exact w_c26
  · exact w_c27
  · exact w_c28
  · exact w_c29
  · exact w_c30
  · exact w_c31
  · exact w_c32
  · exact w_c33
  · exact w_c34
  · exact w_c35
  · exact w_c36
  · exact w_c37
  · exact w_c38
  · exact w_c39
  · exact w_c40
  · exact w_c41
  · exact w_c42
  · exact w_c43
  · exact w_c44
  · exact w_c45
  · exact w_c46
  · exact w_c47
  · exact w_c48
set_option maxRecDepth 65536 in
theorem w_t1 : (words1.take 24).all (fun c => isCode c || c.before args0 about1) = true := by decide +kernel
set_option maxRecDepth 65536 in
theorem w_t2 : ((words1.drop 24).take 24).all (fun c => isCode c || c.before args0 about1) = true := by decide +kernel
set_option maxRecDepth 65536 in
theorem w_t3 : (((words1.drop 24).drop 24).take 24).all (fun c => isCode c || c.before args0 about1) = true := by decide +kernel
set_option maxRecDepth 65536 in
theorem w_t4 : ((((words1.drop 24).drop 24).drop 24).take 24).all (fun c => isCode c || c.before args0 about1) = true := by decide +kernel
set_option maxRecDepth 65536 in
theorem w_t5 : (((((words1.drop 24).drop 24).drop 24).drop 24).take 24).all (fun c => isCode c || c.before args0 about1) = true := by decide +kernel
set_option maxRecDepth 65536 in
theorem w_t6 : ((((((words1.drop 24).drop 24).drop 24).drop 24).drop 24).take 24).all (fun c => isCode c || c.before args0 about1) = true := by decide +kernel
set_option maxRecDepth 65536 in
theorem w_t7 : (((((((words1.drop 24).drop 24).drop 24).drop 24).drop 24).drop 24).take 24).all (fun c => isCode c || c.before args0 about1) = true := by decide +kernel
set_option maxRecDepth 65536 in
theorem w_t8 : ((((((((words1.drop 24).drop 24).drop 24).drop 24).drop 24).drop 24).drop 24).take 24).all (fun c => isCode c || c.before args0 about1) = true := by decide +kernel
set_option maxRecDepth 65536 in
theorem w_t9 : (((((((((words1.drop 24).drop 24).drop 24).drop 24).drop 24).drop 24).drop 24).drop 24).take 24).all (fun c => isCode c || c.before args0 about1) = true := by decide +kernel
set_option maxRecDepth 65536 in
theorem w_t10 : ((((((((((words1.drop 24).drop 24).drop 24).drop 24).drop 24).drop 24).drop 24).drop 24).drop 24).take 24).all (fun c => isCode c || c.before args0 about1) = true := by decide +kernel
set_option maxRecDepth 65536 in
theorem w_t11 : (((((((((((words1.drop 24).drop 24).drop 24).drop 24).drop 24).drop 24).drop 24).drop 24).drop 24).drop 24).take 24).all (fun c => isCode c || c.before args0 about1) = true := by decide +kernel
set_option maxRecDepth 65536 in
theorem w_t12 : ((((((((((((words1.drop 24).drop 24).drop 24).drop 24).drop 24).drop 24).drop 24).drop 24).drop 24).drop 24).drop 24).take 24).all (fun c => isCode c || c.before args0 about1) = true := by decide +kernel
set_option maxRecDepth 65536 in
theorem w_t13 : (((((((((((((words1.drop 24).drop 24).drop 24).drop 24).drop 24).drop 24).drop 24).drop 24).drop 24).drop 24).drop 24).drop 24).take 24).all (fun c => isCode c || c.before args0 about1) = true := by decide +kernel
set_option maxRecDepth 65536 in
theorem w_t14 : ((((((((((((((words1.drop 24).drop 24).drop 24).drop 24).drop 24).drop 24).drop 24).drop 24).drop 24).drop 24).drop 24).drop 24).drop 24).take 24).all (fun c => isCode c || c.before args0 about1) = true := by decide +kernel
set_option maxRecDepth 65536 in
theorem w_t15 : ((((((((((((((words1.drop 24).drop 24).drop 24).drop 24).drop 24).drop 24).drop 24).drop 24).drop 24).drop 24).drop 24).drop 24).drop 24).drop 24).all (fun c => isCode c || c.before args0 about1) = true := by decide +kernel
theorem w_tables : (allAtoms (Jvm.Cond.code x code maxLocals ret :: tables_1)).before args0 about1 = true := by
  rw [allAtoms_all]
  show words1.all (fun c => c.before args0 about1) = true
  refine all_split ?_ w_codes
  rw [← List.take_append_drop 24 words1, List.all_append, w_t1, ← List.take_append_drop 24 (words1.drop 24), List.all_append, w_t2, ← List.take_append_drop 24 ((words1.drop 24).drop 24), List.all_append, w_t3, ← List.take_append_drop 24 (((words1.drop 24).drop 24).drop 24), List.all_append, w_t4, ← List.take_append_drop 24 ((((words1.drop 24).drop 24).drop 24).drop 24), List.all_append, w_t5, ← List.take_append_drop 24 (((((words1.drop 24).drop 24).drop 24).drop 24).drop 24), List.all_append, w_t6, ← List.take_append_drop 24 ((((((words1.drop 24).drop 24).drop 24).drop 24).drop 24).drop 24), List.all_append, w_t7, ← List.take_append_drop 24 (((((((words1.drop 24).drop 24).drop 24).drop 24).drop 24).drop 24).drop 24), List.all_append, w_t8, ← List.take_append_drop 24 ((((((((words1.drop 24).drop 24).drop 24).drop 24).drop 24).drop 24).drop 24).drop 24), List.all_append, w_t9, ← List.take_append_drop 24 (((((((((words1.drop 24).drop 24).drop 24).drop 24).drop 24).drop 24).drop 24).drop 24).drop 24), List.all_append, w_t10, ← List.take_append_drop 24 ((((((((((words1.drop 24).drop 24).drop 24).drop 24).drop 24).drop 24).drop 24).drop 24).drop 24).drop 24), List.all_append, w_t11, ← List.take_append_drop 24 (((((((((((words1.drop 24).drop 24).drop 24).drop 24).drop 24).drop 24).drop 24).drop 24).drop 24).drop 24).drop 24), List.all_append, w_t12, ← List.take_append_drop 24 ((((((((((((words1.drop 24).drop 24).drop 24).drop 24).drop 24).drop 24).drop 24).drop 24).drop 24).drop 24).drop 24).drop 24), List.all_append, w_t13, ← List.take_append_drop 24 (((((((((((((words1.drop 24).drop 24).drop 24).drop 24).drop 24).drop 24).drop 24).drop 24).drop 24).drop 24).drop 24).drop 24).drop 24), List.all_append, w_t14, w_t15]
  rfl
set_option maxRecDepth 65536 in
theorem w_rest : rest_1_c.before args0 about1 = true := by decide +kernel
set_option maxRecDepth 65536 in
theorem w_case : (Jvm.Cond.and given_1 narrow_1).before args0 about1 = true := by decide +kernel
set_option maxRecDepth 65536 in
theorem w_consts : constsHeld consts_1 about1 := Jvm.Lit.constsHeldB_iff.mp (by decide +kernel)
theorem w_applies : (headSpec (Jvm.Cond.code x code maxLocals ret :: tables_1) room_1).applies x e0.platform about1 = true :=
  (Spec.applies_iff w_frames).mpr ⟨w_running, w_runnable, w_alone, w_named, w_hears, w_ripe, w_room, w_tables⟩
theorem atStart : AtStart classFile x code maxLocals ret World_1 tables_1 room_1 Calls_1 rest_1 Pre_1 launch0 p0 e0 about1 theMethod args0 below0 :=
  ⟨lists_1, trivial, launch0.admits_env _ _ _, launch0.least_env, fairChoices_fair.cas, fairChoices_fair.clock, w_frames, w_args, w_heap, w_applies, ⟨w_consts, trivial⟩, w_rest, w_case⟩
end start1
theorem witness_1 : WitnessClaimed_1 := ⟨start1.p0, start1.e0, start1.about1, start1.theMethod, start1.args0, start1.below0, start1.atStart⟩
end Jvm.Pilot.@@N@@
