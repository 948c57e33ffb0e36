import JvmDerived
import JvmDerived.Pilot.@@N@@Statement
import JvmDerived.Pilot.@@N@@Code
set_option linter.unusedVariables false
set_option linter.unusedSimpArgs false
@@BLOCK:NumsL.lean.txt@@
namespace Jvm.RoadKit
open Sem ClassFile Op Lib Jvm.Stand Jvm.Free Jvm.LawKit
section New
variable {p : Program} {l : Launch} {e : Env} {R : Room} {s : State} {m : MethodId} {args : Array Value} {below : List Frame} {meth : Method} {c : Code} {T : State} {locs : List Loc} {cells slots : Nat}
theorem retI (X : Stand p l e R s m args below meth c T locs cells slots) (hx : p.tables.exec = Jvm.exec) {pc : Nat} {Ls : Array Slot} {z : Int32} {rest : List Value} (hret : meth.sig.returnType = some .int) (hd : decode c.code pc = .ok (.ireturn, 1)) {fs : List Frame}
    (hl : ∀ (f : JFrame) (acts : List Action), f.method = m → f.locked = none → f.entered = [] → (doReturn e (T.setTop f) acts (some (.int z))).1 = T.setFrames fs) : Steps p.tables e below (T.setTop (mkF m pc Ls (.int z :: rest))) (T.setFrames fs) := by
  have hm' : T.vm.method? m = some meth := X.method'
  have hn : narrow .int (.int z) = .int z := rfl
  show Steps p.tables e below (T.setTop { method := m, pc := pc, locals := Ls, stack := _ :: rest, locked := none }) _
  jvm_step X.here [X.here.top, hx, hd, hm', hret, hn]
  first | (intro acts; rw [hl _ acts rfl rfl rfl]) | rw [hl _ _ rfl rfl rfl]
  exact Steps.refl _
end New
end Jvm.RoadKit
namespace Jvm.Pilot.@@N@@
open Jvm Jvm.ClassFile Sem Op Lib Jvm.Free Jvm.Stand Jvm.LawKit Jvm.RoadKit Bundle Jvm.Pilot.@@N@@.Jvm.D
def own_VA (Z : State) (h : Heap) (a : Addr) (ty : FieldType) (vs : List Value) : Prop := ∃ cl : Cell, Arr Z h a cl ty ∧ cl.slots = vs.toArray
theorem own_VA_new {Z : State} {h : Heap} {a : Addr} {cA : ClassId} {ty : FieldType} {n : Int32} {k : Nat} (A : Arr Z h a (newA cA ty n) ty) (hk : n.toNatClampNeg = k) : own_VA Z h a ty (List.replicate k (defaultValue ty)) := ⟨_, A, by show Array.replicate n.toNatClampNeg (defaultValue ty) = _; rw [hk]; simp⟩
theorem own_VA_set {Z : State} {h h' : Heap} {a : Addr} {ty : FieldType} {vs : List Value} {k : Nat} {v : Value} (A : own_VA Z h a ty vs) (W : Wr h h' a k v) : own_VA Z h' a ty (vs.set k v) := by
  obtain ⟨cl, A, e⟩ := A
  exact ⟨_, A.same W, by show cl.slots.setIfInBounds k v = _; rw [e]; simp⟩
theorem own_VA_other {Z : State} {h h' : Heap} {a b : Addr} {ty : FieldType} {vs : List Value} {k : Nat} {v : Value} (A : own_VA Z h b ty vs) (W : Wr h h' a k v) (hne : b ≠ a) : own_VA Z h' b ty vs := by
  obtain ⟨cl, A, e⟩ := A
  exact ⟨_, A.other W hne, e⟩
theorem own_VA_ext {Z : State} {h h' : Heap} {a : Addr} {ty : FieldType} {vs : List Value} (A : own_VA Z h a ty vs) (E : Ext h h') : own_VA Z h' a ty vs := by
  obtain ⟨cl, A, e⟩ := A
  exact ⟨_, A.ext E, e⟩
theorem own_VA_keep {Z : State} {h h' : Heap} {a : Addr} {ty : FieldType} {vs : List Value} {ws : List Addr} (A : own_VA Z h a ty vs) (K : Keep h h' ws) (hn : a ∉ ws) : own_VA Z h' a ty vs := by
  obtain ⟨cl, A, e⟩ := A
  exact ⟨cl, ⟨K.2.1 _ _ A.1 hn, A.2⟩, e⟩
theorem own_VA_lt {Z : State} {h : Heap} {a : Addr} {ty : FieldType} {vs : List Value} (A : own_VA Z h a ty vs) : a < h.size := by
  obtain ⟨cl, A, e⟩ := A
  exact A.lt
section OwnArr
variable {p : Program} {l : Launch} {e : Env} {R : Room} {s : State} {m : MethodId} {args : Array Value} {below : List Frame} {meth : Method} {c : Code} {T : State} {locs : List Loc} {cells slots : Nat} {Z : State} {h : Heap}
theorem own_stI (X : Stand p l e R s m args below meth c T locs cells slots) (hx : p.tables.exec = Jvm.exec) (hZ : Z.Warmed39 s.vm) (eT : T.heap = h) {a : Addr} {vs : List Value} (A : own_VA Z h a .int vs) {j : Int32} {k n : Nat} {x : Int32} (hn : vs.length = n) (hj : ¬ (j < 0 ∨ n ≤ j.toNatClampNeg)) (hk : j.toNatClampNeg = k) {g : JFrame} (hg : g.method = m) {rest : List Value} (hs : g.stack = .int x :: .int j :: .ref a :: rest) (hd : decode c.code g.pc = .ok (.iastore, 1)) :
    ∃ T' h', Stand p l e R s m args below meth c T' (locs ++ [⟨a, k⟩]) cells slots ∧ T'.heap = h' ∧ own_VA Z h' a .int (vs.set k (.int x)) ∧ Wr h h' a k (.int x) ∧ ∀ target, Steps p.tables e below (T'.setTop { g with pc := g.pc + 1, stack := rest }) target → Steps p.tables e below (T.setTop g) target := by
  subst hk
  obtain ⟨cl, A1, ec⟩ := A
  obtain ⟨T', h', X', e', W, st⟩ := stI X hx hZ eT A1 (j := j) (x := x) (by rw [ec]; simpa [hn] using hj) hg hs hd
  exact ⟨T', h', X', e', own_VA_set ⟨cl, A1, ec⟩ W, W, st⟩
theorem own_stJ (X : Stand p l e R s m args below meth c T locs cells slots) (hx : p.tables.exec = Jvm.exec) (hZ : Z.Warmed39 s.vm) (eT : T.heap = h) {a : Addr} {vs : List Value} (A : own_VA Z h a .long vs) {j : Int32} {k n : Nat} {x : Int64} (hn : vs.length = n) (hj : ¬ (j < 0 ∨ n ≤ j.toNatClampNeg)) (hk : j.toNatClampNeg = k) {g : JFrame} (hg : g.method = m) {rest : List Value} (hs : g.stack = .long x :: .int j :: .ref a :: rest) (hd : decode c.code g.pc = .ok (.lastore, 1)) :
    ∃ T' h', Stand p l e R s m args below meth c T' (locs ++ [⟨a, k⟩]) cells slots ∧ T'.heap = h' ∧ own_VA Z h' a .long (vs.set k (.long x)) ∧ Wr h h' a k (.long x) ∧ ∀ target, Steps p.tables e below (T'.setTop { g with pc := g.pc + 1, stack := rest }) target → Steps p.tables e below (T.setTop g) target := by
  subst hk
  obtain ⟨cl, A1, ec⟩ := A
  obtain ⟨T', h', X', e', W, st⟩ := stJ X hx hZ eT A1 (j := j) (x := x) (by rw [ec]; simpa [hn] using hj) hg hs hd
  exact ⟨T', h', X', e', own_VA_set ⟨cl, A1, ec⟩ W, W, st⟩
theorem own_ldI (X : Stand p l e R s m args below meth c T locs cells slots) (hx : p.tables.exec = Jvm.exec) (hZ : Z.Warmed39 s.vm) (eT : T.heap = h) {a : Addr} {vs : List Value} (A : own_VA Z h a .int vs) {j : Int32} {n : Nat} {v : Value} (hn : vs.length = n) (hj : ¬ (j < 0 ∨ n ≤ j.toNatClampNeg)) (hv : vs[j.toNatClampNeg]? = some v) {g : JFrame} (hg : g.method = m) {rest : List Value} (hs : g.stack = .int j :: .ref a :: rest) (hd : decode c.code g.pc = .ok (.iaload, 1)) :
    ∀ target, Steps p.tables e below (T.setTop { g with pc := g.pc + 1, stack := v :: rest }) target → Steps p.tables e below (T.setTop g) target := by
  obtain ⟨cl, A1, ec⟩ := A
  intro target k
  exact X.iaload hx (by rw [eT]; exact A1.1) (State.isArrayOf_alike hZ.alike A1.2.1) A1.2.2 (by rw [ec]; simpa [hn] using hj) (by rw [ec]; simpa using hv) hg hs hd target k
theorem own_ldJ (X : Stand p l e R s m args below meth c T locs cells slots) (hx : p.tables.exec = Jvm.exec) (hZ : Z.Warmed39 s.vm) (eT : T.heap = h) {a : Addr} {vs : List Value} (A : own_VA Z h a .long vs) {j : Int32} {n : Nat} {v : Value} (hn : vs.length = n) (hj : ¬ (j < 0 ∨ n ≤ j.toNatClampNeg)) (hv : vs[j.toNatClampNeg]? = some v) {g : JFrame} (hg : g.method = m) {rest : List Value} (hs : g.stack = .int j :: .ref a :: rest) (hd : decode c.code g.pc = .ok (.laload, 1)) :
    ∀ target, Steps p.tables e below (T.setTop { g with pc := g.pc + 1, stack := v :: rest }) target → Steps p.tables e below (T.setTop g) target := by
  obtain ⟨cl, A1, ec⟩ := A
  intro target k
  exact X.laload hx (by rw [eT]; exact A1.1) (State.isArrayOf_alike hZ.alike A1.2.1) A1.2.2 (by rw [ec]; simpa [hn] using hj) (by rw [ec]; simpa using hv) hg hs hd target k
theorem own_len (X : Stand p l e R s m args below meth c T locs cells slots) (hx : p.tables.exec = Jvm.exec) (hZ : Z.Warmed39 s.vm) (eT : T.heap = h) {a : Addr} {vs : List Value} {ty : FieldType} (A : own_VA Z h a ty vs) {n : Nat} {k : Int32} (hn : vs.length = n) (hk : n.toInt32 = k) {g : JFrame} (hg : g.method = m) {rest : List Value} (hs : g.stack = .ref a :: rest) (hd : decode c.code g.pc = .ok (.arraylength, 1)) :
    ∀ target, Steps p.tables e below (T.setTop { g with pc := g.pc + 1, stack := .int k :: rest }) target → Steps p.tables e below (T.setTop g) target := by
  obtain ⟨cl, A1, ec⟩ := A
  intro target q
  have z : cl.slots.size.toInt32 = k := by rw [ec, ← hk, ← hn]; simp
  refine X.arraylength hx (by rw [eT]; exact A1.1) (State.isArrayOf_alike hZ.alike A1.2.1) hg hs hd target ?_
  rw [z]; exact q
end OwnArr
theorem own_some {us : List Int32} {vs : List Value} (e : vs = us.map Value.int) {n i : Nat} (hn : vs.length = n) (h : i < n) : ∃ w : Int32, vs[i]? = some (.int w) := by
  subst e hn
  have h' : i < us.length := by simpa using h
  exact ⟨us[i], by simp [h']⟩
theorem own_idx {j : Int32} {n : Nat} (h0 : 0 ≤ j.toInt) (h1 : j.toInt < n) : ¬ (j < 0 ∨ n ≤ j.toNatClampNeg) := by
  have z : (0 : Int32).toInt = 0 := by decide
  intro q
  rcases q with q | q
  · rw [Int32.lt_iff_toInt_lt] at q; omega
  · have : j.toNatClampNeg = j.toInt.toNat := rfl
    omega
theorem own_lt {j : Int32} {n : Nat} (h : ¬ (j < 0 ∨ n ≤ j.toNatClampNeg)) : j.toNatClampNeg < n := Nat.lt_of_not_le fun q => h (Or.inr q)
theorem own_units {c d A G : Nat} {q r : Int} (h1 : c * 2 ^ q.toNat = A * G * 2 ^ (-q).toNat) (h2 : d * 2 ^ r.toNat = G * 2 ^ (-r).toNat) : c * 1 * 2 ^ (q - r - 0).toNat = A * d * 2 ^ (0 - (q - r)).toNat := by
  have key : c * 2 ^ (q.toNat + (-r).toNat) = A * d * 2 ^ (r.toNat + (-q).toNat) := by
    calc c * 2 ^ (q.toNat + (-r).toNat) = (c * 2 ^ q.toNat) * 2 ^ (-r).toNat := by rw [Nat.pow_add]; ac_rfl
      _ = A * (G * 2 ^ (-r).toNat) * 2 ^ (-q).toNat := by rw [h1]; ac_rfl
      _ = A * (d * 2 ^ r.toNat) * 2 ^ (-q).toNat := by rw [h2]
      _ = A * d * 2 ^ (r.toNat + (-q).toNat) := by rw [Nat.pow_add]; ac_rfl
  have e1 : q.toNat + (-r).toNat = (q - r - 0).toNat + min (q.toNat + (-r).toNat) (r.toNat + (-q).toNat) := by omega
  have e2 : r.toNat + (-q).toNat = (0 - (q - r)).toNat + min (q.toNat + (-r).toNat) (r.toNat + (-q).toNat) := by omega
  generalize min (q.toNat + (-r).toNat) (r.toNat + (-q).toNat) = t at e1 e2
  rw [e1, e2, Nat.pow_add, Nat.pow_add, ← Nat.mul_assoc, ← Nat.mul_assoc] at key
  rw [Nat.mul_one]
  exact Nat.eq_of_mul_eq_mul_right (Nat.two_pow_pos t) key
theorem own_ddiv {n a g : Int64} (hn : B53 n) (hg : B53 g) (g0 : 0 < g.toInt) (e : n.toInt = a.toInt * g.toInt) : FP.ddiv (FP.l2d n) (FP.l2d g) = FP.l2d a := by
  have wn := FP.Core.l2d_whole (sm hn)
  have wg := FP.Core.l2d_whole (sm hg)
  obtain ⟨c, q, en⟩ := FP.Core.l2d_shape n
  obtain ⟨d, r, eg⟩ := FP.Core.l2d_shape g
  show FP.Core.of64 (FP.Core.quotient FP.Core.b64 (FP.Core.val64 (FP.Core.l2d n)) (FP.Core.val64 (FP.Core.l2d g))) = FP.Core.of64 (FP.Core.round FP.Core.b64 (FP.Core.ofInt a.toInt))
  rw [en] at wn
  rw [eg] at wg
  rw [en, eg]
  have hd : ¬ d = 0 := fun z => by have := (FP.Core.whole_zero wg).mp z; omega
  have nn := FP.Core.whole_natAbs wn
  have ng := FP.Core.whole_natAbs wg
  rw [e, Int.natAbs_mul] at nn
  have sg : decide (g.toInt < 0) = false := by simp only [decide_eq_false_iff_not]; omega
  have sa : decide (n.toInt < 0) = decide (a.toInt < 0) := by
    rw [decide_eq_decide, e]
    constructor
    · intro h
      refine Int.lt_of_not_ge fun hge => ?_
      have := Int.mul_nonneg hge (Int.le_of_lt g0)
      omega
    · intro h
      exact Int.mul_neg_of_neg_of_pos h g0
  show FP.Core.of64 (if d = 0 then (if c = 0 then .nan else .inf (decide (n.toInt < 0) != decide (g.toInt < 0))) else FP.Core.roundRatio FP.Core.b64 (decide (n.toInt < 0) != decide (g.toInt < 0)) c d (q - r)) = _
  rw [if_neg hd, sg, sa, Bool.bne_false]
  have k : FP.Core.roundRatio FP.Core.b64 (decide (a.toInt < 0)) c d (q - r) = FP.Core.roundRatio FP.Core.b64 (decide (a.toInt < 0)) a.toInt.natAbs 1 0 := FP.Core.roundRatio_congr (Nat.pos_of_ne_zero hd) (by decide) (own_units nn ng)
  rw [k]
  rfl
theorem own_same {c d k : Nat} {r : Int} (h : d * 2 ^ r.toNat = 2 ^ k * 2 ^ (-r).toNat) : c * 2 ^ ((k : Int) - r).toNat = c * d * 2 ^ (r - (k : Int)).toNat := by
  have e1 : k + (-r).toNat = ((k : Int) - r).toNat + min (k + (-r).toNat) r.toNat := by omega
  have e2 : r.toNat = (r - (k : Int)).toNat + min (k + (-r).toNat) r.toNat := by omega
  rw [← Nat.pow_add] at h
  generalize min (k + (-r).toNat) r.toNat = t at e1 e2
  rw [e1, e2, Nat.pow_add, Nat.pow_add, ← Nat.mul_assoc] at h
  have h' := Nat.eq_of_mul_eq_mul_right (Nat.two_pow_pos t) h
  rw [Nat.mul_assoc, h']
theorem own_dyad {n p : Int64} {j : Nat} (hn : B53 n) (hj : j ≤ 15) (hp : p.toInt = ((2 ^ j : Nat) : Int)) : FP.dmul (FP.ddiv (FP.l2d n) (FP.l2d p)) (FP.l2d p) = FP.l2d n := by
  have hj2 : 2 ^ j ≤ 2 ^ 15 := Nat.pow_le_pow_right (by decide) hj
  have hj0 : 0 < 2 ^ j := Nat.two_pow_pos j
  have hpb : B53 p := ⟨by omega, by omega⟩
  by_cases hz : n = 0
  · subst hz
    rw [own_ddiv (a := 0) hn hpb (by omega) (by simp)]
    have z : B53 (0 : Int64) := hn
    rw [dmul_z z hpb (Or.inl rfl)]
    have z1 : decide ((0 : Int64).toInt < 0) = false := by decide
    have z2 : decide (p.toInt < 0) = false := by simp only [decide_eq_false_iff_not]; omega
    rw [z1, z2]
    rfl
  have wn := FP.Core.l2d_whole (sm hn)
  have wp := FP.Core.l2d_whole (sm hpb)
  obtain ⟨c, q, en⟩ := FP.Core.l2d_shape n
  obtain ⟨d, r, ep⟩ := FP.Core.l2d_shape p
  have fn := FP.Core.val64_fits (FP.Core.l2d n)
  rw [en] at wn fn
  rw [ep] at wp
  have hd : ¬ d = 0 := fun z => by have := (FP.Core.whole_zero wp).mp z; omega
  have hc : ¬ c = 0 := fun z => hz (Int64.toInt_inj.mp ((FP.Core.whole_zero wn).mp z))
  have nn := FP.Core.whole_natAbs wn
  have np := FP.Core.whole_natAbs wp
  rw [hp, Int.natAbs_natCast] at np
  obtain ⟨f1, f2, f3, f4⟩ := fn
  have ep1 : FP.Core.b64.p = 53 := rfl
  have eq1 : FP.Core.b64.qmin = -1074 := by decide
  have eq2 : FP.Core.b64.qmax = 971 := by decide
  rw [ep1] at f1
  rw [eq1] at f2 f4
  rw [eq2] at f3
  have hq : -53 < q := by
    refine Int.lt_of_not_ge fun hle => ?_
    have t0 : q.toNat = 0 := by omega
    rw [t0, Nat.pow_zero, Nat.mul_one] at nn
    have t1 : 2 ^ 53 ≤ 2 ^ (-q).toNat := Nat.pow_le_pow_right (by decide) (by omega)
    have t2 : 1 ≤ n.toInt.natAbs := by
      have : n.toInt ≠ 0 := fun z => hz (Int64.toInt_inj.mp z)
      omega
    have t3 : 1 * 2 ^ (-q).toNat ≤ n.toInt.natAbs * 2 ^ (-q).toNat := Nat.mul_le_mul_right _ t2
    omega
  have sp : decide (p.toInt < 0) = false := by simp only [decide_eq_false_iff_not]; omega
  have ident : c * 2 ^ ((j : Int) - r).toNat = c * d * 2 ^ (r - (j : Int)).toNat := own_same np
  have fit : FP.Core.fits FP.Core.b64 (.fin (decide (n.toInt < 0)) c (q - j)) := by
    refine ⟨f1, ?_, ?_, ?_⟩
    · rw [eq1]; omega
    · rw [eq2]; omega
    · rcases f4 with h | h
      · omega
      · exact Or.inr h
  have vd : FP.Core.val64 (FP.ddiv (FP.l2d n) (FP.l2d p)) = .fin (decide (n.toInt < 0)) c (q - j) := by
    rw [show FP.Core.val64 (FP.ddiv (FP.l2d n) (FP.l2d p)) = FP.Core.quotient FP.Core.b64 (FP.Core.val64 (FP.Core.l2d n)) (FP.Core.val64 (FP.Core.l2d p)) from FP.Core.val64_ddiv _ _, en, ep]
    show (if d = 0 then (if c = 0 then .nan else .inf (decide (n.toInt < 0) != decide (p.toInt < 0))) else FP.Core.roundRatio FP.Core.b64 (decide (n.toInt < 0) != decide (p.toInt < 0)) c d (q - r)) = _
    rw [if_neg hd, sp, Bool.bne_false]
    refine FP.Core.roundRatio_exact FP.Core.good_b64 (Nat.pos_of_ne_zero hd) fit ?_
    rw [show q - r - (q - (j : Int)) = (j : Int) - r by omega, show q - (j : Int) - (q - r) = r - (j : Int) by omega]
    exact ident
  have vm : FP.Core.val64 (FP.dmul (FP.ddiv (FP.l2d n) (FP.l2d p)) (FP.l2d p)) = FP.Core.val64 (FP.Core.l2d n) := by
    rw [show FP.Core.val64 (FP.dmul (FP.ddiv (FP.l2d n) (FP.l2d p)) (FP.l2d p)) = FP.Core.round FP.Core.b64 (FP.Core.exactProduct (FP.Core.val64 (FP.ddiv (FP.l2d n) (FP.l2d p))) (FP.Core.val64 (FP.Core.l2d p))) from FP.Core.val64_dmul _ _, vd, ep, en]
    show FP.Core.roundRatio FP.Core.b64 (decide (n.toInt < 0) != decide (p.toInt < 0)) (c * d) 1 (q - j + r) = _
    rw [sp, Bool.bne_false]
    refine FP.Core.roundRatio_exact FP.Core.good_b64 (by decide) ⟨f1, by rw [eq1]; omega, by rw [eq2]; omega, by rcases f4 with h | h; omega; exact Or.inr h⟩ ?_
    rw [show q - (j : Int) + r - q = r - (j : Int) by omega, show q - (q - (j : Int) + r) = (j : Int) - r by omega, Nat.mul_one]
    exact ident.symm
  exact FP.Core.val64_inj (by rw [vm, en]; exact fun z => by cases z) vm
theorem own_three : (4613937818241073152 : UInt64) = FP.l2d (3 : Int64) := by decide +kernel
theorem own_i3 : (3 : Int64).toInt = 3 := by decide
theorem own_mul3 {r : Int64} (h1 : -4294967296 ≤ r.toInt) (h2 : r.toInt ≤ 4294967296) : FP.dmul (FP.l2d (3 : Int64)) (FP.l2d r) = FP.l2d ((3 : Int64) * r) :=
  dmul_k (A := 3) (B := 4294967296) (by rw [own_i3]; decide) (by rw [own_i3]; decide) h1 h2 (by decide) (by decide) (by decide) (fun q => absurd q.1 (by decide)) (fun q => absurd q.2 (by decide))
def own_G (g : Int32) : Prop := 1 ≤ g.toInt ∧ g.toInt ≤ 65536
def own_K (k : Int32) : Prop := -65536 < k.toInt ∧ k.toInt < 65536
theorem own_bg (a : Int32) : own_G ((a &&& (65535 : Int32)) + (1 : Int32)) := by
  have h := Jvm.Kit.i32_mask a 65535 (k := 16) (by decide) (by decide)
  have o : (1 : Int32).toInt = 1 := by decide
  have e : ((a &&& (65535 : Int32)) + (1 : Int32)).toInt = (a &&& (65535 : Int32)).toInt + (1 : Int32).toInt := Jvm.Kit.i32_add (by omega) (by omega)
  exact ⟨by omega, by omega⟩
theorem own_bk (b : Int32) : own_K (b - (b / (65536 : Int32)) * (65536 : Int32)) := by
  have r := rem_toInt b 65536
  have z : (65536 : Int32).toInt = 65536 := by decide
  rw [z] at r
  have t := tmod_bounds (a := b.toInt) (M := 65536) (by decide)
  exact ⟨by omega, by omega⟩
theorem own_abs {a b A B : Int} (ha1 : -A ≤ a) (ha2 : a ≤ A) (hb1 : -B ≤ b) (hb2 : b ≤ B) : -(A * B) ≤ a * b ∧ a * b ≤ A * B := by
  have hm : (a * b).natAbs ≤ A.toNat * B.toNat := by rw [Int.natAbs_mul]; exact Nat.mul_le_mul (by omega) (by omega)
  have hm2 : ((A.toNat * B.toNat : Nat) : Int) = A * B := by rw [Int.natCast_mul, Int.toNat_of_nonneg (by omega), Int.toNat_of_nonneg (by omega)]
  omega
theorem own_kg {g k : Int32} (bg : own_G g) (bk : own_K k) : ((k).toInt64 * (g).toInt64).toInt = k.toInt * g.toInt ∧ -4294967296 ≤ k.toInt * g.toInt ∧ k.toInt * g.toInt ≤ 4294967296 := by
  have g1 := bg.1
  have g2 := bg.2
  have k1 := bk.1
  have k2 := bk.2
  have h := own_abs (a := k.toInt) (b := g.toInt) (A := 65536) (B := 65536) (by omega) (by omega) (by omega) (by omega)
  have e1 : (k).toInt64.toInt = k.toInt := Jvm.Kit.i64_of_i32 k
  have e2 : (g).toInt64.toInt = g.toInt := Jvm.Kit.i64_of_i32 g
  refine ⟨?_, by omega, by omega⟩
  rw [Jvm.Kit.i64_mul (by rw [e1, e2]; omega) (by rw [e1, e2]; omega), e1, e2]
theorem own_rb {g k : Int32} (bg : own_G g) (bk : own_K k) : -4294967296 ≤ ((k).toInt64 * (g).toInt64).toInt ∧ ((k).toInt64 * (g).toInt64).toInt ≤ 4294967296 := by
  have h := own_kg bg bk
  rw [h.1]; exact h.2
theorem own_quot {g k : Int32} (bg : own_G g) (bk : own_K k) : FP.ddiv (FP.l2d ((3 : Int64) * ((k).toInt64 * (g).toInt64))) (FP.l2d (g).toInt64) = FP.l2d ((3 : Int64) * (k).toInt64) := by
  have h := own_kg bg bk
  have g1 := bg.1
  have g2 := bg.2
  have k1 := bk.1
  have k2 := bk.2
  have e1 : (k).toInt64.toInt = k.toInt := Jvm.Kit.i64_of_i32 k
  have e2 : (g).toInt64.toInt = g.toInt := Jvm.Kit.i64_of_i32 g
  have a1 : ((3 : Int64) * ((k).toInt64 * (g).toInt64)).toInt = 3 * (k.toInt * g.toInt) := by
    rw [Jvm.Kit.i64_mul (by rw [own_i3, h.1]; omega) (by rw [own_i3, h.1]; omega), own_i3, h.1]
  have a2 : ((3 : Int64) * (k).toInt64).toInt = 3 * k.toInt := by
    rw [Jvm.Kit.i64_mul (by rw [own_i3, e1]; omega) (by rw [own_i3, e1]; omega), own_i3, e1]
  refine own_ddiv ⟨by omega, by omega⟩ ⟨by omega, by omega⟩ (by omega) ?_
  rw [a1, a2, e2, Int.mul_assoc]
def own_S (s : Int32) : Prop := -1048576 < s.toInt ∧ s.toInt < 1048576
theorem own_bs (d : Int32) : own_S (d - (d / (1048576 : Int32)) * (1048576 : Int32)) := by
  have r := rem_toInt d 1048576
  have z : (1048576 : Int32).toInt = 1048576 := by decide
  rw [z] at r
  have t := tmod_bounds (a := d.toInt) (M := 1048576) (by decide)
  exact ⟨by omega, by omega⟩
theorem own_sb {s : Int32} (bs : own_S s) : -4294967296 ≤ (s).toInt64.toInt ∧ (s).toInt64.toInt ≤ 4294967296 := by
  have e : (s).toInt64.toInt = s.toInt := Jvm.Kit.i64_of_i32 s
  have h1 := bs.1
  have h2 := bs.2
  omega
theorem own_3s {s : Int32} (bs : own_S s) : B53 ((3 : Int64) * (s).toInt64) := by
  have e : (s).toInt64.toInt = s.toInt := Jvm.Kit.i64_of_i32 s
  have h1 := bs.1
  have h2 := bs.2
  have a : ((3 : Int64) * (s).toInt64).toInt = 3 * s.toInt := by
    rw [Jvm.Kit.i64_mul (by rw [own_i3, e]; omega) (by rw [own_i3, e]; omega), own_i3, e]
  exact ⟨by omega, by omega⟩
theorem own_pw0 : ∀ j : Fin 16, ((1 : Int32) <<< ((Int32.ofNat j.val) &&& 31)).toInt64.toInt = ((2 ^ j.val : Nat) : Int) := by decide +kernel
theorem own_pw (f : Int32) : ∃ j : Nat, j ≤ 15 ∧ ((1 : Int32) <<< ((f &&& (15 : Int32)) &&& 31)).toInt64.toInt = ((2 ^ j : Nat) : Int) := by
  have h := Jvm.Kit.i32_mask f 15 (k := 4) (by decide) (by decide)
  have e : (f &&& (15 : Int32)) = Int32.ofNat (f &&& (15 : Int32)).toInt.toNat := by
    apply Int32.toInt_inj.mp
    rw [Int32.toInt_ofNat_small (by omega)]; omega
  have k := own_pw0 ⟨(f &&& (15 : Int32)).toInt.toNat, by omega⟩
  refine ⟨(f &&& (15 : Int32)).toInt.toNat, by omega, ?_⟩
  simp only [← e] at k
  exact k
theorem own_qnn {s : Int32} {p : Int64} {j : Nat} (bs : own_S s) (hj : j ≤ 15) (hp : p.toInt = ((2 ^ j : Nat) : Int)) : Jvm.Free.Fl.NoNaN64 (FP.ddiv (FP.l2d ((3 : Int64) * (s).toInt64)) (FP.l2d p)) := by
  have h := own_dyad (own_3s bs) hj hp
  have n : Jvm.Free.Fl.NoNaN64 (FP.dmul (FP.ddiv (FP.l2d ((3 : Int64) * (s).toInt64)) (FP.l2d p)) (FP.l2d p)) := nn_w h
  exact (Jvm.Free.Fl.dmul_in n).1
theorem own_nar (x : Int32) : nar .boolean x = x &&& 1 := rfl
theorem own_nar1 : nar .boolean (1 : Int32) = 1 := by decide
theorem own_nar0 : nar .boolean (0 : Int32) = 0 := by decide
theorem own_10 : ((1 : Int32) = 0) = False := by decide
theorem own_00 : ((0 : Int32) = 0) = True := by decide
theorem d2_0 : decode jdk_30_method_1_code 0 = .ok (.aload_n 0, 1) := by decide +kernel
theorem d2_1 : decode jdk_30_method_1_code 1 = .ok (.invokespecial 1, 3) := by decide +kernel
theorem d2_4 : decode jdk_30_method_1_code 4 = .ok (.return_, 1) := by decide +kernel
theorem pn_2 : plainName "java/lang/Record" = true := by first | (simp [plainName, overriddenIn]; done) | decide +kernel
theorem ef_2 (m : MethodId) (p0 : Addr) : entryFrame m #[(.ref p0)] 1 = mkF m 0 #[.val (.ref p0)] [] := by first | (simp [entryFrame, mkF, argsToLocals, Value.category]; done) | rfl
def Q2 (h0 : Heap) (n0 : Nat) (v : Option Value) (h : Heap) (L : List Loc) : Prop := v = none ∧ Fr n0 L ∧ h = h0
set_option maxRecDepth 65536 in
set_option maxHeartbeats 40000000 in
theorem rm2 (l : Launch) (Z : State) (a0 : Array Value) (hw : ∀ d ∈ tables_1, d.before a0 Z = true) (ws : List Jvm.Cond) (p0 : Addr) (h0 : Heap) (n0 : Nat) (Z0 : n0 ≤ h0.size) :
    MetFree l (⟨"java/lang/Record", "<init>", "()V"⟩ : MethodName) (head1 (Jvm.Cond.code (⟨"java/lang/Record", "<init>", "()V"⟩ : MethodName) jdk_30_method_1_code 1 none :: ws) ({ frames := 1, cells := 0, slots := 0, locals := 12 } : Room)) (fun a U => a = #[(.ref p0)] ∧ Z.Warmed39 U.vm ∧ U.heap = h0) (fun _ _ _ _ _ => True) (fun _ U o U' => ∃ v L, o = .returned v ∧ Q2 h0 n0 v U'.heap L ∧ FrameEnd U o U' L ({ frames := 1, cells := 0, slots := 0, locals := 12 } : Room).cells ({ frames := 1, cells := 0, slots := 0, locals := 12 } : Room).slots) := by
  refine MetFree.of_bodySF (plainFor_of_name pn_2) hisR ?_
  intro p e s m args below meth c s₁ Bd hml0 hP hK
  obtain ⟨rfl, hZ, hh⟩ := hP
  have hx := Bd.exec
  have hby := Bd.bytes
  have hml : c.maxLocals = 1 := hml0
  have hown : s.vm.findClass "java/lang/Record" = some m.cls := findClass_of_methodNamed Bd.named
  have hnm := (name_of_methodNamed Bd.named Bd.method).1
  have X0 : Stand p l e ({ frames := 1, cells := 0, slots := 0, locals := 12 } : Room) s m #[(.ref p0)] below meth c s₁ [] 0 0 := Stand.of_body Bd
  have e0 : s₁.heap = h0 := by rw [← hh, Bd.state]; rfl
  have N0 := Fr.nil n0
  have pre0 : ∀ t, Steps p.tables e below (s₁.setTop (mkF m 0 #[.val (.ref p0)] [])) t → Steps p.tables e below (s₁.setTop (entryFrame m #[(.ref p0)] 1)) t := fun t k => castTop (ef_2 m p0) k
  obtain ⟨T1, X1, e1, st1⟩ := initO X0 hx hZ hown (hw _ (List.mem_of_getElem? (i := 13) rfl)) (hw _ (List.mem_of_getElem? (i := 14) rfl)) (hw _ (List.mem_of_getElem? (i := 15) rfl)) e0 (g := (mkF m 1 #[.val (.ref p0)] [(.ref p0)])) rfl (by rw [hml]; rfl) rfl (hb hby d2_1) (by decide) (W := 0) (by show 2 * 0 + _ ≤ _; exact Nat.le_of_eq rfl) (by decide)
  have pre2 : ∀ t, Steps p.tables e below (T1.setTop (mkF m 4 #[.val (.ref p0)] [])) t → Steps p.tables e below (s₁.setTop (entryFrame m #[(.ref p0)] 1)) t := by
    intro t k
    refine pre0 t ?_
    show Steps p.tables e below (s₁.setTop (mkF m 0 #[.val (.ref p0)] [])) _
    refine XS.aloadN X0.here hx rfl (hb hby d2_0) rfl rfl ?_
    show Steps p.tables e below (s₁.setTop (mkF m 1 #[.val (.ref p0)] [(.ref p0)])) _
    refine st1 _ ?_
    show Steps p.tables e below (T1.setTop (mkF m 4 #[.val (.ref p0)] [])) _
    exact k
  obtain ⟨fs, hr, hrun, hended, hW, hsame⟩ := X1.leave (v := none) (fun _ => rfl)
  refine ⟨_, _, pre2 _ ?_, hrun, hended, _, _, rfl, ?_, ⟨_, rfl⟩, hW, hsame.mono (by decide) (by decide)⟩
  · exact X1.returnOut hx Bd.returns (hb hby d2_4) hr
  · exact ⟨rfl, N0, e1⟩
theorem d1_0 : decode prog_2_method_1_code 0 = .ok (.aload_n 0, 1) := by decide +kernel
theorem d1_1 : decode prog_2_method_1_code 1 = .ok (.invokespecial 3, 3) := by decide +kernel
theorem d1_4 : decode prog_2_method_1_code 4 = .ok (.aload_n 0, 1) := by decide +kernel
theorem d1_5 : decode prog_2_method_1_code 5 = .ok (.dload_n 1, 1) := by decide +kernel
theorem d1_6 : decode prog_2_method_1_code 6 = .ok (.putfield 9, 3) := by decide +kernel
theorem d1_9 : decode prog_2_method_1_code 9 = .ok (.aload_n 0, 1) := by decide +kernel
theorem d1_10 : decode prog_2_method_1_code 10 = .ok (.dload_n 3, 1) := by decide +kernel
theorem d1_11 : decode prog_2_method_1_code 11 = .ok (.putfield 15, 3) := by decide +kernel
theorem d1_14 : decode prog_2_method_1_code 14 = .ok (.aload_n 0, 1) := by decide +kernel
theorem d1_15 : decode prog_2_method_1_code 15 = .ok (.dload 5, 2) := by decide +kernel
theorem d1_17 : decode prog_2_method_1_code 17 = .ok (.putfield 18, 3) := by decide +kernel
theorem d1_20 : decode prog_2_method_1_code 20 = .ok (.aload_n 0, 1) := by decide +kernel
theorem d1_21 : decode prog_2_method_1_code 21 = .ok (.dload 7, 2) := by decide +kernel
theorem d1_23 : decode prog_2_method_1_code 23 = .ok (.putfield 21, 3) := by decide +kernel
theorem d1_26 : decode prog_2_method_1_code 26 = .ok (.aload_n 0, 1) := by decide +kernel
theorem d1_27 : decode prog_2_method_1_code 27 = .ok (.dload 9, 2) := by decide +kernel
theorem d1_29 : decode prog_2_method_1_code 29 = .ok (.putfield 24, 3) := by decide +kernel
theorem d1_32 : decode prog_2_method_1_code 32 = .ok (.return_, 1) := by decide +kernel
theorem pn_1 : plainName "com/example/ticktoken/ticktoken/bench/Report$Round" = true := by first | (simp [plainName, overriddenIn]; done) | decide +kernel
theorem ef_1 (m : MethodId) (p0 : Addr) (p1 : UInt64) (p2 : UInt64) (p3 : UInt64) (p4 : UInt64) (p5 : UInt64) : entryFrame m #[(.ref p0), (.double p1), (.double p2), (.double p3), (.double p4), (.double p5)] 11 = mkF m 0 #[.val (.ref p0), .val (.double p1), .second, .val (.double p2), .second, .val (.double p3), .second, .val (.double p4), .second, .val (.double p5), .second] [] := by first | (simp [entryFrame, mkF, argsToLocals, Value.category]; done) | rfl
theorem pd_1_0 : parseMethodDescriptor "()V" = some ⟨[], none⟩ := by decide +kernel
def Q1 (Z : State) (p0 : Addr) (p2 p3 : Int64) (h0 : Heap) (n0 : Nat) (v : Option Value) (h : Heap) (L : List Loc) : Prop := v = none ∧ Fr n0 L ∧ Keep h0 h [p0] ∧ Exa Z h p0 "com/example/ticktoken/ticktoken/bench/Report$Round" ∧ Fld Z h p0 "com/example/ticktoken/ticktoken/bench/Report$Round" "javaOtpGenerate" "D" (.double (FP.l2d p2)) ∧ Fld Z h p0 "com/example/ticktoken/ticktoken/bench/Report$Round" "ticktokenReject" "D" (.double (FP.l2d p3))
set_option maxRecDepth 65536 in
set_option maxHeartbeats 40000000 in
theorem rm1 (l : Launch) (Z : State) (a0 : Array Value) (hw : ∀ d ∈ tables_1, d.before a0 Z = true) (ws : List Jvm.Cond) (p0 : Addr) (p1 : Int64) (p2 : Int64) (p3 : Int64) (p4 : Int64) (p5 : Int64) (h0 : Heap) (n0 : Nat) (Z0 : n0 ≤ h0.size) (E_p0 : Exa Z h0 p0 "com/example/ticktoken/ticktoken/bench/Report$Round") (F_ticktokenGenerate : Fld Z h0 p0 "com/example/ticktoken/ticktoken/bench/Report$Round" "ticktokenGenerate" "D" (.double 0)) (F_javaOtpGenerate : Fld Z h0 p0 "com/example/ticktoken/ticktoken/bench/Report$Round" "javaOtpGenerate" "D" (.double 0)) (F_ticktokenReject : Fld Z h0 p0 "com/example/ticktoken/ticktoken/bench/Report$Round" "ticktokenReject" "D" (.double 0)) (F_ticktokenLogin : Fld Z h0 p0 "com/example/ticktoken/ticktoken/bench/Report$Round" "ticktokenLogin" "D" (.double 0)) (F_javaOtpLogin : Fld Z h0 p0 "com/example/ticktoken/ticktoken/bench/Report$Round" "javaOtpLogin" "D" (.double 0)) (gp0 : n0 ≤ p0) :
    MetFree l (⟨"com/example/ticktoken/ticktoken/bench/Report$Round", "<init>", "(DDDDD)V"⟩ : MethodName) (head1 (Jvm.Cond.code (⟨"com/example/ticktoken/ticktoken/bench/Report$Round", "<init>", "(DDDDD)V"⟩ : MethodName) prog_2_method_1_code 11 none :: ws) ({ frames := 2, cells := 0, slots := 0, locals := 24 } : Room)) (fun a U => a = #[(.ref p0), (.double (FP.l2d p1)), (.double (FP.l2d p2)), (.double (FP.l2d p3)), (.double (FP.l2d p4)), (.double (FP.l2d p5))] ∧ Z.Warmed39 U.vm ∧ U.heap = h0) (fun _ _ _ _ _ => True) (fun _ U o U' => ∃ v L, o = .returned v ∧ Q1 Z p0 p2 p3 h0 n0 v U'.heap L ∧ FrameEnd U o U' L ({ frames := 2, cells := 0, slots := 0, locals := 24 } : Room).cells ({ frames := 2, cells := 0, slots := 0, locals := 24 } : Room).slots) := by
  refine MetFree.of_bodySF (plainFor_of_name pn_1) hisR ?_
  intro p e s m args below meth c s₁ Bd hml0 hP hK
  obtain ⟨rfl, hZ, hh⟩ := hP
  have hx := Bd.exec
  have hby := Bd.bytes
  have hml : c.maxLocals = 11 := hml0
  have hown : s.vm.findClass "com/example/ticktoken/ticktoken/bench/Report$Round" = some m.cls := findClass_of_methodNamed Bd.named
  have hnm := (name_of_methodNamed Bd.named Bd.method).1
  have X0 : Stand p l e ({ frames := 2, cells := 0, slots := 0, locals := 24 } : Room) s m #[(.ref p0), (.double (FP.l2d p1)), (.double (FP.l2d p2)), (.double (FP.l2d p3)), (.double (FP.l2d p4)), (.double (FP.l2d p5))] below meth c s₁ [] 0 0 := Stand.of_body Bd
  have e0 : s₁.heap = h0 := by rw [← hh, Bd.state]; rfl
  have N0 := Fr.nil n0
  have pre0 : ∀ t, Steps p.tables e below (s₁.setTop (mkF m 0 #[.val (.ref p0), .val (.double (FP.l2d p1)), .second, .val (.double (FP.l2d p2)), .second, .val (.double (FP.l2d p3)), .second, .val (.double (FP.l2d p4)), .second, .val (.double (FP.l2d p5)), .second] [])) t → Steps p.tables e below (s₁.setTop (entryFrame m #[(.ref p0), (.double (FP.l2d p1)), (.double (FP.l2d p2)), (.double (FP.l2d p3)), (.double (FP.l2d p4)), (.double (FP.l2d p5))] 11)) t := fun t k => castTop (ef_1 m p0 (FP.l2d p1) (FP.l2d p2) (FP.l2d p3) (FP.l2d p4) (FP.l2d p5)) k
  have K0 : Keep h0 h0 [p0] := Keep.refl h0 [p0]
  obtain ⟨_, _, ⟨T1, L1, k1, n1⟩, -, X1, ⟨Lc1, hQ1, l1, y1, z1⟩, st1⟩ := X0.specialBack hx (y := (⟨"java/lang/Record", "<init>", "()V"⟩ : MethodName)) rfl hown (mvT hZ (hw _ (List.mem_of_getElem? (i := 8) rfl))) (mvT hZ (hw _ (List.mem_of_getElem? (i := 9) rfl))) (mvT hZ (hw _ (List.mem_of_getElem? (i := 12) rfl))) (by decide) (backOf (W := 0) (rm2 l Z a0 hw [] p0 h0 n0 Z0) hZ (hw _ (List.mem_of_getElem? (i := 12) rfl)) (hw _ (List.mem_of_getElem? (i := 11) rfl)) (by decide) (by decide)) (g := (mkF m 1 #[.val (.ref p0), .val (.double (FP.l2d p1)), .second, .val (.double (FP.l2d p2)), .second, .val (.double (FP.l2d p3)), .second, .val (.double (FP.l2d p4)), .second, .val (.double (FP.l2d p5)), .second] [(.ref p0)])) rfl (by rw [hml]; rfl) (Steps.refl _) (a := p0) (argsL := []) (rest := []) (lenOf pd_1_0 rfl) rfl (by show 2 * 0 + _ ≤ _; exact Nat.le_of_eq rfl) (hb hby d1_1) (fun _ _ => ⟨rfl, e0, (by decide : 0 + 0 ≤ _), (by decide : 0 + 0 ≤ _)⟩)
  dsimp only [Pt.U, Pt.locs, Pt.cells, Pt.slots] at X1 l1 y1 z1 st1 hQ1
  subst l1 y1 z1
  obtain ⟨rfl, N1q, e1⟩ := hQ1
  have N1 := Fr.app N0 N1q
  obtain ⟨T2, H2, X2, e2, W2, st2⟩ := putF X1 hx hZ hown (host := "") (Or.inl (hw _ (List.mem_of_getElem? (i := 16) rfl))) Via.refl e1 F_ticktokenGenerate E_p0 (Or.inr ⟨(hw _ (List.mem_of_getElem? (i := 17) rfl)), rfl, hnm⟩) (hw _ (List.mem_of_getElem? (i := 3) rfl)) (ty := .double) (by decide) rfl rfl (g := (mkF m 6 #[.val (.ref p0), .val (.double (FP.l2d p1)), .second, .val (.double (FP.l2d p2)), .second, .val (.double (FP.l2d p3)), .second, .val (.double (FP.l2d p4)), .second, .val (.double (FP.l2d p5)), .second] [(.double (FP.l2d p1)), (.ref p0)])) rfl rfl (hb hby d1_6)
  have Fw2 := Fld.same W2 F_ticktokenGenerate
  have N2 := Fr.snoc X2 N1 gp0
  have Z2 : n0 ≤ H2.size := Nat.le_trans Z0 (Nat.le_of_eq W2.size.symm)
  have K2 : Keep h0 H2 [p0] := K0.wr W2 (Or.inl (List.mem_singleton.mpr rfl))
  have Ep0_3 := Exa.wr W2 E_p0
  have Fp0_javaOtpGenerate_3 := Fld.other W2 F_javaOtpGenerate (Or.inr (slot_ne (Or.inr (hw _ (List.mem_of_getElem? (i := 19) rfl))) (Or.inr (hw _ (List.mem_of_getElem? (i := 17) rfl))) (by decide) (t := .double) (t' := .double) (by decide) (by decide)))
  have Fp0_ticktokenReject_3 := Fld.other W2 F_ticktokenReject (Or.inr (slot_ne (Or.inr (hw _ (List.mem_of_getElem? (i := 21) rfl))) (Or.inr (hw _ (List.mem_of_getElem? (i := 17) rfl))) (by decide) (t := .double) (t' := .double) (by decide) (by decide)))
  have Fp0_ticktokenLogin_3 := Fld.other W2 F_ticktokenLogin (Or.inr (slot_ne (Or.inr (hw _ (List.mem_of_getElem? (i := 23) rfl))) (Or.inr (hw _ (List.mem_of_getElem? (i := 17) rfl))) (by decide) (t := .double) (t' := .double) (by decide) (by decide)))
  have Fp0_javaOtpLogin_3 := Fld.other W2 F_javaOtpLogin (Or.inr (slot_ne (Or.inr (hw _ (List.mem_of_getElem? (i := 25) rfl))) (Or.inr (hw _ (List.mem_of_getElem? (i := 17) rfl))) (by decide) (t := .double) (t' := .double) (by decide) (by decide)))
  obtain ⟨T4, H4, X4, e4, W4, st4⟩ := putF X2 hx hZ hown (host := "") (Or.inl (hw _ (List.mem_of_getElem? (i := 18) rfl))) Via.refl e2 Fp0_javaOtpGenerate_3 Ep0_3 (Or.inr ⟨(hw _ (List.mem_of_getElem? (i := 19) rfl)), rfl, hnm⟩) (hw _ (List.mem_of_getElem? (i := 3) rfl)) (ty := .double) (by decide) rfl rfl (g := (mkF m 11 #[.val (.ref p0), .val (.double (FP.l2d p1)), .second, .val (.double (FP.l2d p2)), .second, .val (.double (FP.l2d p3)), .second, .val (.double (FP.l2d p4)), .second, .val (.double (FP.l2d p5)), .second] [(.double (FP.l2d p2)), (.ref p0)])) rfl rfl (hb hby d1_11)
  have Fw4 := Fld.same W4 Fp0_javaOtpGenerate_3
  have N4 := Fr.snoc X4 N2 gp0
  have Z4 : n0 ≤ H4.size := Nat.le_trans Z2 (Nat.le_of_eq W4.size.symm)
  have K4 : Keep h0 H4 [p0] := K2.wr W4 (Or.inl (List.mem_singleton.mpr rfl))
  have Ep0_5 := Exa.wr W4 Ep0_3
  have Fp0_ticktokenReject_5 := Fld.other W4 Fp0_ticktokenReject_3 (Or.inr (slot_ne (Or.inr (hw _ (List.mem_of_getElem? (i := 21) rfl))) (Or.inr (hw _ (List.mem_of_getElem? (i := 19) rfl))) (by decide) (t := .double) (t' := .double) (by decide) (by decide)))
  have Fp0_ticktokenLogin_5 := Fld.other W4 Fp0_ticktokenLogin_3 (Or.inr (slot_ne (Or.inr (hw _ (List.mem_of_getElem? (i := 23) rfl))) (Or.inr (hw _ (List.mem_of_getElem? (i := 19) rfl))) (by decide) (t := .double) (t' := .double) (by decide) (by decide)))
  have Fp0_javaOtpLogin_5 := Fld.other W4 Fp0_javaOtpLogin_3 (Or.inr (slot_ne (Or.inr (hw _ (List.mem_of_getElem? (i := 25) rfl))) (Or.inr (hw _ (List.mem_of_getElem? (i := 19) rfl))) (by decide) (t := .double) (t' := .double) (by decide) (by decide)))
  have Fp0_ticktokenGenerate_5 := Fld.other W4 Fw2 (Or.inr (slot_ne (Or.inr (hw _ (List.mem_of_getElem? (i := 17) rfl))) (Or.inr (hw _ (List.mem_of_getElem? (i := 19) rfl))) (by decide) (t := .double) (t' := .double) (by decide) (by decide)))
  obtain ⟨T6, H6, X6, e6, W6, st6⟩ := putF X4 hx hZ hown (host := "") (Or.inl (hw _ (List.mem_of_getElem? (i := 20) rfl))) Via.refl e4 Fp0_ticktokenReject_5 Ep0_5 (Or.inr ⟨(hw _ (List.mem_of_getElem? (i := 21) rfl)), rfl, hnm⟩) (hw _ (List.mem_of_getElem? (i := 3) rfl)) (ty := .double) (by decide) rfl rfl (g := (mkF m 17 #[.val (.ref p0), .val (.double (FP.l2d p1)), .second, .val (.double (FP.l2d p2)), .second, .val (.double (FP.l2d p3)), .second, .val (.double (FP.l2d p4)), .second, .val (.double (FP.l2d p5)), .second] [(.double (FP.l2d p3)), (.ref p0)])) rfl rfl (hb hby d1_17)
  have Fw6 := Fld.same W6 Fp0_ticktokenReject_5
  have N6 := Fr.snoc X6 N4 gp0
  have Z6 : n0 ≤ H6.size := Nat.le_trans Z4 (Nat.le_of_eq W6.size.symm)
  have K6 : Keep h0 H6 [p0] := K4.wr W6 (Or.inl (List.mem_singleton.mpr rfl))
  have Ep0_7 := Exa.wr W6 Ep0_5
  have Fp0_ticktokenLogin_7 := Fld.other W6 Fp0_ticktokenLogin_5 (Or.inr (slot_ne (Or.inr (hw _ (List.mem_of_getElem? (i := 23) rfl))) (Or.inr (hw _ (List.mem_of_getElem? (i := 21) rfl))) (by decide) (t := .double) (t' := .double) (by decide) (by decide)))
  have Fp0_javaOtpLogin_7 := Fld.other W6 Fp0_javaOtpLogin_5 (Or.inr (slot_ne (Or.inr (hw _ (List.mem_of_getElem? (i := 25) rfl))) (Or.inr (hw _ (List.mem_of_getElem? (i := 21) rfl))) (by decide) (t := .double) (t' := .double) (by decide) (by decide)))
  have Fp0_ticktokenGenerate_7 := Fld.other W6 Fp0_ticktokenGenerate_5 (Or.inr (slot_ne (Or.inr (hw _ (List.mem_of_getElem? (i := 17) rfl))) (Or.inr (hw _ (List.mem_of_getElem? (i := 21) rfl))) (by decide) (t := .double) (t' := .double) (by decide) (by decide)))
  have Fp0_javaOtpGenerate_7 := Fld.other W6 Fw4 (Or.inr (slot_ne (Or.inr (hw _ (List.mem_of_getElem? (i := 19) rfl))) (Or.inr (hw _ (List.mem_of_getElem? (i := 21) rfl))) (by decide) (t := .double) (t' := .double) (by decide) (by decide)))
  obtain ⟨T8, H8, X8, e8, W8, st8⟩ := putF X6 hx hZ hown (host := "") (Or.inl (hw _ (List.mem_of_getElem? (i := 22) rfl))) Via.refl e6 Fp0_ticktokenLogin_7 Ep0_7 (Or.inr ⟨(hw _ (List.mem_of_getElem? (i := 23) rfl)), rfl, hnm⟩) (hw _ (List.mem_of_getElem? (i := 3) rfl)) (ty := .double) (by decide) rfl rfl (g := (mkF m 23 #[.val (.ref p0), .val (.double (FP.l2d p1)), .second, .val (.double (FP.l2d p2)), .second, .val (.double (FP.l2d p3)), .second, .val (.double (FP.l2d p4)), .second, .val (.double (FP.l2d p5)), .second] [(.double (FP.l2d p4)), (.ref p0)])) rfl rfl (hb hby d1_23)
  have Fw8 := Fld.same W8 Fp0_ticktokenLogin_7
  have N8 := Fr.snoc X8 N6 gp0
  have Z8 : n0 ≤ H8.size := Nat.le_trans Z6 (Nat.le_of_eq W8.size.symm)
  have K8 : Keep h0 H8 [p0] := K6.wr W8 (Or.inl (List.mem_singleton.mpr rfl))
  have Ep0_9 := Exa.wr W8 Ep0_7
  have Fp0_javaOtpLogin_9 := Fld.other W8 Fp0_javaOtpLogin_7 (Or.inr (slot_ne (Or.inr (hw _ (List.mem_of_getElem? (i := 25) rfl))) (Or.inr (hw _ (List.mem_of_getElem? (i := 23) rfl))) (by decide) (t := .double) (t' := .double) (by decide) (by decide)))
  have Fp0_ticktokenGenerate_9 := Fld.other W8 Fp0_ticktokenGenerate_7 (Or.inr (slot_ne (Or.inr (hw _ (List.mem_of_getElem? (i := 17) rfl))) (Or.inr (hw _ (List.mem_of_getElem? (i := 23) rfl))) (by decide) (t := .double) (t' := .double) (by decide) (by decide)))
  have Fp0_javaOtpGenerate_9 := Fld.other W8 Fp0_javaOtpGenerate_7 (Or.inr (slot_ne (Or.inr (hw _ (List.mem_of_getElem? (i := 19) rfl))) (Or.inr (hw _ (List.mem_of_getElem? (i := 23) rfl))) (by decide) (t := .double) (t' := .double) (by decide) (by decide)))
  have Fp0_ticktokenReject_9 := Fld.other W8 Fw6 (Or.inr (slot_ne (Or.inr (hw _ (List.mem_of_getElem? (i := 21) rfl))) (Or.inr (hw _ (List.mem_of_getElem? (i := 23) rfl))) (by decide) (t := .double) (t' := .double) (by decide) (by decide)))
  obtain ⟨T10, H10, X10, e10, W10, st10⟩ := putF X8 hx hZ hown (host := "") (Or.inl (hw _ (List.mem_of_getElem? (i := 24) rfl))) Via.refl e8 Fp0_javaOtpLogin_9 Ep0_9 (Or.inr ⟨(hw _ (List.mem_of_getElem? (i := 25) rfl)), rfl, hnm⟩) (hw _ (List.mem_of_getElem? (i := 3) rfl)) (ty := .double) (by decide) rfl rfl (g := (mkF m 29 #[.val (.ref p0), .val (.double (FP.l2d p1)), .second, .val (.double (FP.l2d p2)), .second, .val (.double (FP.l2d p3)), .second, .val (.double (FP.l2d p4)), .second, .val (.double (FP.l2d p5)), .second] [(.double (FP.l2d p5)), (.ref p0)])) rfl rfl (hb hby d1_29)
  have Fw10 := Fld.same W10 Fp0_javaOtpLogin_9
  have N10 := Fr.snoc X10 N8 gp0
  have Z10 : n0 ≤ H10.size := Nat.le_trans Z8 (Nat.le_of_eq W10.size.symm)
  have K10 : Keep h0 H10 [p0] := K8.wr W10 (Or.inl (List.mem_singleton.mpr rfl))
  have Ep0_11 := Exa.wr W10 Ep0_9
  have Fp0_ticktokenGenerate_11 := Fld.other W10 Fp0_ticktokenGenerate_9 (Or.inr (slot_ne (Or.inr (hw _ (List.mem_of_getElem? (i := 17) rfl))) (Or.inr (hw _ (List.mem_of_getElem? (i := 25) rfl))) (by decide) (t := .double) (t' := .double) (by decide) (by decide)))
  have Fp0_javaOtpGenerate_11 := Fld.other W10 Fp0_javaOtpGenerate_9 (Or.inr (slot_ne (Or.inr (hw _ (List.mem_of_getElem? (i := 19) rfl))) (Or.inr (hw _ (List.mem_of_getElem? (i := 25) rfl))) (by decide) (t := .double) (t' := .double) (by decide) (by decide)))
  have Fp0_ticktokenReject_11 := Fld.other W10 Fp0_ticktokenReject_9 (Or.inr (slot_ne (Or.inr (hw _ (List.mem_of_getElem? (i := 21) rfl))) (Or.inr (hw _ (List.mem_of_getElem? (i := 25) rfl))) (by decide) (t := .double) (t' := .double) (by decide) (by decide)))
  have Fp0_ticktokenLogin_11 := Fld.other W10 Fw8 (Or.inr (slot_ne (Or.inr (hw _ (List.mem_of_getElem? (i := 23) rfl))) (Or.inr (hw _ (List.mem_of_getElem? (i := 25) rfl))) (by decide) (t := .double) (t' := .double) (by decide) (by decide)))
  have pre12 : ∀ t, Steps p.tables e below (T10.setTop (mkF m 32 #[.val (.ref p0), .val (.double (FP.l2d p1)), .second, .val (.double (FP.l2d p2)), .second, .val (.double (FP.l2d p3)), .second, .val (.double (FP.l2d p4)), .second, .val (.double (FP.l2d p5)), .second] [])) t → Steps p.tables e below (s₁.setTop (entryFrame m #[(.ref p0), (.double (FP.l2d p1)), (.double (FP.l2d p2)), (.double (FP.l2d p3)), (.double (FP.l2d p4)), (.double (FP.l2d p5))] 11)) t := by
    intro t k
    refine pre0 t ?_
    show Steps p.tables e below (s₁.setTop (mkF m 0 #[.val (.ref p0), .val (.double (FP.l2d p1)), .second, .val (.double (FP.l2d p2)), .second, .val (.double (FP.l2d p3)), .second, .val (.double (FP.l2d p4)), .second, .val (.double (FP.l2d p5)), .second] [])) _
    refine XS.aloadN X0.here hx rfl (hb hby d1_0) rfl rfl ?_
    show Steps p.tables e below (s₁.setTop (mkF m 1 #[.val (.ref p0), .val (.double (FP.l2d p1)), .second, .val (.double (FP.l2d p2)), .second, .val (.double (FP.l2d p3)), .second, .val (.double (FP.l2d p4)), .second, .val (.double (FP.l2d p5)), .second] [(.ref p0)])) _
    refine st1.trans ?_
    show Steps p.tables e below (T1.setTop (mkF m 4 #[.val (.ref p0), .val (.double (FP.l2d p1)), .second, .val (.double (FP.l2d p2)), .second, .val (.double (FP.l2d p3)), .second, .val (.double (FP.l2d p4)), .second, .val (.double (FP.l2d p5)), .second] [])) _
    refine XS.aloadN X1.here hx rfl (hb hby d1_4) rfl rfl ?_
    show Steps p.tables e below (T1.setTop (mkF m 5 #[.val (.ref p0), .val (.double (FP.l2d p1)), .second, .val (.double (FP.l2d p2)), .second, .val (.double (FP.l2d p3)), .second, .val (.double (FP.l2d p4)), .second, .val (.double (FP.l2d p5)), .second] [(.ref p0)])) _
    refine XS.dloadN X1.here hx rfl (hb hby d1_5) rfl ?_
    show Steps p.tables e below (T1.setTop (mkF m 6 #[.val (.ref p0), .val (.double (FP.l2d p1)), .second, .val (.double (FP.l2d p2)), .second, .val (.double (FP.l2d p3)), .second, .val (.double (FP.l2d p4)), .second, .val (.double (FP.l2d p5)), .second] [(.double (FP.l2d p1)), (.ref p0)])) _
    refine st2 _ ?_
    show Steps p.tables e below (T2.setTop (mkF m 9 #[.val (.ref p0), .val (.double (FP.l2d p1)), .second, .val (.double (FP.l2d p2)), .second, .val (.double (FP.l2d p3)), .second, .val (.double (FP.l2d p4)), .second, .val (.double (FP.l2d p5)), .second] [])) _
    refine XS.aloadN X2.here hx rfl (hb hby d1_9) rfl rfl ?_
    show Steps p.tables e below (T2.setTop (mkF m 10 #[.val (.ref p0), .val (.double (FP.l2d p1)), .second, .val (.double (FP.l2d p2)), .second, .val (.double (FP.l2d p3)), .second, .val (.double (FP.l2d p4)), .second, .val (.double (FP.l2d p5)), .second] [(.ref p0)])) _
    refine XS.dloadN X2.here hx rfl (hb hby d1_10) rfl ?_
    show Steps p.tables e below (T2.setTop (mkF m 11 #[.val (.ref p0), .val (.double (FP.l2d p1)), .second, .val (.double (FP.l2d p2)), .second, .val (.double (FP.l2d p3)), .second, .val (.double (FP.l2d p4)), .second, .val (.double (FP.l2d p5)), .second] [(.double (FP.l2d p2)), (.ref p0)])) _
    refine st4 _ ?_
    show Steps p.tables e below (T4.setTop (mkF m 14 #[.val (.ref p0), .val (.double (FP.l2d p1)), .second, .val (.double (FP.l2d p2)), .second, .val (.double (FP.l2d p3)), .second, .val (.double (FP.l2d p4)), .second, .val (.double (FP.l2d p5)), .second] [])) _
    refine XS.aloadN X4.here hx rfl (hb hby d1_14) rfl rfl ?_
    show Steps p.tables e below (T4.setTop (mkF m 15 #[.val (.ref p0), .val (.double (FP.l2d p1)), .second, .val (.double (FP.l2d p2)), .second, .val (.double (FP.l2d p3)), .second, .val (.double (FP.l2d p4)), .second, .val (.double (FP.l2d p5)), .second] [(.ref p0)])) _
    refine XS.dload X4.here hx rfl (hb hby d1_15) rfl ?_
    show Steps p.tables e below (T4.setTop (mkF m 17 #[.val (.ref p0), .val (.double (FP.l2d p1)), .second, .val (.double (FP.l2d p2)), .second, .val (.double (FP.l2d p3)), .second, .val (.double (FP.l2d p4)), .second, .val (.double (FP.l2d p5)), .second] [(.double (FP.l2d p3)), (.ref p0)])) _
    refine st6 _ ?_
    show Steps p.tables e below (T6.setTop (mkF m 20 #[.val (.ref p0), .val (.double (FP.l2d p1)), .second, .val (.double (FP.l2d p2)), .second, .val (.double (FP.l2d p3)), .second, .val (.double (FP.l2d p4)), .second, .val (.double (FP.l2d p5)), .second] [])) _
    refine XS.aloadN X6.here hx rfl (hb hby d1_20) rfl rfl ?_
    show Steps p.tables e below (T6.setTop (mkF m 21 #[.val (.ref p0), .val (.double (FP.l2d p1)), .second, .val (.double (FP.l2d p2)), .second, .val (.double (FP.l2d p3)), .second, .val (.double (FP.l2d p4)), .second, .val (.double (FP.l2d p5)), .second] [(.ref p0)])) _
    refine XS.dload X6.here hx rfl (hb hby d1_21) rfl ?_
    show Steps p.tables e below (T6.setTop (mkF m 23 #[.val (.ref p0), .val (.double (FP.l2d p1)), .second, .val (.double (FP.l2d p2)), .second, .val (.double (FP.l2d p3)), .second, .val (.double (FP.l2d p4)), .second, .val (.double (FP.l2d p5)), .second] [(.double (FP.l2d p4)), (.ref p0)])) _
    refine st8 _ ?_
    show Steps p.tables e below (T8.setTop (mkF m 26 #[.val (.ref p0), .val (.double (FP.l2d p1)), .second, .val (.double (FP.l2d p2)), .second, .val (.double (FP.l2d p3)), .second, .val (.double (FP.l2d p4)), .second, .val (.double (FP.l2d p5)), .second] [])) _
    refine XS.aloadN X8.here hx rfl (hb hby d1_26) rfl rfl ?_
    show Steps p.tables e below (T8.setTop (mkF m 27 #[.val (.ref p0), .val (.double (FP.l2d p1)), .second, .val (.double (FP.l2d p2)), .second, .val (.double (FP.l2d p3)), .second, .val (.double (FP.l2d p4)), .second, .val (.double (FP.l2d p5)), .second] [(.ref p0)])) _
    refine XS.dload X8.here hx rfl (hb hby d1_27) rfl ?_
    show Steps p.tables e below (T8.setTop (mkF m 29 #[.val (.ref p0), .val (.double (FP.l2d p1)), .second, .val (.double (FP.l2d p2)), .second, .val (.double (FP.l2d p3)), .second, .val (.double (FP.l2d p4)), .second, .val (.double (FP.l2d p5)), .second] [(.double (FP.l2d p5)), (.ref p0)])) _
    refine st10 _ ?_
    show Steps p.tables e below (T10.setTop (mkF m 32 #[.val (.ref p0), .val (.double (FP.l2d p1)), .second, .val (.double (FP.l2d p2)), .second, .val (.double (FP.l2d p3)), .second, .val (.double (FP.l2d p4)), .second, .val (.double (FP.l2d p5)), .second] [])) _
    exact k
  obtain ⟨fs, hr, hrun, hended, hW, hsame⟩ := X10.leave (v := none) (fun _ => rfl)
  refine ⟨_, _, pre12 _ ?_, hrun, hended, _, _, rfl, ?_, ⟨_, rfl⟩, hW, hsame.mono (by decide) (by decide)⟩
  · exact X10.returnOut hx Bd.returns (hb hby d1_32) hr
  · show Q1 Z p0 p2 p3 h0 n0 _ T10.heap _
    rw [e10]
    exact ⟨rfl, N10, K10, Ep0_11, Fp0_javaOtpGenerate_11, Fp0_ticktokenReject_11⟩
theorem d4_0 : decode prog_2_method_3_code 0 = .ok (.ldc2_w 27, 3) := by decide +kernel
theorem d4_3 : decode prog_2_method_3_code 3 = .ok (.aload_n 0, 1) := by decide +kernel
theorem d4_4 : decode prog_2_method_3_code 4 = .ok (.getfield 18, 3) := by decide +kernel
theorem d4_7 : decode prog_2_method_3_code 7 = .ok (.dmul, 1) := by decide +kernel
theorem d4_8 : decode prog_2_method_3_code 8 = .ok (.aload_n 0, 1) := by decide +kernel
theorem d4_9 : decode prog_2_method_3_code 9 = .ok (.getfield 15, 3) := by decide +kernel
theorem d4_12 : decode prog_2_method_3_code 12 = .ok (.ddiv, 1) := by decide +kernel
theorem d4_13 : decode prog_2_method_3_code 13 = .ok (.dreturn, 1) := by decide +kernel
theorem pn_4 : plainName "com/example/ticktoken/ticktoken/bench/Report$Round" = true := by first | (simp [plainName, overriddenIn]; done) | decide +kernel
theorem ef_4 (m : MethodId) (p0 : Addr) : entryFrame m #[(.ref p0)] 1 = mkF m 0 #[.val (.ref p0)] [] := by first | (simp [entryFrame, mkF, argsToLocals, Value.category]; done) | rfl
def Q4 (gn rj : Int64) (h0 : Heap) (n0 : Nat) (v : Option Value) (h : Heap) (L : List Loc) : Prop := v = some (.double (FP.ddiv (FP.l2d ((3 : Int64) * rj)) (FP.l2d gn))) ∧ Fr n0 L ∧ h = h0
set_option maxRecDepth 65536 in
set_option maxHeartbeats 40000000 in
theorem rm4 (l : Launch) (Z : State) (a0 : Array Value) (hw : ∀ d ∈ tables_1, d.before a0 Z = true) (ws : List Jvm.Cond) (p0 : Addr) (h0 : Heap) (n0 : Nat) (Z0 : n0 ≤ h0.size) (gn rj : Int64) (F_g : Fld Z h0 p0 "com/example/ticktoken/ticktoken/bench/Report$Round" "javaOtpGenerate" "D" (.double (FP.l2d gn))) (F_r : Fld Z h0 p0 "com/example/ticktoken/ticktoken/bench/Report$Round" "ticktokenReject" "D" (.double (FP.l2d rj))) (br : -4294967296 ≤ rj.toInt ∧ rj.toInt ≤ 4294967296) (bn : Jvm.Free.Fl.NoNaN64 (FP.ddiv (FP.l2d ((3 : Int64) * rj)) (FP.l2d gn))) :
    MetFree l (⟨"com/example/ticktoken/ticktoken/bench/Report$Round", "rejectRatio", "()D"⟩ : MethodName) (head1 (Jvm.Cond.code (⟨"com/example/ticktoken/ticktoken/bench/Report$Round", "rejectRatio", "()D"⟩ : MethodName) prog_2_method_3_code 1 (some .double) :: ws) ({ frames := 0, cells := 0, slots := 0, locals := 0 } : Room)) (fun a U => a = #[(.ref p0)] ∧ Z.Warmed39 U.vm ∧ U.heap = h0) (fun _ _ _ _ _ => True) (fun _ U o U' => ∃ v L, o = .returned v ∧ Q4 gn rj h0 n0 v U'.heap L ∧ FrameEnd U o U' L ({ frames := 0, cells := 0, slots := 0, locals := 0 } : Room).cells ({ frames := 0, cells := 0, slots := 0, locals := 0 } : Room).slots) := by
  refine MetFree.of_bodySF (plainFor_of_name pn_4) hisR ?_
  intro p e s m args below meth c s₁ Bd hml0 hP hK
  obtain ⟨rfl, hZ, hh⟩ := hP
  have hx := Bd.exec
  have hby := Bd.bytes
  have hml : c.maxLocals = 1 := hml0
  have hown : s.vm.findClass "com/example/ticktoken/ticktoken/bench/Report$Round" = some m.cls := findClass_of_methodNamed Bd.named
  have hnm := (name_of_methodNamed Bd.named Bd.method).1
  have X0 : Stand p l e ({ frames := 0, cells := 0, slots := 0, locals := 0 } : Room) s m #[(.ref p0)] below meth c s₁ [] 0 0 := Stand.of_body Bd
  have e0 : s₁.heap = h0 := by rw [← hh, Bd.state]; rfl
  have N0 := Fr.nil n0
  have pre0 : ∀ t, Steps p.tables e below (s₁.setTop (mkF m 0 #[.val (.ref p0)] [])) t → Steps p.tables e below (s₁.setTop (entryFrame m #[(.ref p0)] 1)) t := fun t k => castTop (ef_4 m p0) k
  obtain ⟨T1, X1, e1, st1⟩ := getF X0 hx hZ hown (host := "") (Or.inl (hw _ (List.mem_of_getElem? (i := 20) rfl))) Via.refl e0 F_r (g := (mkF m 4 #[.val (.ref p0)] [(.ref p0), (.double (FP.l2d (3 : Int64)))])) rfl rfl (hb hby d4_4)
  have fp2 : FP.dmul (FP.l2d (3 : Int64)) (FP.l2d rj) = (FP.l2d ((3 : Int64) * rj)) := own_mul3 br.1 br.2
  obtain ⟨T3, X3, e3, st3⟩ := getF X1 hx hZ hown (host := "") (Or.inl (hw _ (List.mem_of_getElem? (i := 18) rfl))) Via.refl e1 F_g (g := (mkF m 9 #[.val (.ref p0)] [(.ref p0), (.double (FP.l2d ((3 : Int64) * rj)))])) rfl rfl (hb hby d4_9)
  have pre4 : ∀ t, Steps p.tables e below (T3.setTop (mkF m 13 #[.val (.ref p0)] [(.double (FP.ddiv (FP.l2d ((3 : Int64) * rj)) (FP.l2d gn)))])) t → Steps p.tables e below (s₁.setTop (entryFrame m #[(.ref p0)] 1)) t := by
    intro t k
    refine pre0 t ?_
    show Steps p.tables e below (s₁.setTop (mkF m 0 #[.val (.ref p0)] [])) _
    refine X0.ldc2DoubleC hx hown (mvT hZ (hw _ (List.mem_of_getElem? (i := 31) rfl))) (g := (mkF m 0 #[.val (.ref p0)] [])) rfl (hb hby d4_0) _ ?_
    rw [own_three]
    show Steps p.tables e below (s₁.setTop (mkF m 3 #[.val (.ref p0)] [(.double (FP.l2d (3 : Int64)))])) _
    refine XS.aloadN X0.here hx rfl (hb hby d4_3) rfl rfl ?_
    show Steps p.tables e below (s₁.setTop (mkF m 4 #[.val (.ref p0)] [(.ref p0), (.double (FP.l2d (3 : Int64)))])) _
    refine st1 _ ?_
    show Steps p.tables e below (T1.setTop (mkF m 7 #[.val (.ref p0)] [(.double (FP.l2d rj)), (.double (FP.l2d (3 : Int64)))])) _
    refine XS.dmulS X1.here hx rfl (hb hby d4_7) rfl (nn_w fp2) fp2 ?_
    show Steps p.tables e below (T1.setTop (mkF m 8 #[.val (.ref p0)] [(.double (FP.l2d ((3 : Int64) * rj)))])) _
    refine XS.aloadN X1.here hx rfl (hb hby d4_8) rfl rfl ?_
    show Steps p.tables e below (T1.setTop (mkF m 9 #[.val (.ref p0)] [(.ref p0), (.double (FP.l2d ((3 : Int64) * rj)))])) _
    refine st3 _ ?_
    show Steps p.tables e below (T3.setTop (mkF m 12 #[.val (.ref p0)] [(.double (FP.l2d gn)), (.double (FP.l2d ((3 : Int64) * rj)))])) _
    refine XS.ddivS X3.here hx rfl (hb hby d4_12) rfl bn rfl ?_
    show Steps p.tables e below (T3.setTop (mkF m 13 #[.val (.ref p0)] [(.double (FP.ddiv (FP.l2d ((3 : Int64) * rj)) (FP.l2d gn)))])) _
    exact k
  obtain ⟨fs, hr, hrun, hended, hW, hsame⟩ := X3.leave (v := some (.double (FP.ddiv (FP.l2d ((3 : Int64) * rj)) (FP.l2d gn)))) (fun h => by rw [Bd.returns] at h; cases h)
  refine ⟨_, _, pre4 _ ?_, hrun, hended, _, _, rfl, ?_, ⟨_, rfl⟩, hW, hsame.mono (by decide) (by decide)⟩
  · jvm_step X3.here [X3.here.top, hx, (hb hby d4_13), X3.method', Bd.returns, narrow]
    first | (intro acts; rw [hr _ acts rfl rfl rfl]) | rw [hr _ _ rfl rfl rfl]
    exact Steps.refl _
  · exact ⟨rfl, N0, e3⟩
theorem pn_0 : plainName "com/example/ticktoken/ticktoken/bench/RoundRejectRatioPinLaw" = true := by first | (simp [plainName, overriddenIn]; done) | decide +kernel
theorem ef_0 (m : MethodId) (p1 : Int32) (p2 : Int32) (p3 : Int32) (p4 : Int32) (p5 : Int32) (p6 : Int32) : entryFrame m #[(.int p1), (.int p2), (.int p3), (.int p4), (.int p5), (.int p6)] maxLocals = mkF m 0 #[.val (.int p1), .val (.int p2), .val (.int p3), .val (.int p4), .val (.int p5), .val (.int p6), .unset, .unset, .unset, .unset, .unset, .unset, .unset, .unset, .unset, .unset, .unset, .unset] [] := by first | (simp [entryFrame, mkF, argsToLocals, Value.category, maxLocals]; done) | rfl
theorem pd_0_0 : parseMethodDescriptor "(DDDDD)V" = some ⟨[.double, .double, .double, .double, .double], none⟩ := by decide +kernel
theorem pd_0_1 : parseMethodDescriptor "()D" = some ⟨[], some .double⟩ := by decide +kernel
def Q0 (n0 : Nat) (v : Option Value) (L : List Loc) : Prop := v = some (.int 1) ∧ Fr n0 L
set_option maxRecDepth 65536 in
set_option maxHeartbeats 40000000 in
theorem rm0 (l : Launch) (Z : State) (a0 : Array Value) (hw : ∀ d ∈ tables_1, d.before a0 Z = true) (ws : List Jvm.Cond) (p1 : Int32) (p2 : Int32) (p3 : Int32) (p4 : Int32) (p5 : Int32) (p6 : Int32) (h0 : Heap) (n0 : Nat) (Z0 : n0 ≤ h0.size) :
    MetFree l x (head1 (Jvm.Cond.code x code maxLocals ret :: ws) room_1) (fun a U => a = #[(.int p1), (.int p2), (.int p3), (.int p4), (.int p5), (.int p6)] ∧ Z.Warmed39 U.vm ∧ U.heap = h0) (fun _ _ _ _ _ => True) (fun _ U o U' => ∃ v L, o = .returned v ∧ Q0 n0 v L ∧ FrameEnd U o U' L room_1.cells room_1.slots) := by
  refine MetFree.of_bodySF (plainFor_of_name pn_0) hisR ?_
  intro p e s m args below meth c s₁ Bd hml0 hP hK
  obtain ⟨rfl, hZ, hh⟩ := hP
  have hx := Bd.exec
  have hby := Bd.bytes
  have hml : c.maxLocals = 18 := hml0
  have hown : s.vm.findClass "com/example/ticktoken/ticktoken/bench/RoundRejectRatioPinLaw" = some m.cls := findClass_of_methodNamed Bd.named
  have hnm := (name_of_methodNamed Bd.named Bd.method).1
  have X0 : Stand p l e room_1 s m #[(.int p1), (.int p2), (.int p3), (.int p4), (.int p5), (.int p6)] below meth c s₁ [] 0 0 := Stand.of_body Bd
  have e0 : s₁.heap = h0 := by rw [← hh, Bd.state]; rfl
  have N0 := Fr.nil n0
  have pre0 : ∀ t, Steps p.tables e below (s₁.setTop (mkF m 0 #[.val (.int p1), .val (.int p2), .val (.int p3), .val (.int p4), .val (.int p5), .val (.int p6), .unset, .unset, .unset, .unset, .unset, .unset, .unset, .unset, .unset, .unset, .unset, .unset] [])) t → Steps p.tables e below (s₁.setTop (entryFrame m #[(.int p1), (.int p2), (.int p3), (.int p4), (.int p5), (.int p6)] maxLocals)) t := fun t k => castTop (ef_0 m p1 p2 p3 p4 p5 p6) k
  have pre1 : ∀ t, Steps p.tables e below (s₁.setTop (mkF m 14 #[.val (.int p1), .val (.int p2), .val (.int p3), .val (.int p4), .val (.int p5), .val (.int p6), .val (.int ((p1 &&& (65535 : Int32)) + (1 : Int32))), .val (.int (p2 - (p2 / (65536 : Int32)) * (65536 : Int32))), .unset, .unset, .unset, .unset, .unset, .unset, .unset, .unset, .unset, .unset] [])) t → Steps p.tables e below (s₁.setTop (entryFrame m #[(.int p1), (.int p2), (.int p3), (.int p4), (.int p5), (.int p6)] maxLocals)) t := by
    intro t k
    refine pre0 t ?_
    show Steps p.tables e below (s₁.setTop (mkF m 0 #[.val (.int p1), .val (.int p2), .val (.int p3), .val (.int p4), .val (.int p5), .val (.int p6), .unset, .unset, .unset, .unset, .unset, .unset, .unset, .unset, .unset, .unset, .unset, .unset] [])) _
    refine XS.iloadN X0.here hx rfl (hb hby at_0) rfl ?_
    show Steps p.tables e below (s₁.setTop (mkF m 1 #[.val (.int p1), .val (.int p2), .val (.int p3), .val (.int p4), .val (.int p5), .val (.int p6), .unset, .unset, .unset, .unset, .unset, .unset, .unset, .unset, .unset, .unset, .unset, .unset] [(.int p1)])) _
    refine X0.ldcInt hx hown (mvT hZ (hw _ (List.mem_of_getElem? (i := 0) rfl))) (g := (mkF m 1 #[.val (.int p1), .val (.int p2), .val (.int p3), .val (.int p4), .val (.int p5), .val (.int p6), .unset, .unset, .unset, .unset, .unset, .unset, .unset, .unset, .unset, .unset, .unset, .unset] [(.int p1)])) rfl (hb hby at_1) _ ?_
    show Steps p.tables e below (s₁.setTop (mkF m 3 #[.val (.int p1), .val (.int p2), .val (.int p3), .val (.int p4), .val (.int p5), .val (.int p6), .unset, .unset, .unset, .unset, .unset, .unset, .unset, .unset, .unset, .unset, .unset, .unset] [(.int (65535 : Int32)), (.int p1)])) _
    refine XS.iand X0.here hx rfl (hb hby at_3) rfl ?_
    show Steps p.tables e below (s₁.setTop (mkF m 4 #[.val (.int p1), .val (.int p2), .val (.int p3), .val (.int p4), .val (.int p5), .val (.int p6), .unset, .unset, .unset, .unset, .unset, .unset, .unset, .unset, .unset, .unset, .unset, .unset] [(.int (p1 &&& (65535 : Int32)))])) _
    refine XS.iconst X0.here hx rfl (hb hby at_4) ?_
    show Steps p.tables e below (s₁.setTop (mkF m 5 #[.val (.int p1), .val (.int p2), .val (.int p3), .val (.int p4), .val (.int p5), .val (.int p6), .unset, .unset, .unset, .unset, .unset, .unset, .unset, .unset, .unset, .unset, .unset, .unset] [(.int (1 : Int32)), (.int (p1 &&& (65535 : Int32)))])) _
    refine XS.iadd X0.here hx rfl (hb hby at_5) rfl ?_
    show Steps p.tables e below (s₁.setTop (mkF m 6 #[.val (.int p1), .val (.int p2), .val (.int p3), .val (.int p4), .val (.int p5), .val (.int p6), .unset, .unset, .unset, .unset, .unset, .unset, .unset, .unset, .unset, .unset, .unset, .unset] [(.int ((p1 &&& (65535 : Int32)) + (1 : Int32)))])) _
    refine XS.istore X0.here hx rfl (hb hby at_6) rfl (l' := #[.val (.int p1), .val (.int p2), .val (.int p3), .val (.int p4), .val (.int p5), .val (.int p6), .val (.int ((p1 &&& (65535 : Int32)) + (1 : Int32))), .unset, .unset, .unset, .unset, .unset, .unset, .unset, .unset, .unset, .unset, .unset]) rfl ?_
    show Steps p.tables e below (s₁.setTop (mkF m 8 #[.val (.int p1), .val (.int p2), .val (.int p3), .val (.int p4), .val (.int p5), .val (.int p6), .val (.int ((p1 &&& (65535 : Int32)) + (1 : Int32))), .unset, .unset, .unset, .unset, .unset, .unset, .unset, .unset, .unset, .unset, .unset] [])) _
    refine XS.iloadN X0.here hx rfl (hb hby at_8) rfl ?_
    show Steps p.tables e below (s₁.setTop (mkF m 9 #[.val (.int p1), .val (.int p2), .val (.int p3), .val (.int p4), .val (.int p5), .val (.int p6), .val (.int ((p1 &&& (65535 : Int32)) + (1 : Int32))), .unset, .unset, .unset, .unset, .unset, .unset, .unset, .unset, .unset, .unset, .unset] [(.int p2)])) _
    refine X0.ldcInt hx hown (mvT hZ (hw _ (List.mem_of_getElem? (i := 1) rfl))) (g := (mkF m 9 #[.val (.int p1), .val (.int p2), .val (.int p3), .val (.int p4), .val (.int p5), .val (.int p6), .val (.int ((p1 &&& (65535 : Int32)) + (1 : Int32))), .unset, .unset, .unset, .unset, .unset, .unset, .unset, .unset, .unset, .unset, .unset] [(.int p2)])) rfl (hb hby at_9) _ ?_
    show Steps p.tables e below (s₁.setTop (mkF m 11 #[.val (.int p1), .val (.int p2), .val (.int p3), .val (.int p4), .val (.int p5), .val (.int p6), .val (.int ((p1 &&& (65535 : Int32)) + (1 : Int32))), .unset, .unset, .unset, .unset, .unset, .unset, .unset, .unset, .unset, .unset, .unset] [(.int (65536 : Int32)), (.int p2)])) _
    refine XS.irem X0.here hx rfl (hb hby at_11) rfl (by decide) ?_
    show Steps p.tables e below (s₁.setTop (mkF m 12 #[.val (.int p1), .val (.int p2), .val (.int p3), .val (.int p4), .val (.int p5), .val (.int p6), .val (.int ((p1 &&& (65535 : Int32)) + (1 : Int32))), .unset, .unset, .unset, .unset, .unset, .unset, .unset, .unset, .unset, .unset, .unset] [(.int (p2 - (p2 / (65536 : Int32)) * (65536 : Int32)))])) _
    refine XS.istore X0.here hx rfl (hb hby at_12) rfl (l' := #[.val (.int p1), .val (.int p2), .val (.int p3), .val (.int p4), .val (.int p5), .val (.int p6), .val (.int ((p1 &&& (65535 : Int32)) + (1 : Int32))), .val (.int (p2 - (p2 / (65536 : Int32)) * (65536 : Int32))), .unset, .unset, .unset, .unset, .unset, .unset, .unset, .unset, .unset, .unset]) rfl ?_
    show Steps p.tables e below (s₁.setTop (mkF m 14 #[.val (.int p1), .val (.int p2), .val (.int p3), .val (.int p4), .val (.int p5), .val (.int p6), .val (.int ((p1 &&& (65535 : Int32)) + (1 : Int32))), .val (.int (p2 - (p2 / (65536 : Int32)) * (65536 : Int32))), .unset, .unset, .unset, .unset, .unset, .unset, .unset, .unset, .unset, .unset] [])) _
    exact k
  obtain ⟨gI, hgI⟩ : ∃ z, z = ((p1 &&& (65535 : Int32)) + (1 : Int32)) := ⟨_, rfl⟩
  have bg : own_G gI := by rw [hgI]; exact own_bg _
  rw [← hgI] at pre1
  obtain ⟨kI, hkI⟩ : ∃ z, z = (p2 - (p2 / (65536 : Int32)) * (65536 : Int32)) := ⟨_, rfl⟩
  have bk : own_K kI := by rw [hkI]; exact own_bk _
  rw [← hkI] at pre1
  obtain ⟨T2, H2, X2, e2, E2, Q2, D2, -, st2⟩ := newO X0 hx hZ hown (hw _ (List.mem_of_getElem? (i := 2) rfl)) (hw _ (List.mem_of_getElem? (i := 3) rfl)) (hw _ (List.mem_of_getElem? (i := 4) rfl)) e0 (g := (mkF m 23 #[.val (.int p1), .val (.int p2), .val (.int p3), .val (.int p4), .val (.int p5), .val (.int p6), .val (.int gI), .val (.int kI), .val (.long (((kI).toInt64) * ((gI).toInt64))), .second, .unset, .unset, .unset, .unset, .unset, .unset, .unset, .unset] [])) rfl (hb hby at_23) (by decide) (by decide)
  obtain ⟨b2, g2⟩ : ∃ z, z = h0.size := ⟨_, rfl⟩
  rw [← g2] at Q2 D2 st2
  have Fb2_ticktokenGenerate : Fld Z H2 b2 "com/example/ticktoken/ticktoken/bench/Report$Round" "ticktokenGenerate" "D" (.double (0 : UInt64)) := D2 (Or.inr (hw _ (List.mem_of_getElem? (i := 17) rfl))) (ty := .double) (by decide)
  have Fb2_javaOtpGenerate : Fld Z H2 b2 "com/example/ticktoken/ticktoken/bench/Report$Round" "javaOtpGenerate" "D" (.double (0 : UInt64)) := D2 (Or.inr (hw _ (List.mem_of_getElem? (i := 19) rfl))) (ty := .double) (by decide)
  have Fb2_ticktokenReject : Fld Z H2 b2 "com/example/ticktoken/ticktoken/bench/Report$Round" "ticktokenReject" "D" (.double (0 : UInt64)) := D2 (Or.inr (hw _ (List.mem_of_getElem? (i := 21) rfl))) (ty := .double) (by decide)
  have Fb2_ticktokenLogin : Fld Z H2 b2 "com/example/ticktoken/ticktoken/bench/Report$Round" "ticktokenLogin" "D" (.double (0 : UInt64)) := D2 (Or.inr (hw _ (List.mem_of_getElem? (i := 23) rfl))) (ty := .double) (by decide)
  have Fb2_javaOtpLogin : Fld Z H2 b2 "com/example/ticktoken/ticktoken/bench/Report$Round" "javaOtpLogin" "D" (.double (0 : UInt64)) := D2 (Or.inr (hw _ (List.mem_of_getElem? (i := 25) rfl))) (ty := .double) (by decide)
  have Z2 : n0 ≤ H2.size := Nat.le_trans Z0 E2.1
  have gb2 : n0 ≤ b2 := Nat.le_trans Z0 (Nat.le_of_eq g2.symm)
  obtain ⟨_, _, ⟨T3, L3, k3, n3⟩, -, X3, ⟨Lc3, hQ3, l3, y3, z3⟩, st3⟩ := X2.specialBack hx (y := (⟨"com/example/ticktoken/ticktoken/bench/Report$Round", "<init>", "(DDDDD)V"⟩ : MethodName)) rfl hown (mvT hZ (hw _ (List.mem_of_getElem? (i := 5) rfl))) (mvT hZ (hw _ (List.mem_of_getElem? (i := 6) rfl))) (mvT hZ (hw _ (List.mem_of_getElem? (i := 7) rfl))) (by decide) (backOf (W := 1) (rm1 l Z a0 hw [] b2 (p3).toInt64 (gI).toInt64 (((kI).toInt64) * ((gI).toInt64)) (p4).toInt64 (p5).toInt64 H2 n0 Z2 Q2 Fb2_ticktokenGenerate Fb2_javaOtpGenerate Fb2_ticktokenReject Fb2_ticktokenLogin Fb2_javaOtpLogin gb2) hZ (hw _ (List.mem_of_getElem? (i := 7) rfl)) (hw _ (List.mem_of_getElem? (i := 4) rfl)) (by decide) (by decide)) (g := (mkF m 40 #[.val (.int p1), .val (.int p2), .val (.int p3), .val (.int p4), .val (.int p5), .val (.int p6), .val (.int gI), .val (.int kI), .val (.long (((kI).toInt64) * ((gI).toInt64))), .second, .unset, .unset, .unset, .unset, .unset, .unset, .unset, .unset] [(.double (FP.l2d (p5).toInt64)), (.double (FP.l2d (p4).toInt64)), (.double (FP.l2d (((kI).toInt64) * ((gI).toInt64)))), (.double (FP.l2d (gI).toInt64)), (.double (FP.l2d (p3).toInt64)), (.ref b2), (.ref b2)])) rfl (by rw [hml]; rfl) (Steps.refl _) (a := b2) (argsL := [(.double (FP.l2d (p3).toInt64)), (.double (FP.l2d (gI).toInt64)), (.double (FP.l2d (((kI).toInt64) * ((gI).toInt64)))), (.double (FP.l2d (p4).toInt64)), (.double (FP.l2d (p5).toInt64))]) (rest := [(.ref b2)]) (lenOf pd_0_0 rfl) rfl (by show 2 * 0 + _ ≤ _; exact Nat.le_of_eq rfl) (hb hby at_40) (fun _ _ => ⟨rfl, e2, (by decide : 1 + 0 ≤ _), (by decide : 5 + 0 ≤ _)⟩)
  dsimp only [Pt.U, Pt.locs, Pt.cells, Pt.slots] at X3 l3 y3 z3 st3 hQ3
  subst l3 y3 z3
  obtain ⟨rfl, N3q, K3, EE3, Fg3, Fr3⟩ := hQ3
  have N3 := Fr.app N0 N3q
  have e3 : T3.heap = T3.heap := rfl
  have Z3 : n0 ≤ T3.heap.size := Nat.le_trans Z2 K3.1
  have Eb2_4 := Exa.keep Q2 K3
  obtain ⟨cq5, kq5, q5a, q5b, q5c⟩ := isOf hZ e3 EE3
  obtain ⟨_, _, ⟨T5, L5, k5, n5⟩, -, X5, ⟨Lc5, hQ5, l5, y5, z5⟩, st5⟩ := X3.virtualBack hx (y := (⟨"com/example/ticktoken/ticktoken/bench/Report$Round", "rejectRatio", "()D"⟩ : MethodName)) (z := (⟨"com/example/ticktoken/ticktoken/bench/Report$Round", "rejectRatio", "()D"⟩ : MethodName)) hown (mvT hZ (hw _ (List.mem_of_getElem? (i := 26) rfl))) (mvT hZ (hw _ (List.mem_of_getElem? (i := 27) rfl))) (notFace_of_selects (args := #[]) (mvT hZ (hw _ (List.mem_of_getElem? (i := 29) rfl)))) (mvT hZ (hw _ (List.mem_of_getElem? (i := 29) rfl))) (mvT hZ (hw _ (List.mem_of_getElem? (i := 28) rfl))) (by decide) (backOf (W := 0) (rm4 l Z a0 hw [] b2 T3.heap n0 Z3 ((gI).toInt64) ((((kI).toInt64) * ((gI).toInt64))) Fg3 Fr3 (own_rb bg bk) (nn_w (own_quot bg bk))) hZ (hw _ (List.mem_of_getElem? (i := 30) rfl)) (hw _ (List.mem_of_getElem? (i := 4) rfl)) (by decide) (by decide)) q5a q5c (g := (mkF m 47 #[.val (.int p1), .val (.int p2), .val (.int p3), .val (.int p4), .val (.int p5), .val (.int p6), .val (.int gI), .val (.int kI), .val (.long (((kI).toInt64) * ((gI).toInt64))), .second, .val (.ref b2), .unset, .unset, .unset, .unset, .unset, .unset, .unset] [(.ref b2)])) rfl (by rw [hml]; rfl) (Steps.refl _) (argsL := []) (rest := []) (lenOf pd_0_1 rfl) rfl (by show 2 * 0 + _ ≤ _; exact Nat.le_of_eq rfl) (hb hby at_47) (fun _ _ => ⟨rfl, e3, (by decide : 1 + 0 ≤ _), (by decide : 5 + 0 ≤ _)⟩)
  dsimp only [Pt.U, Pt.locs, Pt.cells, Pt.slots] at X5 l5 y5 z5 st5 hQ5
  subst l5 y5 z5
  obtain ⟨rfl, N5q, e5⟩ := hQ5
  have N5 := Fr.app N3 N5q
  have fp6 : cmpValue (FP.dcmp (FP.ddiv (FP.l2d ((3 : Int64) * (((kI).toInt64) * ((gI).toInt64)))) (FP.l2d (gI).toInt64)) (FP.l2d ((3 : Int64) * ((kI).toInt64)))) .l = (0 : Int32) := dcmpV_eq (own_quot bg bk) (nn_w (own_quot bg bk)) _
  have h59_7 : (0 : Int32) = (0 : Int32) := rfl
  have pre8 : ∀ t, Steps p.tables e below (T5.setTop (mkF m 84 #[.val (.int p1), .val (.int p2), .val (.int p3), .val (.int p4), .val (.int p5), .val (.int p6), .val (.int gI), .val (.int kI), .val (.long (((kI).toInt64) * ((gI).toInt64))), .second, .val (.ref b2), .val (.int (1 : Int32)), .val (.int ((1 : Int32) <<< ((p6 &&& (15 : Int32)) &&& 31))), .val (.int (p4 - (p4 / (1048576 : Int32)) * (1048576 : Int32))), .unset, .unset, .unset, .unset] [])) t → Steps p.tables e below (s₁.setTop (entryFrame m #[(.int p1), (.int p2), (.int p3), (.int p4), (.int p5), (.int p6)] maxLocals)) t := by
    intro t k
    refine pre1 t ?_
    show Steps p.tables e below (s₁.setTop (mkF m 14 #[.val (.int p1), .val (.int p2), .val (.int p3), .val (.int p4), .val (.int p5), .val (.int p6), .val (.int gI), .val (.int kI), .unset, .unset, .unset, .unset, .unset, .unset, .unset, .unset, .unset, .unset] [])) _
    refine XS.iload X0.here hx rfl (hb hby at_14) rfl ?_
    show Steps p.tables e below (s₁.setTop (mkF m 16 #[.val (.int p1), .val (.int p2), .val (.int p3), .val (.int p4), .val (.int p5), .val (.int p6), .val (.int gI), .val (.int kI), .unset, .unset, .unset, .unset, .unset, .unset, .unset, .unset, .unset, .unset] [(.int kI)])) _
    refine XT.i2l X0.here hx rfl (hb hby at_16) rfl ?_
    show Steps p.tables e below (s₁.setTop (mkF m 17 #[.val (.int p1), .val (.int p2), .val (.int p3), .val (.int p4), .val (.int p5), .val (.int p6), .val (.int gI), .val (.int kI), .unset, .unset, .unset, .unset, .unset, .unset, .unset, .unset, .unset, .unset] [(.long ((kI).toInt64))])) _
    refine XS.iload X0.here hx rfl (hb hby at_17) rfl ?_
    show Steps p.tables e below (s₁.setTop (mkF m 19 #[.val (.int p1), .val (.int p2), .val (.int p3), .val (.int p4), .val (.int p5), .val (.int p6), .val (.int gI), .val (.int kI), .unset, .unset, .unset, .unset, .unset, .unset, .unset, .unset, .unset, .unset] [(.int gI), (.long ((kI).toInt64))])) _
    refine XT.i2l X0.here hx rfl (hb hby at_19) rfl ?_
    show Steps p.tables e below (s₁.setTop (mkF m 20 #[.val (.int p1), .val (.int p2), .val (.int p3), .val (.int p4), .val (.int p5), .val (.int p6), .val (.int gI), .val (.int kI), .unset, .unset, .unset, .unset, .unset, .unset, .unset, .unset, .unset, .unset] [(.long ((gI).toInt64)), (.long ((kI).toInt64))])) _
    refine XT.lmul X0.here hx rfl (hb hby at_20) rfl ?_
    show Steps p.tables e below (s₁.setTop (mkF m 21 #[.val (.int p1), .val (.int p2), .val (.int p3), .val (.int p4), .val (.int p5), .val (.int p6), .val (.int gI), .val (.int kI), .unset, .unset, .unset, .unset, .unset, .unset, .unset, .unset, .unset, .unset] [(.long (((kI).toInt64) * ((gI).toInt64)))])) _
    refine XT.lstore X0.here hx rfl (hb hby at_21) rfl (l' := #[.val (.int p1), .val (.int p2), .val (.int p3), .val (.int p4), .val (.int p5), .val (.int p6), .val (.int gI), .val (.int kI), .val (.long (((kI).toInt64) * ((gI).toInt64))), .second, .unset, .unset, .unset, .unset, .unset, .unset, .unset, .unset]) rfl ?_
    show Steps p.tables e below (s₁.setTop (mkF m 23 #[.val (.int p1), .val (.int p2), .val (.int p3), .val (.int p4), .val (.int p5), .val (.int p6), .val (.int gI), .val (.int kI), .val (.long (((kI).toInt64) * ((gI).toInt64))), .second, .unset, .unset, .unset, .unset, .unset, .unset, .unset, .unset] [])) _
    refine st2 _ ?_
    show Steps p.tables e below (T2.setTop (mkF m 26 #[.val (.int p1), .val (.int p2), .val (.int p3), .val (.int p4), .val (.int p5), .val (.int p6), .val (.int gI), .val (.int kI), .val (.long (((kI).toInt64) * ((gI).toInt64))), .second, .unset, .unset, .unset, .unset, .unset, .unset, .unset, .unset] [(.ref b2)])) _
    refine XS.dup X2.here hx rfl (hb hby at_26) rfl rfl ?_
    show Steps p.tables e below (T2.setTop (mkF m 27 #[.val (.int p1), .val (.int p2), .val (.int p3), .val (.int p4), .val (.int p5), .val (.int p6), .val (.int gI), .val (.int kI), .val (.long (((kI).toInt64) * ((gI).toInt64))), .second, .unset, .unset, .unset, .unset, .unset, .unset, .unset, .unset] [(.ref b2), (.ref b2)])) _
    refine XS.iloadN X2.here hx rfl (hb hby at_27) rfl ?_
    show Steps p.tables e below (T2.setTop (mkF m 28 #[.val (.int p1), .val (.int p2), .val (.int p3), .val (.int p4), .val (.int p5), .val (.int p6), .val (.int gI), .val (.int kI), .val (.long (((kI).toInt64) * ((gI).toInt64))), .second, .unset, .unset, .unset, .unset, .unset, .unset, .unset, .unset] [(.int p3), (.ref b2), (.ref b2)])) _
    refine XS.i2dS X2.here hx rfl (hb hby at_28) rfl (i2d_w p3) ?_
    show Steps p.tables e below (T2.setTop (mkF m 29 #[.val (.int p1), .val (.int p2), .val (.int p3), .val (.int p4), .val (.int p5), .val (.int p6), .val (.int gI), .val (.int kI), .val (.long (((kI).toInt64) * ((gI).toInt64))), .second, .unset, .unset, .unset, .unset, .unset, .unset, .unset, .unset] [(.double (FP.l2d (p3).toInt64)), (.ref b2), (.ref b2)])) _
    refine XS.iload X2.here hx rfl (hb hby at_29) rfl ?_
    show Steps p.tables e below (T2.setTop (mkF m 31 #[.val (.int p1), .val (.int p2), .val (.int p3), .val (.int p4), .val (.int p5), .val (.int p6), .val (.int gI), .val (.int kI), .val (.long (((kI).toInt64) * ((gI).toInt64))), .second, .unset, .unset, .unset, .unset, .unset, .unset, .unset, .unset] [(.int gI), (.double (FP.l2d (p3).toInt64)), (.ref b2), (.ref b2)])) _
    refine XS.i2dS X2.here hx rfl (hb hby at_31) rfl (i2d_w gI) ?_
    show Steps p.tables e below (T2.setTop (mkF m 32 #[.val (.int p1), .val (.int p2), .val (.int p3), .val (.int p4), .val (.int p5), .val (.int p6), .val (.int gI), .val (.int kI), .val (.long (((kI).toInt64) * ((gI).toInt64))), .second, .unset, .unset, .unset, .unset, .unset, .unset, .unset, .unset] [(.double (FP.l2d (gI).toInt64)), (.double (FP.l2d (p3).toInt64)), (.ref b2), (.ref b2)])) _
    refine XT.lload X2.here hx rfl (hb hby at_32) rfl ?_
    show Steps p.tables e below (T2.setTop (mkF m 34 #[.val (.int p1), .val (.int p2), .val (.int p3), .val (.int p4), .val (.int p5), .val (.int p6), .val (.int gI), .val (.int kI), .val (.long (((kI).toInt64) * ((gI).toInt64))), .second, .unset, .unset, .unset, .unset, .unset, .unset, .unset, .unset] [(.long (((kI).toInt64) * ((gI).toInt64))), (.double (FP.l2d (gI).toInt64)), (.double (FP.l2d (p3).toInt64)), (.ref b2), (.ref b2)])) _
    refine XS.l2dS X2.here hx rfl (hb hby at_34) rfl (v := FP.l2d (((kI).toInt64) * ((gI).toInt64))) rfl ?_
    show Steps p.tables e below (T2.setTop (mkF m 35 #[.val (.int p1), .val (.int p2), .val (.int p3), .val (.int p4), .val (.int p5), .val (.int p6), .val (.int gI), .val (.int kI), .val (.long (((kI).toInt64) * ((gI).toInt64))), .second, .unset, .unset, .unset, .unset, .unset, .unset, .unset, .unset] [(.double (FP.l2d (((kI).toInt64) * ((gI).toInt64)))), (.double (FP.l2d (gI).toInt64)), (.double (FP.l2d (p3).toInt64)), (.ref b2), (.ref b2)])) _
    refine XS.iloadN X2.here hx rfl (hb hby at_35) rfl ?_
    show Steps p.tables e below (T2.setTop (mkF m 36 #[.val (.int p1), .val (.int p2), .val (.int p3), .val (.int p4), .val (.int p5), .val (.int p6), .val (.int gI), .val (.int kI), .val (.long (((kI).toInt64) * ((gI).toInt64))), .second, .unset, .unset, .unset, .unset, .unset, .unset, .unset, .unset] [(.int p4), (.double (FP.l2d (((kI).toInt64) * ((gI).toInt64)))), (.double (FP.l2d (gI).toInt64)), (.double (FP.l2d (p3).toInt64)), (.ref b2), (.ref b2)])) _
    refine XS.i2dS X2.here hx rfl (hb hby at_36) rfl (i2d_w p4) ?_
    show Steps p.tables e below (T2.setTop (mkF m 37 #[.val (.int p1), .val (.int p2), .val (.int p3), .val (.int p4), .val (.int p5), .val (.int p6), .val (.int gI), .val (.int kI), .val (.long (((kI).toInt64) * ((gI).toInt64))), .second, .unset, .unset, .unset, .unset, .unset, .unset, .unset, .unset] [(.double (FP.l2d (p4).toInt64)), (.double (FP.l2d (((kI).toInt64) * ((gI).toInt64)))), (.double (FP.l2d (gI).toInt64)), (.double (FP.l2d (p3).toInt64)), (.ref b2), (.ref b2)])) _
    refine XS.iload X2.here hx rfl (hb hby at_37) rfl ?_
    show Steps p.tables e below (T2.setTop (mkF m 39 #[.val (.int p1), .val (.int p2), .val (.int p3), .val (.int p4), .val (.int p5), .val (.int p6), .val (.int gI), .val (.int kI), .val (.long (((kI).toInt64) * ((gI).toInt64))), .second, .unset, .unset, .unset, .unset, .unset, .unset, .unset, .unset] [(.int p5), (.double (FP.l2d (p4).toInt64)), (.double (FP.l2d (((kI).toInt64) * ((gI).toInt64)))), (.double (FP.l2d (gI).toInt64)), (.double (FP.l2d (p3).toInt64)), (.ref b2), (.ref b2)])) _
    refine XS.i2dS X2.here hx rfl (hb hby at_39) rfl (i2d_w p5) ?_
    show Steps p.tables e below (T2.setTop (mkF m 40 #[.val (.int p1), .val (.int p2), .val (.int p3), .val (.int p4), .val (.int p5), .val (.int p6), .val (.int gI), .val (.int kI), .val (.long (((kI).toInt64) * ((gI).toInt64))), .second, .unset, .unset, .unset, .unset, .unset, .unset, .unset, .unset] [(.double (FP.l2d (p5).toInt64)), (.double (FP.l2d (p4).toInt64)), (.double (FP.l2d (((kI).toInt64) * ((gI).toInt64)))), (.double (FP.l2d (gI).toInt64)), (.double (FP.l2d (p3).toInt64)), (.ref b2), (.ref b2)])) _
    refine st3.trans ?_
    show Steps p.tables e below (T3.setTop (mkF m 43 #[.val (.int p1), .val (.int p2), .val (.int p3), .val (.int p4), .val (.int p5), .val (.int p6), .val (.int gI), .val (.int kI), .val (.long (((kI).toInt64) * ((gI).toInt64))), .second, .unset, .unset, .unset, .unset, .unset, .unset, .unset, .unset] [(.ref b2)])) _
    refine XS.astore X3.here hx rfl (hb hby at_43) rfl rfl (l' := #[.val (.int p1), .val (.int p2), .val (.int p3), .val (.int p4), .val (.int p5), .val (.int p6), .val (.int gI), .val (.int kI), .val (.long (((kI).toInt64) * ((gI).toInt64))), .second, .val (.ref b2), .unset, .unset, .unset, .unset, .unset, .unset, .unset]) rfl ?_
    show Steps p.tables e below (T3.setTop (mkF m 45 #[.val (.int p1), .val (.int p2), .val (.int p3), .val (.int p4), .val (.int p5), .val (.int p6), .val (.int gI), .val (.int kI), .val (.long (((kI).toInt64) * ((gI).toInt64))), .second, .val (.ref b2), .unset, .unset, .unset, .unset, .unset, .unset, .unset] [])) _
    refine XS.aload X3.here hx rfl (hb hby at_45) rfl rfl ?_
    show Steps p.tables e below (T3.setTop (mkF m 47 #[.val (.int p1), .val (.int p2), .val (.int p3), .val (.int p4), .val (.int p5), .val (.int p6), .val (.int gI), .val (.int kI), .val (.long (((kI).toInt64) * ((gI).toInt64))), .second, .val (.ref b2), .unset, .unset, .unset, .unset, .unset, .unset, .unset] [(.ref b2)])) _
    refine st5.trans ?_
    show Steps p.tables e below (T5.setTop (mkF m 50 #[.val (.int p1), .val (.int p2), .val (.int p3), .val (.int p4), .val (.int p5), .val (.int p6), .val (.int gI), .val (.int kI), .val (.long (((kI).toInt64) * ((gI).toInt64))), .second, .val (.ref b2), .unset, .unset, .unset, .unset, .unset, .unset, .unset] [(.double (FP.ddiv (FP.l2d ((3 : Int64) * (((kI).toInt64) * ((gI).toInt64)))) (FP.l2d (gI).toInt64)))])) _
    refine X5.ldc2Long hx hown (mvT hZ (hw _ (List.mem_of_getElem? (i := 32) rfl))) (g := (mkF m 50 #[.val (.int p1), .val (.int p2), .val (.int p3), .val (.int p4), .val (.int p5), .val (.int p6), .val (.int gI), .val (.int kI), .val (.long (((kI).toInt64) * ((gI).toInt64))), .second, .val (.ref b2), .unset, .unset, .unset, .unset, .unset, .unset, .unset] [(.double (FP.ddiv (FP.l2d ((3 : Int64) * (((kI).toInt64) * ((gI).toInt64)))) (FP.l2d (gI).toInt64)))])) rfl (hb hby at_50) _ ?_
    show Steps p.tables e below (T5.setTop (mkF m 53 #[.val (.int p1), .val (.int p2), .val (.int p3), .val (.int p4), .val (.int p5), .val (.int p6), .val (.int gI), .val (.int kI), .val (.long (((kI).toInt64) * ((gI).toInt64))), .second, .val (.ref b2), .unset, .unset, .unset, .unset, .unset, .unset, .unset] [(.long (3 : Int64)), (.double (FP.ddiv (FP.l2d ((3 : Int64) * (((kI).toInt64) * ((gI).toInt64)))) (FP.l2d (gI).toInt64)))])) _
    refine XS.iload X5.here hx rfl (hb hby at_53) rfl ?_
    show Steps p.tables e below (T5.setTop (mkF m 55 #[.val (.int p1), .val (.int p2), .val (.int p3), .val (.int p4), .val (.int p5), .val (.int p6), .val (.int gI), .val (.int kI), .val (.long (((kI).toInt64) * ((gI).toInt64))), .second, .val (.ref b2), .unset, .unset, .unset, .unset, .unset, .unset, .unset] [(.int kI), (.long (3 : Int64)), (.double (FP.ddiv (FP.l2d ((3 : Int64) * (((kI).toInt64) * ((gI).toInt64)))) (FP.l2d (gI).toInt64)))])) _
    refine XT.i2l X5.here hx rfl (hb hby at_55) rfl ?_
    show Steps p.tables e below (T5.setTop (mkF m 56 #[.val (.int p1), .val (.int p2), .val (.int p3), .val (.int p4), .val (.int p5), .val (.int p6), .val (.int gI), .val (.int kI), .val (.long (((kI).toInt64) * ((gI).toInt64))), .second, .val (.ref b2), .unset, .unset, .unset, .unset, .unset, .unset, .unset] [(.long ((kI).toInt64)), (.long (3 : Int64)), (.double (FP.ddiv (FP.l2d ((3 : Int64) * (((kI).toInt64) * ((gI).toInt64)))) (FP.l2d (gI).toInt64)))])) _
    refine XT.lmul X5.here hx rfl (hb hby at_56) rfl ?_
    show Steps p.tables e below (T5.setTop (mkF m 57 #[.val (.int p1), .val (.int p2), .val (.int p3), .val (.int p4), .val (.int p5), .val (.int p6), .val (.int gI), .val (.int kI), .val (.long (((kI).toInt64) * ((gI).toInt64))), .second, .val (.ref b2), .unset, .unset, .unset, .unset, .unset, .unset, .unset] [(.long ((3 : Int64) * ((kI).toInt64))), (.double (FP.ddiv (FP.l2d ((3 : Int64) * (((kI).toInt64) * ((gI).toInt64)))) (FP.l2d (gI).toInt64)))])) _
    refine XS.l2dS X5.here hx rfl (hb hby at_57) rfl (v := FP.l2d ((3 : Int64) * ((kI).toInt64))) rfl ?_
    show Steps p.tables e below (T5.setTop (mkF m 58 #[.val (.int p1), .val (.int p2), .val (.int p3), .val (.int p4), .val (.int p5), .val (.int p6), .val (.int gI), .val (.int kI), .val (.long (((kI).toInt64) * ((gI).toInt64))), .second, .val (.ref b2), .unset, .unset, .unset, .unset, .unset, .unset, .unset] [(.double (FP.l2d ((3 : Int64) * ((kI).toInt64)))), (.double (FP.ddiv (FP.l2d ((3 : Int64) * (((kI).toInt64) * ((gI).toInt64)))) (FP.l2d (gI).toInt64)))])) _
    refine XS.dcmpS X5.here hx rfl (hb hby at_58) rfl fp6 ?_
    show Steps p.tables e below (T5.setTop (mkF m 59 #[.val (.int p1), .val (.int p2), .val (.int p3), .val (.int p4), .val (.int p5), .val (.int p6), .val (.int gI), .val (.int kI), .val (.long (((kI).toInt64) * ((gI).toInt64))), .second, .val (.ref b2), .unset, .unset, .unset, .unset, .unset, .unset, .unset] [(.int (0 : Int32))])) _
    refine XS.ifNo X5.here hx rfl (hb hby at_59) rfl ((if0 _ _).trans (teq h59_7).2) ?_
    show Steps p.tables e below (T5.setTop (mkF m 62 #[.val (.int p1), .val (.int p2), .val (.int p3), .val (.int p4), .val (.int p5), .val (.int p6), .val (.int gI), .val (.int kI), .val (.long (((kI).toInt64) * ((gI).toInt64))), .second, .val (.ref b2), .unset, .unset, .unset, .unset, .unset, .unset, .unset] [])) _
    refine XS.iconst X5.here hx rfl (hb hby at_62) ?_
    show Steps p.tables e below (T5.setTop (mkF m 63 #[.val (.int p1), .val (.int p2), .val (.int p3), .val (.int p4), .val (.int p5), .val (.int p6), .val (.int gI), .val (.int kI), .val (.long (((kI).toInt64) * ((gI).toInt64))), .second, .val (.ref b2), .unset, .unset, .unset, .unset, .unset, .unset, .unset] [(.int (1 : Int32))])) _
    refine XS.goto X5.here hx rfl (pc0 := 63) (pc' := 67) rfl (hb hby at_63) (by decide) (by decide) ?_
    show Steps p.tables e below (T5.setTop (mkF m 67 #[.val (.int p1), .val (.int p2), .val (.int p3), .val (.int p4), .val (.int p5), .val (.int p6), .val (.int gI), .val (.int kI), .val (.long (((kI).toInt64) * ((gI).toInt64))), .second, .val (.ref b2), .unset, .unset, .unset, .unset, .unset, .unset, .unset] [(.int (1 : Int32))])) _
    refine XS.istore X5.here hx rfl (hb hby at_67) rfl (l' := #[.val (.int p1), .val (.int p2), .val (.int p3), .val (.int p4), .val (.int p5), .val (.int p6), .val (.int gI), .val (.int kI), .val (.long (((kI).toInt64) * ((gI).toInt64))), .second, .val (.ref b2), .val (.int (1 : Int32)), .unset, .unset, .unset, .unset, .unset, .unset]) rfl ?_
    show Steps p.tables e below (T5.setTop (mkF m 69 #[.val (.int p1), .val (.int p2), .val (.int p3), .val (.int p4), .val (.int p5), .val (.int p6), .val (.int gI), .val (.int kI), .val (.long (((kI).toInt64) * ((gI).toInt64))), .second, .val (.ref b2), .val (.int (1 : Int32)), .unset, .unset, .unset, .unset, .unset, .unset] [])) _
    refine XS.iconst X5.here hx rfl (hb hby at_69) ?_
    show Steps p.tables e below (T5.setTop (mkF m 70 #[.val (.int p1), .val (.int p2), .val (.int p3), .val (.int p4), .val (.int p5), .val (.int p6), .val (.int gI), .val (.int kI), .val (.long (((kI).toInt64) * ((gI).toInt64))), .second, .val (.ref b2), .val (.int (1 : Int32)), .unset, .unset, .unset, .unset, .unset, .unset] [(.int (1 : Int32))])) _
    refine XS.iload X5.here hx rfl (hb hby at_70) rfl ?_
    show Steps p.tables e below (T5.setTop (mkF m 72 #[.val (.int p1), .val (.int p2), .val (.int p3), .val (.int p4), .val (.int p5), .val (.int p6), .val (.int gI), .val (.int kI), .val (.long (((kI).toInt64) * ((gI).toInt64))), .second, .val (.ref b2), .val (.int (1 : Int32)), .unset, .unset, .unset, .unset, .unset, .unset] [(.int p6), (.int (1 : Int32))])) _
    refine XS.bipush X5.here hx rfl (hb hby at_72) ?_
    show Steps p.tables e below (T5.setTop (mkF m 74 #[.val (.int p1), .val (.int p2), .val (.int p3), .val (.int p4), .val (.int p5), .val (.int p6), .val (.int gI), .val (.int kI), .val (.long (((kI).toInt64) * ((gI).toInt64))), .second, .val (.ref b2), .val (.int (1 : Int32)), .unset, .unset, .unset, .unset, .unset, .unset] [(.int (15 : Int32)), (.int p6), (.int (1 : Int32))])) _
    refine XS.iand X5.here hx rfl (hb hby at_74) rfl ?_
    show Steps p.tables e below (T5.setTop (mkF m 75 #[.val (.int p1), .val (.int p2), .val (.int p3), .val (.int p4), .val (.int p5), .val (.int p6), .val (.int gI), .val (.int kI), .val (.long (((kI).toInt64) * ((gI).toInt64))), .second, .val (.ref b2), .val (.int (1 : Int32)), .unset, .unset, .unset, .unset, .unset, .unset] [(.int (p6 &&& (15 : Int32))), (.int (1 : Int32))])) _
    refine XT.ishl X5.here hx rfl (hb hby at_75) rfl ?_
    show Steps p.tables e below (T5.setTop (mkF m 76 #[.val (.int p1), .val (.int p2), .val (.int p3), .val (.int p4), .val (.int p5), .val (.int p6), .val (.int gI), .val (.int kI), .val (.long (((kI).toInt64) * ((gI).toInt64))), .second, .val (.ref b2), .val (.int (1 : Int32)), .unset, .unset, .unset, .unset, .unset, .unset] [(.int ((1 : Int32) <<< ((p6 &&& (15 : Int32)) &&& 31)))])) _
    refine XS.istore X5.here hx rfl (hb hby at_76) rfl (l' := #[.val (.int p1), .val (.int p2), .val (.int p3), .val (.int p4), .val (.int p5), .val (.int p6), .val (.int gI), .val (.int kI), .val (.long (((kI).toInt64) * ((gI).toInt64))), .second, .val (.ref b2), .val (.int (1 : Int32)), .val (.int ((1 : Int32) <<< ((p6 &&& (15 : Int32)) &&& 31))), .unset, .unset, .unset, .unset, .unset]) rfl ?_
    show Steps p.tables e below (T5.setTop (mkF m 78 #[.val (.int p1), .val (.int p2), .val (.int p3), .val (.int p4), .val (.int p5), .val (.int p6), .val (.int gI), .val (.int kI), .val (.long (((kI).toInt64) * ((gI).toInt64))), .second, .val (.ref b2), .val (.int (1 : Int32)), .val (.int ((1 : Int32) <<< ((p6 &&& (15 : Int32)) &&& 31))), .unset, .unset, .unset, .unset, .unset] [])) _
    refine XS.iloadN X5.here hx rfl (hb hby at_78) rfl ?_
    show Steps p.tables e below (T5.setTop (mkF m 79 #[.val (.int p1), .val (.int p2), .val (.int p3), .val (.int p4), .val (.int p5), .val (.int p6), .val (.int gI), .val (.int kI), .val (.long (((kI).toInt64) * ((gI).toInt64))), .second, .val (.ref b2), .val (.int (1 : Int32)), .val (.int ((1 : Int32) <<< ((p6 &&& (15 : Int32)) &&& 31))), .unset, .unset, .unset, .unset, .unset] [(.int p4)])) _
    refine X5.ldcInt hx hown (mvT hZ (hw _ (List.mem_of_getElem? (i := 33) rfl))) (g := (mkF m 79 #[.val (.int p1), .val (.int p2), .val (.int p3), .val (.int p4), .val (.int p5), .val (.int p6), .val (.int gI), .val (.int kI), .val (.long (((kI).toInt64) * ((gI).toInt64))), .second, .val (.ref b2), .val (.int (1 : Int32)), .val (.int ((1 : Int32) <<< ((p6 &&& (15 : Int32)) &&& 31))), .unset, .unset, .unset, .unset, .unset] [(.int p4)])) rfl (hb hby at_79) _ ?_
    show Steps p.tables e below (T5.setTop (mkF m 81 #[.val (.int p1), .val (.int p2), .val (.int p3), .val (.int p4), .val (.int p5), .val (.int p6), .val (.int gI), .val (.int kI), .val (.long (((kI).toInt64) * ((gI).toInt64))), .second, .val (.ref b2), .val (.int (1 : Int32)), .val (.int ((1 : Int32) <<< ((p6 &&& (15 : Int32)) &&& 31))), .unset, .unset, .unset, .unset, .unset] [(.int (1048576 : Int32)), (.int p4)])) _
    refine XS.irem X5.here hx rfl (hb hby at_81) rfl (by decide) ?_
    show Steps p.tables e below (T5.setTop (mkF m 82 #[.val (.int p1), .val (.int p2), .val (.int p3), .val (.int p4), .val (.int p5), .val (.int p6), .val (.int gI), .val (.int kI), .val (.long (((kI).toInt64) * ((gI).toInt64))), .second, .val (.ref b2), .val (.int (1 : Int32)), .val (.int ((1 : Int32) <<< ((p6 &&& (15 : Int32)) &&& 31))), .unset, .unset, .unset, .unset, .unset] [(.int (p4 - (p4 / (1048576 : Int32)) * (1048576 : Int32)))])) _
    refine XS.istore X5.here hx rfl (hb hby at_82) rfl (l' := #[.val (.int p1), .val (.int p2), .val (.int p3), .val (.int p4), .val (.int p5), .val (.int p6), .val (.int gI), .val (.int kI), .val (.long (((kI).toInt64) * ((gI).toInt64))), .second, .val (.ref b2), .val (.int (1 : Int32)), .val (.int ((1 : Int32) <<< ((p6 &&& (15 : Int32)) &&& 31))), .val (.int (p4 - (p4 / (1048576 : Int32)) * (1048576 : Int32))), .unset, .unset, .unset, .unset]) rfl ?_
    show Steps p.tables e below (T5.setTop (mkF m 84 #[.val (.int p1), .val (.int p2), .val (.int p3), .val (.int p4), .val (.int p5), .val (.int p6), .val (.int gI), .val (.int kI), .val (.long (((kI).toInt64) * ((gI).toInt64))), .second, .val (.ref b2), .val (.int (1 : Int32)), .val (.int ((1 : Int32) <<< ((p6 &&& (15 : Int32)) &&& 31))), .val (.int (p4 - (p4 / (1048576 : Int32)) * (1048576 : Int32))), .unset, .unset, .unset, .unset] [])) _
    exact k
  obtain ⟨pI, hpI⟩ : ∃ z, z = ((1 : Int32) <<< ((p6 &&& (15 : Int32)) &&& 31)) := ⟨_, rfl⟩
  rw [← hpI] at pre8
  obtain ⟨j, hpj⟩ : ∃ j : Nat, j ≤ 15 ∧ (pI).toInt64.toInt = ((2 ^ j : Nat) : Int) := by rw [hpI]; exact own_pw _
  obtain ⟨sI, hsI⟩ : ∃ z, z = (p4 - (p4 / (1048576 : Int32)) * (1048576 : Int32)) := ⟨_, rfl⟩
  have bs : own_S sI := by rw [hsI]; exact own_bs _
  rw [← hsI] at pre8
  obtain ⟨T9, H9, X9, e9, E9, Q9, D9, -, st9⟩ := newO X5 hx hZ hown (hw _ (List.mem_of_getElem? (i := 2) rfl)) (hw _ (List.mem_of_getElem? (i := 3) rfl)) (hw _ (List.mem_of_getElem? (i := 4) rfl)) e5 (g := (mkF m 84 #[.val (.int p1), .val (.int p2), .val (.int p3), .val (.int p4), .val (.int p5), .val (.int p6), .val (.int gI), .val (.int kI), .val (.long (((kI).toInt64) * ((gI).toInt64))), .second, .val (.ref b2), .val (.int (1 : Int32)), .val (.int pI), .val (.int sI), .unset, .unset, .unset, .unset] [])) rfl (hb hby at_84) (by decide) (by decide)
  obtain ⟨b9, g9⟩ : ∃ z, z = T3.heap.size := ⟨_, rfl⟩
  rw [← g9] at Q9 D9 st9
  have lt_b2_b9 : b2 < b9 := Nat.lt_of_lt_of_le (Exa.lt EE3) (Nat.le_of_eq g9.symm)
  have Fb9_ticktokenGenerate : Fld Z H9 b9 "com/example/ticktoken/ticktoken/bench/Report$Round" "ticktokenGenerate" "D" (.double (0 : UInt64)) := D9 (Or.inr (hw _ (List.mem_of_getElem? (i := 17) rfl))) (ty := .double) (by decide)
  have Fb9_javaOtpGenerate : Fld Z H9 b9 "com/example/ticktoken/ticktoken/bench/Report$Round" "javaOtpGenerate" "D" (.double (0 : UInt64)) := D9 (Or.inr (hw _ (List.mem_of_getElem? (i := 19) rfl))) (ty := .double) (by decide)
  have Fb9_ticktokenReject : Fld Z H9 b9 "com/example/ticktoken/ticktoken/bench/Report$Round" "ticktokenReject" "D" (.double (0 : UInt64)) := D9 (Or.inr (hw _ (List.mem_of_getElem? (i := 21) rfl))) (ty := .double) (by decide)
  have Fb9_ticktokenLogin : Fld Z H9 b9 "com/example/ticktoken/ticktoken/bench/Report$Round" "ticktokenLogin" "D" (.double (0 : UInt64)) := D9 (Or.inr (hw _ (List.mem_of_getElem? (i := 23) rfl))) (ty := .double) (by decide)
  have Fb9_javaOtpLogin : Fld Z H9 b9 "com/example/ticktoken/ticktoken/bench/Report$Round" "javaOtpLogin" "D" (.double (0 : UInt64)) := D9 (Or.inr (hw _ (List.mem_of_getElem? (i := 25) rfl))) (ty := .double) (by decide)
  have Z9 : n0 ≤ H9.size := Nat.le_trans Z3 E9.1
  have gb9 : n0 ≤ b9 := Nat.le_trans Z3 (Nat.le_of_eq g9.symm)
  have Eb2_10 := Exa.ext E9 EE3
  have Fb2_javaOtpGenerate_10 := Fld.ext E9 Fg3
  have Fb2_ticktokenReject_10 := Fld.ext E9 Fr3
  obtain ⟨_, _, ⟨T11, L11, k11, n11⟩, -, X11, ⟨Lc11, hQ11, l11, y11, z11⟩, st11⟩ := X9.specialBack hx (y := (⟨"com/example/ticktoken/ticktoken/bench/Report$Round", "<init>", "(DDDDD)V"⟩ : MethodName)) rfl hown (mvT hZ (hw _ (List.mem_of_getElem? (i := 5) rfl))) (mvT hZ (hw _ (List.mem_of_getElem? (i := 6) rfl))) (mvT hZ (hw _ (List.mem_of_getElem? (i := 7) rfl))) (by decide) (backOf (W := 1) (rm1 l Z a0 hw [] b9 (gI).toInt64 (pI).toInt64 (sI).toInt64 (p5).toInt64 (kI).toInt64 H9 n0 Z9 Q9 Fb9_ticktokenGenerate Fb9_javaOtpGenerate Fb9_ticktokenReject Fb9_ticktokenLogin Fb9_javaOtpLogin gb9) hZ (hw _ (List.mem_of_getElem? (i := 7) rfl)) (hw _ (List.mem_of_getElem? (i := 4) rfl)) (by decide) (by decide)) (g := (mkF m 103 #[.val (.int p1), .val (.int p2), .val (.int p3), .val (.int p4), .val (.int p5), .val (.int p6), .val (.int gI), .val (.int kI), .val (.long (((kI).toInt64) * ((gI).toInt64))), .second, .val (.ref b2), .val (.int (1 : Int32)), .val (.int pI), .val (.int sI), .unset, .unset, .unset, .unset] [(.double (FP.l2d (kI).toInt64)), (.double (FP.l2d (p5).toInt64)), (.double (FP.l2d (sI).toInt64)), (.double (FP.l2d (pI).toInt64)), (.double (FP.l2d (gI).toInt64)), (.ref b9), (.ref b9)])) rfl (by rw [hml]; rfl) (Steps.refl _) (a := b9) (argsL := [(.double (FP.l2d (gI).toInt64)), (.double (FP.l2d (pI).toInt64)), (.double (FP.l2d (sI).toInt64)), (.double (FP.l2d (p5).toInt64)), (.double (FP.l2d (kI).toInt64))]) (rest := [(.ref b9)]) (lenOf pd_0_0 rfl) rfl (by show 2 * 0 + _ ≤ _; exact Nat.le_of_eq rfl) (hb hby at_103) (fun _ _ => ⟨rfl, e9, (by decide : 2 + 0 ≤ _), (by decide : 10 + 0 ≤ _)⟩)
  dsimp only [Pt.U, Pt.locs, Pt.cells, Pt.slots] at X11 l11 y11 z11 st11 hQ11
  subst l11 y11 z11
  obtain ⟨rfl, N11q, K11, EE11, Fg11, Fr11⟩ := hQ11
  have N11 := Fr.app N5 N11q
  have e11 : T11.heap = T11.heap := rfl
  have Z11 : n0 ≤ T11.heap.size := Nat.le_trans Z9 K11.1
  have Eb2_12 := Exa.keep Eb2_10 K11
  have Fb2_javaOtpGenerate_12 := Fld.keep Fb2_javaOtpGenerate_10 K11 (fun q => (Nat.ne_of_lt lt_b2_b9) (List.mem_singleton.mp q))
  have Fb2_ticktokenReject_12 := Fld.keep Fb2_ticktokenReject_10 K11 (fun q => (Nat.ne_of_lt lt_b2_b9) (List.mem_singleton.mp q))
  have Eb9_13 := Exa.keep Q9 K11
  obtain ⟨cq14, kq14, q14a, q14b, q14c⟩ := isOf hZ e11 EE11
  obtain ⟨_, _, ⟨T14, L14, k14, n14⟩, -, X14, ⟨Lc14, hQ14, l14, y14, z14⟩, st14⟩ := X11.virtualBack hx (y := (⟨"com/example/ticktoken/ticktoken/bench/Report$Round", "rejectRatio", "()D"⟩ : MethodName)) (z := (⟨"com/example/ticktoken/ticktoken/bench/Report$Round", "rejectRatio", "()D"⟩ : MethodName)) hown (mvT hZ (hw _ (List.mem_of_getElem? (i := 26) rfl))) (mvT hZ (hw _ (List.mem_of_getElem? (i := 27) rfl))) (notFace_of_selects (args := #[]) (mvT hZ (hw _ (List.mem_of_getElem? (i := 29) rfl)))) (mvT hZ (hw _ (List.mem_of_getElem? (i := 29) rfl))) (mvT hZ (hw _ (List.mem_of_getElem? (i := 28) rfl))) (by decide) (backOf (W := 0) (rm4 l Z a0 hw [] b9 T11.heap n0 Z11 ((pI).toInt64) ((sI).toInt64) Fg11 Fr11 (own_sb bs) (own_qnn bs hpj.1 hpj.2)) hZ (hw _ (List.mem_of_getElem? (i := 30) rfl)) (hw _ (List.mem_of_getElem? (i := 4) rfl)) (by decide) (by decide)) q14a q14c (g := (mkF m 110 #[.val (.int p1), .val (.int p2), .val (.int p3), .val (.int p4), .val (.int p5), .val (.int p6), .val (.int gI), .val (.int kI), .val (.long (((kI).toInt64) * ((gI).toInt64))), .second, .val (.ref b2), .val (.int (1 : Int32)), .val (.int pI), .val (.int sI), .val (.ref b9), .unset, .unset, .unset] [(.ref b9)])) rfl (by rw [hml]; rfl) (Steps.refl _) (argsL := []) (rest := []) (lenOf pd_0_1 rfl) rfl (by show 2 * 0 + _ ≤ _; exact Nat.le_of_eq rfl) (hb hby at_110) (fun _ _ => ⟨rfl, e11, (by decide : 2 + 0 ≤ _), (by decide : 10 + 0 ≤ _)⟩)
  dsimp only [Pt.U, Pt.locs, Pt.cells, Pt.slots] at X14 l14 y14 z14 st14 hQ14
  subst l14 y14 z14
  obtain ⟨rfl, N14q, e14⟩ := hQ14
  have N14 := Fr.app N11 N14q
  have fp15 : FP.dmul (FP.ddiv (FP.l2d ((3 : Int64) * (sI).toInt64)) (FP.l2d (pI).toInt64)) (FP.l2d (pI).toInt64) = (FP.l2d ((3 : Int64) * (sI).toInt64)) := own_dyad (own_3s bs) hpj.1 hpj.2
  have fp16 : FP.dmul (FP.l2d (3 : Int64)) (FP.l2d (sI).toInt64) = (FP.l2d ((3 : Int64) * (sI).toInt64)) := own_mul3 (own_sb bs).1 (own_sb bs).2
  have fp17 : cmpValue (FP.dcmp (FP.l2d ((3 : Int64) * (sI).toInt64)) (FP.l2d ((3 : Int64) * (sI).toInt64))) .l = (0 : Int32) := dcmpV_self (nn_w rfl) _
  have h129_18 : (0 : Int32) = (0 : Int32) := rfl
  have h141_19 : ¬ ((1 : Int32) = (0 : Int32)) := by decide
  have h146_20 : ¬ ((1 : Int32) = (0 : Int32)) := by decide
  have pre21 : ∀ t, Steps p.tables e below (T14.setTop (mkF m 154 #[.val (.int p1), .val (.int p2), .val (.int p3), .val (.int p4), .val (.int p5), .val (.int p6), .val (.int gI), .val (.int kI), .val (.long (((kI).toInt64) * ((gI).toInt64))), .second, .val (.ref b2), .val (.int (1 : Int32)), .val (.int pI), .val (.int sI), .val (.ref b9), .val (.double (FP.ddiv (FP.l2d ((3 : Int64) * (sI).toInt64)) (FP.l2d (pI).toInt64))), .second, .val (.int (1 : Int32))] [(.int (1 : Int32))])) t → Steps p.tables e below (s₁.setTop (entryFrame m #[(.int p1), (.int p2), (.int p3), (.int p4), (.int p5), (.int p6)] maxLocals)) t := by
    intro t k
    refine pre8 t ?_
    show Steps p.tables e below (T5.setTop (mkF m 84 #[.val (.int p1), .val (.int p2), .val (.int p3), .val (.int p4), .val (.int p5), .val (.int p6), .val (.int gI), .val (.int kI), .val (.long (((kI).toInt64) * ((gI).toInt64))), .second, .val (.ref b2), .val (.int (1 : Int32)), .val (.int pI), .val (.int sI), .unset, .unset, .unset, .unset] [])) _
    refine st9 _ ?_
    show Steps p.tables e below (T9.setTop (mkF m 87 #[.val (.int p1), .val (.int p2), .val (.int p3), .val (.int p4), .val (.int p5), .val (.int p6), .val (.int gI), .val (.int kI), .val (.long (((kI).toInt64) * ((gI).toInt64))), .second, .val (.ref b2), .val (.int (1 : Int32)), .val (.int pI), .val (.int sI), .unset, .unset, .unset, .unset] [(.ref b9)])) _
    refine XS.dup X9.here hx rfl (hb hby at_87) rfl rfl ?_
    show Steps p.tables e below (T9.setTop (mkF m 88 #[.val (.int p1), .val (.int p2), .val (.int p3), .val (.int p4), .val (.int p5), .val (.int p6), .val (.int gI), .val (.int kI), .val (.long (((kI).toInt64) * ((gI).toInt64))), .second, .val (.ref b2), .val (.int (1 : Int32)), .val (.int pI), .val (.int sI), .unset, .unset, .unset, .unset] [(.ref b9), (.ref b9)])) _
    refine XS.iload X9.here hx rfl (hb hby at_88) rfl ?_
    show Steps p.tables e below (T9.setTop (mkF m 90 #[.val (.int p1), .val (.int p2), .val (.int p3), .val (.int p4), .val (.int p5), .val (.int p6), .val (.int gI), .val (.int kI), .val (.long (((kI).toInt64) * ((gI).toInt64))), .second, .val (.ref b2), .val (.int (1 : Int32)), .val (.int pI), .val (.int sI), .unset, .unset, .unset, .unset] [(.int gI), (.ref b9), (.ref b9)])) _
    refine XS.i2dS X9.here hx rfl (hb hby at_90) rfl (i2d_w gI) ?_
    show Steps p.tables e below (T9.setTop (mkF m 91 #[.val (.int p1), .val (.int p2), .val (.int p3), .val (.int p4), .val (.int p5), .val (.int p6), .val (.int gI), .val (.int kI), .val (.long (((kI).toInt64) * ((gI).toInt64))), .second, .val (.ref b2), .val (.int (1 : Int32)), .val (.int pI), .val (.int sI), .unset, .unset, .unset, .unset] [(.double (FP.l2d (gI).toInt64)), (.ref b9), (.ref b9)])) _
    refine XS.iload X9.here hx rfl (hb hby at_91) rfl ?_
    show Steps p.tables e below (T9.setTop (mkF m 93 #[.val (.int p1), .val (.int p2), .val (.int p3), .val (.int p4), .val (.int p5), .val (.int p6), .val (.int gI), .val (.int kI), .val (.long (((kI).toInt64) * ((gI).toInt64))), .second, .val (.ref b2), .val (.int (1 : Int32)), .val (.int pI), .val (.int sI), .unset, .unset, .unset, .unset] [(.int pI), (.double (FP.l2d (gI).toInt64)), (.ref b9), (.ref b9)])) _
    refine XS.i2dS X9.here hx rfl (hb hby at_93) rfl (i2d_w pI) ?_
    show Steps p.tables e below (T9.setTop (mkF m 94 #[.val (.int p1), .val (.int p2), .val (.int p3), .val (.int p4), .val (.int p5), .val (.int p6), .val (.int gI), .val (.int kI), .val (.long (((kI).toInt64) * ((gI).toInt64))), .second, .val (.ref b2), .val (.int (1 : Int32)), .val (.int pI), .val (.int sI), .unset, .unset, .unset, .unset] [(.double (FP.l2d (pI).toInt64)), (.double (FP.l2d (gI).toInt64)), (.ref b9), (.ref b9)])) _
    refine XS.iload X9.here hx rfl (hb hby at_94) rfl ?_
    show Steps p.tables e below (T9.setTop (mkF m 96 #[.val (.int p1), .val (.int p2), .val (.int p3), .val (.int p4), .val (.int p5), .val (.int p6), .val (.int gI), .val (.int kI), .val (.long (((kI).toInt64) * ((gI).toInt64))), .second, .val (.ref b2), .val (.int (1 : Int32)), .val (.int pI), .val (.int sI), .unset, .unset, .unset, .unset] [(.int sI), (.double (FP.l2d (pI).toInt64)), (.double (FP.l2d (gI).toInt64)), (.ref b9), (.ref b9)])) _
    refine XS.i2dS X9.here hx rfl (hb hby at_96) rfl (i2d_w sI) ?_
    show Steps p.tables e below (T9.setTop (mkF m 97 #[.val (.int p1), .val (.int p2), .val (.int p3), .val (.int p4), .val (.int p5), .val (.int p6), .val (.int gI), .val (.int kI), .val (.long (((kI).toInt64) * ((gI).toInt64))), .second, .val (.ref b2), .val (.int (1 : Int32)), .val (.int pI), .val (.int sI), .unset, .unset, .unset, .unset] [(.double (FP.l2d (sI).toInt64)), (.double (FP.l2d (pI).toInt64)), (.double (FP.l2d (gI).toInt64)), (.ref b9), (.ref b9)])) _
    refine XS.iload X9.here hx rfl (hb hby at_97) rfl ?_
    show Steps p.tables e below (T9.setTop (mkF m 99 #[.val (.int p1), .val (.int p2), .val (.int p3), .val (.int p4), .val (.int p5), .val (.int p6), .val (.int gI), .val (.int kI), .val (.long (((kI).toInt64) * ((gI).toInt64))), .second, .val (.ref b2), .val (.int (1 : Int32)), .val (.int pI), .val (.int sI), .unset, .unset, .unset, .unset] [(.int p5), (.double (FP.l2d (sI).toInt64)), (.double (FP.l2d (pI).toInt64)), (.double (FP.l2d (gI).toInt64)), (.ref b9), (.ref b9)])) _
    refine XS.i2dS X9.here hx rfl (hb hby at_99) rfl (i2d_w p5) ?_
    show Steps p.tables e below (T9.setTop (mkF m 100 #[.val (.int p1), .val (.int p2), .val (.int p3), .val (.int p4), .val (.int p5), .val (.int p6), .val (.int gI), .val (.int kI), .val (.long (((kI).toInt64) * ((gI).toInt64))), .second, .val (.ref b2), .val (.int (1 : Int32)), .val (.int pI), .val (.int sI), .unset, .unset, .unset, .unset] [(.double (FP.l2d (p5).toInt64)), (.double (FP.l2d (sI).toInt64)), (.double (FP.l2d (pI).toInt64)), (.double (FP.l2d (gI).toInt64)), (.ref b9), (.ref b9)])) _
    refine XS.iload X9.here hx rfl (hb hby at_100) rfl ?_
    show Steps p.tables e below (T9.setTop (mkF m 102 #[.val (.int p1), .val (.int p2), .val (.int p3), .val (.int p4), .val (.int p5), .val (.int p6), .val (.int gI), .val (.int kI), .val (.long (((kI).toInt64) * ((gI).toInt64))), .second, .val (.ref b2), .val (.int (1 : Int32)), .val (.int pI), .val (.int sI), .unset, .unset, .unset, .unset] [(.int kI), (.double (FP.l2d (p5).toInt64)), (.double (FP.l2d (sI).toInt64)), (.double (FP.l2d (pI).toInt64)), (.double (FP.l2d (gI).toInt64)), (.ref b9), (.ref b9)])) _
    refine XS.i2dS X9.here hx rfl (hb hby at_102) rfl (i2d_w kI) ?_
    show Steps p.tables e below (T9.setTop (mkF m 103 #[.val (.int p1), .val (.int p2), .val (.int p3), .val (.int p4), .val (.int p5), .val (.int p6), .val (.int gI), .val (.int kI), .val (.long (((kI).toInt64) * ((gI).toInt64))), .second, .val (.ref b2), .val (.int (1 : Int32)), .val (.int pI), .val (.int sI), .unset, .unset, .unset, .unset] [(.double (FP.l2d (kI).toInt64)), (.double (FP.l2d (p5).toInt64)), (.double (FP.l2d (sI).toInt64)), (.double (FP.l2d (pI).toInt64)), (.double (FP.l2d (gI).toInt64)), (.ref b9), (.ref b9)])) _
    refine st11.trans ?_
    show Steps p.tables e below (T11.setTop (mkF m 106 #[.val (.int p1), .val (.int p2), .val (.int p3), .val (.int p4), .val (.int p5), .val (.int p6), .val (.int gI), .val (.int kI), .val (.long (((kI).toInt64) * ((gI).toInt64))), .second, .val (.ref b2), .val (.int (1 : Int32)), .val (.int pI), .val (.int sI), .unset, .unset, .unset, .unset] [(.ref b9)])) _
    refine XS.astore X11.here hx rfl (hb hby at_106) rfl rfl (l' := #[.val (.int p1), .val (.int p2), .val (.int p3), .val (.int p4), .val (.int p5), .val (.int p6), .val (.int gI), .val (.int kI), .val (.long (((kI).toInt64) * ((gI).toInt64))), .second, .val (.ref b2), .val (.int (1 : Int32)), .val (.int pI), .val (.int sI), .val (.ref b9), .unset, .unset, .unset]) rfl ?_
    show Steps p.tables e below (T11.setTop (mkF m 108 #[.val (.int p1), .val (.int p2), .val (.int p3), .val (.int p4), .val (.int p5), .val (.int p6), .val (.int gI), .val (.int kI), .val (.long (((kI).toInt64) * ((gI).toInt64))), .second, .val (.ref b2), .val (.int (1 : Int32)), .val (.int pI), .val (.int sI), .val (.ref b9), .unset, .unset, .unset] [])) _
    refine XS.aload X11.here hx rfl (hb hby at_108) rfl rfl ?_
    show Steps p.tables e below (T11.setTop (mkF m 110 #[.val (.int p1), .val (.int p2), .val (.int p3), .val (.int p4), .val (.int p5), .val (.int p6), .val (.int gI), .val (.int kI), .val (.long (((kI).toInt64) * ((gI).toInt64))), .second, .val (.ref b2), .val (.int (1 : Int32)), .val (.int pI), .val (.int sI), .val (.ref b9), .unset, .unset, .unset] [(.ref b9)])) _
    refine st14.trans ?_
    show Steps p.tables e below (T14.setTop (mkF m 113 #[.val (.int p1), .val (.int p2), .val (.int p3), .val (.int p4), .val (.int p5), .val (.int p6), .val (.int gI), .val (.int kI), .val (.long (((kI).toInt64) * ((gI).toInt64))), .second, .val (.ref b2), .val (.int (1 : Int32)), .val (.int pI), .val (.int sI), .val (.ref b9), .unset, .unset, .unset] [(.double (FP.ddiv (FP.l2d ((3 : Int64) * (sI).toInt64)) (FP.l2d (pI).toInt64)))])) _
    refine XS.dstore X14.here hx rfl (hb hby at_113) rfl (l' := #[.val (.int p1), .val (.int p2), .val (.int p3), .val (.int p4), .val (.int p5), .val (.int p6), .val (.int gI), .val (.int kI), .val (.long (((kI).toInt64) * ((gI).toInt64))), .second, .val (.ref b2), .val (.int (1 : Int32)), .val (.int pI), .val (.int sI), .val (.ref b9), .val (.double (FP.ddiv (FP.l2d ((3 : Int64) * (sI).toInt64)) (FP.l2d (pI).toInt64))), .second, .unset]) rfl ?_
    show Steps p.tables e below (T14.setTop (mkF m 115 #[.val (.int p1), .val (.int p2), .val (.int p3), .val (.int p4), .val (.int p5), .val (.int p6), .val (.int gI), .val (.int kI), .val (.long (((kI).toInt64) * ((gI).toInt64))), .second, .val (.ref b2), .val (.int (1 : Int32)), .val (.int pI), .val (.int sI), .val (.ref b9), .val (.double (FP.ddiv (FP.l2d ((3 : Int64) * (sI).toInt64)) (FP.l2d (pI).toInt64))), .second, .unset] [])) _
    refine XS.dload X14.here hx rfl (hb hby at_115) rfl ?_
    show Steps p.tables e below (T14.setTop (mkF m 117 #[.val (.int p1), .val (.int p2), .val (.int p3), .val (.int p4), .val (.int p5), .val (.int p6), .val (.int gI), .val (.int kI), .val (.long (((kI).toInt64) * ((gI).toInt64))), .second, .val (.ref b2), .val (.int (1 : Int32)), .val (.int pI), .val (.int sI), .val (.ref b9), .val (.double (FP.ddiv (FP.l2d ((3 : Int64) * (sI).toInt64)) (FP.l2d (pI).toInt64))), .second, .unset] [(.double (FP.ddiv (FP.l2d ((3 : Int64) * (sI).toInt64)) (FP.l2d (pI).toInt64)))])) _
    refine XS.iload X14.here hx rfl (hb hby at_117) rfl ?_
    show Steps p.tables e below (T14.setTop (mkF m 119 #[.val (.int p1), .val (.int p2), .val (.int p3), .val (.int p4), .val (.int p5), .val (.int p6), .val (.int gI), .val (.int kI), .val (.long (((kI).toInt64) * ((gI).toInt64))), .second, .val (.ref b2), .val (.int (1 : Int32)), .val (.int pI), .val (.int sI), .val (.ref b9), .val (.double (FP.ddiv (FP.l2d ((3 : Int64) * (sI).toInt64)) (FP.l2d (pI).toInt64))), .second, .unset] [(.int pI), (.double (FP.ddiv (FP.l2d ((3 : Int64) * (sI).toInt64)) (FP.l2d (pI).toInt64)))])) _
    refine XS.i2dS X14.here hx rfl (hb hby at_119) rfl (i2d_w pI) ?_
    show Steps p.tables e below (T14.setTop (mkF m 120 #[.val (.int p1), .val (.int p2), .val (.int p3), .val (.int p4), .val (.int p5), .val (.int p6), .val (.int gI), .val (.int kI), .val (.long (((kI).toInt64) * ((gI).toInt64))), .second, .val (.ref b2), .val (.int (1 : Int32)), .val (.int pI), .val (.int sI), .val (.ref b9), .val (.double (FP.ddiv (FP.l2d ((3 : Int64) * (sI).toInt64)) (FP.l2d (pI).toInt64))), .second, .unset] [(.double (FP.l2d (pI).toInt64)), (.double (FP.ddiv (FP.l2d ((3 : Int64) * (sI).toInt64)) (FP.l2d (pI).toInt64)))])) _
    refine XS.dmulS X14.here hx rfl (hb hby at_120) rfl (nn_w fp15) fp15 ?_
    show Steps p.tables e below (T14.setTop (mkF m 121 #[.val (.int p1), .val (.int p2), .val (.int p3), .val (.int p4), .val (.int p5), .val (.int p6), .val (.int gI), .val (.int kI), .val (.long (((kI).toInt64) * ((gI).toInt64))), .second, .val (.ref b2), .val (.int (1 : Int32)), .val (.int pI), .val (.int sI), .val (.ref b9), .val (.double (FP.ddiv (FP.l2d ((3 : Int64) * (sI).toInt64)) (FP.l2d (pI).toInt64))), .second, .unset] [(.double (FP.l2d ((3 : Int64) * (sI).toInt64)))])) _
    refine X14.ldc2DoubleC hx hown (mvT hZ (hw _ (List.mem_of_getElem? (i := 34) rfl))) (g := (mkF m 121 #[.val (.int p1), .val (.int p2), .val (.int p3), .val (.int p4), .val (.int p5), .val (.int p6), .val (.int gI), .val (.int kI), .val (.long (((kI).toInt64) * ((gI).toInt64))), .second, .val (.ref b2), .val (.int (1 : Int32)), .val (.int pI), .val (.int sI), .val (.ref b9), .val (.double (FP.ddiv (FP.l2d ((3 : Int64) * (sI).toInt64)) (FP.l2d (pI).toInt64))), .second, .unset] [(.double (FP.l2d ((3 : Int64) * (sI).toInt64)))])) rfl (hb hby at_121) _ ?_
    rw [own_three]
    show Steps p.tables e below (T14.setTop (mkF m 124 #[.val (.int p1), .val (.int p2), .val (.int p3), .val (.int p4), .val (.int p5), .val (.int p6), .val (.int gI), .val (.int kI), .val (.long (((kI).toInt64) * ((gI).toInt64))), .second, .val (.ref b2), .val (.int (1 : Int32)), .val (.int pI), .val (.int sI), .val (.ref b9), .val (.double (FP.ddiv (FP.l2d ((3 : Int64) * (sI).toInt64)) (FP.l2d (pI).toInt64))), .second, .unset] [(.double (FP.l2d (3 : Int64))), (.double (FP.l2d ((3 : Int64) * (sI).toInt64)))])) _
    refine XS.iload X14.here hx rfl (hb hby at_124) rfl ?_
    show Steps p.tables e below (T14.setTop (mkF m 126 #[.val (.int p1), .val (.int p2), .val (.int p3), .val (.int p4), .val (.int p5), .val (.int p6), .val (.int gI), .val (.int kI), .val (.long (((kI).toInt64) * ((gI).toInt64))), .second, .val (.ref b2), .val (.int (1 : Int32)), .val (.int pI), .val (.int sI), .val (.ref b9), .val (.double (FP.ddiv (FP.l2d ((3 : Int64) * (sI).toInt64)) (FP.l2d (pI).toInt64))), .second, .unset] [(.int sI), (.double (FP.l2d (3 : Int64))), (.double (FP.l2d ((3 : Int64) * (sI).toInt64)))])) _
    refine XS.i2dS X14.here hx rfl (hb hby at_126) rfl (i2d_w sI) ?_
    show Steps p.tables e below (T14.setTop (mkF m 127 #[.val (.int p1), .val (.int p2), .val (.int p3), .val (.int p4), .val (.int p5), .val (.int p6), .val (.int gI), .val (.int kI), .val (.long (((kI).toInt64) * ((gI).toInt64))), .second, .val (.ref b2), .val (.int (1 : Int32)), .val (.int pI), .val (.int sI), .val (.ref b9), .val (.double (FP.ddiv (FP.l2d ((3 : Int64) * (sI).toInt64)) (FP.l2d (pI).toInt64))), .second, .unset] [(.double (FP.l2d (sI).toInt64)), (.double (FP.l2d (3 : Int64))), (.double (FP.l2d ((3 : Int64) * (sI).toInt64)))])) _
    refine XS.dmulS X14.here hx rfl (hb hby at_127) rfl (nn_w fp16) fp16 ?_
    show Steps p.tables e below (T14.setTop (mkF m 128 #[.val (.int p1), .val (.int p2), .val (.int p3), .val (.int p4), .val (.int p5), .val (.int p6), .val (.int gI), .val (.int kI), .val (.long (((kI).toInt64) * ((gI).toInt64))), .second, .val (.ref b2), .val (.int (1 : Int32)), .val (.int pI), .val (.int sI), .val (.ref b9), .val (.double (FP.ddiv (FP.l2d ((3 : Int64) * (sI).toInt64)) (FP.l2d (pI).toInt64))), .second, .unset] [(.double (FP.l2d ((3 : Int64) * (sI).toInt64))), (.double (FP.l2d ((3 : Int64) * (sI).toInt64)))])) _
    refine XS.dcmpS X14.here hx rfl (hb hby at_128) rfl fp17 ?_
    show Steps p.tables e below (T14.setTop (mkF m 129 #[.val (.int p1), .val (.int p2), .val (.int p3), .val (.int p4), .val (.int p5), .val (.int p6), .val (.int gI), .val (.int kI), .val (.long (((kI).toInt64) * ((gI).toInt64))), .second, .val (.ref b2), .val (.int (1 : Int32)), .val (.int pI), .val (.int sI), .val (.ref b9), .val (.double (FP.ddiv (FP.l2d ((3 : Int64) * (sI).toInt64)) (FP.l2d (pI).toInt64))), .second, .unset] [(.int (0 : Int32))])) _
    refine XS.ifNo X14.here hx rfl (hb hby at_129) rfl ((if0 _ _).trans (teq h129_18).2) ?_
    show Steps p.tables e below (T14.setTop (mkF m 132 #[.val (.int p1), .val (.int p2), .val (.int p3), .val (.int p4), .val (.int p5), .val (.int p6), .val (.int gI), .val (.int kI), .val (.long (((kI).toInt64) * ((gI).toInt64))), .second, .val (.ref b2), .val (.int (1 : Int32)), .val (.int pI), .val (.int sI), .val (.ref b9), .val (.double (FP.ddiv (FP.l2d ((3 : Int64) * (sI).toInt64)) (FP.l2d (pI).toInt64))), .second, .unset] [])) _
    refine XS.iconst X14.here hx rfl (hb hby at_132) ?_
    show Steps p.tables e below (T14.setTop (mkF m 133 #[.val (.int p1), .val (.int p2), .val (.int p3), .val (.int p4), .val (.int p5), .val (.int p6), .val (.int gI), .val (.int kI), .val (.long (((kI).toInt64) * ((gI).toInt64))), .second, .val (.ref b2), .val (.int (1 : Int32)), .val (.int pI), .val (.int sI), .val (.ref b9), .val (.double (FP.ddiv (FP.l2d ((3 : Int64) * (sI).toInt64)) (FP.l2d (pI).toInt64))), .second, .unset] [(.int (1 : Int32))])) _
    refine XS.goto X14.here hx rfl (pc0 := 133) (pc' := 137) rfl (hb hby at_133) (by decide) (by decide) ?_
    show Steps p.tables e below (T14.setTop (mkF m 137 #[.val (.int p1), .val (.int p2), .val (.int p3), .val (.int p4), .val (.int p5), .val (.int p6), .val (.int gI), .val (.int kI), .val (.long (((kI).toInt64) * ((gI).toInt64))), .second, .val (.ref b2), .val (.int (1 : Int32)), .val (.int pI), .val (.int sI), .val (.ref b9), .val (.double (FP.ddiv (FP.l2d ((3 : Int64) * (sI).toInt64)) (FP.l2d (pI).toInt64))), .second, .unset] [(.int (1 : Int32))])) _
    refine XS.istore X14.here hx rfl (hb hby at_137) rfl (l' := #[.val (.int p1), .val (.int p2), .val (.int p3), .val (.int p4), .val (.int p5), .val (.int p6), .val (.int gI), .val (.int kI), .val (.long (((kI).toInt64) * ((gI).toInt64))), .second, .val (.ref b2), .val (.int (1 : Int32)), .val (.int pI), .val (.int sI), .val (.ref b9), .val (.double (FP.ddiv (FP.l2d ((3 : Int64) * (sI).toInt64)) (FP.l2d (pI).toInt64))), .second, .val (.int (1 : Int32))]) rfl ?_
    show Steps p.tables e below (T14.setTop (mkF m 139 #[.val (.int p1), .val (.int p2), .val (.int p3), .val (.int p4), .val (.int p5), .val (.int p6), .val (.int gI), .val (.int kI), .val (.long (((kI).toInt64) * ((gI).toInt64))), .second, .val (.ref b2), .val (.int (1 : Int32)), .val (.int pI), .val (.int sI), .val (.ref b9), .val (.double (FP.ddiv (FP.l2d ((3 : Int64) * (sI).toInt64)) (FP.l2d (pI).toInt64))), .second, .val (.int (1 : Int32))] [])) _
    refine XS.iload X14.here hx rfl (hb hby at_139) rfl ?_
    show Steps p.tables e below (T14.setTop (mkF m 141 #[.val (.int p1), .val (.int p2), .val (.int p3), .val (.int p4), .val (.int p5), .val (.int p6), .val (.int gI), .val (.int kI), .val (.long (((kI).toInt64) * ((gI).toInt64))), .second, .val (.ref b2), .val (.int (1 : Int32)), .val (.int pI), .val (.int sI), .val (.ref b9), .val (.double (FP.ddiv (FP.l2d ((3 : Int64) * (sI).toInt64)) (FP.l2d (pI).toInt64))), .second, .val (.int (1 : Int32))] [(.int (1 : Int32))])) _
    refine XS.ifNo X14.here hx rfl (hb hby at_141) rfl ((if0 _ _).trans (feq h141_19).1) ?_
    show Steps p.tables e below (T14.setTop (mkF m 144 #[.val (.int p1), .val (.int p2), .val (.int p3), .val (.int p4), .val (.int p5), .val (.int p6), .val (.int gI), .val (.int kI), .val (.long (((kI).toInt64) * ((gI).toInt64))), .second, .val (.ref b2), .val (.int (1 : Int32)), .val (.int pI), .val (.int sI), .val (.ref b9), .val (.double (FP.ddiv (FP.l2d ((3 : Int64) * (sI).toInt64)) (FP.l2d (pI).toInt64))), .second, .val (.int (1 : Int32))] [])) _
    refine XS.iload X14.here hx rfl (hb hby at_144) rfl ?_
    show Steps p.tables e below (T14.setTop (mkF m 146 #[.val (.int p1), .val (.int p2), .val (.int p3), .val (.int p4), .val (.int p5), .val (.int p6), .val (.int gI), .val (.int kI), .val (.long (((kI).toInt64) * ((gI).toInt64))), .second, .val (.ref b2), .val (.int (1 : Int32)), .val (.int pI), .val (.int sI), .val (.ref b9), .val (.double (FP.ddiv (FP.l2d ((3 : Int64) * (sI).toInt64)) (FP.l2d (pI).toInt64))), .second, .val (.int (1 : Int32))] [(.int (1 : Int32))])) _
    refine XS.ifNo X14.here hx rfl (hb hby at_146) rfl ((if0 _ _).trans (feq h146_20).1) ?_
    show Steps p.tables e below (T14.setTop (mkF m 149 #[.val (.int p1), .val (.int p2), .val (.int p3), .val (.int p4), .val (.int p5), .val (.int p6), .val (.int gI), .val (.int kI), .val (.long (((kI).toInt64) * ((gI).toInt64))), .second, .val (.ref b2), .val (.int (1 : Int32)), .val (.int pI), .val (.int sI), .val (.ref b9), .val (.double (FP.ddiv (FP.l2d ((3 : Int64) * (sI).toInt64)) (FP.l2d (pI).toInt64))), .second, .val (.int (1 : Int32))] [])) _
    refine XS.iconst X14.here hx rfl (hb hby at_149) ?_
    show Steps p.tables e below (T14.setTop (mkF m 150 #[.val (.int p1), .val (.int p2), .val (.int p3), .val (.int p4), .val (.int p5), .val (.int p6), .val (.int gI), .val (.int kI), .val (.long (((kI).toInt64) * ((gI).toInt64))), .second, .val (.ref b2), .val (.int (1 : Int32)), .val (.int pI), .val (.int sI), .val (.ref b9), .val (.double (FP.ddiv (FP.l2d ((3 : Int64) * (sI).toInt64)) (FP.l2d (pI).toInt64))), .second, .val (.int (1 : Int32))] [(.int (1 : Int32))])) _
    refine XS.goto X14.here hx rfl (pc0 := 150) (pc' := 154) rfl (hb hby at_150) (by decide) (by decide) ?_
    show Steps p.tables e below (T14.setTop (mkF m 154 #[.val (.int p1), .val (.int p2), .val (.int p3), .val (.int p4), .val (.int p5), .val (.int p6), .val (.int gI), .val (.int kI), .val (.long (((kI).toInt64) * ((gI).toInt64))), .second, .val (.ref b2), .val (.int (1 : Int32)), .val (.int pI), .val (.int sI), .val (.ref b9), .val (.double (FP.ddiv (FP.l2d ((3 : Int64) * (sI).toInt64)) (FP.l2d (pI).toInt64))), .second, .val (.int (1 : Int32))] [(.int (1 : Int32))])) _
    exact k
  obtain ⟨fs, hr, hrun, hended, hW, hsame⟩ := X14.leave (v := some (.int (1 : Int32))) (fun h => by rw [Bd.returns] at h; cases h)
  refine ⟨_, _, pre21 _ ?_, hrun, hended, _, _, rfl, ?_, ⟨_, rfl⟩, hW, hsame.mono (by decide) (by decide)⟩
  · exact retN X14 hx (t := .boolean) Bd.returns (by simp) (hb hby at_154) hr
  · exact ⟨rfl, N14⟩
set_option maxRecDepth 65536 in
set_option maxHeartbeats 40000000 in
theorem comes_1 {Post : Tables → Env → Array Value → State → Outcome → State → Prop} (hpost : ∀ tb e args s v u, (limb_1_1.after args s (.returned v) u = true ∧ limb_1_2.after args s (.returned v) u = true ∧ True) → FrameEnd s (.returned v) u (Jvm.fieldLocs frame_1_writes args s ++ Jvm.arrayLocs frame_1_arrays args s ++ Jvm.staticLocs frame_1_statics s) 16 128 → Post tb e args s (.returned v) u) :
    ArmFor flags0 classFile x code maxLocals ret World_1 tables_1 room_1 Calls_1 rest_1 Pre_1 Post := by
  intro l hfl _ _ p e ha hc hk s m args below hf hA hF happ hP
  obtain ⟨hcalls, hrest, hpre⟩ := hP
  obtain ⟨-, -, -, hnamed, -, -, -, hat⟩ := (Spec.applies_iff hf).mp happ
  obtain ⟨hg, hn⟩ := and_e (Cond.before_iff.mp (show (Jvm.Cond.and given_1 narrow_1).before args s = true from hpre))
  obtain ⟨hc0, hr1⟩ := and_e hg
  obtain ⟨ha0, hr2⟩ := and_e hr1
  obtain ⟨ha1, hr3⟩ := and_e hr2
  obtain ⟨ha2, hr4⟩ := and_e hr3
  obtain ⟨ha3, hr5⟩ := and_e hr4
  obtain ⟨ha4, hr6⟩ := and_e hr5
  obtain ⟨w0, w1, w2, w3, w4, w5, rfl⟩ : ∃ w0 w1 w2 w3 w4 w5 : Value, args = #[w0, w1, w2, w3, w4, w5] := by
    have hs : args.size = 6 := by simpa [Cond.value, given_1] using hc0
    obtain ⟨L⟩ := args
    match L, hs with
    | [w0, w1, w2, w3, w4, w5], _ => exact ⟨w0, w1, w2, w3, w4, w5, rfl⟩
  have hw := fun d (hd : d ∈ tables_1) => atoms_spec (ws := Jvm.Cond.code x code maxLocals ret :: tables_1) hat d (List.mem_cons_of_mem _ hd)
  have hfit : Fit s := fun {y c} hc i hi => by
    obtain ⟨ha, rfl⟩ := Array.getElem?_eq_some_iff.mp hc
    have q := List.all_eq_true.mp ((Array.all_eq_true_iff_forall_mem.mp hF) _ (Array.getElem_mem ha)) i (List.mem_range.mpr hi)
    simpa [Array.getElem?_eq_getElem hi] using q
  obtain ⟨i0, ei0⟩ := is_v ha0
  obtain rfl : w0 = (.int i0) := Option.some.inj ei0
  obtain ⟨i1, ei1⟩ := is_v ha1
  obtain rfl : w1 = (.int i1) := Option.some.inj ei1
  obtain ⟨i2, ei2⟩ := is_v ha2
  obtain rfl : w2 = (.int i2) := Option.some.inj ei2
  obtain ⟨i3, ei3⟩ := is_v ha3
  obtain rfl : w3 = (.int i3) := Option.some.inj ei3
  obtain ⟨i4, ei4⟩ := is_v ha4
  obtain rfl : w4 = (.int i4) := Option.some.inj ei4
  obtain ⟨i5, ei5⟩ := is_v hr6
  obtain rfl : w5 = (.int i5) := Option.some.inj ei5
  obtain ⟨n, o, h1, h2, h3, _, L, rfl, ⟨rfl, N⟩, hq⟩ := rm0 l s _ hw tables_1 i0 i1 i2 i3 i4 i5 s.heap s.heap.size (Nat.le_refl _) p e ha hc hk s m _ below hf ((Spec.applies_iff_loose hf).mp happ).1 ⟨rfl, State.Warmed39.refl s, rfl⟩ trivial
  refine ⟨n, _, h1, h2, h3, hpost _ _ _ _ _ _ ⟨Cond.after_iff.mpr rfl, Cond.after_iff.mpr (eq_i res_at (Term.int_eval (1)) rfl), trivial⟩ ⟨hq.1, hq.2.1, (hq.2.2.sift fun y hy => Or.inr (N y hy)).mono (by decide) (by decide)⟩⟩
theorem main_1_1 : Claimed_1_1 := comes_1 fun _ _ _ _ _ _ h hF => ⟨h.1, hF⟩
theorem main_1_2 : Claimed_1_2 := comes_1 fun _ _ _ _ _ _ h hF => ⟨h.2.1, hF⟩
end Jvm.Pilot.@@N@@
namespace Jvm.Pilot.@@N@@
open Jvm Jvm.ClassFile Sem Op Lib Jvm.Free Jvm.Stand Jvm.Pilot.@@N@@.Jvm.D
/-! MADE BY PROGRAM (witnessworld.py) out of the Statement's table words and the real class files: 10 classes; the members and pool entries that the words name. The judged class is class 1, her method 1. -/
namespace start1
open Jvm.ClassFile
def u (s : String) : CpInfo := .utf8 (stringToUtf16 s)
/-- a pool by its gaps: so many unusable entries, then the entry; so many at the end -/
def gap : Nat → List CpInfo → List CpInfo
  | 0, r => r
  | n + 1, r => .unusable :: gap n r
def poolList (es : List (Nat × CpInfo)) (last : Nat) : List CpInfo := es.foldr (fun e r => gap e.1 (e.2 :: r)) (gap last [])
def pool (es : List (Nat × CpInfo)) (last : Nat) : Array CpInfo := ⟨poolList es last⟩
def fileOf (pool : Array CpInfo) (this : Nat) (attrs : Array Attribute := #[]) (ms : Array MethodInfo := #[]) (fl : Nat := 33) (sup : Nat := 0) (ifs : Array Nat := #[]) (fds : Array FieldInfo := #[]) : ClassFile where
  minorVersion := 0
  majorVersion := 65
  constantPool := pool
  accessFlags := fl
  thisClass := this
  superClass := sup
  interfaces := ifs
  fields := fds
  methods := ms
  attributes := attrs
def plain (name : String) (sup : Option ClassId) : Class where
  name := name
  kind := .ordinary
  loader := none
  accessFlags := 33
  super := sup
  interfaces := #[]
  cf := none
  fields := #[]
  methods := #[]
  instanceTypes := #[]
  staticTypes := #[]
  resolved := #[]
  callSites := []
  init := .initialized
  statics := none
  mirror := none

def pool0 : Array CpInfo := pool [(5, u "<init>"), (0, u "()V"), (1, .class_ 10), (1, u "java/lang/Object")] 113

def k0c0 : Code := { maxStack := 0, maxLocals := 1, code := object_method_1_code, exceptionTable := #[], attributes := #[] }
def k0m0 : Method := { name := "<init>", desc := "()V", sig := { parameters := [], returnType := none }, accessFlags := 1, code := some k0c0 }
/-- java/lang/Object -/
def k0 : Class := { plain "java/lang/Object" none with
  accessFlags := 33
  interfaces := #[]
  cf := some (fileOf pool0 8 #[] #[{ accessFlags := 1, nameIndex := 5, descriptorIndex := 6, attributes := #[] }] 33 0 #[] #[])
  fields := #[]
  methods := #[k0m0]
  instanceTypes := #[]
  staticTypes := #[]
  resolved := Array.replicate 124 none
  statics := none }

def pool1 : Array CpInfo := pool [(2, .class_ 4), (1, u "java/lang/Object"), (0, u "<init>"), (0, u "()V"), (0, .integer 65535), (0, .integer 65536), (0, .class_ 10), (0, u "com/example/ticktoken/ticktoken/bench/Report$Round"), (0, .methodref 9 12), (0, .nameAndType 5 13), (0, u "(DDDDD)V"), (0, .methodref 9 15), (0, .nameAndType 16 17), (0, u "rejectRatio"), (0, u "()D"), (0, .long 3), (1, .integer 1048576), (0, .double 4613937818241073152), (1, .class_ 24), (0, u "com/example/ticktoken/ticktoken/bench/RoundRejectRatioPinLaw"), (2, u "law"), (0, u "(IIIIII)Z")] 7

def k1m0 : Method := { name := "<init>", desc := "()V", sig := { parameters := [], returnType := none }, accessFlags := 2, code := none }
def k1c1 : Code := { maxStack := 12, maxLocals := 18, code := code, exceptionTable := #[], attributes := #[] }
def k1m1 : Method := { name := "law", desc := "(IIIIII)Z", sig := { parameters := [.int, .int, .int, .int, .int, .int], returnType := some .boolean }, accessFlags := 9, code := some k1c1 }
/-- com/example/ticktoken/ticktoken/bench/RoundRejectRatioPinLaw -/
def k1 : Class := { plain "com/example/ticktoken/ticktoken/bench/RoundRejectRatioPinLaw" (some 0) with
  accessFlags := 49
  interfaces := #[]
  cf := some (fileOf pool1 23 #[] #[{ accessFlags := 2, nameIndex := 5, descriptorIndex := 6, attributes := #[] }, { accessFlags := 9, nameIndex := 27, descriptorIndex := 28, attributes := #[] }] 49 2 #[] #[])
  fields := #[]
  methods := #[k1m0, k1m1]
  instanceTypes := #[]
  staticTypes := #[]
  resolved := Array.replicate 36 none
  statics := none }

def pool2 : Array CpInfo := pool [(1, .methodref 2 3), (0, .class_ 4), (0, .nameAndType 5 6), (0, u "java/lang/Object"), (0, u "<init>"), (0, u "()V"), (0, .class_ 8), (0, u "java/lang/Record")] 13

def k2c0 : Code := { maxStack := 1, maxLocals := 1, code := jdk_30_method_1_code, exceptionTable := #[], attributes := #[] }
def k2m0 : Method := { name := "<init>", desc := "()V", sig := { parameters := [], returnType := none }, accessFlags := 4, code := some k2c0 }
/-- java/lang/Record -/
def k2 : Class := { plain "java/lang/Record" (some 0) with
  accessFlags := 1057
  interfaces := #[]
  cf := some (fileOf pool2 7 #[] #[{ accessFlags := 4, nameIndex := 5, descriptorIndex := 6, attributes := #[] }] 1057 2 #[] #[])
  fields := #[]
  methods := #[k2m0]
  instanceTypes := #[]
  staticTypes := #[]
  resolved := Array.replicate 22 none
  statics := none }

def pool3 : Array CpInfo := pool [(1, .class_ 2), (0, u "com/example/ticktoken/ticktoken/bench/Report"), (0, .methodref 4 5), (0, .class_ 6), (0, .nameAndType 7 8), (0, u "java/lang/Record"), (0, u "<init>"), (0, u "()V"), (0, .fieldref 10 11), (0, .class_ 12), (0, .nameAndType 13 14), (0, u "com/example/ticktoken/ticktoken/bench/Report$Round"), (0, u "ticktokenGenerate"), (0, u "D"), (0, .fieldref 10 16), (0, .nameAndType 17 14), (0, u "javaOtpGenerate"), (0, .fieldref 10 19), (0, .nameAndType 20 14), (0, u "ticktokenReject"), (0, .fieldref 10 22), (0, .nameAndType 23 14), (0, u "ticktokenLogin"), (0, .fieldref 10 25), (0, .nameAndType 26 14), (0, u "javaOtpLogin"), (0, .double 4613937818241073152), (13, u "(DDDDD)V"), (4, u "()D"), (0, u "rejectRatio")] 30

def k3c0 : Code := { maxStack := 3, maxLocals := 11, code := prog_2_method_1_code, exceptionTable := #[], attributes := #[] }
def k3m0 : Method := { name := "<init>", desc := "(DDDDD)V", sig := { parameters := [.double, .double, .double, .double, .double], returnType := none }, accessFlags := 0, code := some k3c0 }
def k3c1 : Code := { maxStack := 4, maxLocals := 1, code := prog_2_method_3_code, exceptionTable := #[], attributes := #[] }
def k3m1 : Method := { name := "rejectRatio", desc := "()D", sig := { parameters := [], returnType := some .double }, accessFlags := 0, code := some k3c1 }
/-- com/example/ticktoken/ticktoken/bench/Report$Round -/
def k3 : Class := { plain "com/example/ticktoken/ticktoken/bench/Report$Round" (some 2) with
  accessFlags := 48
  interfaces := #[]
  cf := some (fileOf pool3 10 #[.nestHost 1] #[{ accessFlags := 0, nameIndex := 7, descriptorIndex := 41, attributes := #[] }, { accessFlags := 0, nameIndex := 47, descriptorIndex := 46, attributes := #[] }] 48 4 #[] #[{ accessFlags := 18, nameIndex := 13, descriptorIndex := 14, attributes := #[] }, { accessFlags := 18, nameIndex := 17, descriptorIndex := 14, attributes := #[] }, { accessFlags := 18, nameIndex := 20, descriptorIndex := 14, attributes := #[] }, { accessFlags := 18, nameIndex := 23, descriptorIndex := 14, attributes := #[] }, { accessFlags := 18, nameIndex := 26, descriptorIndex := 14, attributes := #[] }])
  fields := #[{ name := "ticktokenGenerate", type := .double, accessFlags := 18, slot := 0, constantValue := 0 }, { name := "javaOtpGenerate", type := .double, accessFlags := 18, slot := 1, constantValue := 0 }, { name := "ticktokenReject", type := .double, accessFlags := 18, slot := 2, constantValue := 0 }, { name := "ticktokenLogin", type := .double, accessFlags := 18, slot := 3, constantValue := 0 }, { name := "javaOtpLogin", type := .double, accessFlags := 18, slot := 4, constantValue := 0 }]
  methods := #[k3m0, k3m1]
  instanceTypes := #[.double, .double, .double, .double, .double]
  staticTypes := #[]
  resolved := Array.replicate 78 none
  statics := none }

def pool4 : Array CpInfo := pool [(1, u "java/lang/Cloneable"), (0, .class_ 1), (0, u "java/lang/Object"), (0, .class_ 3)] 3

/-- java/lang/Cloneable -/
def k4 : Class := { plain "java/lang/Cloneable" (some 0) with
  accessFlags := 1537
  interfaces := #[]
  cf := some (fileOf pool4 2 #[] #[] 1537 4 #[] #[])
  fields := #[]
  methods := #[]
  instanceTypes := #[]
  staticTypes := #[]
  resolved := Array.replicate 8 none
  statics := none }

def pool5 : Array CpInfo := pool [(1, u "java/io/Serializable"), (0, .class_ 1), (0, u "java/lang/Object"), (0, .class_ 3)] 3

/-- java/io/Serializable -/
def k5 : Class := { plain "java/io/Serializable" (some 0) with
  accessFlags := 1537
  interfaces := #[]
  cf := some (fileOf pool5 2 #[] #[] 1537 4 #[] #[])
  fields := #[]
  methods := #[]
  instanceTypes := #[]
  staticTypes := #[]
  resolved := Array.replicate 8 none
  statics := none }

/-- the primitive byte -/
def k6 : Class := { plain "byte" none with kind := .primitive 'B', accessFlags := 0x411 }
/-- [B -/
def k7 : Class := { plain "[B" (some 0) with kind := .array 6 .byte, interfaces := #[4, 5], accessFlags := 1041 }

/-- the primitive int -/
def k8 : Class := { plain "int" none with kind := .primitive 'I', accessFlags := 0x411 }
/-- [I -/
def k9 : Class := { plain "[I" (some 0) with kind := .array 8 .int, interfaces := #[4, 5], accessFlags := 1041 }

def heap : Heap := #[]
def classes : Array Class := #[k0, k1, k2, k3, k4, k5, k6, k7, k8, k9]
def interned : List (Array UInt16 × Addr) := []
def slotsUsed : Nat := 0
def theMethod : MethodId := ⟨1, 1⟩
def args0 : Array Value := #[.int 5, .int 3, .int 1, .int 7, .int 2, .int 0]
def aboutOver (below : List Frame) : State where
  vm := { classes := classes, interned := interned.toArray }
  heap := heap
  slotsUsed := slotsUsed
  threads := #[{ frames := .invoking theMethod args0 :: below }]
def below0 : List Frame := [.native { method := ⟨0, 0⟩, args := #[] }]
def about1 : State := aboutOver below0
def p0 : Program := .bare "" "" ""
def e0 : Env := launch0.env 0 0 0
theorem w_frames : about1.frames = Frame.invoking theMethod args0 :: below0 := rfl
set_option maxRecDepth 65536 in
theorem w_args : argsFit about1.vm theMethod args0 = true := by decide +kernel
set_option maxRecDepth 65536 in
theorem w_heap : heapFits about1 = true := by decide +kernel
set_option maxRecDepth 65536 in
theorem w_runnable : about1.curStatus? = some .runnable := by decide +kernel
set_option maxRecDepth 65536 in
theorem w_alone : about1.alone = true := by decide +kernel
set_option maxRecDepth 65536 in
theorem w_named : about1.methodNamed? x = some theMethod := by decide +kernel
set_option maxRecDepth 65536 in
theorem w_hears : about1.hears theMethod below0 = true := by decide +kernel
set_option maxRecDepth 65536 in
theorem w_ripe : about1.ripe theMethod args0 below0 = true := by decide +kernel
theorem w_running : about1.status = .running := rfl
set_option maxRecDepth 65536 in
theorem w_room : about1.hasRoom e0.platform room_1 = true :=
  launch0.hasRoom_least _ room_1 (by decide +kernel) (by decide +kernel) (by decide +kernel) (by decide +kernel) (by decide +kernel) (by decide +kernel)
theorem allAtoms_all (ts : List Jvm.Cond) (a : Array Jvm.Value) (st : Jvm.State) : (allAtoms ts).before a st = ts.all (fun c => c.before a st) := by
  induction ts with
  | nil => rfl
  | cons c t ih =>
    show (Jvm.Cond.and c (allAtoms t)).before a st = _
    rw [Jvm.Cond.before_and, ih, List.all_cons]
def words1 : List Jvm.Cond := Jvm.Cond.code x code maxLocals ret :: tables_1
/-- a 'code' word, met by the world's own term for the bytes: nothing is compared byte by byte -/
theorem code_word {y : MethodName} {bytes : ByteArray} {mx : Nat} {rt : Option FieldType} {a : Array Value} {s : State} {m : MethodId} {meth : Method} {c : Code} (h1 : s.methodNamed? y = some m) (h2 : s.vm.method? m = some meth) (h3 : meth.code = some c) (h4 : c.code = bytes)
    (h5 : (c.maxLocals == mx && c.exceptionTable.isEmpty && decide (c.maxStack ≤ mostOperands) && decide (meth.sig.returnType = rt) && !meth.locks && decide (parseMethodDescriptor y.desc = some meth.sig)) = true) : (Jvm.Cond.code y bytes mx rt).before a s = true := by
  simp only [Bool.and_eq_true, beq_iff_eq, Bool.not_eq_true', decide_eq_true_eq] at h5
  obtain ⟨⟨⟨⟨⟨g1, g2⟩, g3⟩, g4⟩, g5⟩, g6⟩ := h5
  simp [Cond.before, Cond.holds, Cond.value, h1, h2, h3, h4, g1, g2, g3, g4, g5, g6]
def isCode : Jvm.Cond → Bool
  | .code _ _ _ _ => true
  | _ => false
theorem all_split {L : List Jvm.Cond} {P : Jvm.Cond → Bool} (h1 : L.all (fun c => isCode c || P c) = true) (h2 : ∀ c ∈ L.filter isCode, P c = true) : L.all P = true := by
  refine List.all_eq_true.mpr fun c hc => ?_
  have h := List.all_eq_true.mp h1 c hc
  rcases Bool.eq_false_or_eq_true (isCode c) with hi | hi
  · exact h2 c (List.mem_filter.mpr ⟨hc, hi⟩)
  · simpa [hi] using h
set_option maxRecDepth 65536 in
theorem w_c0 : (Jvm.Cond.code x code maxLocals ret).before args0 about1 = true := code_word (m := ⟨1, 1⟩) (meth := k1m1) (c := k1c1) (by decide +kernel) rfl rfl rfl (by decide +kernel)
set_option maxRecDepth 65536 in
theorem w_c1 : (Jvm.Cond.code ({ cls := "com/example/ticktoken/ticktoken/bench/Report$Round", name := "<init>", desc := "(DDDDD)V" } : Jvm.MethodName) prog_2_method_1_code (11 : Nat) (Option.none : Option Jvm.ClassFile.FieldType)).before args0 about1 = true := code_word (m := ⟨3, 0⟩) (meth := k3m0) (c := k3c0) (by decide +kernel) rfl rfl rfl (by decide +kernel)
set_option maxRecDepth 65536 in
theorem w_c2 : (Jvm.Cond.code ({ cls := "java/lang/Record", name := "<init>", desc := "()V" } : Jvm.MethodName) jdk_30_method_1_code (1 : Nat) (Option.none : Option Jvm.ClassFile.FieldType)).before args0 about1 = true := code_word (m := ⟨2, 0⟩) (meth := k2m0) (c := k2c0) (by decide +kernel) rfl rfl rfl (by decide +kernel)
set_option maxRecDepth 65536 in
theorem w_c3 : (Jvm.Cond.code ({ cls := "java/lang/Object", name := "<init>", desc := "()V" } : Jvm.MethodName) object_method_1_code (1 : Nat) (Option.none : Option Jvm.ClassFile.FieldType)).before args0 about1 = true := code_word (m := ⟨0, 0⟩) (meth := k0m0) (c := k0c0) (by decide +kernel) rfl rfl rfl (by decide +kernel)
set_option maxRecDepth 65536 in
theorem w_c4 : (Jvm.Cond.code ({ cls := "com/example/ticktoken/ticktoken/bench/Report$Round", name := "rejectRatio", desc := "()D" } : Jvm.MethodName) prog_2_method_3_code (1 : Nat) (Option.some Jvm.ClassFile.FieldType.double)).before args0 about1 = true := code_word (m := ⟨3, 1⟩) (meth := k3m1) (c := k3c1) (by decide +kernel) rfl rfl rfl (by decide +kernel)
def codes1 : List Jvm.Cond := [Jvm.Cond.code x code maxLocals ret, Jvm.Cond.code ({ cls := "com/example/ticktoken/ticktoken/bench/Report$Round", name := "<init>", desc := "(DDDDD)V" } : Jvm.MethodName) prog_2_method_1_code (11 : Nat) (Option.none : Option Jvm.ClassFile.FieldType), Jvm.Cond.code ({ cls := "java/lang/Record", name := "<init>", desc := "()V" } : Jvm.MethodName) jdk_30_method_1_code (1 : Nat) (Option.none : Option Jvm.ClassFile.FieldType), Jvm.Cond.code ({ cls := "java/lang/Object", name := "<init>", desc := "()V" } : Jvm.MethodName) object_method_1_code (1 : Nat) (Option.none : Option Jvm.ClassFile.FieldType), Jvm.Cond.code ({ cls := "com/example/ticktoken/ticktoken/bench/Report$Round", name := "rejectRatio", desc := "()D" } : Jvm.MethodName) prog_2_method_3_code (1 : Nat) (Option.some Jvm.ClassFile.FieldType.double)]
set_option maxRecDepth 65536 in
theorem codes_eq : words1.filter isCode = codes1 := rfl
theorem w_codes : ∀ c ∈ words1.filter isCode, c.before args0 about1 = true := by
  rw [codes_eq]
  intro c hc
  simp only [codes1, List.mem_cons, List.not_mem_nil, or_false] at hc
  rcases hc with rfl | rfl | rfl | rfl | rfl
  · exact w_c0
  · exact w_c1
  · exact w_c2
  · exact w_c3
  · exact w_c4
set_option maxRecDepth 65536 in
theorem w_t1 : (words1.take 24).all (fun c => isCode c || c.before args0 about1) = true := by decide +kernel
set_option maxRecDepth 65536 in
theorem w_t2 : (words1.drop 24).all (fun c => isCode c || c.before args0 about1) = true := by decide +kernel
theorem w_tables : (allAtoms (Jvm.Cond.code x code maxLocals ret :: tables_1)).before args0 about1 = true := by
  rw [allAtoms_all]
  show words1.all (fun c => c.before args0 about1) = true
  refine all_split ?_ w_codes
  rw [← List.take_append_drop 24 words1, List.all_append, w_t1, w_t2]
  rfl
set_option maxRecDepth 65536 in
theorem w_case : (Jvm.Cond.and given_1 narrow_1).before args0 about1 = true := by decide +kernel
theorem w_applies : (headSpec (Jvm.Cond.code x code maxLocals ret :: tables_1) room_1).applies x e0.platform about1 = true :=
  (Spec.applies_iff w_frames).mpr ⟨w_running, w_runnable, w_alone, w_named, w_hears, w_ripe, w_room, w_tables⟩
theorem atStart : AtStart classFile x code maxLocals ret World_1 tables_1 room_1 Calls_1 rest_1 Pre_1 launch0 p0 e0 about1 theMethod args0 below0 :=
  ⟨lists_1, trivial, launch0.admits_env _ _ _, launch0.least_env, fairChoices_fair.cas, fairChoices_fair.clock, w_frames, w_args, w_heap, w_applies, trivial, trivial, w_case⟩
end start1
theorem witness_1 : WitnessClaimed_1 := ⟨start1.p0, start1.e0, start1.about1, start1.theMethod, start1.args0, start1.below0, start1.atStart⟩
end Jvm.Pilot.@@N@@
