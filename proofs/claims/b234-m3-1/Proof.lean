import JvmDerived
import JvmDerived.Pilot.@@N@@Statement
import JvmDerived.Pilot.@@N@@Code
set_option linter.unusedVariables false
set_option linter.unusedSimpArgs false
@@BLOCK:NumsL.lean.txt@@
@@BLOCK:Masks.lean.txt@@
namespace Jvm.RoadKit
open Sem ClassFile Op Lib Jvm.Stand Jvm.Free Jvm.LawKit
section New
variable {p : Program} {l : Launch} {e : Env} {R : Room} {s : State} {m : MethodId} {args : Array Value} {below : List Frame} {meth : Method} {c : Code} {T : State} {locs : List Loc} {cells slots : Nat}
theorem retI (X : Stand p l e R s m args below meth c T locs cells slots) (hx : p.tables.exec = Jvm.exec) {pc : Nat} {Ls : Array Slot} {z : Int32} {rest : List Value} (hret : meth.sig.returnType = some .int) (hd : decode c.code pc = .ok (.ireturn, 1)) {fs : List Frame}
    (hl : ∀ (f : JFrame) (acts : List Action), f.method = m → f.locked = none → f.entered = [] → (doReturn e (T.setTop f) acts (some (.int z))).1 = T.setFrames fs) : Steps p.tables e below (T.setTop (mkF m pc Ls (.int z :: rest))) (T.setFrames fs) := by
  have hm' : T.vm.method? m = some meth := X.method'
  have hn : narrow .int (.int z) = .int z := rfl
  show Steps p.tables e below (T.setTop { method := m, pc := pc, locals := Ls, stack := _ :: rest, locked := none }) _
  jvm_step X.here [X.here.top, hx, hd, hm', hret, hn]
  first | (intro acts; rw [hl _ acts rfl rfl rfl]) | rw [hl _ _ rfl rfl rfl]
  exact Steps.refl _
end New
end Jvm.RoadKit
namespace Jvm.Pilot.@@N@@
open Jvm Jvm.ClassFile Sem Op Lib Jvm.Free Jvm.Stand Jvm.LawKit Jvm.RoadKit Bundle Jvm.Pilot.@@N@@.Jvm.D
def own_VA (Z : State) (h : Heap) (a : Addr) (ty : FieldType) (vs : List Value) : Prop := ∃ cl : Cell, Arr Z h a cl ty ∧ cl.slots = vs.toArray
theorem own_VA_new {Z : State} {h : Heap} {a : Addr} {cA : ClassId} {ty : FieldType} {n : Int32} {k : Nat} (A : Arr Z h a (newA cA ty n) ty) (hk : n.toNatClampNeg = k) : own_VA Z h a ty (List.replicate k (defaultValue ty)) := ⟨_, A, by show Array.replicate n.toNatClampNeg (defaultValue ty) = _; rw [hk]; simp⟩
theorem own_VA_set {Z : State} {h h' : Heap} {a : Addr} {ty : FieldType} {vs : List Value} {k : Nat} {v : Value} (A : own_VA Z h a ty vs) (W : Wr h h' a k v) : own_VA Z h' a ty (vs.set k v) := by
  obtain ⟨cl, A, e⟩ := A
  exact ⟨_, A.same W, by show cl.slots.setIfInBounds k v = _; rw [e]; simp⟩
theorem own_VA_other {Z : State} {h h' : Heap} {a b : Addr} {ty : FieldType} {vs : List Value} {k : Nat} {v : Value} (A : own_VA Z h b ty vs) (W : Wr h h' a k v) (hne : b ≠ a) : own_VA Z h' b ty vs := by
  obtain ⟨cl, A, e⟩ := A
  exact ⟨_, A.other W hne, e⟩
theorem own_VA_ext {Z : State} {h h' : Heap} {a : Addr} {ty : FieldType} {vs : List Value} (A : own_VA Z h a ty vs) (E : Ext h h') : own_VA Z h' a ty vs := by
  obtain ⟨cl, A, e⟩ := A
  exact ⟨_, A.ext E, e⟩
theorem own_VA_keep {Z : State} {h h' : Heap} {a : Addr} {ty : FieldType} {vs : List Value} {ws : List Addr} (A : own_VA Z h a ty vs) (K : Keep h h' ws) (hn : a ∉ ws) : own_VA Z h' a ty vs := by
  obtain ⟨cl, A, e⟩ := A
  exact ⟨cl, ⟨K.2.1 _ _ A.1 hn, A.2⟩, e⟩
theorem own_VA_lt {Z : State} {h : Heap} {a : Addr} {ty : FieldType} {vs : List Value} (A : own_VA Z h a ty vs) : a < h.size := by
  obtain ⟨cl, A, e⟩ := A
  exact A.lt
section OwnArr
variable {p : Program} {l : Launch} {e : Env} {R : Room} {s : State} {m : MethodId} {args : Array Value} {below : List Frame} {meth : Method} {c : Code} {T : State} {locs : List Loc} {cells slots : Nat} {Z : State} {h : Heap}
theorem own_stI (X : Stand p l e R s m args below meth c T locs cells slots) (hx : p.tables.exec = Jvm.exec) (hZ : Z.Warmed39 s.vm) (eT : T.heap = h) {a : Addr} {vs : List Value} (A : own_VA Z h a .int vs) {j : Int32} {k n : Nat} {x : Int32} (hn : vs.length = n) (hj : ¬ (j < 0 ∨ n ≤ j.toNatClampNeg)) (hk : j.toNatClampNeg = k) {g : JFrame} (hg : g.method = m) {rest : List Value} (hs : g.stack = .int x :: .int j :: .ref a :: rest) (hd : decode c.code g.pc = .ok (.iastore, 1)) :
    ∃ T' h' ls, Stand p l e R s m args below meth c T' ls cells slots ∧ T'.heap = h' ∧ own_VA Z h' a .int (vs.set k (.int x)) ∧ Wr h h' a k (.int x) ∧ (∀ n0, Fr n0 locs → n0 ≤ a → Fr n0 ls) ∧ ∀ target, Steps p.tables e below (T'.setTop { g with pc := g.pc + 1, stack := rest }) target → Steps p.tables e below (T.setTop g) target := by
  subst hk
  obtain ⟨cl, A1, ec⟩ := A
  obtain ⟨T', h', X', e', W, st⟩ := stI X hx hZ eT A1 (j := j) (x := x) (by rw [ec]; simpa [hn] using hj) hg hs hd
  exact ⟨T', h', _, X', e', own_VA_set ⟨cl, A1, ec⟩ W, W, fun n0 N q => Fr.snoc X' N q, st⟩
theorem own_stJ (X : Stand p l e R s m args below meth c T locs cells slots) (hx : p.tables.exec = Jvm.exec) (hZ : Z.Warmed39 s.vm) (eT : T.heap = h) {a : Addr} {vs : List Value} (A : own_VA Z h a .long vs) {j : Int32} {k n : Nat} {x : Int64} (hn : vs.length = n) (hj : ¬ (j < 0 ∨ n ≤ j.toNatClampNeg)) (hk : j.toNatClampNeg = k) {g : JFrame} (hg : g.method = m) {rest : List Value} (hs : g.stack = .long x :: .int j :: .ref a :: rest) (hd : decode c.code g.pc = .ok (.lastore, 1)) :
    ∃ T' h' ls, Stand p l e R s m args below meth c T' ls cells slots ∧ T'.heap = h' ∧ own_VA Z h' a .long (vs.set k (.long x)) ∧ Wr h h' a k (.long x) ∧ (∀ n0, Fr n0 locs → n0 ≤ a → Fr n0 ls) ∧ ∀ target, Steps p.tables e below (T'.setTop { g with pc := g.pc + 1, stack := rest }) target → Steps p.tables e below (T.setTop g) target := by
  subst hk
  obtain ⟨cl, A1, ec⟩ := A
  obtain ⟨T', h', X', e', W, st⟩ := stJ X hx hZ eT A1 (j := j) (x := x) (by rw [ec]; simpa [hn] using hj) hg hs hd
  exact ⟨T', h', _, X', e', own_VA_set ⟨cl, A1, ec⟩ W, W, fun n0 N q => Fr.snoc X' N q, st⟩
theorem own_ldI (X : Stand p l e R s m args below meth c T locs cells slots) (hx : p.tables.exec = Jvm.exec) (hZ : Z.Warmed39 s.vm) (eT : T.heap = h) {a : Addr} {vs : List Value} (A : own_VA Z h a .int vs) {j : Int32} {n : Nat} {v : Value} (hn : vs.length = n) (hj : ¬ (j < 0 ∨ n ≤ j.toNatClampNeg)) (hv : vs[j.toNatClampNeg]? = some v) {g : JFrame} (hg : g.method = m) {rest : List Value} (hs : g.stack = .int j :: .ref a :: rest) (hd : decode c.code g.pc = .ok (.iaload, 1)) :
    ∀ target, Steps p.tables e below (T.setTop { g with pc := g.pc + 1, stack := v :: rest }) target → Steps p.tables e below (T.setTop g) target := by
  obtain ⟨cl, A1, ec⟩ := A
  intro target k
  exact X.iaload hx (by rw [eT]; exact A1.1) (State.isArrayOf_alike hZ.alike A1.2.1) A1.2.2 (by rw [ec]; simpa [hn] using hj) (by rw [ec]; simpa using hv) hg hs hd target k
theorem own_ldJ (X : Stand p l e R s m args below meth c T locs cells slots) (hx : p.tables.exec = Jvm.exec) (hZ : Z.Warmed39 s.vm) (eT : T.heap = h) {a : Addr} {vs : List Value} (A : own_VA Z h a .long vs) {j : Int32} {n : Nat} {v : Value} (hn : vs.length = n) (hj : ¬ (j < 0 ∨ n ≤ j.toNatClampNeg)) (hv : vs[j.toNatClampNeg]? = some v) {g : JFrame} (hg : g.method = m) {rest : List Value} (hs : g.stack = .int j :: .ref a :: rest) (hd : decode c.code g.pc = .ok (.laload, 1)) :
    ∀ target, Steps p.tables e below (T.setTop { g with pc := g.pc + 1, stack := v :: rest }) target → Steps p.tables e below (T.setTop g) target := by
  obtain ⟨cl, A1, ec⟩ := A
  intro target k
  exact X.laload hx (by rw [eT]; exact A1.1) (State.isArrayOf_alike hZ.alike A1.2.1) A1.2.2 (by rw [ec]; simpa [hn] using hj) (by rw [ec]; simpa using hv) hg hs hd target k
theorem own_len (X : Stand p l e R s m args below meth c T locs cells slots) (hx : p.tables.exec = Jvm.exec) (hZ : Z.Warmed39 s.vm) (eT : T.heap = h) {a : Addr} {vs : List Value} {ty : FieldType} (A : own_VA Z h a ty vs) {n : Nat} {k : Int32} (hn : vs.length = n) (hk : n.toInt32 = k) {g : JFrame} (hg : g.method = m) {rest : List Value} (hs : g.stack = .ref a :: rest) (hd : decode c.code g.pc = .ok (.arraylength, 1)) :
    ∀ target, Steps p.tables e below (T.setTop { g with pc := g.pc + 1, stack := .int k :: rest }) target → Steps p.tables e below (T.setTop g) target := by
  obtain ⟨cl, A1, ec⟩ := A
  intro target q
  have z : cl.slots.size.toInt32 = k := by rw [ec, ← hk, ← hn]; simp
  refine X.arraylength hx (by rw [eT]; exact A1.1) (State.isArrayOf_alike hZ.alike A1.2.1) hg hs hd target ?_
  rw [z]; exact q
end OwnArr
theorem own_some {us : List Int32} {vs : List Value} (e : vs = us.map Value.int) {n i : Nat} (hn : vs.length = n) (h : i < n) : ∃ w : Int32, vs[i]? = some (.int w) := by
  subst e hn
  have h' : i < us.length := by simpa using h
  exact ⟨us[i], by simp [h']⟩
theorem own_idx {j : Int32} {n : Nat} (h0 : 0 ≤ j.toInt) (h1 : j.toInt < n) : ¬ (j < 0 ∨ n ≤ j.toNatClampNeg) := by
  have z : (0 : Int32).toInt = 0 := by decide
  intro q
  rcases q with q | q
  · rw [Int32.lt_iff_toInt_lt] at q; omega
  · have : j.toNatClampNeg = j.toInt.toNat := rfl
    omega
theorem own_lt {j : Int32} {n : Nat} (h : ¬ (j < 0 ∨ n ≤ j.toNatClampNeg)) : j.toNatClampNeg < n := Nat.lt_of_not_le fun q => h (Or.inr q)
def fA (d1 : Int32) (s1 u1 : Int64) (d2 : Int32) (s2 u2 : Int64) : Int32 := if d1 = d2 then (if XT.cmpL s1 s2 < (0 : Int32) then (if XT.cmpL u2 u1 < (0 : Int32) then 1 else 0) else 0) else 0
theorem own_nn (p : Int32) : ¬ ((p &&& (2147483647 : Int32)) < (0 : Int32)) := by
  have h := Jvm.Kit.i32_mask p 2147483647 (k := 31) (by decide) (by decide)
  have z : (0 : Int32).toInt = 0 := by decide
  rw [Int32.lt_iff_toInt_lt]; omega
theorem own_h (p : Int64) : 0 ≤ (p &&& (1152921504606846975 : Int64)).toInt ∧ (p &&& (1152921504606846975 : Int64)).toInt < 2 ^ 60 := by
  rw [Jvm.Kit.i64_mask p 1152921504606846975 (k := 60) (by decide) (by decide)]; omega
theorem own_cmp (x y : Int64) : (XT.cmpL x y < (0 : Int32) ↔ x.toInt < y.toInt) ∧ ((0 : Int32) < XT.cmpL x y ↔ y.toInt < x.toInt) := by
  show ((if y < x then (1 : Int32) else if x = y then 0 else -1) < 0 ↔ _) ∧ (0 < (if y < x then (1 : Int32) else if x = y then 0 else -1) ↔ _)
  by_cases a : y < x
  · rw [if_pos a]
    rw [Int64.lt_iff_toInt_lt] at a
    exact ⟨⟨fun h => absurd h (by decide), fun h => by omega⟩, ⟨fun _ => a, fun _ => by decide⟩⟩
  · rw [if_neg a]
    rw [Int64.lt_iff_toInt_lt] at a
    by_cases b : x = y
    · rw [if_pos b]; subst b
      exact ⟨⟨fun h => absurd h (by decide), fun h => by omega⟩, ⟨fun h => absurd h (by decide), fun h => by omega⟩⟩
    · rw [if_neg b]
      have b' : ¬ x.toInt = y.toInt := fun q => b (Int64.toInt_inj.mp q)
      exact ⟨⟨fun _ => by omega, fun _ => by decide⟩, ⟨fun h => absurd h (by decide), fun h => by omega⟩⟩
theorem own_ge {x y : Int64} (h : y.toInt ≤ x.toInt) : ¬ (XT.cmpL x y < (0 : Int32)) := fun q => by have := (own_cmp x y).1.mp q; omega
theorem own_lt' {x y : Int64} (h : x.toInt < y.toInt) : XT.cmpL x y < (0 : Int32) := (own_cmp x y).1.mpr h
theorem own_z : (0 : Int64).toInt = 0 := by decide
theorem own_pos {x : Int64} (h : (0 : Int32) < XT.cmpL x (0 : Int64)) : 0 < x.toInt := by have := (own_cmp x 0).2.mp h; rw [own_z] at this; exact this
theorem own_npos {x : Int64} (h : ¬ (0 : Int32) < XT.cmpL x (0 : Int64)) : x.toInt ≤ 0 := by
  have : ¬ (0 : Int64).toInt < x.toInt := fun q => h ((own_cmp x 0).2.mpr q)
  rw [own_z] at this; omega
theorem own_ush1 (p : Int32) : ¬ (XT.ushr p (1 : Int32) < (0 : Int32)) := by
  have h : (0 : Int32) ≤ (p.toUInt32 >>> ((1 : Int32) &&& 31).toUInt32).toInt32 := Jvm.Kit.i32_iushr_nonneg p (k := 1) (by decide) (by decide) (by decide)
  exact Int32.not_lt.mpr h
theorem own_c8 (p : Int32) : (p &&& (7 : Int32)) = 0 ∨ (p &&& (7 : Int32)) = 1 ∨ (p &&& (7 : Int32)) = 2 ∨ (p &&& (7 : Int32)) = 3 ∨ (p &&& (7 : Int32)) = 4 ∨ (p &&& (7 : Int32)) = 5 ∨ (p &&& (7 : Int32)) = 6 ∨ (p &&& (7 : Int32)) = 7 := by
  have h := Jvm.Kit.i32_mask p 7 (k := 3) (by decide) (by decide)
  have k : ∀ c : Int32, ((p &&& (7 : Int32)) = c) = ((p &&& (7 : Int32)).toInt = c.toInt) := fun c => propext Int32.toInt_inj.symm
  have i0 : (0 : Int32).toInt = 0 := by decide
  have i1 : (1 : Int32).toInt = 1 := by decide
  have i2 : (2 : Int32).toInt = 2 := by decide
  have i3 : (3 : Int32).toInt = 3 := by decide
  have i4 : (4 : Int32).toInt = 4 := by decide
  have i5 : (5 : Int32).toInt = 5 := by decide
  have i6 : (6 : Int32).toInt = 6 := by decide
  have i7 : (7 : Int32).toInt = 7 := by decide
  simp only [k, i0, i1, i2, i3, i4, i5, i6, i7]
  omega
theorem own_msb {x : Int32} (h : ¬ x < 0) : x.toBitVec.msb = false := by
  have z : (0 : Int32).toInt = 0 := by decide
  rw [Int32.lt_iff_toInt_lt, z] at h
  have e : x.toInt = x.toBitVec.toInt := rfl
  rw [BitVec.msb_eq_toInt]
  simp only [decide_eq_false_iff_not]; omega
theorem own_of_msb {x : Int32} (h : x.toBitVec.msb = false) : ¬ x < 0 := by
  have z : (0 : Int32).toInt = 0 := by decide
  have e : x.toInt = x.toBitVec.toInt := rfl
  rw [BitVec.msb_eq_toInt] at h
  simp only [decide_eq_false_iff_not] at h
  rw [Int32.lt_iff_toInt_lt, z]; omega
theorem own_k (b : Int32) : (XT.ushr b (4 : Int32) ||| (1 : Int32)).toBitVec.msb = false ∧ (XT.ushr b (4 : Int32) ||| (1 : Int32)).toBitVec.getLsbD 0 = true := by
  have h : (0 : Int32) ≤ (b.toUInt32 >>> ((4 : Int32) &&& 31).toUInt32).toInt32 := Jvm.Kit.i32_iushr_nonneg b (k := 4) (by decide) (by decide) (by decide)
  have h1 : (XT.ushr b (4 : Int32)).toBitVec.msb = false := own_msb (Int32.not_lt.mpr h)
  refine ⟨?_, ?_⟩
  · show ((XT.ushr b (4 : Int32)).toBitVec ||| (1 : BitVec 32)).msb = false
    rw [BitVec.msb_or, h1]; decide
  · show ((XT.ushr b (4 : Int32)).toBitVec ||| (1 : BitVec 32)).getLsbD 0 = true
    rw [BitVec.getLsbD_or, show ((1 : BitVec 32)).getLsbD 0 = true from by decide, Bool.or_true]
theorem own_dnn (p b : Int32) : ¬ (((p &&& (2147483647 : Int32)) ^^^ (XT.ushr b (4 : Int32) ||| (1 : Int32))) < (0 : Int32)) := by
  apply own_of_msb
  show ((p &&& (2147483647 : Int32)).toBitVec ^^^ (XT.ushr b (4 : Int32) ||| (1 : Int32)).toBitVec).msb = false
  rw [BitVec.msb_xor, (own_k b).1, own_msb (own_nn p)]; rfl
theorem own_dne (p b : Int32) : ¬ (p &&& (2147483647 : Int32)) = ((p &&& (2147483647 : Int32)) ^^^ (XT.ushr b (4 : Int32) ||| (1 : Int32))) := fun q => by
  have q' := congrArg (fun z : Int32 => z.toBitVec.getLsbD 0) q
  have k := (own_k b).2
  generalize (XT.ushr b (4 : Int32) ||| (1 : Int32)) = w at k q'
  generalize (p &&& (2147483647 : Int32)) = t at q'
  have q2 : t.toBitVec.getLsbD 0 = (t.toBitVec ^^^ w.toBitVec).getLsbD 0 := q'
  rw [BitVec.getLsbD_xor, k] at q2
  cases t.toBitVec.getLsbD 0 <;> simp at q2
theorem own_fdoc {d1 d2 : Int32} {s1 u1 s2 u2 : Int64} (h : ¬ d1 = d2) : fA d1 s1 u1 d2 s2 u2 = (0 : Int32) := by unfold fA; rw [if_neg h]
theorem own_fs {d1 d2 : Int32} {s1 u1 s2 u2 : Int64} (h : ¬ XT.cmpL s1 s2 < (0 : Int32)) : fA d1 s1 u1 d2 s2 u2 = (0 : Int32) := by unfold fA; rw [if_neg h]; split <;> rfl
theorem own_fe {d1 d2 : Int32} {s1 u1 s2 u2 : Int64} (h : ¬ XT.cmpL u2 u1 < (0 : Int32)) : fA d1 s1 u1 d2 s2 u2 = (0 : Int32) := by unfold fA; rw [if_neg h]; split <;> (try split) <;> rfl
theorem own_f1 {d1 d2 : Int32} {s1 u1 s2 u2 : Int64} (h : d1 = d2) (hs : XT.cmpL s1 s2 < (0 : Int32)) (he : XT.cmpL u2 u1 < (0 : Int32)) : fA d1 s1 u1 d2 s2 u2 = (1 : Int32) := by unfold fA; rw [if_pos h, if_pos hs, if_pos he]
theorem own_fse {d1 d2 : Int32} {s1 u1 s2 u2 : Int64} (h : s2.toInt ≤ s1.toInt ∨ u1.toInt ≤ u2.toInt) : fA d1 s1 u1 d2 s2 u2 = (0 : Int32) := h.elim (fun q => own_fs (own_ge q)) fun q => own_fe (own_ge q)
def own_case (cc : Int32) (s1 u1 s2 u2 q0 r1 r2 r3 : Int64) : Prop := (cc = 0 ∧ s1 = q0 ∧ u1 = r3 ∧ s2 = r1 ∧ u2 = r2) ∨ (¬ cc = 0 ∧ (s2.toInt ≤ s1.toInt ∨ u1.toInt ≤ u2.toInt))
theorem own_other {cc : Int32} {s1 u1 s2 u2 q0 r1 r2 r3 : Int64} (h : own_case cc s1 u1 s2 u2 q0 r1 r2 r3) (n : ¬ cc = (0 : Int32)) : s2.toInt ≤ s1.toInt ∨ u1.toInt ≤ u2.toInt := by
  rcases h with ⟨a, -⟩ | ⟨-, a⟩
  · exact absurd a n
  · exact a
theorem own_first {cc : Int32} {s1 u1 s2 u2 q0 r1 r2 r3 : Int64} (h : own_case cc s1 u1 s2 u2 q0 r1 r2 r3) (n : cc = (0 : Int32)) : s1.toInt = q0.toInt ∧ u1.toInt = r3.toInt ∧ s2.toInt = r1.toInt ∧ u2.toInt = r2.toInt := by
  rcases h with ⟨-, rfl, rfl, rfl, rfl⟩ | ⟨a, -⟩
  · exact ⟨rfl, rfl, rfl, rfl⟩
  · exact absurd n a
theorem own_J0 {sd d1 d2 : Int32} (h : (sd = 1 ∧ d2 = d1) ∨ (sd = 0 ∧ ¬ d1 = d2 ∧ ¬ d2 < 0)) (z : sd = (0 : Int32)) : ¬ d1 = d2 := by
  rcases h with ⟨a, -⟩ | ⟨-, a, -⟩
  · rw [a] at z; exact absurd z (by decide)
  · exact a
theorem own_J1 {sd d1 d2 : Int32} (h : (sd = 1 ∧ d2 = d1) ∨ (sd = 0 ∧ ¬ d1 = d2 ∧ ¬ d2 < 0)) (z : ¬ sd = (0 : Int32)) : d1 = d2 := by
  rcases h with ⟨-, a⟩ | ⟨a, -⟩
  · exact a.symm
  · exact absurd a z
theorem own_nar (x : Int32) : nar .boolean x = x &&& 1 := rfl
theorem own_nar1 : nar .boolean (1 : Int32) = 1 := by decide
theorem own_nar0 : nar .boolean (0 : Int32) = 0 := by decide
theorem own_10 : ((1 : Int32) = 0) = False := by decide
theorem own_00 : ((0 : Int32) = 0) = True := by decide
theorem d2_0 : decode jdk_30_method_1_code 0 = .ok (.aload_n 0, 1) := by decide +kernel
theorem d2_1 : decode jdk_30_method_1_code 1 = .ok (.invokespecial 1, 3) := by decide +kernel
theorem d2_4 : decode jdk_30_method_1_code 4 = .ok (.return_, 1) := by decide +kernel
theorem pn_2 : plainName "java/lang/Record" = true := by first | (simp [plainName, overriddenIn]; done) | decide +kernel
theorem ef_2 (m : MethodId) (p0 : Addr) : entryFrame m #[(.ref p0)] 1 = mkF m 0 #[.val (.ref p0)] [] := by first | (simp [entryFrame, mkF, argsToLocals, Value.category]; done) | rfl
def Q2 (h0 : Heap) (n0 : Nat) (v : Option Value) (h : Heap) (L : List Loc) : Prop := v = none ∧ Fr n0 L ∧ h = h0
set_option maxRecDepth 65536 in
set_option maxHeartbeats 40000000 in
theorem rm2 (l : Launch) (Z : State) (a0 : Array Value) (hw : ∀ d ∈ tables_1, d.before a0 Z = true) (ws : List Jvm.Cond) (p0 : Addr) (h0 : Heap) (n0 : Nat) (Z0 : n0 ≤ h0.size) :
    MetFree l (⟨"java/lang/Record", "<init>", "()V"⟩ : MethodName) (head1 (Jvm.Cond.code (⟨"java/lang/Record", "<init>", "()V"⟩ : MethodName) jdk_30_method_1_code 1 none :: ws) ({ frames := 1, cells := 0, slots := 0, locals := 12 } : Room)) (fun a U => a = #[(.ref p0)] ∧ Z.Warmed39 U.vm ∧ U.heap = h0) (fun _ _ _ _ _ => True) (fun _ U o U' => ∃ v L, o = .returned v ∧ Q2 h0 n0 v U'.heap L ∧ FrameEnd U o U' L ({ frames := 1, cells := 0, slots := 0, locals := 12 } : Room).cells ({ frames := 1, cells := 0, slots := 0, locals := 12 } : Room).slots) := by
  refine MetFree.of_bodySF (plainFor_of_name pn_2) hisR ?_
  intro p e s m args below meth c s₁ Bd hml0 hP hK
  obtain ⟨rfl, hZ, hh⟩ := hP
  have hx := Bd.exec
  have hby := Bd.bytes
  have hml : c.maxLocals = 1 := hml0
  have hown : s.vm.findClass "java/lang/Record" = some m.cls := findClass_of_methodNamed Bd.named
  have hnm := (name_of_methodNamed Bd.named Bd.method).1
  have X0 : Stand p l e ({ frames := 1, cells := 0, slots := 0, locals := 12 } : Room) s m #[(.ref p0)] below meth c s₁ [] 0 0 := Stand.of_body Bd
  have e0 : s₁.heap = h0 := by rw [← hh, Bd.state]; rfl
  have N0 := Fr.nil n0
  have pre0 : ∀ t, Steps p.tables e below (s₁.setTop (mkF m 0 #[.val (.ref p0)] [])) t → Steps p.tables e below (s₁.setTop (entryFrame m #[(.ref p0)] 1)) t := fun t k => castTop (ef_2 m p0) k
  obtain ⟨T1, X1, e1, st1⟩ := initO X0 hx hZ hown (hw _ (List.mem_of_getElem? (i := 15) rfl)) (hw _ (List.mem_of_getElem? (i := 16) rfl)) (hw _ (List.mem_of_getElem? (i := 17) rfl)) e0 (g := (mkF m 1 #[.val (.ref p0)] [(.ref p0)])) rfl (by rw [hml]; rfl) rfl (hb hby d2_1) (by decide) (W := 0) (by show 2 * 0 + _ ≤ _; exact Nat.le_of_eq rfl) (by decide)
  have pre2 : ∀ t, Steps p.tables e below (T1.setTop (mkF m 4 #[.val (.ref p0)] [])) t → Steps p.tables e below (s₁.setTop (entryFrame m #[(.ref p0)] 1)) t := by
    intro t k
    refine pre0 t ?_
    show Steps p.tables e below (s₁.setTop (mkF m 0 #[.val (.ref p0)] [])) _
    refine XS.aloadN X0.here hx rfl (hb hby d2_0) rfl rfl ?_
    show Steps p.tables e below (s₁.setTop (mkF m 1 #[.val (.ref p0)] [(.ref p0)])) _
    refine st1 _ ?_
    show Steps p.tables e below (T1.setTop (mkF m 4 #[.val (.ref p0)] [])) _
    exact k
  obtain ⟨fs, hr, hrun, hended, hW, hsame⟩ := X1.leave (v := none) (fun _ => rfl)
  refine ⟨_, _, pre2 _ ?_, hrun, hended, _, _, rfl, ?_, ⟨_, rfl⟩, hW, hsame.mono (by decide) (by decide)⟩
  · exact X1.returnOut hx Bd.returns (hb hby d2_4) hr
  · exact ⟨rfl, N0, e1⟩
theorem d1_0 : decode prog_154_method_1_code 0 = .ok (.aload_n 0, 1) := by decide +kernel
theorem d1_1 : decode prog_154_method_1_code 1 = .ok (.invokespecial 1, 3) := by decide +kernel
theorem d1_4 : decode prog_154_method_1_code 4 = .ok (.iload_n 1, 1) := by decide +kernel
theorem d1_5 : decode prog_154_method_1_code 5 = .ok (.ifCond .lt 21, 3) := by decide +kernel
theorem d1_8 : decode prog_154_method_1_code 8 = .ok (.lload_n 2, 1) := by decide +kernel
theorem d1_9 : decode prog_154_method_1_code 9 = .ok (.lconst 0, 1) := by decide +kernel
theorem d1_10 : decode prog_154_method_1_code 10 = .ok (.lcmp, 1) := by decide +kernel
theorem d1_11 : decode prog_154_method_1_code 11 = .ok (.ifCond .lt 15, 3) := by decide +kernel
theorem d1_14 : decode prog_154_method_1_code 14 = .ok (.lload 4, 2) := by decide +kernel
theorem d1_16 : decode prog_154_method_1_code 16 = .ok (.lload_n 2, 1) := by decide +kernel
theorem d1_17 : decode prog_154_method_1_code 17 = .ok (.lcmp, 1) := by decide +kernel
theorem d1_18 : decode prog_154_method_1_code 18 = .ok (.ifCond .lt 8, 3) := by decide +kernel
theorem d1_21 : decode prog_154_method_1_code 21 = .ok (.iload 6, 2) := by decide +kernel
theorem d1_23 : decode prog_154_method_1_code 23 = .ok (.ifCond .ge 50, 3) := by decide +kernel
theorem d1_26 : decode prog_154_method_1_code 26 = .ok (.new 7, 3) := by decide +kernel
theorem d1_29 : decode prog_154_method_1_code 29 = .ok (.dup, 1) := by decide +kernel
theorem d1_30 : decode prog_154_method_1_code 30 = .ok (.ldc 9, 2) := by decide +kernel
theorem d1_32 : decode prog_154_method_1_code 32 = .ok (.iconst 4, 1) := by decide +kernel
theorem d1_33 : decode prog_154_method_1_code 33 = .ok (.anewarray 11, 3) := by decide +kernel
theorem d1_36 : decode prog_154_method_1_code 36 = .ok (.dup, 1) := by decide +kernel
theorem d1_37 : decode prog_154_method_1_code 37 = .ok (.iconst 0, 1) := by decide +kernel
theorem d1_38 : decode prog_154_method_1_code 38 = .ok (.iload_n 1, 1) := by decide +kernel
theorem d1_39 : decode prog_154_method_1_code 39 = .ok (.invokestatic 13, 3) := by decide +kernel
theorem d1_42 : decode prog_154_method_1_code 42 = .ok (.aastore, 1) := by decide +kernel
theorem d1_43 : decode prog_154_method_1_code 43 = .ok (.dup, 1) := by decide +kernel
theorem d1_44 : decode prog_154_method_1_code 44 = .ok (.iconst 1, 1) := by decide +kernel
theorem d1_45 : decode prog_154_method_1_code 45 = .ok (.lload_n 2, 1) := by decide +kernel
theorem d1_46 : decode prog_154_method_1_code 46 = .ok (.invokestatic 19, 3) := by decide +kernel
theorem d1_49 : decode prog_154_method_1_code 49 = .ok (.aastore, 1) := by decide +kernel
theorem d1_50 : decode prog_154_method_1_code 50 = .ok (.dup, 1) := by decide +kernel
theorem d1_51 : decode prog_154_method_1_code 51 = .ok (.iconst 2, 1) := by decide +kernel
theorem d1_52 : decode prog_154_method_1_code 52 = .ok (.lload 4, 2) := by decide +kernel
theorem d1_54 : decode prog_154_method_1_code 54 = .ok (.invokestatic 19, 3) := by decide +kernel
theorem d1_57 : decode prog_154_method_1_code 57 = .ok (.aastore, 1) := by decide +kernel
theorem d1_58 : decode prog_154_method_1_code 58 = .ok (.dup, 1) := by decide +kernel
theorem d1_59 : decode prog_154_method_1_code 59 = .ok (.iconst 3, 1) := by decide +kernel
theorem d1_60 : decode prog_154_method_1_code 60 = .ok (.iload 6, 2) := by decide +kernel
theorem d1_62 : decode prog_154_method_1_code 62 = .ok (.invokestatic 13, 3) := by decide +kernel
theorem d1_65 : decode prog_154_method_1_code 65 = .ok (.aastore, 1) := by decide +kernel
theorem d1_66 : decode prog_154_method_1_code 66 = .ok (.invokestatic 24, 3) := by decide +kernel
theorem d1_69 : decode prog_154_method_1_code 69 = .ok (.invokespecial 30, 3) := by decide +kernel
theorem d1_72 : decode prog_154_method_1_code 72 = .ok (.athrow, 1) := by decide +kernel
theorem d1_73 : decode prog_154_method_1_code 73 = .ok (.aload_n 0, 1) := by decide +kernel
theorem d1_74 : decode prog_154_method_1_code 74 = .ok (.iload_n 1, 1) := by decide +kernel
theorem d1_75 : decode prog_154_method_1_code 75 = .ok (.putfield 33, 3) := by decide +kernel
theorem d1_78 : decode prog_154_method_1_code 78 = .ok (.aload_n 0, 1) := by decide +kernel
theorem d1_79 : decode prog_154_method_1_code 79 = .ok (.lload_n 2, 1) := by decide +kernel
theorem d1_80 : decode prog_154_method_1_code 80 = .ok (.putfield 39, 3) := by decide +kernel
theorem d1_83 : decode prog_154_method_1_code 83 = .ok (.aload_n 0, 1) := by decide +kernel
theorem d1_84 : decode prog_154_method_1_code 84 = .ok (.lload 4, 2) := by decide +kernel
theorem d1_86 : decode prog_154_method_1_code 86 = .ok (.putfield 43, 3) := by decide +kernel
theorem d1_89 : decode prog_154_method_1_code 89 = .ok (.aload_n 0, 1) := by decide +kernel
theorem d1_90 : decode prog_154_method_1_code 90 = .ok (.iload 6, 2) := by decide +kernel
theorem d1_92 : decode prog_154_method_1_code 92 = .ok (.putfield 46, 3) := by decide +kernel
theorem d1_95 : decode prog_154_method_1_code 95 = .ok (.return_, 1) := by decide +kernel
theorem pn_1 : plainName "com/example/twyg/twyg/node/NodePosition" = true := by first | (simp [plainName, overriddenIn]; done) | decide +kernel
theorem ef_1 (m : MethodId) (p0 : Addr) (p1 : Int32) (p2 : Int64) (p3 : Int64) (p4 : Int32) : entryFrame m #[(.ref p0), (.int p1), (.long p2), (.long p3), (.int p4)] 7 = mkF m 0 #[.val (.ref p0), .val (.int p1), .val (.long p2), .second, .val (.long p3), .second, .val (.int p4)] [] := by first | (simp [entryFrame, mkF, argsToLocals, Value.category]; done) | rfl
theorem pd_1_0 : parseMethodDescriptor "()V" = some ⟨[], none⟩ := by decide +kernel
def Q1 (Z : State) (p0 : Addr) (p1 : Int32) (p2 p3 : Int64) (p4 : Int32) (h0 : Heap) (n0 : Nat) (v : Option Value) (h : Heap) (L : List Loc) : Prop := v = none ∧ Fr n0 L ∧ Keep h0 h [p0] ∧ Exa Z h p0 "com/example/twyg/twyg/node/NodePosition" ∧ Fld Z h p0 "com/example/twyg/twyg/node/NodePosition" "document" "I" (.int p1) ∧ Fld Z h p0 "com/example/twyg/twyg/node/NodePosition" "start" "J" (.long p2) ∧ Fld Z h p0 "com/example/twyg/twyg/node/NodePosition" "end" "J" (.long p3) ∧ Fld Z h p0 "com/example/twyg/twyg/node/NodePosition" "depth" "I" (.int p4)
set_option maxRecDepth 65536 in
set_option maxHeartbeats 40000000 in
theorem rm1 (l : Launch) (Z : State) (a0 : Array Value) (hw : ∀ d ∈ tables_1, d.before a0 Z = true) (ws : List Jvm.Cond) (p0 : Addr) (p1 : Int32) (p2 : Int64) (p3 : Int64) (p4 : Int32) (h0 : Heap) (n0 : Nat) (Z0 : n0 ≤ h0.size) (E_p0 : Exa Z h0 p0 "com/example/twyg/twyg/node/NodePosition") (F_document : Fld Z h0 p0 "com/example/twyg/twyg/node/NodePosition" "document" "I" (.int 0)) (F_start : Fld Z h0 p0 "com/example/twyg/twyg/node/NodePosition" "start" "J" (.long 0)) (F_end : Fld Z h0 p0 "com/example/twyg/twyg/node/NodePosition" "end" "J" (.long 0)) (F_depth : Fld Z h0 p0 "com/example/twyg/twyg/node/NodePosition" "depth" "I" (.int 0)) (gp0 : n0 ≤ p0) (c5 : ¬ (p1 < (0 : Int32))) (c11 : ¬ ((XT.cmpL p2 (0 : Int64)) < (0 : Int32))) (c18 : ¬ ((XT.cmpL p3 p2) < (0 : Int32))) (c23 : ¬ (p4 < (0 : Int32))) :
    MetFree l (⟨"com/example/twyg/twyg/node/NodePosition", "<init>", "(IJJI)V"⟩ : MethodName) (head1 (Jvm.Cond.code (⟨"com/example/twyg/twyg/node/NodePosition", "<init>", "(IJJI)V"⟩ : MethodName) prog_154_method_1_code 7 none :: ws) ({ frames := 2, cells := 0, slots := 0, locals := 24 } : Room)) (fun a U => a = #[(.ref p0), (.int p1), (.long p2), (.long p3), (.int p4)] ∧ Z.Warmed39 U.vm ∧ U.heap = h0) (fun _ _ _ _ _ => True) (fun _ U o U' => ∃ v L, o = .returned v ∧ Q1 Z p0 p1 p2 p3 p4 h0 n0 v U'.heap L ∧ FrameEnd U o U' L ({ frames := 2, cells := 0, slots := 0, locals := 24 } : Room).cells ({ frames := 2, cells := 0, slots := 0, locals := 24 } : Room).slots) := by
  refine MetFree.of_bodySF (plainFor_of_name pn_1) hisR ?_
  intro p e s m args below meth c s₁ Bd hml0 hP hK
  obtain ⟨rfl, hZ, hh⟩ := hP
  have hx := Bd.exec
  have hby := Bd.bytes
  have hml : c.maxLocals = 7 := hml0
  have hown : s.vm.findClass "com/example/twyg/twyg/node/NodePosition" = some m.cls := findClass_of_methodNamed Bd.named
  have hnm := (name_of_methodNamed Bd.named Bd.method).1
  have X0 : Stand p l e ({ frames := 2, cells := 0, slots := 0, locals := 24 } : Room) s m #[(.ref p0), (.int p1), (.long p2), (.long p3), (.int p4)] below meth c s₁ [] 0 0 := Stand.of_body Bd
  have e0 : s₁.heap = h0 := by rw [← hh, Bd.state]; rfl
  have N0 := Fr.nil n0
  have pre0 : ∀ t, Steps p.tables e below (s₁.setTop (mkF m 0 #[.val (.ref p0), .val (.int p1), .val (.long p2), .second, .val (.long p3), .second, .val (.int p4)] [])) t → Steps p.tables e below (s₁.setTop (entryFrame m #[(.ref p0), (.int p1), (.long p2), (.long p3), (.int p4)] 7)) t := fun t k => castTop (ef_1 m p0 p1 p2 p3 p4) k
  have K0 : Keep h0 h0 [p0] := Keep.refl h0 [p0]
  obtain ⟨_, _, ⟨T1, L1, k1, n1⟩, -, X1, ⟨Lc1, hQ1, l1, y1, z1⟩, st1⟩ := X0.specialBack hx (y := (⟨"java/lang/Record", "<init>", "()V"⟩ : MethodName)) rfl hown (mvT hZ (hw _ (List.mem_of_getElem? (i := 10) rfl))) (mvT hZ (hw _ (List.mem_of_getElem? (i := 11) rfl))) (mvT hZ (hw _ (List.mem_of_getElem? (i := 14) rfl))) (by decide) (backOf (W := 0) (rm2 l Z a0 hw [] p0 h0 n0 Z0) hZ (hw _ (List.mem_of_getElem? (i := 14) rfl)) (hw _ (List.mem_of_getElem? (i := 13) rfl)) (by decide) (by decide)) (g := (mkF m 1 #[.val (.ref p0), .val (.int p1), .val (.long p2), .second, .val (.long p3), .second, .val (.int p4)] [(.ref p0)])) rfl (by rw [hml]; rfl) (Steps.refl _) (a := p0) (argsL := []) (rest := []) (lenOf pd_1_0 rfl) rfl (by show 2 * 0 + _ ≤ _; exact Nat.le_of_eq rfl) (hb hby d1_1) (fun _ _ => ⟨rfl, e0, (by decide : 0 + 0 ≤ _), (by decide : 0 + 0 ≤ _)⟩)
  dsimp only [Pt.U, Pt.locs, Pt.cells, Pt.slots] at X1 l1 y1 z1 st1 hQ1
  subst l1 y1 z1
  obtain ⟨rfl, N1q, e1⟩ := hQ1
  have N1 := Fr.app N0 N1q
  have h5_2 : ¬ (p1 < (0 : Int32)) := c5
  have h11_3 : ¬ ((XT.cmpL p2 (0 : Int64)) < (0 : Int32)) := c11
  have h18_4 : ¬ ((XT.cmpL p3 p2) < (0 : Int32)) := c18
  have h23_5 : ¬ (p4 < (0 : Int32)) := c23
  obtain ⟨T6, H6, X6, e6, W6, st6⟩ := putF X1 hx hZ hown (host := "") (Or.inl (hw _ (List.mem_of_getElem? (i := 18) rfl))) Via.refl e1 F_document E_p0 (Or.inr ⟨(hw _ (List.mem_of_getElem? (i := 19) rfl)), rfl, hnm⟩) (hw _ (List.mem_of_getElem? (i := 5) rfl)) (ty := .int) (by decide) rfl rfl (g := (mkF m 75 #[.val (.ref p0), .val (.int p1), .val (.long p2), .second, .val (.long p3), .second, .val (.int p4)] [(.int p1), (.ref p0)])) rfl rfl (hb hby d1_75)
  have Fw6 := Fld.same W6 F_document
  have N6 := Fr.snoc X6 N1 gp0
  have Z6 : n0 ≤ H6.size := Nat.le_trans Z0 (Nat.le_of_eq W6.size.symm)
  have K6 : Keep h0 H6 [p0] := K0.wr W6 (Or.inl (List.mem_singleton.mpr rfl))
  have Ep0_7 := Exa.wr W6 E_p0
  have Fp0_start_7 := Fld.other W6 F_start (Or.inr (slot_ne (Or.inr (hw _ (List.mem_of_getElem? (i := 21) rfl))) (Or.inr (hw _ (List.mem_of_getElem? (i := 19) rfl))) (by decide) (t := .long) (t' := .int) (by decide) (by decide)))
  have Fp0_end_7 := Fld.other W6 F_end (Or.inr (slot_ne (Or.inr (hw _ (List.mem_of_getElem? (i := 23) rfl))) (Or.inr (hw _ (List.mem_of_getElem? (i := 19) rfl))) (by decide) (t := .long) (t' := .int) (by decide) (by decide)))
  have Fp0_depth_7 := Fld.other W6 F_depth (Or.inr (slot_ne (Or.inr (hw _ (List.mem_of_getElem? (i := 25) rfl))) (Or.inr (hw _ (List.mem_of_getElem? (i := 19) rfl))) (by decide) (t := .int) (t' := .int) (by decide) (by decide)))
  obtain ⟨T8, H8, X8, e8, W8, st8⟩ := putF X6 hx hZ hown (host := "") (Or.inl (hw _ (List.mem_of_getElem? (i := 20) rfl))) Via.refl e6 Fp0_start_7 Ep0_7 (Or.inr ⟨(hw _ (List.mem_of_getElem? (i := 21) rfl)), rfl, hnm⟩) (hw _ (List.mem_of_getElem? (i := 5) rfl)) (ty := .long) (by decide) rfl rfl (g := (mkF m 80 #[.val (.ref p0), .val (.int p1), .val (.long p2), .second, .val (.long p3), .second, .val (.int p4)] [(.long p2), (.ref p0)])) rfl rfl (hb hby d1_80)
  have Fw8 := Fld.same W8 Fp0_start_7
  have N8 := Fr.snoc X8 N6 gp0
  have Z8 : n0 ≤ H8.size := Nat.le_trans Z6 (Nat.le_of_eq W8.size.symm)
  have K8 : Keep h0 H8 [p0] := K6.wr W8 (Or.inl (List.mem_singleton.mpr rfl))
  have Ep0_9 := Exa.wr W8 Ep0_7
  have Fp0_end_9 := Fld.other W8 Fp0_end_7 (Or.inr (slot_ne (Or.inr (hw _ (List.mem_of_getElem? (i := 23) rfl))) (Or.inr (hw _ (List.mem_of_getElem? (i := 21) rfl))) (by decide) (t := .long) (t' := .long) (by decide) (by decide)))
  have Fp0_depth_9 := Fld.other W8 Fp0_depth_7 (Or.inr (slot_ne (Or.inr (hw _ (List.mem_of_getElem? (i := 25) rfl))) (Or.inr (hw _ (List.mem_of_getElem? (i := 21) rfl))) (by decide) (t := .int) (t' := .long) (by decide) (by decide)))
  have Fp0_document_9 := Fld.other W8 Fw6 (Or.inr (slot_ne (Or.inr (hw _ (List.mem_of_getElem? (i := 19) rfl))) (Or.inr (hw _ (List.mem_of_getElem? (i := 21) rfl))) (by decide) (t := .int) (t' := .long) (by decide) (by decide)))
  obtain ⟨T10, H10, X10, e10, W10, st10⟩ := putF X8 hx hZ hown (host := "") (Or.inl (hw _ (List.mem_of_getElem? (i := 22) rfl))) Via.refl e8 Fp0_end_9 Ep0_9 (Or.inr ⟨(hw _ (List.mem_of_getElem? (i := 23) rfl)), rfl, hnm⟩) (hw _ (List.mem_of_getElem? (i := 5) rfl)) (ty := .long) (by decide) rfl rfl (g := (mkF m 86 #[.val (.ref p0), .val (.int p1), .val (.long p2), .second, .val (.long p3), .second, .val (.int p4)] [(.long p3), (.ref p0)])) rfl rfl (hb hby d1_86)
  have Fw10 := Fld.same W10 Fp0_end_9
  have N10 := Fr.snoc X10 N8 gp0
  have Z10 : n0 ≤ H10.size := Nat.le_trans Z8 (Nat.le_of_eq W10.size.symm)
  have K10 : Keep h0 H10 [p0] := K8.wr W10 (Or.inl (List.mem_singleton.mpr rfl))
  have Ep0_11 := Exa.wr W10 Ep0_9
  have Fp0_depth_11 := Fld.other W10 Fp0_depth_9 (Or.inr (slot_ne (Or.inr (hw _ (List.mem_of_getElem? (i := 25) rfl))) (Or.inr (hw _ (List.mem_of_getElem? (i := 23) rfl))) (by decide) (t := .int) (t' := .long) (by decide) (by decide)))
  have Fp0_document_11 := Fld.other W10 Fp0_document_9 (Or.inr (slot_ne (Or.inr (hw _ (List.mem_of_getElem? (i := 19) rfl))) (Or.inr (hw _ (List.mem_of_getElem? (i := 23) rfl))) (by decide) (t := .int) (t' := .long) (by decide) (by decide)))
  have Fp0_start_11 := Fld.other W10 Fw8 (Or.inr (slot_ne (Or.inr (hw _ (List.mem_of_getElem? (i := 21) rfl))) (Or.inr (hw _ (List.mem_of_getElem? (i := 23) rfl))) (by decide) (t := .long) (t' := .long) (by decide) (by decide)))
  obtain ⟨T12, H12, X12, e12, W12, st12⟩ := putF X10 hx hZ hown (host := "") (Or.inl (hw _ (List.mem_of_getElem? (i := 24) rfl))) Via.refl e10 Fp0_depth_11 Ep0_11 (Or.inr ⟨(hw _ (List.mem_of_getElem? (i := 25) rfl)), rfl, hnm⟩) (hw _ (List.mem_of_getElem? (i := 5) rfl)) (ty := .int) (by decide) rfl rfl (g := (mkF m 92 #[.val (.ref p0), .val (.int p1), .val (.long p2), .second, .val (.long p3), .second, .val (.int p4)] [(.int p4), (.ref p0)])) rfl rfl (hb hby d1_92)
  have Fw12 := Fld.same W12 Fp0_depth_11
  have N12 := Fr.snoc X12 N10 gp0
  have Z12 : n0 ≤ H12.size := Nat.le_trans Z10 (Nat.le_of_eq W12.size.symm)
  have K12 : Keep h0 H12 [p0] := K10.wr W12 (Or.inl (List.mem_singleton.mpr rfl))
  have Ep0_13 := Exa.wr W12 Ep0_11
  have Fp0_document_13 := Fld.other W12 Fp0_document_11 (Or.inr (slot_ne (Or.inr (hw _ (List.mem_of_getElem? (i := 19) rfl))) (Or.inr (hw _ (List.mem_of_getElem? (i := 25) rfl))) (by decide) (t := .int) (t' := .int) (by decide) (by decide)))
  have Fp0_start_13 := Fld.other W12 Fp0_start_11 (Or.inr (slot_ne (Or.inr (hw _ (List.mem_of_getElem? (i := 21) rfl))) (Or.inr (hw _ (List.mem_of_getElem? (i := 25) rfl))) (by decide) (t := .long) (t' := .int) (by decide) (by decide)))
  have Fp0_end_13 := Fld.other W12 Fw10 (Or.inr (slot_ne (Or.inr (hw _ (List.mem_of_getElem? (i := 23) rfl))) (Or.inr (hw _ (List.mem_of_getElem? (i := 25) rfl))) (by decide) (t := .long) (t' := .int) (by decide) (by decide)))
  have pre14 : ∀ t, Steps p.tables e below (T12.setTop (mkF m 95 #[.val (.ref p0), .val (.int p1), .val (.long p2), .second, .val (.long p3), .second, .val (.int p4)] [])) t → Steps p.tables e below (s₁.setTop (entryFrame m #[(.ref p0), (.int p1), (.long p2), (.long p3), (.int p4)] 7)) t := by
    intro t k
    refine pre0 t ?_
    show Steps p.tables e below (s₁.setTop (mkF m 0 #[.val (.ref p0), .val (.int p1), .val (.long p2), .second, .val (.long p3), .second, .val (.int p4)] [])) _
    refine XS.aloadN X0.here hx rfl (hb hby d1_0) rfl rfl ?_
    show Steps p.tables e below (s₁.setTop (mkF m 1 #[.val (.ref p0), .val (.int p1), .val (.long p2), .second, .val (.long p3), .second, .val (.int p4)] [(.ref p0)])) _
    refine st1.trans ?_
    show Steps p.tables e below (T1.setTop (mkF m 4 #[.val (.ref p0), .val (.int p1), .val (.long p2), .second, .val (.long p3), .second, .val (.int p4)] [])) _
    refine XS.iloadN X1.here hx rfl (hb hby d1_4) rfl ?_
    show Steps p.tables e below (T1.setTop (mkF m 5 #[.val (.ref p0), .val (.int p1), .val (.long p2), .second, .val (.long p3), .second, .val (.int p4)] [(.int p1)])) _
    refine XS.ifNo X1.here hx rfl (hb hby d1_5) rfl ((if0 _ _).trans (flt h5_2).1) ?_
    show Steps p.tables e below (T1.setTop (mkF m 8 #[.val (.ref p0), .val (.int p1), .val (.long p2), .second, .val (.long p3), .second, .val (.int p4)] [])) _
    refine XT.lloadN X1.here hx rfl (hb hby d1_8) rfl ?_
    show Steps p.tables e below (T1.setTop (mkF m 9 #[.val (.ref p0), .val (.int p1), .val (.long p2), .second, .val (.long p3), .second, .val (.int p4)] [(.long p2)])) _
    refine XT.lconst X1.here hx rfl (hb hby d1_9) ?_
    show Steps p.tables e below (T1.setTop (mkF m 10 #[.val (.ref p0), .val (.int p1), .val (.long p2), .second, .val (.long p3), .second, .val (.int p4)] [(.long (0 : Int64)), (.long p2)])) _
    refine XT.lcmp X1.here hx rfl (hb hby d1_10) rfl ?_
    show Steps p.tables e below (T1.setTop (mkF m 11 #[.val (.ref p0), .val (.int p1), .val (.long p2), .second, .val (.long p3), .second, .val (.int p4)] [(.int (XT.cmpL p2 (0 : Int64)))])) _
    refine XS.ifNo X1.here hx rfl (hb hby d1_11) rfl ((if0 _ _).trans (flt h11_3).1) ?_
    show Steps p.tables e below (T1.setTop (mkF m 14 #[.val (.ref p0), .val (.int p1), .val (.long p2), .second, .val (.long p3), .second, .val (.int p4)] [])) _
    refine XT.lload X1.here hx rfl (hb hby d1_14) rfl ?_
    show Steps p.tables e below (T1.setTop (mkF m 16 #[.val (.ref p0), .val (.int p1), .val (.long p2), .second, .val (.long p3), .second, .val (.int p4)] [(.long p3)])) _
    refine XT.lloadN X1.here hx rfl (hb hby d1_16) rfl ?_
    show Steps p.tables e below (T1.setTop (mkF m 17 #[.val (.ref p0), .val (.int p1), .val (.long p2), .second, .val (.long p3), .second, .val (.int p4)] [(.long p2), (.long p3)])) _
    refine XT.lcmp X1.here hx rfl (hb hby d1_17) rfl ?_
    show Steps p.tables e below (T1.setTop (mkF m 18 #[.val (.ref p0), .val (.int p1), .val (.long p2), .second, .val (.long p3), .second, .val (.int p4)] [(.int (XT.cmpL p3 p2))])) _
    refine XS.ifNo X1.here hx rfl (hb hby d1_18) rfl ((if0 _ _).trans (flt h18_4).1) ?_
    show Steps p.tables e below (T1.setTop (mkF m 21 #[.val (.ref p0), .val (.int p1), .val (.long p2), .second, .val (.long p3), .second, .val (.int p4)] [])) _
    refine XS.iload X1.here hx rfl (hb hby d1_21) rfl ?_
    show Steps p.tables e below (T1.setTop (mkF m 23 #[.val (.ref p0), .val (.int p1), .val (.long p2), .second, .val (.long p3), .second, .val (.int p4)] [(.int p4)])) _
    refine XS.ifYes X1.here hx rfl (pc0 := 23) (pc' := 73) rfl (hb hby d1_23) rfl ((if0 _ _).trans (flt h23_5).2.1) (by decide) (by decide) ?_
    show Steps p.tables e below (T1.setTop (mkF m 73 #[.val (.ref p0), .val (.int p1), .val (.long p2), .second, .val (.long p3), .second, .val (.int p4)] [])) _
    refine XS.aloadN X1.here hx rfl (hb hby d1_73) rfl rfl ?_
    show Steps p.tables e below (T1.setTop (mkF m 74 #[.val (.ref p0), .val (.int p1), .val (.long p2), .second, .val (.long p3), .second, .val (.int p4)] [(.ref p0)])) _
    refine XS.iloadN X1.here hx rfl (hb hby d1_74) rfl ?_
    show Steps p.tables e below (T1.setTop (mkF m 75 #[.val (.ref p0), .val (.int p1), .val (.long p2), .second, .val (.long p3), .second, .val (.int p4)] [(.int p1), (.ref p0)])) _
    refine st6 _ ?_
    show Steps p.tables e below (T6.setTop (mkF m 78 #[.val (.ref p0), .val (.int p1), .val (.long p2), .second, .val (.long p3), .second, .val (.int p4)] [])) _
    refine XS.aloadN X6.here hx rfl (hb hby d1_78) rfl rfl ?_
    show Steps p.tables e below (T6.setTop (mkF m 79 #[.val (.ref p0), .val (.int p1), .val (.long p2), .second, .val (.long p3), .second, .val (.int p4)] [(.ref p0)])) _
    refine XT.lloadN X6.here hx rfl (hb hby d1_79) rfl ?_
    show Steps p.tables e below (T6.setTop (mkF m 80 #[.val (.ref p0), .val (.int p1), .val (.long p2), .second, .val (.long p3), .second, .val (.int p4)] [(.long p2), (.ref p0)])) _
    refine st8 _ ?_
    show Steps p.tables e below (T8.setTop (mkF m 83 #[.val (.ref p0), .val (.int p1), .val (.long p2), .second, .val (.long p3), .second, .val (.int p4)] [])) _
    refine XS.aloadN X8.here hx rfl (hb hby d1_83) rfl rfl ?_
    show Steps p.tables e below (T8.setTop (mkF m 84 #[.val (.ref p0), .val (.int p1), .val (.long p2), .second, .val (.long p3), .second, .val (.int p4)] [(.ref p0)])) _
    refine XT.lload X8.here hx rfl (hb hby d1_84) rfl ?_
    show Steps p.tables e below (T8.setTop (mkF m 86 #[.val (.ref p0), .val (.int p1), .val (.long p2), .second, .val (.long p3), .second, .val (.int p4)] [(.long p3), (.ref p0)])) _
    refine st10 _ ?_
    show Steps p.tables e below (T10.setTop (mkF m 89 #[.val (.ref p0), .val (.int p1), .val (.long p2), .second, .val (.long p3), .second, .val (.int p4)] [])) _
    refine XS.aloadN X10.here hx rfl (hb hby d1_89) rfl rfl ?_
    show Steps p.tables e below (T10.setTop (mkF m 90 #[.val (.ref p0), .val (.int p1), .val (.long p2), .second, .val (.long p3), .second, .val (.int p4)] [(.ref p0)])) _
    refine XS.iload X10.here hx rfl (hb hby d1_90) rfl ?_
    show Steps p.tables e below (T10.setTop (mkF m 92 #[.val (.ref p0), .val (.int p1), .val (.long p2), .second, .val (.long p3), .second, .val (.int p4)] [(.int p4), (.ref p0)])) _
    refine st12 _ ?_
    show Steps p.tables e below (T12.setTop (mkF m 95 #[.val (.ref p0), .val (.int p1), .val (.long p2), .second, .val (.long p3), .second, .val (.int p4)] [])) _
    exact k
  obtain ⟨fs, hr, hrun, hended, hW, hsame⟩ := X12.leave (v := none) (fun _ => rfl)
  refine ⟨_, _, pre14 _ ?_, hrun, hended, _, _, rfl, ?_, ⟨_, rfl⟩, hW, hsame.mono (by decide) (by decide)⟩
  · exact X12.returnOut hx Bd.returns (hb hby d1_95) hr
  · show Q1 Z p0 p1 p2 p3 p4 h0 n0 _ T12.heap _
    rw [e12]
    exact ⟨rfl, N12, K12, Ep0_13, Fp0_document_13, Fp0_start_13, Fp0_end_13, Fw12⟩
theorem d4_0 : decode prog_154_method_2_code 0 = .ok (.aload_n 0, 1) := by decide +kernel
theorem d4_1 : decode prog_154_method_2_code 1 = .ok (.getfield 33, 3) := by decide +kernel
theorem d4_4 : decode prog_154_method_2_code 4 = .ok (.aload_n 1, 1) := by decide +kernel
theorem d4_5 : decode prog_154_method_2_code 5 = .ok (.getfield 33, 3) := by decide +kernel
theorem d4_8 : decode prog_154_method_2_code 8 = .ok (.if_icmp .ne 31, 3) := by decide +kernel
theorem d4_11 : decode prog_154_method_2_code 11 = .ok (.aload_n 0, 1) := by decide +kernel
theorem d4_12 : decode prog_154_method_2_code 12 = .ok (.getfield 39, 3) := by decide +kernel
theorem d4_15 : decode prog_154_method_2_code 15 = .ok (.aload_n 1, 1) := by decide +kernel
theorem d4_16 : decode prog_154_method_2_code 16 = .ok (.getfield 39, 3) := by decide +kernel
theorem d4_19 : decode prog_154_method_2_code 19 = .ok (.lcmp, 1) := by decide +kernel
theorem d4_20 : decode prog_154_method_2_code 20 = .ok (.ifCond .ge 19, 3) := by decide +kernel
theorem d4_23 : decode prog_154_method_2_code 23 = .ok (.aload_n 1, 1) := by decide +kernel
theorem d4_24 : decode prog_154_method_2_code 24 = .ok (.getfield 43, 3) := by decide +kernel
theorem d4_27 : decode prog_154_method_2_code 27 = .ok (.aload_n 0, 1) := by decide +kernel
theorem d4_28 : decode prog_154_method_2_code 28 = .ok (.getfield 43, 3) := by decide +kernel
theorem d4_31 : decode prog_154_method_2_code 31 = .ok (.lcmp, 1) := by decide +kernel
theorem d4_32 : decode prog_154_method_2_code 32 = .ok (.ifCond .ge 7, 3) := by decide +kernel
theorem d4_35 : decode prog_154_method_2_code 35 = .ok (.iconst 1, 1) := by decide +kernel
theorem d4_36 : decode prog_154_method_2_code 36 = .ok (.goto 4, 3) := by decide +kernel
theorem d4_39 : decode prog_154_method_2_code 39 = .ok (.iconst 0, 1) := by decide +kernel
theorem d4_40 : decode prog_154_method_2_code 40 = .ok (.ireturn, 1) := by decide +kernel
theorem pn_4 : plainName "com/example/twyg/twyg/node/NodePosition" = true := by first | (simp [plainName, overriddenIn]; done) | decide +kernel
theorem ef_4 (m : MethodId) (p0 : Addr) (p1 : Addr) : entryFrame m #[(.ref p0), (.ref p1)] 2 = mkF m 0 #[.val (.ref p0), .val (.ref p1)] [] := by first | (simp [entryFrame, mkF, argsToLocals, Value.category]; done) | rfl
def Q4 (d1 d2 : Int32) (s1 u1 s2 u2 : Int64) (h0 : Heap) (n0 : Nat) (v : Option Value) (h : Heap) (L : List Loc) : Prop := v = some (.int (fA d1 s1 u1 d2 s2 u2)) ∧ Fr n0 L ∧ h = h0
set_option maxRecDepth 65536 in
set_option maxHeartbeats 40000000 in
theorem rm4 (l : Launch) (Z : State) (a0 : Array Value) (hw : ∀ d ∈ tables_1, d.before a0 Z = true) (ws : List Jvm.Cond) (p0 : Addr) (p1 : Addr) (h0 : Heap) (n0 : Nat) (Z0 : n0 ≤ h0.size) (d1 d2 : Int32) (s1 u1 s2 u2 : Int64) (F_d1 : Fld Z h0 p0 "com/example/twyg/twyg/node/NodePosition" "document" "I" (.int d1)) (F_s1 : Fld Z h0 p0 "com/example/twyg/twyg/node/NodePosition" "start" "J" (.long s1)) (F_e1 : Fld Z h0 p0 "com/example/twyg/twyg/node/NodePosition" "end" "J" (.long u1)) (F_d2 : Fld Z h0 p1 "com/example/twyg/twyg/node/NodePosition" "document" "I" (.int d2)) (F_s2 : Fld Z h0 p1 "com/example/twyg/twyg/node/NodePosition" "start" "J" (.long s2)) (F_e2 : Fld Z h0 p1 "com/example/twyg/twyg/node/NodePosition" "end" "J" (.long u2)) :
    MetFree l (⟨"com/example/twyg/twyg/node/NodePosition", "isAncestorOf", "(Lcom/example/twyg/twyg/node/NodePosition;)Z"⟩ : MethodName) (head1 (Jvm.Cond.code (⟨"com/example/twyg/twyg/node/NodePosition", "isAncestorOf", "(Lcom/example/twyg/twyg/node/NodePosition;)Z"⟩ : MethodName) prog_154_method_2_code 2 (some .boolean) :: ws) ({ frames := 0, cells := 0, slots := 0, locals := 0 } : Room)) (fun a U => a = #[(.ref p0), (.ref p1)] ∧ Z.Warmed39 U.vm ∧ U.heap = h0) (fun _ _ _ _ _ => True) (fun _ U o U' => ∃ v L, o = .returned v ∧ Q4 d1 d2 s1 u1 s2 u2 h0 n0 v U'.heap L ∧ FrameEnd U o U' L ({ frames := 0, cells := 0, slots := 0, locals := 0 } : Room).cells ({ frames := 0, cells := 0, slots := 0, locals := 0 } : Room).slots) := by
  refine MetFree.of_bodySF (plainFor_of_name pn_4) hisR ?_
  intro p e s m args below meth c s₁ Bd hml0 hP hK
  obtain ⟨rfl, hZ, hh⟩ := hP
  have hx := Bd.exec
  have hby := Bd.bytes
  have hml : c.maxLocals = 2 := hml0
  have hown : s.vm.findClass "com/example/twyg/twyg/node/NodePosition" = some m.cls := findClass_of_methodNamed Bd.named
  have hnm := (name_of_methodNamed Bd.named Bd.method).1
  have X0 : Stand p l e ({ frames := 0, cells := 0, slots := 0, locals := 0 } : Room) s m #[(.ref p0), (.ref p1)] below meth c s₁ [] 0 0 := Stand.of_body Bd
  have e0 : s₁.heap = h0 := by rw [← hh, Bd.state]; rfl
  have N0 := Fr.nil n0
  have pre0 : ∀ t, Steps p.tables e below (s₁.setTop (mkF m 0 #[.val (.ref p0), .val (.ref p1)] [])) t → Steps p.tables e below (s₁.setTop (entryFrame m #[(.ref p0), (.ref p1)] 2)) t := fun t k => castTop (ef_4 m p0 p1) k
  obtain ⟨T1, X1, e1, st1⟩ := getF X0 hx hZ hown (host := "") (Or.inl (hw _ (List.mem_of_getElem? (i := 18) rfl))) Via.refl e0 F_d1 (g := (mkF m 1 #[.val (.ref p0), .val (.ref p1)] [(.ref p0)])) rfl rfl (hb hby d4_1)
  obtain ⟨T2, X2, e2, st2⟩ := getF X1 hx hZ hown (host := "") (Or.inl (hw _ (List.mem_of_getElem? (i := 18) rfl))) Via.refl e1 F_d2 (g := (mkF m 5 #[.val (.ref p0), .val (.ref p1)] [(.ref p1), (.int d1)])) rfl rfl (hb hby d4_5)
  have pre4 : ∀ t, Steps p.tables e below (T2.setTop (mkF m 8 #[.val (.ref p0), .val (.ref p1)] [(.int d2), (.int d1)])) t → Steps p.tables e below (s₁.setTop (entryFrame m #[(.ref p0), (.ref p1)] 2)) t := by
    intro t k
    refine pre0 t ?_
    show Steps p.tables e below (s₁.setTop (mkF m 0 #[.val (.ref p0), .val (.ref p1)] [])) _
    refine XS.aloadN X0.here hx rfl (hb hby d4_0) rfl rfl ?_
    show Steps p.tables e below (s₁.setTop (mkF m 1 #[.val (.ref p0), .val (.ref p1)] [(.ref p0)])) _
    refine st1 _ ?_
    show Steps p.tables e below (T1.setTop (mkF m 4 #[.val (.ref p0), .val (.ref p1)] [(.int d1)])) _
    refine XS.aloadN X1.here hx rfl (hb hby d4_4) rfl rfl ?_
    show Steps p.tables e below (T1.setTop (mkF m 5 #[.val (.ref p0), .val (.ref p1)] [(.ref p1), (.int d1)])) _
    refine st2 _ ?_
    show Steps p.tables e below (T2.setTop (mkF m 8 #[.val (.ref p0), .val (.ref p1)] [(.int d2), (.int d1)])) _
    exact k
  by_cases h8_3 : d1 = d2
  · obtain ⟨T5, X5, e5, st5⟩ := getF X2 hx hZ hown (host := "") (Or.inl (hw _ (List.mem_of_getElem? (i := 20) rfl))) Via.refl e2 F_s1 (g := (mkF m 12 #[.val (.ref p0), .val (.ref p1)] [(.ref p0)])) rfl rfl (hb hby d4_12)
    obtain ⟨T6, X6, e6, st6⟩ := getF X5 hx hZ hown (host := "") (Or.inl (hw _ (List.mem_of_getElem? (i := 20) rfl))) Via.refl e5 F_s2 (g := (mkF m 16 #[.val (.ref p0), .val (.ref p1)] [(.ref p1), (.long s1)])) rfl rfl (hb hby d4_16)
    have pre8 : ∀ t, Steps p.tables e below (T6.setTop (mkF m 20 #[.val (.ref p0), .val (.ref p1)] [(.int (XT.cmpL s1 s2))])) t → Steps p.tables e below (s₁.setTop (entryFrame m #[(.ref p0), (.ref p1)] 2)) t := by
      intro t k
      refine pre4 t ?_
      refine XS.icmpNo X2.here hx rfl (hb hby d4_8) rfl (teq h8_3).2 ?_
      show Steps p.tables e below (T2.setTop (mkF m 11 #[.val (.ref p0), .val (.ref p1)] [])) _
      refine XS.aloadN X2.here hx rfl (hb hby d4_11) rfl rfl ?_
      show Steps p.tables e below (T2.setTop (mkF m 12 #[.val (.ref p0), .val (.ref p1)] [(.ref p0)])) _
      refine st5 _ ?_
      show Steps p.tables e below (T5.setTop (mkF m 15 #[.val (.ref p0), .val (.ref p1)] [(.long s1)])) _
      refine XS.aloadN X5.here hx rfl (hb hby d4_15) rfl rfl ?_
      show Steps p.tables e below (T5.setTop (mkF m 16 #[.val (.ref p0), .val (.ref p1)] [(.ref p1), (.long s1)])) _
      refine st6 _ ?_
      show Steps p.tables e below (T6.setTop (mkF m 19 #[.val (.ref p0), .val (.ref p1)] [(.long s2), (.long s1)])) _
      refine XT.lcmp X6.here hx rfl (hb hby d4_19) rfl ?_
      show Steps p.tables e below (T6.setTop (mkF m 20 #[.val (.ref p0), .val (.ref p1)] [(.int (XT.cmpL s1 s2))])) _
      exact k
    by_cases h20_7 : (XT.cmpL s1 s2) < (0 : Int32)
    · obtain ⟨T9, X9, e9, st9⟩ := getF X6 hx hZ hown (host := "") (Or.inl (hw _ (List.mem_of_getElem? (i := 22) rfl))) Via.refl e6 F_e2 (g := (mkF m 24 #[.val (.ref p0), .val (.ref p1)] [(.ref p1)])) rfl rfl (hb hby d4_24)
      obtain ⟨T10, X10, e10, st10⟩ := getF X9 hx hZ hown (host := "") (Or.inl (hw _ (List.mem_of_getElem? (i := 22) rfl))) Via.refl e9 F_e1 (g := (mkF m 28 #[.val (.ref p0), .val (.ref p1)] [(.ref p0), (.long u2)])) rfl rfl (hb hby d4_28)
      have pre12 : ∀ t, Steps p.tables e below (T10.setTop (mkF m 32 #[.val (.ref p0), .val (.ref p1)] [(.int (XT.cmpL u2 u1))])) t → Steps p.tables e below (s₁.setTop (entryFrame m #[(.ref p0), (.ref p1)] 2)) t := by
        intro t k
        refine pre8 t ?_
        refine XS.ifNo X6.here hx rfl (hb hby d4_20) rfl ((if0 _ _).trans (tlt h20_7).2.1) ?_
        show Steps p.tables e below (T6.setTop (mkF m 23 #[.val (.ref p0), .val (.ref p1)] [])) _
        refine XS.aloadN X6.here hx rfl (hb hby d4_23) rfl rfl ?_
        show Steps p.tables e below (T6.setTop (mkF m 24 #[.val (.ref p0), .val (.ref p1)] [(.ref p1)])) _
        refine st9 _ ?_
        show Steps p.tables e below (T9.setTop (mkF m 27 #[.val (.ref p0), .val (.ref p1)] [(.long u2)])) _
        refine XS.aloadN X9.here hx rfl (hb hby d4_27) rfl rfl ?_
        show Steps p.tables e below (T9.setTop (mkF m 28 #[.val (.ref p0), .val (.ref p1)] [(.ref p0), (.long u2)])) _
        refine st10 _ ?_
        show Steps p.tables e below (T10.setTop (mkF m 31 #[.val (.ref p0), .val (.ref p1)] [(.long u1), (.long u2)])) _
        refine XT.lcmp X10.here hx rfl (hb hby d4_31) rfl ?_
        show Steps p.tables e below (T10.setTop (mkF m 32 #[.val (.ref p0), .val (.ref p1)] [(.int (XT.cmpL u2 u1))])) _
        exact k
      by_cases h32_11 : (XT.cmpL u2 u1) < (0 : Int32)
      · have pre13 : ∀ t, Steps p.tables e below (T10.setTop (mkF m 40 #[.val (.ref p0), .val (.ref p1)] [(.int (1 : Int32))])) t → Steps p.tables e below (s₁.setTop (entryFrame m #[(.ref p0), (.ref p1)] 2)) t := by
          intro t k
          refine pre12 t ?_
          refine XS.ifNo X10.here hx rfl (hb hby d4_32) rfl ((if0 _ _).trans (tlt h32_11).2.1) ?_
          show Steps p.tables e below (T10.setTop (mkF m 35 #[.val (.ref p0), .val (.ref p1)] [])) _
          refine XS.iconst X10.here hx rfl (hb hby d4_35) ?_
          show Steps p.tables e below (T10.setTop (mkF m 36 #[.val (.ref p0), .val (.ref p1)] [(.int (1 : Int32))])) _
          refine XS.goto X10.here hx rfl (pc0 := 36) (pc' := 40) rfl (hb hby d4_36) (by decide) (by decide) ?_
          show Steps p.tables e below (T10.setTop (mkF m 40 #[.val (.ref p0), .val (.ref p1)] [(.int (1 : Int32))])) _
          exact k
        obtain ⟨fs, hr, hrun, hended, hW, hsame⟩ := X10.leave (v := some (.int (nar .boolean (1 : Int32)))) (fun h => by rw [Bd.returns] at h; cases h)
        refine ⟨_, _, pre13 _ ?_, hrun, hended, _, _, rfl, ?_, ⟨_, rfl⟩, hW, hsame.mono (by decide) (by decide)⟩
        · exact retN X10 hx (t := .boolean) Bd.returns (by simp) (hb hby d4_40) hr
        · refine ⟨?_, N0, e10⟩
          rw [own_nar1]
          unfold fA
          rw [if_pos h8_3, if_pos h20_7, if_pos h32_11]
      · have pre14 : ∀ t, Steps p.tables e below (T10.setTop (mkF m 40 #[.val (.ref p0), .val (.ref p1)] [(.int (0 : Int32))])) t → Steps p.tables e below (s₁.setTop (entryFrame m #[(.ref p0), (.ref p1)] 2)) t := by
          intro t k
          refine pre12 t ?_
          refine XS.ifYes X10.here hx rfl (pc0 := 32) (pc' := 39) rfl (hb hby d4_32) rfl ((if0 _ _).trans (flt h32_11).2.1) (by decide) (by decide) ?_
          show Steps p.tables e below (T10.setTop (mkF m 39 #[.val (.ref p0), .val (.ref p1)] [])) _
          refine XS.iconst X10.here hx rfl (hb hby d4_39) ?_
          show Steps p.tables e below (T10.setTop (mkF m 40 #[.val (.ref p0), .val (.ref p1)] [(.int (0 : Int32))])) _
          exact k
        obtain ⟨fs, hr, hrun, hended, hW, hsame⟩ := X10.leave (v := some (.int (nar .boolean (0 : Int32)))) (fun h => by rw [Bd.returns] at h; cases h)
        refine ⟨_, _, pre14 _ ?_, hrun, hended, _, _, rfl, ?_, ⟨_, rfl⟩, hW, hsame.mono (by decide) (by decide)⟩
        · exact retN X10 hx (t := .boolean) Bd.returns (by simp) (hb hby d4_40) hr
        · refine ⟨?_, N0, e10⟩
          rw [own_nar0]
          unfold fA
          rw [if_pos h8_3, if_pos h20_7, if_neg h32_11]
    · have pre15 : ∀ t, Steps p.tables e below (T6.setTop (mkF m 40 #[.val (.ref p0), .val (.ref p1)] [(.int (0 : Int32))])) t → Steps p.tables e below (s₁.setTop (entryFrame m #[(.ref p0), (.ref p1)] 2)) t := by
        intro t k
        refine pre8 t ?_
        refine XS.ifYes X6.here hx rfl (pc0 := 20) (pc' := 39) rfl (hb hby d4_20) rfl ((if0 _ _).trans (flt h20_7).2.1) (by decide) (by decide) ?_
        show Steps p.tables e below (T6.setTop (mkF m 39 #[.val (.ref p0), .val (.ref p1)] [])) _
        refine XS.iconst X6.here hx rfl (hb hby d4_39) ?_
        show Steps p.tables e below (T6.setTop (mkF m 40 #[.val (.ref p0), .val (.ref p1)] [(.int (0 : Int32))])) _
        exact k
      obtain ⟨fs, hr, hrun, hended, hW, hsame⟩ := X6.leave (v := some (.int (nar .boolean (0 : Int32)))) (fun h => by rw [Bd.returns] at h; cases h)
      refine ⟨_, _, pre15 _ ?_, hrun, hended, _, _, rfl, ?_, ⟨_, rfl⟩, hW, hsame.mono (by decide) (by decide)⟩
      · exact retN X6 hx (t := .boolean) Bd.returns (by simp) (hb hby d4_40) hr
      · refine ⟨?_, N0, e6⟩
        rw [own_nar0]
        unfold fA
        rw [if_pos h8_3, if_neg h20_7]
  · have pre16 : ∀ t, Steps p.tables e below (T2.setTop (mkF m 40 #[.val (.ref p0), .val (.ref p1)] [(.int (0 : Int32))])) t → Steps p.tables e below (s₁.setTop (entryFrame m #[(.ref p0), (.ref p1)] 2)) t := by
      intro t k
      refine pre4 t ?_
      refine XS.icmpYes X2.here hx rfl (pc0 := 8) (pc' := 39) rfl (hb hby d4_8) rfl (feq h8_3).2 (by decide) (by decide) ?_
      show Steps p.tables e below (T2.setTop (mkF m 39 #[.val (.ref p0), .val (.ref p1)] [])) _
      refine XS.iconst X2.here hx rfl (hb hby d4_39) ?_
      show Steps p.tables e below (T2.setTop (mkF m 40 #[.val (.ref p0), .val (.ref p1)] [(.int (0 : Int32))])) _
      exact k
    obtain ⟨fs, hr, hrun, hended, hW, hsame⟩ := X2.leave (v := some (.int (nar .boolean (0 : Int32)))) (fun h => by rw [Bd.returns] at h; cases h)
    refine ⟨_, _, pre16 _ ?_, hrun, hended, _, _, rfl, ?_, ⟨_, rfl⟩, hW, hsame.mono (by decide) (by decide)⟩
    · exact retN X2 hx (t := .boolean) Bd.returns (by simp) (hb hby d4_40) hr
    · refine ⟨?_, N0, e2⟩
      rw [own_nar0]
      unfold fA
      rw [if_neg h8_3]
theorem pn_0 : plainName "com/example/twyg/twyg/node/NodePositionIsAncestorOfPinLaw" = true := by first | (simp [plainName, overriddenIn]; done) | decide +kernel
theorem ef_0 (m : MethodId) (p1 : Int32) (p2 : Int32) (p3 : Int64) (p4 : Int64) (p5 : Int64) (p6 : Int64) : entryFrame m #[(.int p1), (.int p2), (.long p3), (.long p4), (.long p5), (.long p6)] maxLocals = mkF m 0 #[.val (.int p1), .val (.int p2), .val (.long p3), .second, .val (.long p4), .second, .val (.long p5), .second, .val (.long p6), .second, .unset, .unset, .unset, .unset, .unset, .unset, .unset, .unset, .unset, .unset, .unset, .unset, .unset, .unset, .unset, .unset, .unset, .unset, .unset, .unset, .unset, .unset] [] := by first | (simp [entryFrame, mkF, argsToLocals, Value.category, maxLocals]; done) | rfl
theorem pd_0_0 : parseMethodDescriptor "(IJJI)V" = some ⟨[.int, .long, .long, .int], none⟩ := by decide +kernel
theorem pd_0_1 : parseMethodDescriptor "(Lcom/example/twyg/twyg/node/NodePosition;)Z" = some ⟨[(.object "com/example/twyg/twyg/node/NodePosition")], some .boolean⟩ := by decide +kernel
def Q0 (n0 : Nat) (v : Option Value) (L : List Loc) : Prop := v = some (.int 1) ∧ Fr n0 L
set_option maxRecDepth 65536 in
set_option maxHeartbeats 40000000 in
theorem rm0 (l : Launch) (Z : State) (a0 : Array Value) (hw : ∀ d ∈ tables_1, d.before a0 Z = true) (ws : List Jvm.Cond) (p1 : Int32) (p2 : Int32) (p3 : Int64) (p4 : Int64) (p5 : Int64) (p6 : Int64) (h0 : Heap) (n0 : Nat) (Z0 : n0 ≤ h0.size) :
    MetFree l x (head1 (Jvm.Cond.code x code maxLocals ret :: ws) room_1) (fun a U => a = #[(.int p1), (.int p2), (.long p3), (.long p4), (.long p5), (.long p6)] ∧ Z.Warmed39 U.vm ∧ U.heap = h0) (fun _ _ _ _ _ => True) (fun _ U o U' => ∃ v L, o = .returned v ∧ Q0 n0 v L ∧ FrameEnd U o U' L room_1.cells room_1.slots) := by
  refine MetFree.of_bodySF (plainFor_of_name pn_0) hisR ?_
  intro p e s m args below meth c s₁ Bd hml0 hP hK
  obtain ⟨rfl, hZ, hh⟩ := hP
  have hx := Bd.exec
  have hby := Bd.bytes
  have hml : c.maxLocals = 32 := hml0
  have hown : s.vm.findClass "com/example/twyg/twyg/node/NodePositionIsAncestorOfPinLaw" = some m.cls := findClass_of_methodNamed Bd.named
  have hnm := (name_of_methodNamed Bd.named Bd.method).1
  have X0 : Stand p l e room_1 s m #[(.int p1), (.int p2), (.long p3), (.long p4), (.long p5), (.long p6)] below meth c s₁ [] 0 0 := Stand.of_body Bd
  have e0 : s₁.heap = h0 := by rw [← hh, Bd.state]; rfl
  have N0 := Fr.nil n0
  have pre0 : ∀ t, Steps p.tables e below (s₁.setTop (mkF m 0 #[.val (.int p1), .val (.int p2), .val (.long p3), .second, .val (.long p4), .second, .val (.long p5), .second, .val (.long p6), .second, .unset, .unset, .unset, .unset, .unset, .unset, .unset, .unset, .unset, .unset, .unset, .unset, .unset, .unset, .unset, .unset, .unset, .unset, .unset, .unset, .unset, .unset] [])) t → Steps p.tables e below (s₁.setTop (entryFrame m #[(.int p1), (.int p2), (.long p3), (.long p4), (.long p5), (.long p6)] maxLocals)) t := fun t k => castTop (ef_0 m p1 p2 p3 p4 p5 p6) k
  have pre1 : ∀ t, Steps p.tables e below (s₁.setTop (mkF m 32 #[.val (.int p1), .val (.int p2), .val (.long p3), .second, .val (.long p4), .second, .val (.long p5), .second, .val (.long p6), .second, .val (.long (1152921504606846975 : Int64)), .second, .val (.long (p3 &&& (1152921504606846975 : Int64))), .second, .val (.long (p4 &&& (1152921504606846975 : Int64))), .second, .val (.long (p5 &&& (1152921504606846975 : Int64))), .second, .val (.long (p6 &&& (1152921504606846975 : Int64))), .second, .unset, .unset, .unset, .unset, .unset, .unset, .unset, .unset, .unset, .unset, .unset, .unset] [])) t → Steps p.tables e below (s₁.setTop (entryFrame m #[(.int p1), (.int p2), (.long p3), (.long p4), (.long p5), (.long p6)] maxLocals)) t := by
    intro t k
    refine pre0 t ?_
    show Steps p.tables e below (s₁.setTop (mkF m 0 #[.val (.int p1), .val (.int p2), .val (.long p3), .second, .val (.long p4), .second, .val (.long p5), .second, .val (.long p6), .second, .unset, .unset, .unset, .unset, .unset, .unset, .unset, .unset, .unset, .unset, .unset, .unset, .unset, .unset, .unset, .unset, .unset, .unset, .unset, .unset, .unset, .unset] [])) _
    refine X0.ldc2Long hx hown (mvT hZ (hw _ (List.mem_of_getElem? (i := 0) rfl))) (g := (mkF m 0 #[.val (.int p1), .val (.int p2), .val (.long p3), .second, .val (.long p4), .second, .val (.long p5), .second, .val (.long p6), .second, .unset, .unset, .unset, .unset, .unset, .unset, .unset, .unset, .unset, .unset, .unset, .unset, .unset, .unset, .unset, .unset, .unset, .unset, .unset, .unset, .unset, .unset] [])) rfl (hb hby at_0) _ ?_
    show Steps p.tables e below (s₁.setTop (mkF m 3 #[.val (.int p1), .val (.int p2), .val (.long p3), .second, .val (.long p4), .second, .val (.long p5), .second, .val (.long p6), .second, .unset, .unset, .unset, .unset, .unset, .unset, .unset, .unset, .unset, .unset, .unset, .unset, .unset, .unset, .unset, .unset, .unset, .unset, .unset, .unset, .unset, .unset] [(.long (1152921504606846975 : Int64))])) _
    refine XT.lstore X0.here hx rfl (hb hby at_3) rfl (l' := #[.val (.int p1), .val (.int p2), .val (.long p3), .second, .val (.long p4), .second, .val (.long p5), .second, .val (.long p6), .second, .val (.long (1152921504606846975 : Int64)), .second, .unset, .unset, .unset, .unset, .unset, .unset, .unset, .unset, .unset, .unset, .unset, .unset, .unset, .unset, .unset, .unset, .unset, .unset, .unset, .unset]) rfl ?_
    show Steps p.tables e below (s₁.setTop (mkF m 5 #[.val (.int p1), .val (.int p2), .val (.long p3), .second, .val (.long p4), .second, .val (.long p5), .second, .val (.long p6), .second, .val (.long (1152921504606846975 : Int64)), .second, .unset, .unset, .unset, .unset, .unset, .unset, .unset, .unset, .unset, .unset, .unset, .unset, .unset, .unset, .unset, .unset, .unset, .unset, .unset, .unset] [])) _
    refine XT.lloadN X0.here hx rfl (hb hby at_5) rfl ?_
    show Steps p.tables e below (s₁.setTop (mkF m 6 #[.val (.int p1), .val (.int p2), .val (.long p3), .second, .val (.long p4), .second, .val (.long p5), .second, .val (.long p6), .second, .val (.long (1152921504606846975 : Int64)), .second, .unset, .unset, .unset, .unset, .unset, .unset, .unset, .unset, .unset, .unset, .unset, .unset, .unset, .unset, .unset, .unset, .unset, .unset, .unset, .unset] [(.long p3)])) _
    refine XT.lload X0.here hx rfl (hb hby at_6) rfl ?_
    show Steps p.tables e below (s₁.setTop (mkF m 8 #[.val (.int p1), .val (.int p2), .val (.long p3), .second, .val (.long p4), .second, .val (.long p5), .second, .val (.long p6), .second, .val (.long (1152921504606846975 : Int64)), .second, .unset, .unset, .unset, .unset, .unset, .unset, .unset, .unset, .unset, .unset, .unset, .unset, .unset, .unset, .unset, .unset, .unset, .unset, .unset, .unset] [(.long (1152921504606846975 : Int64)), (.long p3)])) _
    refine XT.land X0.here hx rfl (hb hby at_8) rfl ?_
    show Steps p.tables e below (s₁.setTop (mkF m 9 #[.val (.int p1), .val (.int p2), .val (.long p3), .second, .val (.long p4), .second, .val (.long p5), .second, .val (.long p6), .second, .val (.long (1152921504606846975 : Int64)), .second, .unset, .unset, .unset, .unset, .unset, .unset, .unset, .unset, .unset, .unset, .unset, .unset, .unset, .unset, .unset, .unset, .unset, .unset, .unset, .unset] [(.long (p3 &&& (1152921504606846975 : Int64)))])) _
    refine XT.lstore X0.here hx rfl (hb hby at_9) rfl (l' := #[.val (.int p1), .val (.int p2), .val (.long p3), .second, .val (.long p4), .second, .val (.long p5), .second, .val (.long p6), .second, .val (.long (1152921504606846975 : Int64)), .second, .val (.long (p3 &&& (1152921504606846975 : Int64))), .second, .unset, .unset, .unset, .unset, .unset, .unset, .unset, .unset, .unset, .unset, .unset, .unset, .unset, .unset, .unset, .unset, .unset, .unset]) rfl ?_
    show Steps p.tables e below (s₁.setTop (mkF m 11 #[.val (.int p1), .val (.int p2), .val (.long p3), .second, .val (.long p4), .second, .val (.long p5), .second, .val (.long p6), .second, .val (.long (1152921504606846975 : Int64)), .second, .val (.long (p3 &&& (1152921504606846975 : Int64))), .second, .unset, .unset, .unset, .unset, .unset, .unset, .unset, .unset, .unset, .unset, .unset, .unset, .unset, .unset, .unset, .unset, .unset, .unset] [])) _
    refine XT.lload X0.here hx rfl (hb hby at_11) rfl ?_
    show Steps p.tables e below (s₁.setTop (mkF m 13 #[.val (.int p1), .val (.int p2), .val (.long p3), .second, .val (.long p4), .second, .val (.long p5), .second, .val (.long p6), .second, .val (.long (1152921504606846975 : Int64)), .second, .val (.long (p3 &&& (1152921504606846975 : Int64))), .second, .unset, .unset, .unset, .unset, .unset, .unset, .unset, .unset, .unset, .unset, .unset, .unset, .unset, .unset, .unset, .unset, .unset, .unset] [(.long p4)])) _
    refine XT.lload X0.here hx rfl (hb hby at_13) rfl ?_
    show Steps p.tables e below (s₁.setTop (mkF m 15 #[.val (.int p1), .val (.int p2), .val (.long p3), .second, .val (.long p4), .second, .val (.long p5), .second, .val (.long p6), .second, .val (.long (1152921504606846975 : Int64)), .second, .val (.long (p3 &&& (1152921504606846975 : Int64))), .second, .unset, .unset, .unset, .unset, .unset, .unset, .unset, .unset, .unset, .unset, .unset, .unset, .unset, .unset, .unset, .unset, .unset, .unset] [(.long (1152921504606846975 : Int64)), (.long p4)])) _
    refine XT.land X0.here hx rfl (hb hby at_15) rfl ?_
    show Steps p.tables e below (s₁.setTop (mkF m 16 #[.val (.int p1), .val (.int p2), .val (.long p3), .second, .val (.long p4), .second, .val (.long p5), .second, .val (.long p6), .second, .val (.long (1152921504606846975 : Int64)), .second, .val (.long (p3 &&& (1152921504606846975 : Int64))), .second, .unset, .unset, .unset, .unset, .unset, .unset, .unset, .unset, .unset, .unset, .unset, .unset, .unset, .unset, .unset, .unset, .unset, .unset] [(.long (p4 &&& (1152921504606846975 : Int64)))])) _
    refine XT.lstore X0.here hx rfl (hb hby at_16) rfl (l' := #[.val (.int p1), .val (.int p2), .val (.long p3), .second, .val (.long p4), .second, .val (.long p5), .second, .val (.long p6), .second, .val (.long (1152921504606846975 : Int64)), .second, .val (.long (p3 &&& (1152921504606846975 : Int64))), .second, .val (.long (p4 &&& (1152921504606846975 : Int64))), .second, .unset, .unset, .unset, .unset, .unset, .unset, .unset, .unset, .unset, .unset, .unset, .unset, .unset, .unset, .unset, .unset]) rfl ?_
    show Steps p.tables e below (s₁.setTop (mkF m 18 #[.val (.int p1), .val (.int p2), .val (.long p3), .second, .val (.long p4), .second, .val (.long p5), .second, .val (.long p6), .second, .val (.long (1152921504606846975 : Int64)), .second, .val (.long (p3 &&& (1152921504606846975 : Int64))), .second, .val (.long (p4 &&& (1152921504606846975 : Int64))), .second, .unset, .unset, .unset, .unset, .unset, .unset, .unset, .unset, .unset, .unset, .unset, .unset, .unset, .unset, .unset, .unset] [])) _
    refine XT.lload X0.here hx rfl (hb hby at_18) rfl ?_
    show Steps p.tables e below (s₁.setTop (mkF m 20 #[.val (.int p1), .val (.int p2), .val (.long p3), .second, .val (.long p4), .second, .val (.long p5), .second, .val (.long p6), .second, .val (.long (1152921504606846975 : Int64)), .second, .val (.long (p3 &&& (1152921504606846975 : Int64))), .second, .val (.long (p4 &&& (1152921504606846975 : Int64))), .second, .unset, .unset, .unset, .unset, .unset, .unset, .unset, .unset, .unset, .unset, .unset, .unset, .unset, .unset, .unset, .unset] [(.long p5)])) _
    refine XT.lload X0.here hx rfl (hb hby at_20) rfl ?_
    show Steps p.tables e below (s₁.setTop (mkF m 22 #[.val (.int p1), .val (.int p2), .val (.long p3), .second, .val (.long p4), .second, .val (.long p5), .second, .val (.long p6), .second, .val (.long (1152921504606846975 : Int64)), .second, .val (.long (p3 &&& (1152921504606846975 : Int64))), .second, .val (.long (p4 &&& (1152921504606846975 : Int64))), .second, .unset, .unset, .unset, .unset, .unset, .unset, .unset, .unset, .unset, .unset, .unset, .unset, .unset, .unset, .unset, .unset] [(.long (1152921504606846975 : Int64)), (.long p5)])) _
    refine XT.land X0.here hx rfl (hb hby at_22) rfl ?_
    show Steps p.tables e below (s₁.setTop (mkF m 23 #[.val (.int p1), .val (.int p2), .val (.long p3), .second, .val (.long p4), .second, .val (.long p5), .second, .val (.long p6), .second, .val (.long (1152921504606846975 : Int64)), .second, .val (.long (p3 &&& (1152921504606846975 : Int64))), .second, .val (.long (p4 &&& (1152921504606846975 : Int64))), .second, .unset, .unset, .unset, .unset, .unset, .unset, .unset, .unset, .unset, .unset, .unset, .unset, .unset, .unset, .unset, .unset] [(.long (p5 &&& (1152921504606846975 : Int64)))])) _
    refine XT.lstore X0.here hx rfl (hb hby at_23) rfl (l' := #[.val (.int p1), .val (.int p2), .val (.long p3), .second, .val (.long p4), .second, .val (.long p5), .second, .val (.long p6), .second, .val (.long (1152921504606846975 : Int64)), .second, .val (.long (p3 &&& (1152921504606846975 : Int64))), .second, .val (.long (p4 &&& (1152921504606846975 : Int64))), .second, .val (.long (p5 &&& (1152921504606846975 : Int64))), .second, .unset, .unset, .unset, .unset, .unset, .unset, .unset, .unset, .unset, .unset, .unset, .unset, .unset, .unset]) rfl ?_
    show Steps p.tables e below (s₁.setTop (mkF m 25 #[.val (.int p1), .val (.int p2), .val (.long p3), .second, .val (.long p4), .second, .val (.long p5), .second, .val (.long p6), .second, .val (.long (1152921504606846975 : Int64)), .second, .val (.long (p3 &&& (1152921504606846975 : Int64))), .second, .val (.long (p4 &&& (1152921504606846975 : Int64))), .second, .val (.long (p5 &&& (1152921504606846975 : Int64))), .second, .unset, .unset, .unset, .unset, .unset, .unset, .unset, .unset, .unset, .unset, .unset, .unset, .unset, .unset] [])) _
    refine XT.lload X0.here hx rfl (hb hby at_25) rfl ?_
    show Steps p.tables e below (s₁.setTop (mkF m 27 #[.val (.int p1), .val (.int p2), .val (.long p3), .second, .val (.long p4), .second, .val (.long p5), .second, .val (.long p6), .second, .val (.long (1152921504606846975 : Int64)), .second, .val (.long (p3 &&& (1152921504606846975 : Int64))), .second, .val (.long (p4 &&& (1152921504606846975 : Int64))), .second, .val (.long (p5 &&& (1152921504606846975 : Int64))), .second, .unset, .unset, .unset, .unset, .unset, .unset, .unset, .unset, .unset, .unset, .unset, .unset, .unset, .unset] [(.long p6)])) _
    refine XT.lload X0.here hx rfl (hb hby at_27) rfl ?_
    show Steps p.tables e below (s₁.setTop (mkF m 29 #[.val (.int p1), .val (.int p2), .val (.long p3), .second, .val (.long p4), .second, .val (.long p5), .second, .val (.long p6), .second, .val (.long (1152921504606846975 : Int64)), .second, .val (.long (p3 &&& (1152921504606846975 : Int64))), .second, .val (.long (p4 &&& (1152921504606846975 : Int64))), .second, .val (.long (p5 &&& (1152921504606846975 : Int64))), .second, .unset, .unset, .unset, .unset, .unset, .unset, .unset, .unset, .unset, .unset, .unset, .unset, .unset, .unset] [(.long (1152921504606846975 : Int64)), (.long p6)])) _
    refine XT.land X0.here hx rfl (hb hby at_29) rfl ?_
    show Steps p.tables e below (s₁.setTop (mkF m 30 #[.val (.int p1), .val (.int p2), .val (.long p3), .second, .val (.long p4), .second, .val (.long p5), .second, .val (.long p6), .second, .val (.long (1152921504606846975 : Int64)), .second, .val (.long (p3 &&& (1152921504606846975 : Int64))), .second, .val (.long (p4 &&& (1152921504606846975 : Int64))), .second, .val (.long (p5 &&& (1152921504606846975 : Int64))), .second, .unset, .unset, .unset, .unset, .unset, .unset, .unset, .unset, .unset, .unset, .unset, .unset, .unset, .unset] [(.long (p6 &&& (1152921504606846975 : Int64)))])) _
    refine XT.lstore X0.here hx rfl (hb hby at_30) rfl (l' := #[.val (.int p1), .val (.int p2), .val (.long p3), .second, .val (.long p4), .second, .val (.long p5), .second, .val (.long p6), .second, .val (.long (1152921504606846975 : Int64)), .second, .val (.long (p3 &&& (1152921504606846975 : Int64))), .second, .val (.long (p4 &&& (1152921504606846975 : Int64))), .second, .val (.long (p5 &&& (1152921504606846975 : Int64))), .second, .val (.long (p6 &&& (1152921504606846975 : Int64))), .second, .unset, .unset, .unset, .unset, .unset, .unset, .unset, .unset, .unset, .unset, .unset, .unset]) rfl ?_
    show Steps p.tables e below (s₁.setTop (mkF m 32 #[.val (.int p1), .val (.int p2), .val (.long p3), .second, .val (.long p4), .second, .val (.long p5), .second, .val (.long p6), .second, .val (.long (1152921504606846975 : Int64)), .second, .val (.long (p3 &&& (1152921504606846975 : Int64))), .second, .val (.long (p4 &&& (1152921504606846975 : Int64))), .second, .val (.long (p5 &&& (1152921504606846975 : Int64))), .second, .val (.long (p6 &&& (1152921504606846975 : Int64))), .second, .unset, .unset, .unset, .unset, .unset, .unset, .unset, .unset, .unset, .unset, .unset, .unset] [])) _
    exact k
  obtain ⟨q0, hq0⟩ : ∃ z, z = (p3 &&& (1152921504606846975 : Int64)) := ⟨_, rfl⟩
  rw [← hq0] at pre1
  obtain ⟨q1, hq1⟩ : ∃ z, z = (p4 &&& (1152921504606846975 : Int64)) := ⟨_, rfl⟩
  rw [← hq1] at pre1
  obtain ⟨q2, hq2⟩ : ∃ z, z = (p5 &&& (1152921504606846975 : Int64)) := ⟨_, rfl⟩
  rw [← hq2] at pre1
  obtain ⟨q3, hq3⟩ : ∃ z, z = (p6 &&& (1152921504606846975 : Int64)) := ⟨_, rfl⟩
  rw [← hq3] at pre1
  obtain ⟨T2, H2, cA2, X2, e2, E2, A2, st2⟩ := newP X0 hx hZ (aty := .long) (hw _ (List.mem_of_getElem? (i := 1) rfl)) e0 (g := (mkF m 33 #[.val (.int p1), .val (.int p2), .val (.long p3), .second, .val (.long p4), .second, .val (.long p5), .second, .val (.long p6), .second, .val (.long (1152921504606846975 : Int64)), .second, .val (.long q0), .second, .val (.long q1), .second, .val (.long q2), .second, .val (.long q3), .second, .unset, .unset, .unset, .unset, .unset, .unset, .unset, .unset, .unset, .unset, .unset, .unset] [(.int (4 : Int32))])) rfl (hb hby at_33) rfl (by decide) (cap := 4) (by decide) (by decide) (by decide) (by decide)
  obtain ⟨b2, g2⟩ : ∃ z, z = h0.size := ⟨_, rfl⟩
  rw [← g2] at A2 st2
  have V2 : own_VA Z H2 b2 .long [(.long (0 : Int64)), (.long (0 : Int64)), (.long (0 : Int64)), (.long (0 : Int64))] := own_VA_new (ty := .long) A2 (k := 4) (by decide)
  have Z2 : n0 ≤ H2.size := Nat.le_trans Z0 E2.1
  have gb2 : n0 ≤ b2 := Nat.le_trans Z0 (Nat.le_of_eq g2.symm)
  obtain ⟨T3, H3, Ls3, X3, e3, V3', W3, FF3, st3⟩ := own_stJ X2 hx hZ e2 V2 (n := 4) (k := 0) rfl (by decide) (by decide) (g := (mkF m 42 #[.val (.int p1), .val (.int p2), .val (.long p3), .second, .val (.long p4), .second, .val (.long p5), .second, .val (.long p6), .second, .val (.long (1152921504606846975 : Int64)), .second, .val (.long q0), .second, .val (.long q1), .second, .val (.long q2), .second, .val (.long q3), .second, .val (.ref b2), .unset, .unset, .unset, .unset, .unset, .unset, .unset, .unset, .unset, .unset, .unset] [(.long q0), (.int (0 : Int32)), (.ref b2)])) rfl rfl (hb hby at_42)
  have V3 : own_VA Z H3 b2 .long [(.long q0), (.long (0 : Int64)), (.long (0 : Int64)), (.long (0 : Int64))] := V3'
  have N3 := FF3 _ N0 gb2
  have Z3 : n0 ≤ H3.size := Nat.le_trans Z2 (Nat.le_of_eq W3.size.symm)
  obtain ⟨T4, H4, Ls4, X4, e4, V4', W4, FF4, st4⟩ := own_stJ X3 hx hZ e3 V3 (n := 4) (k := 1) rfl (by decide) (by decide) (g := (mkF m 51 #[.val (.int p1), .val (.int p2), .val (.long p3), .second, .val (.long p4), .second, .val (.long p5), .second, .val (.long p6), .second, .val (.long (1152921504606846975 : Int64)), .second, .val (.long q0), .second, .val (.long q1), .second, .val (.long q2), .second, .val (.long q3), .second, .val (.ref b2), .unset, .unset, .unset, .unset, .unset, .unset, .unset, .unset, .unset, .unset, .unset] [(.long (q0 + q1)), (.int (1 : Int32)), (.ref b2)])) rfl rfl (hb hby at_51)
  have V4 : own_VA Z H4 b2 .long [(.long q0), (.long (q0 + q1)), (.long (0 : Int64)), (.long (0 : Int64))] := V4'
  have N4 := FF4 _ N3 gb2
  have Z4 : n0 ≤ H4.size := Nat.le_trans Z3 (Nat.le_of_eq W4.size.symm)
  obtain ⟨T6, H6, Ls6, X6, e6, V6', W6, FF6, st6⟩ := own_stJ X4 hx hZ e4 V4 (n := 4) (k := 2) rfl (by decide) (by decide) (g := (mkF m 62 #[.val (.int p1), .val (.int p2), .val (.long p3), .second, .val (.long p4), .second, .val (.long p5), .second, .val (.long p6), .second, .val (.long (1152921504606846975 : Int64)), .second, .val (.long q0), .second, .val (.long q1), .second, .val (.long q2), .second, .val (.long q3), .second, .val (.ref b2), .unset, .unset, .unset, .unset, .unset, .unset, .unset, .unset, .unset, .unset, .unset] [(.long ((q0 + q1) + q2)), (.int (2 : Int32)), (.ref b2)])) rfl rfl (hb hby at_62)
  have V6 : own_VA Z H6 b2 .long [(.long q0), (.long (q0 + q1)), (.long ((q0 + q1) + q2)), (.long (0 : Int64))] := V6'
  have N6 := FF6 _ N4 gb2
  have Z6 : n0 ≤ H6.size := Nat.le_trans Z4 (Nat.le_of_eq W6.size.symm)
  obtain ⟨T8, H8, Ls8, X8, e8, V8', W8, FF8, st8⟩ := own_stJ X6 hx hZ e6 V6 (n := 4) (k := 3) rfl (by decide) (by decide) (g := (mkF m 73 #[.val (.int p1), .val (.int p2), .val (.long p3), .second, .val (.long p4), .second, .val (.long p5), .second, .val (.long p6), .second, .val (.long (1152921504606846975 : Int64)), .second, .val (.long q0), .second, .val (.long q1), .second, .val (.long q2), .second, .val (.long q3), .second, .val (.ref b2), .unset, .unset, .unset, .unset, .unset, .unset, .unset, .unset, .unset, .unset, .unset] [(.long (((q0 + q1) + q2) + q3)), (.int (3 : Int32)), (.ref b2)])) rfl rfl (hb hby at_73)
  have V8 : own_VA Z H8 b2 .long [(.long q0), (.long (q0 + q1)), (.long ((q0 + q1) + q2)), (.long (((q0 + q1) + q2) + q3))] := V8'
  have N8 := FF8 _ N6 gb2
  have Z8 : n0 ≤ H8.size := Nat.le_trans Z6 (Nat.le_of_eq W8.size.symm)
  obtain ⟨r1, hr1⟩ : ∃ z, z = q0 + q1 := ⟨_, rfl⟩
  obtain ⟨r2, hr2⟩ : ∃ z, z = r1 + q2 := ⟨_, rfl⟩
  obtain ⟨r3, hr3⟩ : ∃ z, z = r2 + q3 := ⟨_, rfl⟩
  have VR : own_VA Z H8 b2 .long [.long q0, .long r1, .long r2, .long r3] := by rw [hr3, hr2, hr1]; exact V8
  have pre9 : ∀ t, Steps p.tables e below (T8.setTop (mkF m 85 #[.val (.int p1), .val (.int p2), .val (.long p3), .second, .val (.long p4), .second, .val (.long p5), .second, .val (.long p6), .second, .val (.long (1152921504606846975 : Int64)), .second, .val (.long q0), .second, .val (.long q1), .second, .val (.long q2), .second, .val (.long q3), .second, .val (.ref b2), .val (.int (p2 &&& (7 : Int32))), .unset, .unset, .unset, .unset, .unset, .unset, .unset, .unset, .unset, .unset] [(.int ((XT.ushr p2 (3 : Int32)) &&& (1 : Int32)))])) t → Steps p.tables e below (s₁.setTop (entryFrame m #[(.int p1), (.int p2), (.long p3), (.long p4), (.long p5), (.long p6)] maxLocals)) t := by
    intro t k
    refine pre1 t ?_
    show Steps p.tables e below (s₁.setTop (mkF m 32 #[.val (.int p1), .val (.int p2), .val (.long p3), .second, .val (.long p4), .second, .val (.long p5), .second, .val (.long p6), .second, .val (.long (1152921504606846975 : Int64)), .second, .val (.long q0), .second, .val (.long q1), .second, .val (.long q2), .second, .val (.long q3), .second, .unset, .unset, .unset, .unset, .unset, .unset, .unset, .unset, .unset, .unset, .unset, .unset] [])) _
    refine XS.iconst X0.here hx rfl (hb hby at_32) ?_
    show Steps p.tables e below (s₁.setTop (mkF m 33 #[.val (.int p1), .val (.int p2), .val (.long p3), .second, .val (.long p4), .second, .val (.long p5), .second, .val (.long p6), .second, .val (.long (1152921504606846975 : Int64)), .second, .val (.long q0), .second, .val (.long q1), .second, .val (.long q2), .second, .val (.long q3), .second, .unset, .unset, .unset, .unset, .unset, .unset, .unset, .unset, .unset, .unset, .unset, .unset] [(.int (4 : Int32))])) _
    refine st2 _ ?_
    show Steps p.tables e below (T2.setTop (mkF m 35 #[.val (.int p1), .val (.int p2), .val (.long p3), .second, .val (.long p4), .second, .val (.long p5), .second, .val (.long p6), .second, .val (.long (1152921504606846975 : Int64)), .second, .val (.long q0), .second, .val (.long q1), .second, .val (.long q2), .second, .val (.long q3), .second, .unset, .unset, .unset, .unset, .unset, .unset, .unset, .unset, .unset, .unset, .unset, .unset] [(.ref b2)])) _
    refine XS.astore X2.here hx rfl (hb hby at_35) rfl rfl (l' := #[.val (.int p1), .val (.int p2), .val (.long p3), .second, .val (.long p4), .second, .val (.long p5), .second, .val (.long p6), .second, .val (.long (1152921504606846975 : Int64)), .second, .val (.long q0), .second, .val (.long q1), .second, .val (.long q2), .second, .val (.long q3), .second, .val (.ref b2), .unset, .unset, .unset, .unset, .unset, .unset, .unset, .unset, .unset, .unset, .unset]) rfl ?_
    show Steps p.tables e below (T2.setTop (mkF m 37 #[.val (.int p1), .val (.int p2), .val (.long p3), .second, .val (.long p4), .second, .val (.long p5), .second, .val (.long p6), .second, .val (.long (1152921504606846975 : Int64)), .second, .val (.long q0), .second, .val (.long q1), .second, .val (.long q2), .second, .val (.long q3), .second, .val (.ref b2), .unset, .unset, .unset, .unset, .unset, .unset, .unset, .unset, .unset, .unset, .unset] [])) _
    refine XS.aload X2.here hx rfl (hb hby at_37) rfl rfl ?_
    show Steps p.tables e below (T2.setTop (mkF m 39 #[.val (.int p1), .val (.int p2), .val (.long p3), .second, .val (.long p4), .second, .val (.long p5), .second, .val (.long p6), .second, .val (.long (1152921504606846975 : Int64)), .second, .val (.long q0), .second, .val (.long q1), .second, .val (.long q2), .second, .val (.long q3), .second, .val (.ref b2), .unset, .unset, .unset, .unset, .unset, .unset, .unset, .unset, .unset, .unset, .unset] [(.ref b2)])) _
    refine XS.iconst X2.here hx rfl (hb hby at_39) ?_
    show Steps p.tables e below (T2.setTop (mkF m 40 #[.val (.int p1), .val (.int p2), .val (.long p3), .second, .val (.long p4), .second, .val (.long p5), .second, .val (.long p6), .second, .val (.long (1152921504606846975 : Int64)), .second, .val (.long q0), .second, .val (.long q1), .second, .val (.long q2), .second, .val (.long q3), .second, .val (.ref b2), .unset, .unset, .unset, .unset, .unset, .unset, .unset, .unset, .unset, .unset, .unset] [(.int (0 : Int32)), (.ref b2)])) _
    refine XT.lload X2.here hx rfl (hb hby at_40) rfl ?_
    show Steps p.tables e below (T2.setTop (mkF m 42 #[.val (.int p1), .val (.int p2), .val (.long p3), .second, .val (.long p4), .second, .val (.long p5), .second, .val (.long p6), .second, .val (.long (1152921504606846975 : Int64)), .second, .val (.long q0), .second, .val (.long q1), .second, .val (.long q2), .second, .val (.long q3), .second, .val (.ref b2), .unset, .unset, .unset, .unset, .unset, .unset, .unset, .unset, .unset, .unset, .unset] [(.long q0), (.int (0 : Int32)), (.ref b2)])) _
    refine st3 _ ?_
    show Steps p.tables e below (T3.setTop (mkF m 43 #[.val (.int p1), .val (.int p2), .val (.long p3), .second, .val (.long p4), .second, .val (.long p5), .second, .val (.long p6), .second, .val (.long (1152921504606846975 : Int64)), .second, .val (.long q0), .second, .val (.long q1), .second, .val (.long q2), .second, .val (.long q3), .second, .val (.ref b2), .unset, .unset, .unset, .unset, .unset, .unset, .unset, .unset, .unset, .unset, .unset] [])) _
    refine XS.aload X3.here hx rfl (hb hby at_43) rfl rfl ?_
    show Steps p.tables e below (T3.setTop (mkF m 45 #[.val (.int p1), .val (.int p2), .val (.long p3), .second, .val (.long p4), .second, .val (.long p5), .second, .val (.long p6), .second, .val (.long (1152921504606846975 : Int64)), .second, .val (.long q0), .second, .val (.long q1), .second, .val (.long q2), .second, .val (.long q3), .second, .val (.ref b2), .unset, .unset, .unset, .unset, .unset, .unset, .unset, .unset, .unset, .unset, .unset] [(.ref b2)])) _
    refine XS.iconst X3.here hx rfl (hb hby at_45) ?_
    show Steps p.tables e below (T3.setTop (mkF m 46 #[.val (.int p1), .val (.int p2), .val (.long p3), .second, .val (.long p4), .second, .val (.long p5), .second, .val (.long p6), .second, .val (.long (1152921504606846975 : Int64)), .second, .val (.long q0), .second, .val (.long q1), .second, .val (.long q2), .second, .val (.long q3), .second, .val (.ref b2), .unset, .unset, .unset, .unset, .unset, .unset, .unset, .unset, .unset, .unset, .unset] [(.int (1 : Int32)), (.ref b2)])) _
    refine XT.lload X3.here hx rfl (hb hby at_46) rfl ?_
    show Steps p.tables e below (T3.setTop (mkF m 48 #[.val (.int p1), .val (.int p2), .val (.long p3), .second, .val (.long p4), .second, .val (.long p5), .second, .val (.long p6), .second, .val (.long (1152921504606846975 : Int64)), .second, .val (.long q0), .second, .val (.long q1), .second, .val (.long q2), .second, .val (.long q3), .second, .val (.ref b2), .unset, .unset, .unset, .unset, .unset, .unset, .unset, .unset, .unset, .unset, .unset] [(.long q0), (.int (1 : Int32)), (.ref b2)])) _
    refine XT.lload X3.here hx rfl (hb hby at_48) rfl ?_
    show Steps p.tables e below (T3.setTop (mkF m 50 #[.val (.int p1), .val (.int p2), .val (.long p3), .second, .val (.long p4), .second, .val (.long p5), .second, .val (.long p6), .second, .val (.long (1152921504606846975 : Int64)), .second, .val (.long q0), .second, .val (.long q1), .second, .val (.long q2), .second, .val (.long q3), .second, .val (.ref b2), .unset, .unset, .unset, .unset, .unset, .unset, .unset, .unset, .unset, .unset, .unset] [(.long q1), (.long q0), (.int (1 : Int32)), (.ref b2)])) _
    refine XT.ladd X3.here hx rfl (hb hby at_50) rfl ?_
    show Steps p.tables e below (T3.setTop (mkF m 51 #[.val (.int p1), .val (.int p2), .val (.long p3), .second, .val (.long p4), .second, .val (.long p5), .second, .val (.long p6), .second, .val (.long (1152921504606846975 : Int64)), .second, .val (.long q0), .second, .val (.long q1), .second, .val (.long q2), .second, .val (.long q3), .second, .val (.ref b2), .unset, .unset, .unset, .unset, .unset, .unset, .unset, .unset, .unset, .unset, .unset] [(.long (q0 + q1)), (.int (1 : Int32)), (.ref b2)])) _
    refine st4 _ ?_
    show Steps p.tables e below (T4.setTop (mkF m 52 #[.val (.int p1), .val (.int p2), .val (.long p3), .second, .val (.long p4), .second, .val (.long p5), .second, .val (.long p6), .second, .val (.long (1152921504606846975 : Int64)), .second, .val (.long q0), .second, .val (.long q1), .second, .val (.long q2), .second, .val (.long q3), .second, .val (.ref b2), .unset, .unset, .unset, .unset, .unset, .unset, .unset, .unset, .unset, .unset, .unset] [])) _
    refine XS.aload X4.here hx rfl (hb hby at_52) rfl rfl ?_
    show Steps p.tables e below (T4.setTop (mkF m 54 #[.val (.int p1), .val (.int p2), .val (.long p3), .second, .val (.long p4), .second, .val (.long p5), .second, .val (.long p6), .second, .val (.long (1152921504606846975 : Int64)), .second, .val (.long q0), .second, .val (.long q1), .second, .val (.long q2), .second, .val (.long q3), .second, .val (.ref b2), .unset, .unset, .unset, .unset, .unset, .unset, .unset, .unset, .unset, .unset, .unset] [(.ref b2)])) _
    refine XS.iconst X4.here hx rfl (hb hby at_54) ?_
    show Steps p.tables e below (T4.setTop (mkF m 55 #[.val (.int p1), .val (.int p2), .val (.long p3), .second, .val (.long p4), .second, .val (.long p5), .second, .val (.long p6), .second, .val (.long (1152921504606846975 : Int64)), .second, .val (.long q0), .second, .val (.long q1), .second, .val (.long q2), .second, .val (.long q3), .second, .val (.ref b2), .unset, .unset, .unset, .unset, .unset, .unset, .unset, .unset, .unset, .unset, .unset] [(.int (2 : Int32)), (.ref b2)])) _
    refine XS.aload X4.here hx rfl (hb hby at_55) rfl rfl ?_
    show Steps p.tables e below (T4.setTop (mkF m 57 #[.val (.int p1), .val (.int p2), .val (.long p3), .second, .val (.long p4), .second, .val (.long p5), .second, .val (.long p6), .second, .val (.long (1152921504606846975 : Int64)), .second, .val (.long q0), .second, .val (.long q1), .second, .val (.long q2), .second, .val (.long q3), .second, .val (.ref b2), .unset, .unset, .unset, .unset, .unset, .unset, .unset, .unset, .unset, .unset, .unset] [(.ref b2), (.int (2 : Int32)), (.ref b2)])) _
    refine XS.iconst X4.here hx rfl (hb hby at_57) ?_
    show Steps p.tables e below (T4.setTop (mkF m 58 #[.val (.int p1), .val (.int p2), .val (.long p3), .second, .val (.long p4), .second, .val (.long p5), .second, .val (.long p6), .second, .val (.long (1152921504606846975 : Int64)), .second, .val (.long q0), .second, .val (.long q1), .second, .val (.long q2), .second, .val (.long q3), .second, .val (.ref b2), .unset, .unset, .unset, .unset, .unset, .unset, .unset, .unset, .unset, .unset, .unset] [(.int (1 : Int32)), (.ref b2), (.int (2 : Int32)), (.ref b2)])) _
    refine own_ldJ X4 hx hZ e4 V4 (n := 4) (v := (.long (q0 + q1))) rfl (by decide) rfl (g := (mkF m 58 #[.val (.int p1), .val (.int p2), .val (.long p3), .second, .val (.long p4), .second, .val (.long p5), .second, .val (.long p6), .second, .val (.long (1152921504606846975 : Int64)), .second, .val (.long q0), .second, .val (.long q1), .second, .val (.long q2), .second, .val (.long q3), .second, .val (.ref b2), .unset, .unset, .unset, .unset, .unset, .unset, .unset, .unset, .unset, .unset, .unset] [(.int (1 : Int32)), (.ref b2), (.int (2 : Int32)), (.ref b2)])) rfl rfl (hb hby at_58) _ ?_
    show Steps p.tables e below (T4.setTop (mkF m 59 #[.val (.int p1), .val (.int p2), .val (.long p3), .second, .val (.long p4), .second, .val (.long p5), .second, .val (.long p6), .second, .val (.long (1152921504606846975 : Int64)), .second, .val (.long q0), .second, .val (.long q1), .second, .val (.long q2), .second, .val (.long q3), .second, .val (.ref b2), .unset, .unset, .unset, .unset, .unset, .unset, .unset, .unset, .unset, .unset, .unset] [(.long (q0 + q1)), (.int (2 : Int32)), (.ref b2)])) _
    refine XT.lload X4.here hx rfl (hb hby at_59) rfl ?_
    show Steps p.tables e below (T4.setTop (mkF m 61 #[.val (.int p1), .val (.int p2), .val (.long p3), .second, .val (.long p4), .second, .val (.long p5), .second, .val (.long p6), .second, .val (.long (1152921504606846975 : Int64)), .second, .val (.long q0), .second, .val (.long q1), .second, .val (.long q2), .second, .val (.long q3), .second, .val (.ref b2), .unset, .unset, .unset, .unset, .unset, .unset, .unset, .unset, .unset, .unset, .unset] [(.long q2), (.long (q0 + q1)), (.int (2 : Int32)), (.ref b2)])) _
    refine XT.ladd X4.here hx rfl (hb hby at_61) rfl ?_
    show Steps p.tables e below (T4.setTop (mkF m 62 #[.val (.int p1), .val (.int p2), .val (.long p3), .second, .val (.long p4), .second, .val (.long p5), .second, .val (.long p6), .second, .val (.long (1152921504606846975 : Int64)), .second, .val (.long q0), .second, .val (.long q1), .second, .val (.long q2), .second, .val (.long q3), .second, .val (.ref b2), .unset, .unset, .unset, .unset, .unset, .unset, .unset, .unset, .unset, .unset, .unset] [(.long ((q0 + q1) + q2)), (.int (2 : Int32)), (.ref b2)])) _
    refine st6 _ ?_
    show Steps p.tables e below (T6.setTop (mkF m 63 #[.val (.int p1), .val (.int p2), .val (.long p3), .second, .val (.long p4), .second, .val (.long p5), .second, .val (.long p6), .second, .val (.long (1152921504606846975 : Int64)), .second, .val (.long q0), .second, .val (.long q1), .second, .val (.long q2), .second, .val (.long q3), .second, .val (.ref b2), .unset, .unset, .unset, .unset, .unset, .unset, .unset, .unset, .unset, .unset, .unset] [])) _
    refine XS.aload X6.here hx rfl (hb hby at_63) rfl rfl ?_
    show Steps p.tables e below (T6.setTop (mkF m 65 #[.val (.int p1), .val (.int p2), .val (.long p3), .second, .val (.long p4), .second, .val (.long p5), .second, .val (.long p6), .second, .val (.long (1152921504606846975 : Int64)), .second, .val (.long q0), .second, .val (.long q1), .second, .val (.long q2), .second, .val (.long q3), .second, .val (.ref b2), .unset, .unset, .unset, .unset, .unset, .unset, .unset, .unset, .unset, .unset, .unset] [(.ref b2)])) _
    refine XS.iconst X6.here hx rfl (hb hby at_65) ?_
    show Steps p.tables e below (T6.setTop (mkF m 66 #[.val (.int p1), .val (.int p2), .val (.long p3), .second, .val (.long p4), .second, .val (.long p5), .second, .val (.long p6), .second, .val (.long (1152921504606846975 : Int64)), .second, .val (.long q0), .second, .val (.long q1), .second, .val (.long q2), .second, .val (.long q3), .second, .val (.ref b2), .unset, .unset, .unset, .unset, .unset, .unset, .unset, .unset, .unset, .unset, .unset] [(.int (3 : Int32)), (.ref b2)])) _
    refine XS.aload X6.here hx rfl (hb hby at_66) rfl rfl ?_
    show Steps p.tables e below (T6.setTop (mkF m 68 #[.val (.int p1), .val (.int p2), .val (.long p3), .second, .val (.long p4), .second, .val (.long p5), .second, .val (.long p6), .second, .val (.long (1152921504606846975 : Int64)), .second, .val (.long q0), .second, .val (.long q1), .second, .val (.long q2), .second, .val (.long q3), .second, .val (.ref b2), .unset, .unset, .unset, .unset, .unset, .unset, .unset, .unset, .unset, .unset, .unset] [(.ref b2), (.int (3 : Int32)), (.ref b2)])) _
    refine XS.iconst X6.here hx rfl (hb hby at_68) ?_
    show Steps p.tables e below (T6.setTop (mkF m 69 #[.val (.int p1), .val (.int p2), .val (.long p3), .second, .val (.long p4), .second, .val (.long p5), .second, .val (.long p6), .second, .val (.long (1152921504606846975 : Int64)), .second, .val (.long q0), .second, .val (.long q1), .second, .val (.long q2), .second, .val (.long q3), .second, .val (.ref b2), .unset, .unset, .unset, .unset, .unset, .unset, .unset, .unset, .unset, .unset, .unset] [(.int (2 : Int32)), (.ref b2), (.int (3 : Int32)), (.ref b2)])) _
    refine own_ldJ X6 hx hZ e6 V6 (n := 4) (v := (.long ((q0 + q1) + q2))) rfl (by decide) rfl (g := (mkF m 69 #[.val (.int p1), .val (.int p2), .val (.long p3), .second, .val (.long p4), .second, .val (.long p5), .second, .val (.long p6), .second, .val (.long (1152921504606846975 : Int64)), .second, .val (.long q0), .second, .val (.long q1), .second, .val (.long q2), .second, .val (.long q3), .second, .val (.ref b2), .unset, .unset, .unset, .unset, .unset, .unset, .unset, .unset, .unset, .unset, .unset] [(.int (2 : Int32)), (.ref b2), (.int (3 : Int32)), (.ref b2)])) rfl rfl (hb hby at_69) _ ?_
    show Steps p.tables e below (T6.setTop (mkF m 70 #[.val (.int p1), .val (.int p2), .val (.long p3), .second, .val (.long p4), .second, .val (.long p5), .second, .val (.long p6), .second, .val (.long (1152921504606846975 : Int64)), .second, .val (.long q0), .second, .val (.long q1), .second, .val (.long q2), .second, .val (.long q3), .second, .val (.ref b2), .unset, .unset, .unset, .unset, .unset, .unset, .unset, .unset, .unset, .unset, .unset] [(.long ((q0 + q1) + q2)), (.int (3 : Int32)), (.ref b2)])) _
    refine XT.lload X6.here hx rfl (hb hby at_70) rfl ?_
    show Steps p.tables e below (T6.setTop (mkF m 72 #[.val (.int p1), .val (.int p2), .val (.long p3), .second, .val (.long p4), .second, .val (.long p5), .second, .val (.long p6), .second, .val (.long (1152921504606846975 : Int64)), .second, .val (.long q0), .second, .val (.long q1), .second, .val (.long q2), .second, .val (.long q3), .second, .val (.ref b2), .unset, .unset, .unset, .unset, .unset, .unset, .unset, .unset, .unset, .unset, .unset] [(.long q3), (.long ((q0 + q1) + q2)), (.int (3 : Int32)), (.ref b2)])) _
    refine XT.ladd X6.here hx rfl (hb hby at_72) rfl ?_
    show Steps p.tables e below (T6.setTop (mkF m 73 #[.val (.int p1), .val (.int p2), .val (.long p3), .second, .val (.long p4), .second, .val (.long p5), .second, .val (.long p6), .second, .val (.long (1152921504606846975 : Int64)), .second, .val (.long q0), .second, .val (.long q1), .second, .val (.long q2), .second, .val (.long q3), .second, .val (.ref b2), .unset, .unset, .unset, .unset, .unset, .unset, .unset, .unset, .unset, .unset, .unset] [(.long (((q0 + q1) + q2) + q3)), (.int (3 : Int32)), (.ref b2)])) _
    refine st8 _ ?_
    show Steps p.tables e below (T8.setTop (mkF m 74 #[.val (.int p1), .val (.int p2), .val (.long p3), .second, .val (.long p4), .second, .val (.long p5), .second, .val (.long p6), .second, .val (.long (1152921504606846975 : Int64)), .second, .val (.long q0), .second, .val (.long q1), .second, .val (.long q2), .second, .val (.long q3), .second, .val (.ref b2), .unset, .unset, .unset, .unset, .unset, .unset, .unset, .unset, .unset, .unset, .unset] [])) _
    refine XS.iloadN X8.here hx rfl (hb hby at_74) rfl ?_
    show Steps p.tables e below (T8.setTop (mkF m 75 #[.val (.int p1), .val (.int p2), .val (.long p3), .second, .val (.long p4), .second, .val (.long p5), .second, .val (.long p6), .second, .val (.long (1152921504606846975 : Int64)), .second, .val (.long q0), .second, .val (.long q1), .second, .val (.long q2), .second, .val (.long q3), .second, .val (.ref b2), .unset, .unset, .unset, .unset, .unset, .unset, .unset, .unset, .unset, .unset, .unset] [(.int p2)])) _
    refine XS.bipush X8.here hx rfl (hb hby at_75) ?_
    show Steps p.tables e below (T8.setTop (mkF m 77 #[.val (.int p1), .val (.int p2), .val (.long p3), .second, .val (.long p4), .second, .val (.long p5), .second, .val (.long p6), .second, .val (.long (1152921504606846975 : Int64)), .second, .val (.long q0), .second, .val (.long q1), .second, .val (.long q2), .second, .val (.long q3), .second, .val (.ref b2), .unset, .unset, .unset, .unset, .unset, .unset, .unset, .unset, .unset, .unset, .unset] [(.int (7 : Int32)), (.int p2)])) _
    refine XS.iand X8.here hx rfl (hb hby at_77) rfl ?_
    show Steps p.tables e below (T8.setTop (mkF m 78 #[.val (.int p1), .val (.int p2), .val (.long p3), .second, .val (.long p4), .second, .val (.long p5), .second, .val (.long p6), .second, .val (.long (1152921504606846975 : Int64)), .second, .val (.long q0), .second, .val (.long q1), .second, .val (.long q2), .second, .val (.long q3), .second, .val (.ref b2), .unset, .unset, .unset, .unset, .unset, .unset, .unset, .unset, .unset, .unset, .unset] [(.int (p2 &&& (7 : Int32)))])) _
    refine XS.istore X8.here hx rfl (hb hby at_78) rfl (l' := #[.val (.int p1), .val (.int p2), .val (.long p3), .second, .val (.long p4), .second, .val (.long p5), .second, .val (.long p6), .second, .val (.long (1152921504606846975 : Int64)), .second, .val (.long q0), .second, .val (.long q1), .second, .val (.long q2), .second, .val (.long q3), .second, .val (.ref b2), .val (.int (p2 &&& (7 : Int32))), .unset, .unset, .unset, .unset, .unset, .unset, .unset, .unset, .unset, .unset]) rfl ?_
    show Steps p.tables e below (T8.setTop (mkF m 80 #[.val (.int p1), .val (.int p2), .val (.long p3), .second, .val (.long p4), .second, .val (.long p5), .second, .val (.long p6), .second, .val (.long (1152921504606846975 : Int64)), .second, .val (.long q0), .second, .val (.long q1), .second, .val (.long q2), .second, .val (.long q3), .second, .val (.ref b2), .val (.int (p2 &&& (7 : Int32))), .unset, .unset, .unset, .unset, .unset, .unset, .unset, .unset, .unset, .unset] [])) _
    refine XS.iloadN X8.here hx rfl (hb hby at_80) rfl ?_
    show Steps p.tables e below (T8.setTop (mkF m 81 #[.val (.int p1), .val (.int p2), .val (.long p3), .second, .val (.long p4), .second, .val (.long p5), .second, .val (.long p6), .second, .val (.long (1152921504606846975 : Int64)), .second, .val (.long q0), .second, .val (.long q1), .second, .val (.long q2), .second, .val (.long q3), .second, .val (.ref b2), .val (.int (p2 &&& (7 : Int32))), .unset, .unset, .unset, .unset, .unset, .unset, .unset, .unset, .unset, .unset] [(.int p2)])) _
    refine XS.iconst X8.here hx rfl (hb hby at_81) ?_
    show Steps p.tables e below (T8.setTop (mkF m 82 #[.val (.int p1), .val (.int p2), .val (.long p3), .second, .val (.long p4), .second, .val (.long p5), .second, .val (.long p6), .second, .val (.long (1152921504606846975 : Int64)), .second, .val (.long q0), .second, .val (.long q1), .second, .val (.long q2), .second, .val (.long q3), .second, .val (.ref b2), .val (.int (p2 &&& (7 : Int32))), .unset, .unset, .unset, .unset, .unset, .unset, .unset, .unset, .unset, .unset] [(.int (3 : Int32)), (.int p2)])) _
    refine XT.iushr X8.here hx rfl (hb hby at_82) rfl ?_
    show Steps p.tables e below (T8.setTop (mkF m 83 #[.val (.int p1), .val (.int p2), .val (.long p3), .second, .val (.long p4), .second, .val (.long p5), .second, .val (.long p6), .second, .val (.long (1152921504606846975 : Int64)), .second, .val (.long q0), .second, .val (.long q1), .second, .val (.long q2), .second, .val (.long q3), .second, .val (.ref b2), .val (.int (p2 &&& (7 : Int32))), .unset, .unset, .unset, .unset, .unset, .unset, .unset, .unset, .unset, .unset] [(.int (XT.ushr p2 (3 : Int32)))])) _
    refine XS.iconst X8.here hx rfl (hb hby at_83) ?_
    show Steps p.tables e below (T8.setTop (mkF m 84 #[.val (.int p1), .val (.int p2), .val (.long p3), .second, .val (.long p4), .second, .val (.long p5), .second, .val (.long p6), .second, .val (.long (1152921504606846975 : Int64)), .second, .val (.long q0), .second, .val (.long q1), .second, .val (.long q2), .second, .val (.long q3), .second, .val (.ref b2), .val (.int (p2 &&& (7 : Int32))), .unset, .unset, .unset, .unset, .unset, .unset, .unset, .unset, .unset, .unset] [(.int (1 : Int32)), (.int (XT.ushr p2 (3 : Int32)))])) _
    refine XS.iand X8.here hx rfl (hb hby at_84) rfl ?_
    show Steps p.tables e below (T8.setTop (mkF m 85 #[.val (.int p1), .val (.int p2), .val (.long p3), .second, .val (.long p4), .second, .val (.long p5), .second, .val (.long p6), .second, .val (.long (1152921504606846975 : Int64)), .second, .val (.long q0), .second, .val (.long q1), .second, .val (.long q2), .second, .val (.long q3), .second, .val (.ref b2), .val (.int (p2 &&& (7 : Int32))), .unset, .unset, .unset, .unset, .unset, .unset, .unset, .unset, .unset, .unset] [(.int ((XT.ushr p2 (3 : Int32)) &&& (1 : Int32)))])) _
    exact k
  obtain ⟨sd, d2, hJ13, pre13⟩ : ∃ (sd d2 : Int32), ((sd = 1 ∧ d2 = (p1 &&& (2147483647 : Int32))) ∨ (sd = 0 ∧ ¬ (p1 &&& (2147483647 : Int32)) = d2 ∧ ¬ d2 < 0)) ∧ ∀ t, Steps p.tables e below (T8.setTop (mkF m 121 #[.val (.int p1), .val (.int p2), .val (.long p3), .second, .val (.long p4), .second, .val (.long p5), .second, .val (.long p6), .second, .val (.long (1152921504606846975 : Int64)), .second, .val (.long q0), .second, .val (.long q1), .second, .val (.long q2), .second, .val (.long q3), .second, .val (.ref b2), .val (.int (p2 &&& (7 : Int32))), .val (.int sd), .val (.int (p1 &&& (2147483647 : Int32))), .val (.int d2), .unset, .unset, .unset, .unset, .unset, .unset, .unset] [])) t → Steps p.tables e below (s₁.setTop (entryFrame m #[(.int p1), (.int p2), (.long p3), (.long p4), (.long p5), (.long p6)] maxLocals)) t := by
    by_cases h85_10 : ((XT.ushr p2 (3 : Int32)) &&& (1 : Int32)) = (0 : Int32)
    · have h103_11 : ¬ ((1 : Int32) = (0 : Int32)) := by decide
      refine ⟨(1 : Int32), (p1 &&& (2147483647 : Int32)), Or.inl ⟨rfl, rfl⟩, fun t k => ?_⟩
      refine pre9 t ?_
      refine XS.ifNo X8.here hx rfl (hb hby at_85) rfl ((if0 _ _).trans (teq h85_10).2) ?_
      show Steps p.tables e below (T8.setTop (mkF m 88 #[.val (.int p1), .val (.int p2), .val (.long p3), .second, .val (.long p4), .second, .val (.long p5), .second, .val (.long p6), .second, .val (.long (1152921504606846975 : Int64)), .second, .val (.long q0), .second, .val (.long q1), .second, .val (.long q2), .second, .val (.long q3), .second, .val (.ref b2), .val (.int (p2 &&& (7 : Int32))), .unset, .unset, .unset, .unset, .unset, .unset, .unset, .unset, .unset, .unset] [])) _
      refine XS.iconst X8.here hx rfl (hb hby at_88) ?_
      show Steps p.tables e below (T8.setTop (mkF m 89 #[.val (.int p1), .val (.int p2), .val (.long p3), .second, .val (.long p4), .second, .val (.long p5), .second, .val (.long p6), .second, .val (.long (1152921504606846975 : Int64)), .second, .val (.long q0), .second, .val (.long q1), .second, .val (.long q2), .second, .val (.long q3), .second, .val (.ref b2), .val (.int (p2 &&& (7 : Int32))), .unset, .unset, .unset, .unset, .unset, .unset, .unset, .unset, .unset, .unset] [(.int (1 : Int32))])) _
      refine XS.goto X8.here hx rfl (pc0 := 89) (pc' := 93) rfl (hb hby at_89) (by decide) (by decide) ?_
      show Steps p.tables e below (T8.setTop (mkF m 93 #[.val (.int p1), .val (.int p2), .val (.long p3), .second, .val (.long p4), .second, .val (.long p5), .second, .val (.long p6), .second, .val (.long (1152921504606846975 : Int64)), .second, .val (.long q0), .second, .val (.long q1), .second, .val (.long q2), .second, .val (.long q3), .second, .val (.ref b2), .val (.int (p2 &&& (7 : Int32))), .unset, .unset, .unset, .unset, .unset, .unset, .unset, .unset, .unset, .unset] [(.int (1 : Int32))])) _
      refine XS.istore X8.here hx rfl (hb hby at_93) rfl (l' := #[.val (.int p1), .val (.int p2), .val (.long p3), .second, .val (.long p4), .second, .val (.long p5), .second, .val (.long p6), .second, .val (.long (1152921504606846975 : Int64)), .second, .val (.long q0), .second, .val (.long q1), .second, .val (.long q2), .second, .val (.long q3), .second, .val (.ref b2), .val (.int (p2 &&& (7 : Int32))), .val (.int (1 : Int32)), .unset, .unset, .unset, .unset, .unset, .unset, .unset, .unset, .unset]) rfl ?_
      show Steps p.tables e below (T8.setTop (mkF m 95 #[.val (.int p1), .val (.int p2), .val (.long p3), .second, .val (.long p4), .second, .val (.long p5), .second, .val (.long p6), .second, .val (.long (1152921504606846975 : Int64)), .second, .val (.long q0), .second, .val (.long q1), .second, .val (.long q2), .second, .val (.long q3), .second, .val (.ref b2), .val (.int (p2 &&& (7 : Int32))), .val (.int (1 : Int32)), .unset, .unset, .unset, .unset, .unset, .unset, .unset, .unset, .unset] [])) _
      refine XS.iloadN X8.here hx rfl (hb hby at_95) rfl ?_
      show Steps p.tables e below (T8.setTop (mkF m 96 #[.val (.int p1), .val (.int p2), .val (.long p3), .second, .val (.long p4), .second, .val (.long p5), .second, .val (.long p6), .second, .val (.long (1152921504606846975 : Int64)), .second, .val (.long q0), .second, .val (.long q1), .second, .val (.long q2), .second, .val (.long q3), .second, .val (.ref b2), .val (.int (p2 &&& (7 : Int32))), .val (.int (1 : Int32)), .unset, .unset, .unset, .unset, .unset, .unset, .unset, .unset, .unset] [(.int p1)])) _
      refine X8.ldcInt hx hown (mvT hZ (hw _ (List.mem_of_getElem? (i := 2) rfl))) (g := (mkF m 96 #[.val (.int p1), .val (.int p2), .val (.long p3), .second, .val (.long p4), .second, .val (.long p5), .second, .val (.long p6), .second, .val (.long (1152921504606846975 : Int64)), .second, .val (.long q0), .second, .val (.long q1), .second, .val (.long q2), .second, .val (.long q3), .second, .val (.ref b2), .val (.int (p2 &&& (7 : Int32))), .val (.int (1 : Int32)), .unset, .unset, .unset, .unset, .unset, .unset, .unset, .unset, .unset] [(.int p1)])) rfl (hb hby at_96) _ ?_
      show Steps p.tables e below (T8.setTop (mkF m 98 #[.val (.int p1), .val (.int p2), .val (.long p3), .second, .val (.long p4), .second, .val (.long p5), .second, .val (.long p6), .second, .val (.long (1152921504606846975 : Int64)), .second, .val (.long q0), .second, .val (.long q1), .second, .val (.long q2), .second, .val (.long q3), .second, .val (.ref b2), .val (.int (p2 &&& (7 : Int32))), .val (.int (1 : Int32)), .unset, .unset, .unset, .unset, .unset, .unset, .unset, .unset, .unset] [(.int (2147483647 : Int32)), (.int p1)])) _
      refine XS.iand X8.here hx rfl (hb hby at_98) rfl ?_
      show Steps p.tables e below (T8.setTop (mkF m 99 #[.val (.int p1), .val (.int p2), .val (.long p3), .second, .val (.long p4), .second, .val (.long p5), .second, .val (.long p6), .second, .val (.long (1152921504606846975 : Int64)), .second, .val (.long q0), .second, .val (.long q1), .second, .val (.long q2), .second, .val (.long q3), .second, .val (.ref b2), .val (.int (p2 &&& (7 : Int32))), .val (.int (1 : Int32)), .unset, .unset, .unset, .unset, .unset, .unset, .unset, .unset, .unset] [(.int (p1 &&& (2147483647 : Int32)))])) _
      refine XS.istore X8.here hx rfl (hb hby at_99) rfl (l' := #[.val (.int p1), .val (.int p2), .val (.long p3), .second, .val (.long p4), .second, .val (.long p5), .second, .val (.long p6), .second, .val (.long (1152921504606846975 : Int64)), .second, .val (.long q0), .second, .val (.long q1), .second, .val (.long q2), .second, .val (.long q3), .second, .val (.ref b2), .val (.int (p2 &&& (7 : Int32))), .val (.int (1 : Int32)), .val (.int (p1 &&& (2147483647 : Int32))), .unset, .unset, .unset, .unset, .unset, .unset, .unset, .unset]) rfl ?_
      show Steps p.tables e below (T8.setTop (mkF m 101 #[.val (.int p1), .val (.int p2), .val (.long p3), .second, .val (.long p4), .second, .val (.long p5), .second, .val (.long p6), .second, .val (.long (1152921504606846975 : Int64)), .second, .val (.long q0), .second, .val (.long q1), .second, .val (.long q2), .second, .val (.long q3), .second, .val (.ref b2), .val (.int (p2 &&& (7 : Int32))), .val (.int (1 : Int32)), .val (.int (p1 &&& (2147483647 : Int32))), .unset, .unset, .unset, .unset, .unset, .unset, .unset, .unset] [])) _
      refine XS.iload X8.here hx rfl (hb hby at_101) rfl ?_
      show Steps p.tables e below (T8.setTop (mkF m 103 #[.val (.int p1), .val (.int p2), .val (.long p3), .second, .val (.long p4), .second, .val (.long p5), .second, .val (.long p6), .second, .val (.long (1152921504606846975 : Int64)), .second, .val (.long q0), .second, .val (.long q1), .second, .val (.long q2), .second, .val (.long q3), .second, .val (.ref b2), .val (.int (p2 &&& (7 : Int32))), .val (.int (1 : Int32)), .val (.int (p1 &&& (2147483647 : Int32))), .unset, .unset, .unset, .unset, .unset, .unset, .unset, .unset] [(.int (1 : Int32))])) _
      refine XS.ifNo X8.here hx rfl (hb hby at_103) rfl ((if0 _ _).trans (feq h103_11).1) ?_
      show Steps p.tables e below (T8.setTop (mkF m 106 #[.val (.int p1), .val (.int p2), .val (.long p3), .second, .val (.long p4), .second, .val (.long p5), .second, .val (.long p6), .second, .val (.long (1152921504606846975 : Int64)), .second, .val (.long q0), .second, .val (.long q1), .second, .val (.long q2), .second, .val (.long q3), .second, .val (.ref b2), .val (.int (p2 &&& (7 : Int32))), .val (.int (1 : Int32)), .val (.int (p1 &&& (2147483647 : Int32))), .unset, .unset, .unset, .unset, .unset, .unset, .unset, .unset] [])) _
      refine XS.iload X8.here hx rfl (hb hby at_106) rfl ?_
      show Steps p.tables e below (T8.setTop (mkF m 108 #[.val (.int p1), .val (.int p2), .val (.long p3), .second, .val (.long p4), .second, .val (.long p5), .second, .val (.long p6), .second, .val (.long (1152921504606846975 : Int64)), .second, .val (.long q0), .second, .val (.long q1), .second, .val (.long q2), .second, .val (.long q3), .second, .val (.ref b2), .val (.int (p2 &&& (7 : Int32))), .val (.int (1 : Int32)), .val (.int (p1 &&& (2147483647 : Int32))), .unset, .unset, .unset, .unset, .unset, .unset, .unset, .unset] [(.int (p1 &&& (2147483647 : Int32)))])) _
      refine XS.goto X8.here hx rfl (pc0 := 108) (pc' := 119) rfl (hb hby at_108) (by decide) (by decide) ?_
      show Steps p.tables e below (T8.setTop (mkF m 119 #[.val (.int p1), .val (.int p2), .val (.long p3), .second, .val (.long p4), .second, .val (.long p5), .second, .val (.long p6), .second, .val (.long (1152921504606846975 : Int64)), .second, .val (.long q0), .second, .val (.long q1), .second, .val (.long q2), .second, .val (.long q3), .second, .val (.ref b2), .val (.int (p2 &&& (7 : Int32))), .val (.int (1 : Int32)), .val (.int (p1 &&& (2147483647 : Int32))), .unset, .unset, .unset, .unset, .unset, .unset, .unset, .unset] [(.int (p1 &&& (2147483647 : Int32)))])) _
      refine XS.istore X8.here hx rfl (hb hby at_119) rfl (l' := #[.val (.int p1), .val (.int p2), .val (.long p3), .second, .val (.long p4), .second, .val (.long p5), .second, .val (.long p6), .second, .val (.long (1152921504606846975 : Int64)), .second, .val (.long q0), .second, .val (.long q1), .second, .val (.long q2), .second, .val (.long q3), .second, .val (.ref b2), .val (.int (p2 &&& (7 : Int32))), .val (.int (1 : Int32)), .val (.int (p1 &&& (2147483647 : Int32))), .val (.int (p1 &&& (2147483647 : Int32))), .unset, .unset, .unset, .unset, .unset, .unset, .unset]) rfl ?_
      show Steps p.tables e below (T8.setTop (mkF m 121 #[.val (.int p1), .val (.int p2), .val (.long p3), .second, .val (.long p4), .second, .val (.long p5), .second, .val (.long p6), .second, .val (.long (1152921504606846975 : Int64)), .second, .val (.long q0), .second, .val (.long q1), .second, .val (.long q2), .second, .val (.long q3), .second, .val (.ref b2), .val (.int (p2 &&& (7 : Int32))), .val (.int (1 : Int32)), .val (.int (p1 &&& (2147483647 : Int32))), .val (.int (p1 &&& (2147483647 : Int32))), .unset, .unset, .unset, .unset, .unset, .unset, .unset] [])) _
      exact k
    · have h103_12 : (0 : Int32) = (0 : Int32) := by decide
      refine ⟨(0 : Int32), ((p1 &&& (2147483647 : Int32)) ^^^ ((XT.ushr p2 (4 : Int32)) ||| (1 : Int32))), Or.inr ⟨rfl, own_dne _ _, own_dnn _ _⟩, fun t k => ?_⟩
      refine pre9 t ?_
      refine XS.ifYes X8.here hx rfl (pc0 := 85) (pc' := 92) rfl (hb hby at_85) rfl ((if0 _ _).trans (feq h85_10).2) (by decide) (by decide) ?_
      show Steps p.tables e below (T8.setTop (mkF m 92 #[.val (.int p1), .val (.int p2), .val (.long p3), .second, .val (.long p4), .second, .val (.long p5), .second, .val (.long p6), .second, .val (.long (1152921504606846975 : Int64)), .second, .val (.long q0), .second, .val (.long q1), .second, .val (.long q2), .second, .val (.long q3), .second, .val (.ref b2), .val (.int (p2 &&& (7 : Int32))), .unset, .unset, .unset, .unset, .unset, .unset, .unset, .unset, .unset, .unset] [])) _
      refine XS.iconst X8.here hx rfl (hb hby at_92) ?_
      show Steps p.tables e below (T8.setTop (mkF m 93 #[.val (.int p1), .val (.int p2), .val (.long p3), .second, .val (.long p4), .second, .val (.long p5), .second, .val (.long p6), .second, .val (.long (1152921504606846975 : Int64)), .second, .val (.long q0), .second, .val (.long q1), .second, .val (.long q2), .second, .val (.long q3), .second, .val (.ref b2), .val (.int (p2 &&& (7 : Int32))), .unset, .unset, .unset, .unset, .unset, .unset, .unset, .unset, .unset, .unset] [(.int (0 : Int32))])) _
      refine XS.istore X8.here hx rfl (hb hby at_93) rfl (l' := #[.val (.int p1), .val (.int p2), .val (.long p3), .second, .val (.long p4), .second, .val (.long p5), .second, .val (.long p6), .second, .val (.long (1152921504606846975 : Int64)), .second, .val (.long q0), .second, .val (.long q1), .second, .val (.long q2), .second, .val (.long q3), .second, .val (.ref b2), .val (.int (p2 &&& (7 : Int32))), .val (.int (0 : Int32)), .unset, .unset, .unset, .unset, .unset, .unset, .unset, .unset, .unset]) rfl ?_
      show Steps p.tables e below (T8.setTop (mkF m 95 #[.val (.int p1), .val (.int p2), .val (.long p3), .second, .val (.long p4), .second, .val (.long p5), .second, .val (.long p6), .second, .val (.long (1152921504606846975 : Int64)), .second, .val (.long q0), .second, .val (.long q1), .second, .val (.long q2), .second, .val (.long q3), .second, .val (.ref b2), .val (.int (p2 &&& (7 : Int32))), .val (.int (0 : Int32)), .unset, .unset, .unset, .unset, .unset, .unset, .unset, .unset, .unset] [])) _
      refine XS.iloadN X8.here hx rfl (hb hby at_95) rfl ?_
      show Steps p.tables e below (T8.setTop (mkF m 96 #[.val (.int p1), .val (.int p2), .val (.long p3), .second, .val (.long p4), .second, .val (.long p5), .second, .val (.long p6), .second, .val (.long (1152921504606846975 : Int64)), .second, .val (.long q0), .second, .val (.long q1), .second, .val (.long q2), .second, .val (.long q3), .second, .val (.ref b2), .val (.int (p2 &&& (7 : Int32))), .val (.int (0 : Int32)), .unset, .unset, .unset, .unset, .unset, .unset, .unset, .unset, .unset] [(.int p1)])) _
      refine X8.ldcInt hx hown (mvT hZ (hw _ (List.mem_of_getElem? (i := 2) rfl))) (g := (mkF m 96 #[.val (.int p1), .val (.int p2), .val (.long p3), .second, .val (.long p4), .second, .val (.long p5), .second, .val (.long p6), .second, .val (.long (1152921504606846975 : Int64)), .second, .val (.long q0), .second, .val (.long q1), .second, .val (.long q2), .second, .val (.long q3), .second, .val (.ref b2), .val (.int (p2 &&& (7 : Int32))), .val (.int (0 : Int32)), .unset, .unset, .unset, .unset, .unset, .unset, .unset, .unset, .unset] [(.int p1)])) rfl (hb hby at_96) _ ?_
      show Steps p.tables e below (T8.setTop (mkF m 98 #[.val (.int p1), .val (.int p2), .val (.long p3), .second, .val (.long p4), .second, .val (.long p5), .second, .val (.long p6), .second, .val (.long (1152921504606846975 : Int64)), .second, .val (.long q0), .second, .val (.long q1), .second, .val (.long q2), .second, .val (.long q3), .second, .val (.ref b2), .val (.int (p2 &&& (7 : Int32))), .val (.int (0 : Int32)), .unset, .unset, .unset, .unset, .unset, .unset, .unset, .unset, .unset] [(.int (2147483647 : Int32)), (.int p1)])) _
      refine XS.iand X8.here hx rfl (hb hby at_98) rfl ?_
      show Steps p.tables e below (T8.setTop (mkF m 99 #[.val (.int p1), .val (.int p2), .val (.long p3), .second, .val (.long p4), .second, .val (.long p5), .second, .val (.long p6), .second, .val (.long (1152921504606846975 : Int64)), .second, .val (.long q0), .second, .val (.long q1), .second, .val (.long q2), .second, .val (.long q3), .second, .val (.ref b2), .val (.int (p2 &&& (7 : Int32))), .val (.int (0 : Int32)), .unset, .unset, .unset, .unset, .unset, .unset, .unset, .unset, .unset] [(.int (p1 &&& (2147483647 : Int32)))])) _
      refine XS.istore X8.here hx rfl (hb hby at_99) rfl (l' := #[.val (.int p1), .val (.int p2), .val (.long p3), .second, .val (.long p4), .second, .val (.long p5), .second, .val (.long p6), .second, .val (.long (1152921504606846975 : Int64)), .second, .val (.long q0), .second, .val (.long q1), .second, .val (.long q2), .second, .val (.long q3), .second, .val (.ref b2), .val (.int (p2 &&& (7 : Int32))), .val (.int (0 : Int32)), .val (.int (p1 &&& (2147483647 : Int32))), .unset, .unset, .unset, .unset, .unset, .unset, .unset, .unset]) rfl ?_
      show Steps p.tables e below (T8.setTop (mkF m 101 #[.val (.int p1), .val (.int p2), .val (.long p3), .second, .val (.long p4), .second, .val (.long p5), .second, .val (.long p6), .second, .val (.long (1152921504606846975 : Int64)), .second, .val (.long q0), .second, .val (.long q1), .second, .val (.long q2), .second, .val (.long q3), .second, .val (.ref b2), .val (.int (p2 &&& (7 : Int32))), .val (.int (0 : Int32)), .val (.int (p1 &&& (2147483647 : Int32))), .unset, .unset, .unset, .unset, .unset, .unset, .unset, .unset] [])) _
      refine XS.iload X8.here hx rfl (hb hby at_101) rfl ?_
      show Steps p.tables e below (T8.setTop (mkF m 103 #[.val (.int p1), .val (.int p2), .val (.long p3), .second, .val (.long p4), .second, .val (.long p5), .second, .val (.long p6), .second, .val (.long (1152921504606846975 : Int64)), .second, .val (.long q0), .second, .val (.long q1), .second, .val (.long q2), .second, .val (.long q3), .second, .val (.ref b2), .val (.int (p2 &&& (7 : Int32))), .val (.int (0 : Int32)), .val (.int (p1 &&& (2147483647 : Int32))), .unset, .unset, .unset, .unset, .unset, .unset, .unset, .unset] [(.int (0 : Int32))])) _
      refine XS.ifYes X8.here hx rfl (pc0 := 103) (pc' := 111) rfl (hb hby at_103) rfl ((if0 _ _).trans (teq h103_12).1) (by decide) (by decide) ?_
      show Steps p.tables e below (T8.setTop (mkF m 111 #[.val (.int p1), .val (.int p2), .val (.long p3), .second, .val (.long p4), .second, .val (.long p5), .second, .val (.long p6), .second, .val (.long (1152921504606846975 : Int64)), .second, .val (.long q0), .second, .val (.long q1), .second, .val (.long q2), .second, .val (.long q3), .second, .val (.ref b2), .val (.int (p2 &&& (7 : Int32))), .val (.int (0 : Int32)), .val (.int (p1 &&& (2147483647 : Int32))), .unset, .unset, .unset, .unset, .unset, .unset, .unset, .unset] [])) _
      refine XS.iload X8.here hx rfl (hb hby at_111) rfl ?_
      show Steps p.tables e below (T8.setTop (mkF m 113 #[.val (.int p1), .val (.int p2), .val (.long p3), .second, .val (.long p4), .second, .val (.long p5), .second, .val (.long p6), .second, .val (.long (1152921504606846975 : Int64)), .second, .val (.long q0), .second, .val (.long q1), .second, .val (.long q2), .second, .val (.long q3), .second, .val (.ref b2), .val (.int (p2 &&& (7 : Int32))), .val (.int (0 : Int32)), .val (.int (p1 &&& (2147483647 : Int32))), .unset, .unset, .unset, .unset, .unset, .unset, .unset, .unset] [(.int (p1 &&& (2147483647 : Int32)))])) _
      refine XS.iloadN X8.here hx rfl (hb hby at_113) rfl ?_
      show Steps p.tables e below (T8.setTop (mkF m 114 #[.val (.int p1), .val (.int p2), .val (.long p3), .second, .val (.long p4), .second, .val (.long p5), .second, .val (.long p6), .second, .val (.long (1152921504606846975 : Int64)), .second, .val (.long q0), .second, .val (.long q1), .second, .val (.long q2), .second, .val (.long q3), .second, .val (.ref b2), .val (.int (p2 &&& (7 : Int32))), .val (.int (0 : Int32)), .val (.int (p1 &&& (2147483647 : Int32))), .unset, .unset, .unset, .unset, .unset, .unset, .unset, .unset] [(.int p2), (.int (p1 &&& (2147483647 : Int32)))])) _
      refine XS.iconst X8.here hx rfl (hb hby at_114) ?_
      show Steps p.tables e below (T8.setTop (mkF m 115 #[.val (.int p1), .val (.int p2), .val (.long p3), .second, .val (.long p4), .second, .val (.long p5), .second, .val (.long p6), .second, .val (.long (1152921504606846975 : Int64)), .second, .val (.long q0), .second, .val (.long q1), .second, .val (.long q2), .second, .val (.long q3), .second, .val (.ref b2), .val (.int (p2 &&& (7 : Int32))), .val (.int (0 : Int32)), .val (.int (p1 &&& (2147483647 : Int32))), .unset, .unset, .unset, .unset, .unset, .unset, .unset, .unset] [(.int (4 : Int32)), (.int p2), (.int (p1 &&& (2147483647 : Int32)))])) _
      refine XT.iushr X8.here hx rfl (hb hby at_115) rfl ?_
      show Steps p.tables e below (T8.setTop (mkF m 116 #[.val (.int p1), .val (.int p2), .val (.long p3), .second, .val (.long p4), .second, .val (.long p5), .second, .val (.long p6), .second, .val (.long (1152921504606846975 : Int64)), .second, .val (.long q0), .second, .val (.long q1), .second, .val (.long q2), .second, .val (.long q3), .second, .val (.ref b2), .val (.int (p2 &&& (7 : Int32))), .val (.int (0 : Int32)), .val (.int (p1 &&& (2147483647 : Int32))), .unset, .unset, .unset, .unset, .unset, .unset, .unset, .unset] [(.int (XT.ushr p2 (4 : Int32))), (.int (p1 &&& (2147483647 : Int32)))])) _
      refine XS.iconst X8.here hx rfl (hb hby at_116) ?_
      show Steps p.tables e below (T8.setTop (mkF m 117 #[.val (.int p1), .val (.int p2), .val (.long p3), .second, .val (.long p4), .second, .val (.long p5), .second, .val (.long p6), .second, .val (.long (1152921504606846975 : Int64)), .second, .val (.long q0), .second, .val (.long q1), .second, .val (.long q2), .second, .val (.long q3), .second, .val (.ref b2), .val (.int (p2 &&& (7 : Int32))), .val (.int (0 : Int32)), .val (.int (p1 &&& (2147483647 : Int32))), .unset, .unset, .unset, .unset, .unset, .unset, .unset, .unset] [(.int (1 : Int32)), (.int (XT.ushr p2 (4 : Int32))), (.int (p1 &&& (2147483647 : Int32)))])) _
      refine XT.ior X8.here hx rfl (hb hby at_117) rfl ?_
      show Steps p.tables e below (T8.setTop (mkF m 118 #[.val (.int p1), .val (.int p2), .val (.long p3), .second, .val (.long p4), .second, .val (.long p5), .second, .val (.long p6), .second, .val (.long (1152921504606846975 : Int64)), .second, .val (.long q0), .second, .val (.long q1), .second, .val (.long q2), .second, .val (.long q3), .second, .val (.ref b2), .val (.int (p2 &&& (7 : Int32))), .val (.int (0 : Int32)), .val (.int (p1 &&& (2147483647 : Int32))), .unset, .unset, .unset, .unset, .unset, .unset, .unset, .unset] [(.int ((XT.ushr p2 (4 : Int32)) ||| (1 : Int32))), (.int (p1 &&& (2147483647 : Int32)))])) _
      refine XT.ixor X8.here hx rfl (hb hby at_118) rfl ?_
      show Steps p.tables e below (T8.setTop (mkF m 119 #[.val (.int p1), .val (.int p2), .val (.long p3), .second, .val (.long p4), .second, .val (.long p5), .second, .val (.long p6), .second, .val (.long (1152921504606846975 : Int64)), .second, .val (.long q0), .second, .val (.long q1), .second, .val (.long q2), .second, .val (.long q3), .second, .val (.ref b2), .val (.int (p2 &&& (7 : Int32))), .val (.int (0 : Int32)), .val (.int (p1 &&& (2147483647 : Int32))), .unset, .unset, .unset, .unset, .unset, .unset, .unset, .unset] [(.int ((p1 &&& (2147483647 : Int32)) ^^^ ((XT.ushr p2 (4 : Int32)) ||| (1 : Int32))))])) _
      refine XS.istore X8.here hx rfl (hb hby at_119) rfl (l' := #[.val (.int p1), .val (.int p2), .val (.long p3), .second, .val (.long p4), .second, .val (.long p5), .second, .val (.long p6), .second, .val (.long (1152921504606846975 : Int64)), .second, .val (.long q0), .second, .val (.long q1), .second, .val (.long q2), .second, .val (.long q3), .second, .val (.ref b2), .val (.int (p2 &&& (7 : Int32))), .val (.int (0 : Int32)), .val (.int (p1 &&& (2147483647 : Int32))), .val (.int ((p1 &&& (2147483647 : Int32)) ^^^ ((XT.ushr p2 (4 : Int32)) ||| (1 : Int32)))), .unset, .unset, .unset, .unset, .unset, .unset, .unset]) rfl ?_
      show Steps p.tables e below (T8.setTop (mkF m 121 #[.val (.int p1), .val (.int p2), .val (.long p3), .second, .val (.long p4), .second, .val (.long p5), .second, .val (.long p6), .second, .val (.long (1152921504606846975 : Int64)), .second, .val (.long q0), .second, .val (.long q1), .second, .val (.long q2), .second, .val (.long q3), .second, .val (.ref b2), .val (.int (p2 &&& (7 : Int32))), .val (.int (0 : Int32)), .val (.int (p1 &&& (2147483647 : Int32))), .val (.int ((p1 &&& (2147483647 : Int32)) ^^^ ((XT.ushr p2 (4 : Int32)) ||| (1 : Int32)))), .unset, .unset, .unset, .unset, .unset, .unset, .unset] [])) _
      exact k
  obtain ⟨d1, hd1⟩ : ∃ z, z = (p1 &&& (2147483647 : Int32)) := ⟨_, rfl⟩
  have hdn : ¬ (d1 < (0 : Int32)) := by rw [hd1]; exact own_nn _
  rw [← hd1] at pre13 hJ13
  have hd2 : ¬ (d2 < (0 : Int32)) := by
    rcases hJ13 with ⟨_, q⟩ | ⟨_, _, q⟩
    · rw [q]; exact hdn
    · exact q
  obtain ⟨T14, H14, cA14, X14, e14, E14, A14, st14⟩ := newP X8 hx hZ (aty := .int) (hw _ (List.mem_of_getElem? (i := 3) rfl)) e8 (g := (mkF m 123 #[.val (.int p1), .val (.int p2), .val (.long p3), .second, .val (.long p4), .second, .val (.long p5), .second, .val (.long p6), .second, .val (.long (1152921504606846975 : Int64)), .second, .val (.long q0), .second, .val (.long q1), .second, .val (.long q2), .second, .val (.long q3), .second, .val (.ref b2), .val (.int (p2 &&& (7 : Int32))), .val (.int sd), .val (.int d1), .val (.int d2), .unset, .unset, .unset, .unset, .unset, .unset, .unset] [(.int (8 : Int32))])) rfl (hb hby at_123) rfl (by decide) (cap := 8) (by decide) (by decide) (by decide) (by decide)
  obtain ⟨b14, g14⟩ : ∃ z, z = H8.size := ⟨_, rfl⟩
  rw [← g14] at A14 st14
  have V14 : own_VA Z H14 b14 .int [(.int (0 : Int32)), (.int (0 : Int32)), (.int (0 : Int32)), (.int (0 : Int32)), (.int (0 : Int32)), (.int (0 : Int32)), (.int (0 : Int32)), (.int (0 : Int32))] := own_VA_new (ty := .int) A14 (k := 8) (by decide)
  have Z14 : n0 ≤ H14.size := Nat.le_trans Z8 E14.1
  have gb14 : n0 ≤ b14 := Nat.le_trans Z8 (Nat.le_of_eq g14.symm)
  have lt_b2_b14 : b2 < b14 := Nat.lt_of_lt_of_le (own_VA_lt VR) (Nat.le_of_eq g14.symm)
  have Ab2_15 := own_VA_ext VR E14
  obtain ⟨T16, H16, Ls16, X16, e16, V16', W16, FF16, st16⟩ := own_stI X14 hx hZ e14 V14 (n := 8) (k := 0) rfl (by decide) (by decide) (g := (mkF m 128 #[.val (.int p1), .val (.int p2), .val (.long p3), .second, .val (.long p4), .second, .val (.long p5), .second, .val (.long p6), .second, .val (.long (1152921504606846975 : Int64)), .second, .val (.long q0), .second, .val (.long q1), .second, .val (.long q2), .second, .val (.long q3), .second, .val (.ref b2), .val (.int (p2 &&& (7 : Int32))), .val (.int sd), .val (.int d1), .val (.int d2), .unset, .unset, .unset, .unset, .unset, .unset, .unset] [(.int (0 : Int32)), (.int (0 : Int32)), (.ref b14), (.ref b14)])) rfl rfl (hb hby at_128)
  have V16 : own_VA Z H16 b14 .int [(.int (0 : Int32)), (.int (0 : Int32)), (.int (0 : Int32)), (.int (0 : Int32)), (.int (0 : Int32)), (.int (0 : Int32)), (.int (0 : Int32)), (.int (0 : Int32))] := V16'
  have N16 := FF16 _ N8 gb14
  have Z16 : n0 ≤ H16.size := Nat.le_trans Z14 (Nat.le_of_eq W16.size.symm)
  have Ab2_17 := own_VA_other Ab2_15 W16 (Nat.ne_of_lt lt_b2_b14)
  obtain ⟨T18, H18, Ls18, X18, e18, V18', W18, FF18, st18⟩ := own_stI X16 hx hZ e16 V16 (n := 8) (k := 1) rfl (by decide) (by decide) (g := (mkF m 132 #[.val (.int p1), .val (.int p2), .val (.long p3), .second, .val (.long p4), .second, .val (.long p5), .second, .val (.long p6), .second, .val (.long (1152921504606846975 : Int64)), .second, .val (.long q0), .second, .val (.long q1), .second, .val (.long q2), .second, .val (.long q3), .second, .val (.ref b2), .val (.int (p2 &&& (7 : Int32))), .val (.int sd), .val (.int d1), .val (.int d2), .unset, .unset, .unset, .unset, .unset, .unset, .unset] [(.int (1 : Int32)), (.int (1 : Int32)), (.ref b14), (.ref b14)])) rfl rfl (hb hby at_132)
  have V18 : own_VA Z H18 b14 .int [(.int (0 : Int32)), (.int (1 : Int32)), (.int (0 : Int32)), (.int (0 : Int32)), (.int (0 : Int32)), (.int (0 : Int32)), (.int (0 : Int32)), (.int (0 : Int32))] := V18'
  have N18 := FF18 _ N16 gb14
  have Z18 : n0 ≤ H18.size := Nat.le_trans Z16 (Nat.le_of_eq W18.size.symm)
  have Ab2_19 := own_VA_other Ab2_17 W18 (Nat.ne_of_lt lt_b2_b14)
  obtain ⟨T20, H20, Ls20, X20, e20, V20', W20, FF20, st20⟩ := own_stI X18 hx hZ e18 V18 (n := 8) (k := 2) rfl (by decide) (by decide) (g := (mkF m 136 #[.val (.int p1), .val (.int p2), .val (.long p3), .second, .val (.long p4), .second, .val (.long p5), .second, .val (.long p6), .second, .val (.long (1152921504606846975 : Int64)), .second, .val (.long q0), .second, .val (.long q1), .second, .val (.long q2), .second, .val (.long q3), .second, .val (.ref b2), .val (.int (p2 &&& (7 : Int32))), .val (.int sd), .val (.int d1), .val (.int d2), .unset, .unset, .unset, .unset, .unset, .unset, .unset] [(.int (0 : Int32)), (.int (2 : Int32)), (.ref b14), (.ref b14)])) rfl rfl (hb hby at_136)
  have V20 : own_VA Z H20 b14 .int [(.int (0 : Int32)), (.int (1 : Int32)), (.int (0 : Int32)), (.int (0 : Int32)), (.int (0 : Int32)), (.int (0 : Int32)), (.int (0 : Int32)), (.int (0 : Int32))] := V20'
  have N20 := FF20 _ N18 gb14
  have Z20 : n0 ≤ H20.size := Nat.le_trans Z18 (Nat.le_of_eq W20.size.symm)
  have Ab2_21 := own_VA_other Ab2_19 W20 (Nat.ne_of_lt lt_b2_b14)
  obtain ⟨T22, H22, Ls22, X22, e22, V22', W22, FF22, st22⟩ := own_stI X20 hx hZ e20 V20 (n := 8) (k := 3) rfl (by decide) (by decide) (g := (mkF m 140 #[.val (.int p1), .val (.int p2), .val (.long p3), .second, .val (.long p4), .second, .val (.long p5), .second, .val (.long p6), .second, .val (.long (1152921504606846975 : Int64)), .second, .val (.long q0), .second, .val (.long q1), .second, .val (.long q2), .second, .val (.long q3), .second, .val (.ref b2), .val (.int (p2 &&& (7 : Int32))), .val (.int sd), .val (.int d1), .val (.int d2), .unset, .unset, .unset, .unset, .unset, .unset, .unset] [(.int (1 : Int32)), (.int (3 : Int32)), (.ref b14), (.ref b14)])) rfl rfl (hb hby at_140)
  have V22 : own_VA Z H22 b14 .int [(.int (0 : Int32)), (.int (1 : Int32)), (.int (0 : Int32)), (.int (1 : Int32)), (.int (0 : Int32)), (.int (0 : Int32)), (.int (0 : Int32)), (.int (0 : Int32))] := V22'
  have N22 := FF22 _ N20 gb14
  have Z22 : n0 ≤ H22.size := Nat.le_trans Z20 (Nat.le_of_eq W22.size.symm)
  have Ab2_23 := own_VA_other Ab2_21 W22 (Nat.ne_of_lt lt_b2_b14)
  obtain ⟨T24, H24, Ls24, X24, e24, V24', W24, FF24, st24⟩ := own_stI X22 hx hZ e22 V22 (n := 8) (k := 4) rfl (by decide) (by decide) (g := (mkF m 144 #[.val (.int p1), .val (.int p2), .val (.long p3), .second, .val (.long p4), .second, .val (.long p5), .second, .val (.long p6), .second, .val (.long (1152921504606846975 : Int64)), .second, .val (.long q0), .second, .val (.long q1), .second, .val (.long q2), .second, .val (.long q3), .second, .val (.ref b2), .val (.int (p2 &&& (7 : Int32))), .val (.int sd), .val (.int d1), .val (.int d2), .unset, .unset, .unset, .unset, .unset, .unset, .unset] [(.int (0 : Int32)), (.int (4 : Int32)), (.ref b14), (.ref b14)])) rfl rfl (hb hby at_144)
  have V24 : own_VA Z H24 b14 .int [(.int (0 : Int32)), (.int (1 : Int32)), (.int (0 : Int32)), (.int (1 : Int32)), (.int (0 : Int32)), (.int (0 : Int32)), (.int (0 : Int32)), (.int (0 : Int32))] := V24'
  have N24 := FF24 _ N22 gb14
  have Z24 : n0 ≤ H24.size := Nat.le_trans Z22 (Nat.le_of_eq W24.size.symm)
  have Ab2_25 := own_VA_other Ab2_23 W24 (Nat.ne_of_lt lt_b2_b14)
  obtain ⟨T26, H26, Ls26, X26, e26, V26', W26, FF26, st26⟩ := own_stI X24 hx hZ e24 V24 (n := 8) (k := 5) rfl (by decide) (by decide) (g := (mkF m 148 #[.val (.int p1), .val (.int p2), .val (.long p3), .second, .val (.long p4), .second, .val (.long p5), .second, .val (.long p6), .second, .val (.long (1152921504606846975 : Int64)), .second, .val (.long q0), .second, .val (.long q1), .second, .val (.long q2), .second, .val (.long q3), .second, .val (.ref b2), .val (.int (p2 &&& (7 : Int32))), .val (.int sd), .val (.int d1), .val (.int d2), .unset, .unset, .unset, .unset, .unset, .unset, .unset] [(.int (2 : Int32)), (.int (5 : Int32)), (.ref b14), (.ref b14)])) rfl rfl (hb hby at_148)
  have V26 : own_VA Z H26 b14 .int [(.int (0 : Int32)), (.int (1 : Int32)), (.int (0 : Int32)), (.int (1 : Int32)), (.int (0 : Int32)), (.int (2 : Int32)), (.int (0 : Int32)), (.int (0 : Int32))] := V26'
  have N26 := FF26 _ N24 gb14
  have Z26 : n0 ≤ H26.size := Nat.le_trans Z24 (Nat.le_of_eq W26.size.symm)
  have Ab2_27 := own_VA_other Ab2_25 W26 (Nat.ne_of_lt lt_b2_b14)
  obtain ⟨T28, H28, Ls28, X28, e28, V28', W28, FF28, st28⟩ := own_stI X26 hx hZ e26 V26 (n := 8) (k := 6) rfl (by decide) (by decide) (g := (mkF m 153 #[.val (.int p1), .val (.int p2), .val (.long p3), .second, .val (.long p4), .second, .val (.long p5), .second, .val (.long p6), .second, .val (.long (1152921504606846975 : Int64)), .second, .val (.long q0), .second, .val (.long q1), .second, .val (.long q2), .second, .val (.long q3), .second, .val (.ref b2), .val (.int (p2 &&& (7 : Int32))), .val (.int sd), .val (.int d1), .val (.int d2), .unset, .unset, .unset, .unset, .unset, .unset, .unset] [(.int (0 : Int32)), (.int (6 : Int32)), (.ref b14), (.ref b14)])) rfl rfl (hb hby at_153)
  have V28 : own_VA Z H28 b14 .int [(.int (0 : Int32)), (.int (1 : Int32)), (.int (0 : Int32)), (.int (1 : Int32)), (.int (0 : Int32)), (.int (2 : Int32)), (.int (0 : Int32)), (.int (0 : Int32))] := V28'
  have N28 := FF28 _ N26 gb14
  have Z28 : n0 ≤ H28.size := Nat.le_trans Z26 (Nat.le_of_eq W28.size.symm)
  have Ab2_29 := own_VA_other Ab2_27 W28 (Nat.ne_of_lt lt_b2_b14)
  obtain ⟨T30, H30, Ls30, X30, e30, V30', W30, FF30, st30⟩ := own_stI X28 hx hZ e28 V28 (n := 8) (k := 7) rfl (by decide) (by decide) (g := (mkF m 158 #[.val (.int p1), .val (.int p2), .val (.long p3), .second, .val (.long p4), .second, .val (.long p5), .second, .val (.long p6), .second, .val (.long (1152921504606846975 : Int64)), .second, .val (.long q0), .second, .val (.long q1), .second, .val (.long q2), .second, .val (.long q3), .second, .val (.ref b2), .val (.int (p2 &&& (7 : Int32))), .val (.int sd), .val (.int d1), .val (.int d2), .unset, .unset, .unset, .unset, .unset, .unset, .unset] [(.int (0 : Int32)), (.int (7 : Int32)), (.ref b14), (.ref b14)])) rfl rfl (hb hby at_158)
  have V30 : own_VA Z H30 b14 .int [(.int (0 : Int32)), (.int (1 : Int32)), (.int (0 : Int32)), (.int (1 : Int32)), (.int (0 : Int32)), (.int (2 : Int32)), (.int (0 : Int32)), (.int (0 : Int32))] := V30'
  have N30 := FF30 _ N28 gb14
  have Z30 : n0 ≤ H30.size := Nat.le_trans Z28 (Nat.le_of_eq W30.size.symm)
  have Ab2_31 := own_VA_other Ab2_29 W30 (Nat.ne_of_lt lt_b2_b14)
  obtain ⟨T32, H32, cA32, X32, e32, E32, A32, st32⟩ := newP X30 hx hZ (aty := .int) (hw _ (List.mem_of_getElem? (i := 3) rfl)) e30 (g := (mkF m 163 #[.val (.int p1), .val (.int p2), .val (.long p3), .second, .val (.long p4), .second, .val (.long p5), .second, .val (.long p6), .second, .val (.long (1152921504606846975 : Int64)), .second, .val (.long q0), .second, .val (.long q1), .second, .val (.long q2), .second, .val (.long q3), .second, .val (.ref b2), .val (.int (p2 &&& (7 : Int32))), .val (.int sd), .val (.int d1), .val (.int d2), .val (.ref b14), .unset, .unset, .unset, .unset, .unset, .unset] [(.int (8 : Int32))])) rfl (hb hby at_163) rfl (by decide) (cap := 8) (by decide) (by decide) (by decide) (by decide)
  obtain ⟨b32, g32⟩ : ∃ z, z = H30.size := ⟨_, rfl⟩
  rw [← g32] at A32 st32
  have V32 : own_VA Z H32 b32 .int [(.int (0 : Int32)), (.int (0 : Int32)), (.int (0 : Int32)), (.int (0 : Int32)), (.int (0 : Int32)), (.int (0 : Int32)), (.int (0 : Int32)), (.int (0 : Int32))] := own_VA_new (ty := .int) A32 (k := 8) (by decide)
  have Z32 : n0 ≤ H32.size := Nat.le_trans Z30 E32.1
  have gb32 : n0 ≤ b32 := Nat.le_trans Z30 (Nat.le_of_eq g32.symm)
  have lt_b2_b32 : b2 < b32 := Nat.lt_of_lt_of_le (own_VA_lt Ab2_31) (Nat.le_of_eq g32.symm)
  have lt_b14_b32 : b14 < b32 := Nat.lt_of_lt_of_le (own_VA_lt V30) (Nat.le_of_eq g32.symm)
  have Ab2_33 := own_VA_ext Ab2_31 E32
  have Ab14_34 := own_VA_ext V30 E32
  obtain ⟨T35, H35, Ls35, X35, e35, V35', W35, FF35, st35⟩ := own_stI X32 hx hZ e32 V32 (n := 8) (k := 0) rfl (by decide) (by decide) (g := (mkF m 168 #[.val (.int p1), .val (.int p2), .val (.long p3), .second, .val (.long p4), .second, .val (.long p5), .second, .val (.long p6), .second, .val (.long (1152921504606846975 : Int64)), .second, .val (.long q0), .second, .val (.long q1), .second, .val (.long q2), .second, .val (.long q3), .second, .val (.ref b2), .val (.int (p2 &&& (7 : Int32))), .val (.int sd), .val (.int d1), .val (.int d2), .val (.ref b14), .unset, .unset, .unset, .unset, .unset, .unset] [(.int (3 : Int32)), (.int (0 : Int32)), (.ref b32), (.ref b32)])) rfl rfl (hb hby at_168)
  have V35 : own_VA Z H35 b32 .int [(.int (3 : Int32)), (.int (0 : Int32)), (.int (0 : Int32)), (.int (0 : Int32)), (.int (0 : Int32)), (.int (0 : Int32)), (.int (0 : Int32)), (.int (0 : Int32))] := V35'
  have N35 := FF35 _ N30 gb32
  have Z35 : n0 ≤ H35.size := Nat.le_trans Z32 (Nat.le_of_eq W35.size.symm)
  have Ab2_36 := own_VA_other Ab2_33 W35 (Nat.ne_of_lt lt_b2_b32)
  have Ab14_37 := own_VA_other Ab14_34 W35 (Nat.ne_of_lt lt_b14_b32)
  obtain ⟨T38, H38, Ls38, X38, e38, V38', W38, FF38, st38⟩ := own_stI X35 hx hZ e35 V35 (n := 8) (k := 1) rfl (by decide) (by decide) (g := (mkF m 172 #[.val (.int p1), .val (.int p2), .val (.long p3), .second, .val (.long p4), .second, .val (.long p5), .second, .val (.long p6), .second, .val (.long (1152921504606846975 : Int64)), .second, .val (.long q0), .second, .val (.long q1), .second, .val (.long q2), .second, .val (.long q3), .second, .val (.ref b2), .val (.int (p2 &&& (7 : Int32))), .val (.int sd), .val (.int d1), .val (.int d2), .val (.ref b14), .unset, .unset, .unset, .unset, .unset, .unset] [(.int (2 : Int32)), (.int (1 : Int32)), (.ref b32), (.ref b32)])) rfl rfl (hb hby at_172)
  have V38 : own_VA Z H38 b32 .int [(.int (3 : Int32)), (.int (2 : Int32)), (.int (0 : Int32)), (.int (0 : Int32)), (.int (0 : Int32)), (.int (0 : Int32)), (.int (0 : Int32)), (.int (0 : Int32))] := V38'
  have N38 := FF38 _ N35 gb32
  have Z38 : n0 ≤ H38.size := Nat.le_trans Z35 (Nat.le_of_eq W38.size.symm)
  have Ab2_39 := own_VA_other Ab2_36 W38 (Nat.ne_of_lt lt_b2_b32)
  have Ab14_40 := own_VA_other Ab14_37 W38 (Nat.ne_of_lt lt_b14_b32)
  obtain ⟨T41, H41, Ls41, X41, e41, V41', W41, FF41, st41⟩ := own_stI X38 hx hZ e38 V38 (n := 8) (k := 2) rfl (by decide) (by decide) (g := (mkF m 176 #[.val (.int p1), .val (.int p2), .val (.long p3), .second, .val (.long p4), .second, .val (.long p5), .second, .val (.long p6), .second, .val (.long (1152921504606846975 : Int64)), .second, .val (.long q0), .second, .val (.long q1), .second, .val (.long q2), .second, .val (.long q3), .second, .val (.ref b2), .val (.int (p2 &&& (7 : Int32))), .val (.int sd), .val (.int d1), .val (.int d2), .val (.ref b14), .unset, .unset, .unset, .unset, .unset, .unset] [(.int (2 : Int32)), (.int (2 : Int32)), (.ref b32), (.ref b32)])) rfl rfl (hb hby at_176)
  have V41 : own_VA Z H41 b32 .int [(.int (3 : Int32)), (.int (2 : Int32)), (.int (2 : Int32)), (.int (0 : Int32)), (.int (0 : Int32)), (.int (0 : Int32)), (.int (0 : Int32)), (.int (0 : Int32))] := V41'
  have N41 := FF41 _ N38 gb32
  have Z41 : n0 ≤ H41.size := Nat.le_trans Z38 (Nat.le_of_eq W41.size.symm)
  have Ab2_42 := own_VA_other Ab2_39 W41 (Nat.ne_of_lt lt_b2_b32)
  have Ab14_43 := own_VA_other Ab14_40 W41 (Nat.ne_of_lt lt_b14_b32)
  obtain ⟨T44, H44, Ls44, X44, e44, V44', W44, FF44, st44⟩ := own_stI X41 hx hZ e41 V41 (n := 8) (k := 3) rfl (by decide) (by decide) (g := (mkF m 180 #[.val (.int p1), .val (.int p2), .val (.long p3), .second, .val (.long p4), .second, .val (.long p5), .second, .val (.long p6), .second, .val (.long (1152921504606846975 : Int64)), .second, .val (.long q0), .second, .val (.long q1), .second, .val (.long q2), .second, .val (.long q3), .second, .val (.ref b2), .val (.int (p2 &&& (7 : Int32))), .val (.int sd), .val (.int d1), .val (.int d2), .val (.ref b14), .unset, .unset, .unset, .unset, .unset, .unset] [(.int (3 : Int32)), (.int (3 : Int32)), (.ref b32), (.ref b32)])) rfl rfl (hb hby at_180)
  have V44 : own_VA Z H44 b32 .int [(.int (3 : Int32)), (.int (2 : Int32)), (.int (2 : Int32)), (.int (3 : Int32)), (.int (0 : Int32)), (.int (0 : Int32)), (.int (0 : Int32)), (.int (0 : Int32))] := V44'
  have N44 := FF44 _ N41 gb32
  have Z44 : n0 ≤ H44.size := Nat.le_trans Z41 (Nat.le_of_eq W44.size.symm)
  have Ab2_45 := own_VA_other Ab2_42 W44 (Nat.ne_of_lt lt_b2_b32)
  have Ab14_46 := own_VA_other Ab14_43 W44 (Nat.ne_of_lt lt_b14_b32)
  obtain ⟨T47, H47, Ls47, X47, e47, V47', W47, FF47, st47⟩ := own_stI X44 hx hZ e44 V44 (n := 8) (k := 4) rfl (by decide) (by decide) (g := (mkF m 184 #[.val (.int p1), .val (.int p2), .val (.long p3), .second, .val (.long p4), .second, .val (.long p5), .second, .val (.long p6), .second, .val (.long (1152921504606846975 : Int64)), .second, .val (.long q0), .second, .val (.long q1), .second, .val (.long q2), .second, .val (.long q3), .second, .val (.ref b2), .val (.int (p2 &&& (7 : Int32))), .val (.int sd), .val (.int d1), .val (.int d2), .val (.ref b14), .unset, .unset, .unset, .unset, .unset, .unset] [(.int (1 : Int32)), (.int (4 : Int32)), (.ref b32), (.ref b32)])) rfl rfl (hb hby at_184)
  have V47 : own_VA Z H47 b32 .int [(.int (3 : Int32)), (.int (2 : Int32)), (.int (2 : Int32)), (.int (3 : Int32)), (.int (1 : Int32)), (.int (0 : Int32)), (.int (0 : Int32)), (.int (0 : Int32))] := V47'
  have N47 := FF47 _ N44 gb32
  have Z47 : n0 ≤ H47.size := Nat.le_trans Z44 (Nat.le_of_eq W47.size.symm)
  have Ab2_48 := own_VA_other Ab2_45 W47 (Nat.ne_of_lt lt_b2_b32)
  have Ab14_49 := own_VA_other Ab14_46 W47 (Nat.ne_of_lt lt_b14_b32)
  obtain ⟨T50, H50, Ls50, X50, e50, V50', W50, FF50, st50⟩ := own_stI X47 hx hZ e47 V47 (n := 8) (k := 5) rfl (by decide) (by decide) (g := (mkF m 188 #[.val (.int p1), .val (.int p2), .val (.long p3), .second, .val (.long p4), .second, .val (.long p5), .second, .val (.long p6), .second, .val (.long (1152921504606846975 : Int64)), .second, .val (.long q0), .second, .val (.long q1), .second, .val (.long q2), .second, .val (.long q3), .second, .val (.ref b2), .val (.int (p2 &&& (7 : Int32))), .val (.int sd), .val (.int d1), .val (.int d2), .val (.ref b14), .unset, .unset, .unset, .unset, .unset, .unset] [(.int (3 : Int32)), (.int (5 : Int32)), (.ref b32), (.ref b32)])) rfl rfl (hb hby at_188)
  have V50 : own_VA Z H50 b32 .int [(.int (3 : Int32)), (.int (2 : Int32)), (.int (2 : Int32)), (.int (3 : Int32)), (.int (1 : Int32)), (.int (3 : Int32)), (.int (0 : Int32)), (.int (0 : Int32))] := V50'
  have N50 := FF50 _ N47 gb32
  have Z50 : n0 ≤ H50.size := Nat.le_trans Z47 (Nat.le_of_eq W50.size.symm)
  have Ab2_51 := own_VA_other Ab2_48 W50 (Nat.ne_of_lt lt_b2_b32)
  have Ab14_52 := own_VA_other Ab14_49 W50 (Nat.ne_of_lt lt_b14_b32)
  obtain ⟨T53, H53, Ls53, X53, e53, V53', W53, FF53, st53⟩ := own_stI X50 hx hZ e50 V50 (n := 8) (k := 6) rfl (by decide) (by decide) (g := (mkF m 193 #[.val (.int p1), .val (.int p2), .val (.long p3), .second, .val (.long p4), .second, .val (.long p5), .second, .val (.long p6), .second, .val (.long (1152921504606846975 : Int64)), .second, .val (.long q0), .second, .val (.long q1), .second, .val (.long q2), .second, .val (.long q3), .second, .val (.ref b2), .val (.int (p2 &&& (7 : Int32))), .val (.int sd), .val (.int d1), .val (.int d2), .val (.ref b14), .unset, .unset, .unset, .unset, .unset, .unset] [(.int (3 : Int32)), (.int (6 : Int32)), (.ref b32), (.ref b32)])) rfl rfl (hb hby at_193)
  have V53 : own_VA Z H53 b32 .int [(.int (3 : Int32)), (.int (2 : Int32)), (.int (2 : Int32)), (.int (3 : Int32)), (.int (1 : Int32)), (.int (3 : Int32)), (.int (3 : Int32)), (.int (0 : Int32))] := V53'
  have N53 := FF53 _ N50 gb32
  have Z53 : n0 ≤ H53.size := Nat.le_trans Z50 (Nat.le_of_eq W53.size.symm)
  have Ab2_54 := own_VA_other Ab2_51 W53 (Nat.ne_of_lt lt_b2_b32)
  have Ab14_55 := own_VA_other Ab14_52 W53 (Nat.ne_of_lt lt_b14_b32)
  obtain ⟨T56, H56, Ls56, X56, e56, V56', W56, FF56, st56⟩ := own_stI X53 hx hZ e53 V53 (n := 8) (k := 7) rfl (by decide) (by decide) (g := (mkF m 198 #[.val (.int p1), .val (.int p2), .val (.long p3), .second, .val (.long p4), .second, .val (.long p5), .second, .val (.long p6), .second, .val (.long (1152921504606846975 : Int64)), .second, .val (.long q0), .second, .val (.long q1), .second, .val (.long q2), .second, .val (.long q3), .second, .val (.ref b2), .val (.int (p2 &&& (7 : Int32))), .val (.int sd), .val (.int d1), .val (.int d2), .val (.ref b14), .unset, .unset, .unset, .unset, .unset, .unset] [(.int (3 : Int32)), (.int (7 : Int32)), (.ref b32), (.ref b32)])) rfl rfl (hb hby at_198)
  have V56 : own_VA Z H56 b32 .int [(.int (3 : Int32)), (.int (2 : Int32)), (.int (2 : Int32)), (.int (3 : Int32)), (.int (1 : Int32)), (.int (3 : Int32)), (.int (3 : Int32)), (.int (3 : Int32))] := V56'
  have N56 := FF56 _ N53 gb32
  have Z56 : n0 ≤ H56.size := Nat.le_trans Z53 (Nat.le_of_eq W56.size.symm)
  have Ab2_57 := own_VA_other Ab2_54 W56 (Nat.ne_of_lt lt_b2_b32)
  have Ab14_58 := own_VA_other Ab14_55 W56 (Nat.ne_of_lt lt_b14_b32)
  obtain ⟨T59, H59, cA59, X59, e59, E59, A59, st59⟩ := newP X56 hx hZ (aty := .int) (hw _ (List.mem_of_getElem? (i := 3) rfl)) e56 (g := (mkF m 203 #[.val (.int p1), .val (.int p2), .val (.long p3), .second, .val (.long p4), .second, .val (.long p5), .second, .val (.long p6), .second, .val (.long (1152921504606846975 : Int64)), .second, .val (.long q0), .second, .val (.long q1), .second, .val (.long q2), .second, .val (.long q3), .second, .val (.ref b2), .val (.int (p2 &&& (7 : Int32))), .val (.int sd), .val (.int d1), .val (.int d2), .val (.ref b14), .val (.ref b32), .unset, .unset, .unset, .unset, .unset] [(.int (8 : Int32))])) rfl (hb hby at_203) rfl (by decide) (cap := 8) (by decide) (by decide) (by decide) (by decide)
  obtain ⟨b59, g59⟩ : ∃ z, z = H56.size := ⟨_, rfl⟩
  rw [← g59] at A59 st59
  have V59 : own_VA Z H59 b59 .int [(.int (0 : Int32)), (.int (0 : Int32)), (.int (0 : Int32)), (.int (0 : Int32)), (.int (0 : Int32)), (.int (0 : Int32)), (.int (0 : Int32)), (.int (0 : Int32))] := own_VA_new (ty := .int) A59 (k := 8) (by decide)
  have Z59 : n0 ≤ H59.size := Nat.le_trans Z56 E59.1
  have gb59 : n0 ≤ b59 := Nat.le_trans Z56 (Nat.le_of_eq g59.symm)
  have lt_b2_b59 : b2 < b59 := Nat.lt_of_lt_of_le (own_VA_lt Ab2_57) (Nat.le_of_eq g59.symm)
  have lt_b14_b59 : b14 < b59 := Nat.lt_of_lt_of_le (own_VA_lt Ab14_58) (Nat.le_of_eq g59.symm)
  have lt_b32_b59 : b32 < b59 := Nat.lt_of_lt_of_le (own_VA_lt V56) (Nat.le_of_eq g59.symm)
  have Ab2_60 := own_VA_ext Ab2_57 E59
  have Ab14_61 := own_VA_ext Ab14_58 E59
  have Ab32_62 := own_VA_ext V56 E59
  obtain ⟨T63, H63, Ls63, X63, e63, V63', W63, FF63, st63⟩ := own_stI X59 hx hZ e59 V59 (n := 8) (k := 0) rfl (by decide) (by decide) (g := (mkF m 208 #[.val (.int p1), .val (.int p2), .val (.long p3), .second, .val (.long p4), .second, .val (.long p5), .second, .val (.long p6), .second, .val (.long (1152921504606846975 : Int64)), .second, .val (.long q0), .second, .val (.long q1), .second, .val (.long q2), .second, .val (.long q3), .second, .val (.ref b2), .val (.int (p2 &&& (7 : Int32))), .val (.int sd), .val (.int d1), .val (.int d2), .val (.ref b14), .val (.ref b32), .unset, .unset, .unset, .unset, .unset] [(.int (1 : Int32)), (.int (0 : Int32)), (.ref b59), (.ref b59)])) rfl rfl (hb hby at_208)
  have V63 : own_VA Z H63 b59 .int [(.int (1 : Int32)), (.int (0 : Int32)), (.int (0 : Int32)), (.int (0 : Int32)), (.int (0 : Int32)), (.int (0 : Int32)), (.int (0 : Int32)), (.int (0 : Int32))] := V63'
  have N63 := FF63 _ N56 gb59
  have Z63 : n0 ≤ H63.size := Nat.le_trans Z59 (Nat.le_of_eq W63.size.symm)
  have Ab2_64 := own_VA_other Ab2_60 W63 (Nat.ne_of_lt lt_b2_b59)
  have Ab14_65 := own_VA_other Ab14_61 W63 (Nat.ne_of_lt lt_b14_b59)
  have Ab32_66 := own_VA_other Ab32_62 W63 (Nat.ne_of_lt lt_b32_b59)
  obtain ⟨T67, H67, Ls67, X67, e67, V67', W67, FF67, st67⟩ := own_stI X63 hx hZ e63 V63 (n := 8) (k := 1) rfl (by decide) (by decide) (g := (mkF m 212 #[.val (.int p1), .val (.int p2), .val (.long p3), .second, .val (.long p4), .second, .val (.long p5), .second, .val (.long p6), .second, .val (.long (1152921504606846975 : Int64)), .second, .val (.long q0), .second, .val (.long q1), .second, .val (.long q2), .second, .val (.long q3), .second, .val (.ref b2), .val (.int (p2 &&& (7 : Int32))), .val (.int sd), .val (.int d1), .val (.int d2), .val (.ref b14), .val (.ref b32), .unset, .unset, .unset, .unset, .unset] [(.int (0 : Int32)), (.int (1 : Int32)), (.ref b59), (.ref b59)])) rfl rfl (hb hby at_212)
  have V67 : own_VA Z H67 b59 .int [(.int (1 : Int32)), (.int (0 : Int32)), (.int (0 : Int32)), (.int (0 : Int32)), (.int (0 : Int32)), (.int (0 : Int32)), (.int (0 : Int32)), (.int (0 : Int32))] := V67'
  have N67 := FF67 _ N63 gb59
  have Z67 : n0 ≤ H67.size := Nat.le_trans Z63 (Nat.le_of_eq W67.size.symm)
  have Ab2_68 := own_VA_other Ab2_64 W67 (Nat.ne_of_lt lt_b2_b59)
  have Ab14_69 := own_VA_other Ab14_65 W67 (Nat.ne_of_lt lt_b14_b59)
  have Ab32_70 := own_VA_other Ab32_66 W67 (Nat.ne_of_lt lt_b32_b59)
  obtain ⟨T71, H71, Ls71, X71, e71, V71', W71, FF71, st71⟩ := own_stI X67 hx hZ e67 V67 (n := 8) (k := 2) rfl (by decide) (by decide) (g := (mkF m 216 #[.val (.int p1), .val (.int p2), .val (.long p3), .second, .val (.long p4), .second, .val (.long p5), .second, .val (.long p6), .second, .val (.long (1152921504606846975 : Int64)), .second, .val (.long q0), .second, .val (.long q1), .second, .val (.long q2), .second, .val (.long q3), .second, .val (.ref b2), .val (.int (p2 &&& (7 : Int32))), .val (.int sd), .val (.int d1), .val (.int d2), .val (.ref b14), .val (.ref b32), .unset, .unset, .unset, .unset, .unset] [(.int (1 : Int32)), (.int (2 : Int32)), (.ref b59), (.ref b59)])) rfl rfl (hb hby at_216)
  have V71 : own_VA Z H71 b59 .int [(.int (1 : Int32)), (.int (0 : Int32)), (.int (1 : Int32)), (.int (0 : Int32)), (.int (0 : Int32)), (.int (0 : Int32)), (.int (0 : Int32)), (.int (0 : Int32))] := V71'
  have N71 := FF71 _ N67 gb59
  have Z71 : n0 ≤ H71.size := Nat.le_trans Z67 (Nat.le_of_eq W71.size.symm)
  have Ab2_72 := own_VA_other Ab2_68 W71 (Nat.ne_of_lt lt_b2_b59)
  have Ab14_73 := own_VA_other Ab14_69 W71 (Nat.ne_of_lt lt_b14_b59)
  have Ab32_74 := own_VA_other Ab32_70 W71 (Nat.ne_of_lt lt_b32_b59)
  obtain ⟨T75, H75, Ls75, X75, e75, V75', W75, FF75, st75⟩ := own_stI X71 hx hZ e71 V71 (n := 8) (k := 3) rfl (by decide) (by decide) (g := (mkF m 220 #[.val (.int p1), .val (.int p2), .val (.long p3), .second, .val (.long p4), .second, .val (.long p5), .second, .val (.long p6), .second, .val (.long (1152921504606846975 : Int64)), .second, .val (.long q0), .second, .val (.long q1), .second, .val (.long q2), .second, .val (.long q3), .second, .val (.ref b2), .val (.int (p2 &&& (7 : Int32))), .val (.int sd), .val (.int d1), .val (.int d2), .val (.ref b14), .val (.ref b32), .unset, .unset, .unset, .unset, .unset] [(.int (0 : Int32)), (.int (3 : Int32)), (.ref b59), (.ref b59)])) rfl rfl (hb hby at_220)
  have V75 : own_VA Z H75 b59 .int [(.int (1 : Int32)), (.int (0 : Int32)), (.int (1 : Int32)), (.int (0 : Int32)), (.int (0 : Int32)), (.int (0 : Int32)), (.int (0 : Int32)), (.int (0 : Int32))] := V75'
  have N75 := FF75 _ N71 gb59
  have Z75 : n0 ≤ H75.size := Nat.le_trans Z71 (Nat.le_of_eq W75.size.symm)
  have Ab2_76 := own_VA_other Ab2_72 W75 (Nat.ne_of_lt lt_b2_b59)
  have Ab14_77 := own_VA_other Ab14_73 W75 (Nat.ne_of_lt lt_b14_b59)
  have Ab32_78 := own_VA_other Ab32_74 W75 (Nat.ne_of_lt lt_b32_b59)
  obtain ⟨T79, H79, Ls79, X79, e79, V79', W79, FF79, st79⟩ := own_stI X75 hx hZ e75 V75 (n := 8) (k := 4) rfl (by decide) (by decide) (g := (mkF m 224 #[.val (.int p1), .val (.int p2), .val (.long p3), .second, .val (.long p4), .second, .val (.long p5), .second, .val (.long p6), .second, .val (.long (1152921504606846975 : Int64)), .second, .val (.long q0), .second, .val (.long q1), .second, .val (.long q2), .second, .val (.long q3), .second, .val (.ref b2), .val (.int (p2 &&& (7 : Int32))), .val (.int sd), .val (.int d1), .val (.int d2), .val (.ref b14), .val (.ref b32), .unset, .unset, .unset, .unset, .unset] [(.int (2 : Int32)), (.int (4 : Int32)), (.ref b59), (.ref b59)])) rfl rfl (hb hby at_224)
  have V79 : own_VA Z H79 b59 .int [(.int (1 : Int32)), (.int (0 : Int32)), (.int (1 : Int32)), (.int (0 : Int32)), (.int (2 : Int32)), (.int (0 : Int32)), (.int (0 : Int32)), (.int (0 : Int32))] := V79'
  have N79 := FF79 _ N75 gb59
  have Z79 : n0 ≤ H79.size := Nat.le_trans Z75 (Nat.le_of_eq W79.size.symm)
  have Ab2_80 := own_VA_other Ab2_76 W79 (Nat.ne_of_lt lt_b2_b59)
  have Ab14_81 := own_VA_other Ab14_77 W79 (Nat.ne_of_lt lt_b14_b59)
  have Ab32_82 := own_VA_other Ab32_78 W79 (Nat.ne_of_lt lt_b32_b59)
  obtain ⟨T83, H83, Ls83, X83, e83, V83', W83, FF83, st83⟩ := own_stI X79 hx hZ e79 V79 (n := 8) (k := 5) rfl (by decide) (by decide) (g := (mkF m 228 #[.val (.int p1), .val (.int p2), .val (.long p3), .second, .val (.long p4), .second, .val (.long p5), .second, .val (.long p6), .second, .val (.long (1152921504606846975 : Int64)), .second, .val (.long q0), .second, .val (.long q1), .second, .val (.long q2), .second, .val (.long q3), .second, .val (.ref b2), .val (.int (p2 &&& (7 : Int32))), .val (.int sd), .val (.int d1), .val (.int d2), .val (.ref b14), .val (.ref b32), .unset, .unset, .unset, .unset, .unset] [(.int (0 : Int32)), (.int (5 : Int32)), (.ref b59), (.ref b59)])) rfl rfl (hb hby at_228)
  have V83 : own_VA Z H83 b59 .int [(.int (1 : Int32)), (.int (0 : Int32)), (.int (1 : Int32)), (.int (0 : Int32)), (.int (2 : Int32)), (.int (0 : Int32)), (.int (0 : Int32)), (.int (0 : Int32))] := V83'
  have N83 := FF83 _ N79 gb59
  have Z83 : n0 ≤ H83.size := Nat.le_trans Z79 (Nat.le_of_eq W83.size.symm)
  have Ab2_84 := own_VA_other Ab2_80 W83 (Nat.ne_of_lt lt_b2_b59)
  have Ab14_85 := own_VA_other Ab14_81 W83 (Nat.ne_of_lt lt_b14_b59)
  have Ab32_86 := own_VA_other Ab32_82 W83 (Nat.ne_of_lt lt_b32_b59)
  obtain ⟨T87, H87, Ls87, X87, e87, V87', W87, FF87, st87⟩ := own_stI X83 hx hZ e83 V83 (n := 8) (k := 6) rfl (by decide) (by decide) (g := (mkF m 233 #[.val (.int p1), .val (.int p2), .val (.long p3), .second, .val (.long p4), .second, .val (.long p5), .second, .val (.long p6), .second, .val (.long (1152921504606846975 : Int64)), .second, .val (.long q0), .second, .val (.long q1), .second, .val (.long q2), .second, .val (.long q3), .second, .val (.ref b2), .val (.int (p2 &&& (7 : Int32))), .val (.int sd), .val (.int d1), .val (.int d2), .val (.ref b14), .val (.ref b32), .unset, .unset, .unset, .unset, .unset] [(.int (0 : Int32)), (.int (6 : Int32)), (.ref b59), (.ref b59)])) rfl rfl (hb hby at_233)
  have V87 : own_VA Z H87 b59 .int [(.int (1 : Int32)), (.int (0 : Int32)), (.int (1 : Int32)), (.int (0 : Int32)), (.int (2 : Int32)), (.int (0 : Int32)), (.int (0 : Int32)), (.int (0 : Int32))] := V87'
  have N87 := FF87 _ N83 gb59
  have Z87 : n0 ≤ H87.size := Nat.le_trans Z83 (Nat.le_of_eq W87.size.symm)
  have Ab2_88 := own_VA_other Ab2_84 W87 (Nat.ne_of_lt lt_b2_b59)
  have Ab14_89 := own_VA_other Ab14_85 W87 (Nat.ne_of_lt lt_b14_b59)
  have Ab32_90 := own_VA_other Ab32_86 W87 (Nat.ne_of_lt lt_b32_b59)
  obtain ⟨T91, H91, Ls91, X91, e91, V91', W91, FF91, st91⟩ := own_stI X87 hx hZ e87 V87 (n := 8) (k := 7) rfl (by decide) (by decide) (g := (mkF m 238 #[.val (.int p1), .val (.int p2), .val (.long p3), .second, .val (.long p4), .second, .val (.long p5), .second, .val (.long p6), .second, .val (.long (1152921504606846975 : Int64)), .second, .val (.long q0), .second, .val (.long q1), .second, .val (.long q2), .second, .val (.long q3), .second, .val (.ref b2), .val (.int (p2 &&& (7 : Int32))), .val (.int sd), .val (.int d1), .val (.int d2), .val (.ref b14), .val (.ref b32), .unset, .unset, .unset, .unset, .unset] [(.int (1 : Int32)), (.int (7 : Int32)), (.ref b59), (.ref b59)])) rfl rfl (hb hby at_238)
  have V91 : own_VA Z H91 b59 .int [(.int (1 : Int32)), (.int (0 : Int32)), (.int (1 : Int32)), (.int (0 : Int32)), (.int (2 : Int32)), (.int (0 : Int32)), (.int (0 : Int32)), (.int (1 : Int32))] := V91'
  have N91 := FF91 _ N87 gb59
  have Z91 : n0 ≤ H91.size := Nat.le_trans Z87 (Nat.le_of_eq W91.size.symm)
  have Ab2_92 := own_VA_other Ab2_88 W91 (Nat.ne_of_lt lt_b2_b59)
  have Ab14_93 := own_VA_other Ab14_89 W91 (Nat.ne_of_lt lt_b14_b59)
  have Ab32_94 := own_VA_other Ab32_90 W91 (Nat.ne_of_lt lt_b32_b59)
  obtain ⟨T95, H95, cA95, X95, e95, E95, A95, st95⟩ := newP X91 hx hZ (aty := .int) (hw _ (List.mem_of_getElem? (i := 3) rfl)) e91 (g := (mkF m 243 #[.val (.int p1), .val (.int p2), .val (.long p3), .second, .val (.long p4), .second, .val (.long p5), .second, .val (.long p6), .second, .val (.long (1152921504606846975 : Int64)), .second, .val (.long q0), .second, .val (.long q1), .second, .val (.long q2), .second, .val (.long q3), .second, .val (.ref b2), .val (.int (p2 &&& (7 : Int32))), .val (.int sd), .val (.int d1), .val (.int d2), .val (.ref b14), .val (.ref b32), .val (.ref b59), .unset, .unset, .unset, .unset] [(.int (8 : Int32))])) rfl (hb hby at_243) rfl (by decide) (cap := 8) (by decide) (by decide) (by decide) (by decide)
  obtain ⟨b95, g95⟩ : ∃ z, z = H91.size := ⟨_, rfl⟩
  rw [← g95] at A95 st95
  have V95 : own_VA Z H95 b95 .int [(.int (0 : Int32)), (.int (0 : Int32)), (.int (0 : Int32)), (.int (0 : Int32)), (.int (0 : Int32)), (.int (0 : Int32)), (.int (0 : Int32)), (.int (0 : Int32))] := own_VA_new (ty := .int) A95 (k := 8) (by decide)
  have Z95 : n0 ≤ H95.size := Nat.le_trans Z91 E95.1
  have gb95 : n0 ≤ b95 := Nat.le_trans Z91 (Nat.le_of_eq g95.symm)
  have lt_b2_b95 : b2 < b95 := Nat.lt_of_lt_of_le (own_VA_lt Ab2_92) (Nat.le_of_eq g95.symm)
  have lt_b14_b95 : b14 < b95 := Nat.lt_of_lt_of_le (own_VA_lt Ab14_93) (Nat.le_of_eq g95.symm)
  have lt_b32_b95 : b32 < b95 := Nat.lt_of_lt_of_le (own_VA_lt Ab32_94) (Nat.le_of_eq g95.symm)
  have lt_b59_b95 : b59 < b95 := Nat.lt_of_lt_of_le (own_VA_lt V91) (Nat.le_of_eq g95.symm)
  have Ab2_96 := own_VA_ext Ab2_92 E95
  have Ab14_97 := own_VA_ext Ab14_93 E95
  have Ab32_98 := own_VA_ext Ab32_94 E95
  have Ab59_99 := own_VA_ext V91 E95
  obtain ⟨T100, H100, Ls100, X100, e100, V100', W100, FF100, st100⟩ := own_stI X95 hx hZ e95 V95 (n := 8) (k := 0) rfl (by decide) (by decide) (g := (mkF m 248 #[.val (.int p1), .val (.int p2), .val (.long p3), .second, .val (.long p4), .second, .val (.long p5), .second, .val (.long p6), .second, .val (.long (1152921504606846975 : Int64)), .second, .val (.long q0), .second, .val (.long q1), .second, .val (.long q2), .second, .val (.long q3), .second, .val (.ref b2), .val (.int (p2 &&& (7 : Int32))), .val (.int sd), .val (.int d1), .val (.int d2), .val (.ref b14), .val (.ref b32), .val (.ref b59), .unset, .unset, .unset, .unset] [(.int (2 : Int32)), (.int (0 : Int32)), (.ref b95), (.ref b95)])) rfl rfl (hb hby at_248)
  have V100 : own_VA Z H100 b95 .int [(.int (2 : Int32)), (.int (0 : Int32)), (.int (0 : Int32)), (.int (0 : Int32)), (.int (0 : Int32)), (.int (0 : Int32)), (.int (0 : Int32)), (.int (0 : Int32))] := V100'
  have N100 := FF100 _ N91 gb95
  have Z100 : n0 ≤ H100.size := Nat.le_trans Z95 (Nat.le_of_eq W100.size.symm)
  have Ab2_101 := own_VA_other Ab2_96 W100 (Nat.ne_of_lt lt_b2_b95)
  have Ab14_102 := own_VA_other Ab14_97 W100 (Nat.ne_of_lt lt_b14_b95)
  have Ab32_103 := own_VA_other Ab32_98 W100 (Nat.ne_of_lt lt_b32_b95)
  have Ab59_104 := own_VA_other Ab59_99 W100 (Nat.ne_of_lt lt_b59_b95)
  obtain ⟨T105, H105, Ls105, X105, e105, V105', W105, FF105, st105⟩ := own_stI X100 hx hZ e100 V100 (n := 8) (k := 1) rfl (by decide) (by decide) (g := (mkF m 252 #[.val (.int p1), .val (.int p2), .val (.long p3), .second, .val (.long p4), .second, .val (.long p5), .second, .val (.long p6), .second, .val (.long (1152921504606846975 : Int64)), .second, .val (.long q0), .second, .val (.long q1), .second, .val (.long q2), .second, .val (.long q3), .second, .val (.ref b2), .val (.int (p2 &&& (7 : Int32))), .val (.int sd), .val (.int d1), .val (.int d2), .val (.ref b14), .val (.ref b32), .val (.ref b59), .unset, .unset, .unset, .unset] [(.int (3 : Int32)), (.int (1 : Int32)), (.ref b95), (.ref b95)])) rfl rfl (hb hby at_252)
  have V105 : own_VA Z H105 b95 .int [(.int (2 : Int32)), (.int (3 : Int32)), (.int (0 : Int32)), (.int (0 : Int32)), (.int (0 : Int32)), (.int (0 : Int32)), (.int (0 : Int32)), (.int (0 : Int32))] := V105'
  have N105 := FF105 _ N100 gb95
  have Z105 : n0 ≤ H105.size := Nat.le_trans Z100 (Nat.le_of_eq W105.size.symm)
  have Ab2_106 := own_VA_other Ab2_101 W105 (Nat.ne_of_lt lt_b2_b95)
  have Ab14_107 := own_VA_other Ab14_102 W105 (Nat.ne_of_lt lt_b14_b95)
  have Ab32_108 := own_VA_other Ab32_103 W105 (Nat.ne_of_lt lt_b32_b95)
  have Ab59_109 := own_VA_other Ab59_104 W105 (Nat.ne_of_lt lt_b59_b95)
  obtain ⟨T110, H110, Ls110, X110, e110, V110', W110, FF110, st110⟩ := own_stI X105 hx hZ e105 V105 (n := 8) (k := 2) rfl (by decide) (by decide) (g := (mkF m 256 #[.val (.int p1), .val (.int p2), .val (.long p3), .second, .val (.long p4), .second, .val (.long p5), .second, .val (.long p6), .second, .val (.long (1152921504606846975 : Int64)), .second, .val (.long q0), .second, .val (.long q1), .second, .val (.long q2), .second, .val (.long q3), .second, .val (.ref b2), .val (.int (p2 &&& (7 : Int32))), .val (.int sd), .val (.int d1), .val (.int d2), .val (.ref b14), .val (.ref b32), .val (.ref b59), .unset, .unset, .unset, .unset] [(.int (3 : Int32)), (.int (2 : Int32)), (.ref b95), (.ref b95)])) rfl rfl (hb hby at_256)
  have V110 : own_VA Z H110 b95 .int [(.int (2 : Int32)), (.int (3 : Int32)), (.int (3 : Int32)), (.int (0 : Int32)), (.int (0 : Int32)), (.int (0 : Int32)), (.int (0 : Int32)), (.int (0 : Int32))] := V110'
  have N110 := FF110 _ N105 gb95
  have Z110 : n0 ≤ H110.size := Nat.le_trans Z105 (Nat.le_of_eq W110.size.symm)
  have Ab2_111 := own_VA_other Ab2_106 W110 (Nat.ne_of_lt lt_b2_b95)
  have Ab14_112 := own_VA_other Ab14_107 W110 (Nat.ne_of_lt lt_b14_b95)
  have Ab32_113 := own_VA_other Ab32_108 W110 (Nat.ne_of_lt lt_b32_b95)
  have Ab59_114 := own_VA_other Ab59_109 W110 (Nat.ne_of_lt lt_b59_b95)
  obtain ⟨T115, H115, Ls115, X115, e115, V115', W115, FF115, st115⟩ := own_stI X110 hx hZ e110 V110 (n := 8) (k := 3) rfl (by decide) (by decide) (g := (mkF m 260 #[.val (.int p1), .val (.int p2), .val (.long p3), .second, .val (.long p4), .second, .val (.long p5), .second, .val (.long p6), .second, .val (.long (1152921504606846975 : Int64)), .second, .val (.long q0), .second, .val (.long q1), .second, .val (.long q2), .second, .val (.long q3), .second, .val (.ref b2), .val (.int (p2 &&& (7 : Int32))), .val (.int sd), .val (.int d1), .val (.int d2), .val (.ref b14), .val (.ref b32), .val (.ref b59), .unset, .unset, .unset, .unset] [(.int (2 : Int32)), (.int (3 : Int32)), (.ref b95), (.ref b95)])) rfl rfl (hb hby at_260)
  have V115 : own_VA Z H115 b95 .int [(.int (2 : Int32)), (.int (3 : Int32)), (.int (3 : Int32)), (.int (2 : Int32)), (.int (0 : Int32)), (.int (0 : Int32)), (.int (0 : Int32)), (.int (0 : Int32))] := V115'
  have N115 := FF115 _ N110 gb95
  have Z115 : n0 ≤ H115.size := Nat.le_trans Z110 (Nat.le_of_eq W115.size.symm)
  have Ab2_116 := own_VA_other Ab2_111 W115 (Nat.ne_of_lt lt_b2_b95)
  have Ab14_117 := own_VA_other Ab14_112 W115 (Nat.ne_of_lt lt_b14_b95)
  have Ab32_118 := own_VA_other Ab32_113 W115 (Nat.ne_of_lt lt_b32_b95)
  have Ab59_119 := own_VA_other Ab59_114 W115 (Nat.ne_of_lt lt_b59_b95)
  obtain ⟨T120, H120, Ls120, X120, e120, V120', W120, FF120, st120⟩ := own_stI X115 hx hZ e115 V115 (n := 8) (k := 4) rfl (by decide) (by decide) (g := (mkF m 264 #[.val (.int p1), .val (.int p2), .val (.long p3), .second, .val (.long p4), .second, .val (.long p5), .second, .val (.long p6), .second, .val (.long (1152921504606846975 : Int64)), .second, .val (.long q0), .second, .val (.long q1), .second, .val (.long q2), .second, .val (.long q3), .second, .val (.ref b2), .val (.int (p2 &&& (7 : Int32))), .val (.int sd), .val (.int d1), .val (.int d2), .val (.ref b14), .val (.ref b32), .val (.ref b59), .unset, .unset, .unset, .unset] [(.int (3 : Int32)), (.int (4 : Int32)), (.ref b95), (.ref b95)])) rfl rfl (hb hby at_264)
  have V120 : own_VA Z H120 b95 .int [(.int (2 : Int32)), (.int (3 : Int32)), (.int (3 : Int32)), (.int (2 : Int32)), (.int (3 : Int32)), (.int (0 : Int32)), (.int (0 : Int32)), (.int (0 : Int32))] := V120'
  have N120 := FF120 _ N115 gb95
  have Z120 : n0 ≤ H120.size := Nat.le_trans Z115 (Nat.le_of_eq W120.size.symm)
  have Ab2_121 := own_VA_other Ab2_116 W120 (Nat.ne_of_lt lt_b2_b95)
  have Ab14_122 := own_VA_other Ab14_117 W120 (Nat.ne_of_lt lt_b14_b95)
  have Ab32_123 := own_VA_other Ab32_118 W120 (Nat.ne_of_lt lt_b32_b95)
  have Ab59_124 := own_VA_other Ab59_119 W120 (Nat.ne_of_lt lt_b59_b95)
  obtain ⟨T125, H125, Ls125, X125, e125, V125', W125, FF125, st125⟩ := own_stI X120 hx hZ e120 V120 (n := 8) (k := 5) rfl (by decide) (by decide) (g := (mkF m 268 #[.val (.int p1), .val (.int p2), .val (.long p3), .second, .val (.long p4), .second, .val (.long p5), .second, .val (.long p6), .second, .val (.long (1152921504606846975 : Int64)), .second, .val (.long q0), .second, .val (.long q1), .second, .val (.long q2), .second, .val (.long q3), .second, .val (.ref b2), .val (.int (p2 &&& (7 : Int32))), .val (.int sd), .val (.int d1), .val (.int d2), .val (.ref b14), .val (.ref b32), .val (.ref b59), .unset, .unset, .unset, .unset] [(.int (1 : Int32)), (.int (5 : Int32)), (.ref b95), (.ref b95)])) rfl rfl (hb hby at_268)
  have V125 : own_VA Z H125 b95 .int [(.int (2 : Int32)), (.int (3 : Int32)), (.int (3 : Int32)), (.int (2 : Int32)), (.int (3 : Int32)), (.int (1 : Int32)), (.int (0 : Int32)), (.int (0 : Int32))] := V125'
  have N125 := FF125 _ N120 gb95
  have Z125 : n0 ≤ H125.size := Nat.le_trans Z120 (Nat.le_of_eq W125.size.symm)
  have Ab2_126 := own_VA_other Ab2_121 W125 (Nat.ne_of_lt lt_b2_b95)
  have Ab14_127 := own_VA_other Ab14_122 W125 (Nat.ne_of_lt lt_b14_b95)
  have Ab32_128 := own_VA_other Ab32_123 W125 (Nat.ne_of_lt lt_b32_b95)
  have Ab59_129 := own_VA_other Ab59_124 W125 (Nat.ne_of_lt lt_b59_b95)
  obtain ⟨T130, H130, Ls130, X130, e130, V130', W130, FF130, st130⟩ := own_stI X125 hx hZ e125 V125 (n := 8) (k := 6) rfl (by decide) (by decide) (g := (mkF m 273 #[.val (.int p1), .val (.int p2), .val (.long p3), .second, .val (.long p4), .second, .val (.long p5), .second, .val (.long p6), .second, .val (.long (1152921504606846975 : Int64)), .second, .val (.long q0), .second, .val (.long q1), .second, .val (.long q2), .second, .val (.long q3), .second, .val (.ref b2), .val (.int (p2 &&& (7 : Int32))), .val (.int sd), .val (.int d1), .val (.int d2), .val (.ref b14), .val (.ref b32), .val (.ref b59), .unset, .unset, .unset, .unset] [(.int (3 : Int32)), (.int (6 : Int32)), (.ref b95), (.ref b95)])) rfl rfl (hb hby at_273)
  have V130 : own_VA Z H130 b95 .int [(.int (2 : Int32)), (.int (3 : Int32)), (.int (3 : Int32)), (.int (2 : Int32)), (.int (3 : Int32)), (.int (1 : Int32)), (.int (3 : Int32)), (.int (0 : Int32))] := V130'
  have N130 := FF130 _ N125 gb95
  have Z130 : n0 ≤ H130.size := Nat.le_trans Z125 (Nat.le_of_eq W130.size.symm)
  have Ab2_131 := own_VA_other Ab2_126 W130 (Nat.ne_of_lt lt_b2_b95)
  have Ab14_132 := own_VA_other Ab14_127 W130 (Nat.ne_of_lt lt_b14_b95)
  have Ab32_133 := own_VA_other Ab32_128 W130 (Nat.ne_of_lt lt_b32_b95)
  have Ab59_134 := own_VA_other Ab59_129 W130 (Nat.ne_of_lt lt_b59_b95)
  obtain ⟨T135, H135, Ls135, X135, e135, V135', W135, FF135, st135⟩ := own_stI X130 hx hZ e130 V130 (n := 8) (k := 7) rfl (by decide) (by decide) (g := (mkF m 278 #[.val (.int p1), .val (.int p2), .val (.long p3), .second, .val (.long p4), .second, .val (.long p5), .second, .val (.long p6), .second, .val (.long (1152921504606846975 : Int64)), .second, .val (.long q0), .second, .val (.long q1), .second, .val (.long q2), .second, .val (.long q3), .second, .val (.ref b2), .val (.int (p2 &&& (7 : Int32))), .val (.int sd), .val (.int d1), .val (.int d2), .val (.ref b14), .val (.ref b32), .val (.ref b59), .unset, .unset, .unset, .unset] [(.int (3 : Int32)), (.int (7 : Int32)), (.ref b95), (.ref b95)])) rfl rfl (hb hby at_278)
  have V135 : own_VA Z H135 b95 .int [(.int (2 : Int32)), (.int (3 : Int32)), (.int (3 : Int32)), (.int (2 : Int32)), (.int (3 : Int32)), (.int (1 : Int32)), (.int (3 : Int32)), (.int (3 : Int32))] := V135'
  have N135 := FF135 _ N130 gb95
  have Z135 : n0 ≤ H135.size := Nat.le_trans Z130 (Nat.le_of_eq W135.size.symm)
  have Ab2_136 := own_VA_other Ab2_131 W135 (Nat.ne_of_lt lt_b2_b95)
  have Ab14_137 := own_VA_other Ab14_132 W135 (Nat.ne_of_lt lt_b14_b95)
  have Ab32_138 := own_VA_other Ab32_133 W135 (Nat.ne_of_lt lt_b32_b95)
  have Ab59_139 := own_VA_other Ab59_134 W135 (Nat.ne_of_lt lt_b59_b95)
  have pre140 : ∀ t, Steps p.tables e below (T135.setTop (mkF m 281 #[.val (.int p1), .val (.int p2), .val (.long p3), .second, .val (.long p4), .second, .val (.long p5), .second, .val (.long p6), .second, .val (.long (1152921504606846975 : Int64)), .second, .val (.long q0), .second, .val (.long q1), .second, .val (.long q2), .second, .val (.long q3), .second, .val (.ref b2), .val (.int (p2 &&& (7 : Int32))), .val (.int sd), .val (.int d1), .val (.int d2), .val (.ref b14), .val (.ref b32), .val (.ref b59), .val (.ref b95), .unset, .unset, .unset] [])) t → Steps p.tables e below (s₁.setTop (entryFrame m #[(.int p1), (.int p2), (.long p3), (.long p4), (.long p5), (.long p6)] maxLocals)) t := by
    intro t k
    refine pre13 t ?_
    show Steps p.tables e below (T8.setTop (mkF m 121 #[.val (.int p1), .val (.int p2), .val (.long p3), .second, .val (.long p4), .second, .val (.long p5), .second, .val (.long p6), .second, .val (.long (1152921504606846975 : Int64)), .second, .val (.long q0), .second, .val (.long q1), .second, .val (.long q2), .second, .val (.long q3), .second, .val (.ref b2), .val (.int (p2 &&& (7 : Int32))), .val (.int sd), .val (.int d1), .val (.int d2), .unset, .unset, .unset, .unset, .unset, .unset, .unset] [])) _
    refine XS.bipush X8.here hx rfl (hb hby at_121) ?_
    show Steps p.tables e below (T8.setTop (mkF m 123 #[.val (.int p1), .val (.int p2), .val (.long p3), .second, .val (.long p4), .second, .val (.long p5), .second, .val (.long p6), .second, .val (.long (1152921504606846975 : Int64)), .second, .val (.long q0), .second, .val (.long q1), .second, .val (.long q2), .second, .val (.long q3), .second, .val (.ref b2), .val (.int (p2 &&& (7 : Int32))), .val (.int sd), .val (.int d1), .val (.int d2), .unset, .unset, .unset, .unset, .unset, .unset, .unset] [(.int (8 : Int32))])) _
    refine st14 _ ?_
    show Steps p.tables e below (T14.setTop (mkF m 125 #[.val (.int p1), .val (.int p2), .val (.long p3), .second, .val (.long p4), .second, .val (.long p5), .second, .val (.long p6), .second, .val (.long (1152921504606846975 : Int64)), .second, .val (.long q0), .second, .val (.long q1), .second, .val (.long q2), .second, .val (.long q3), .second, .val (.ref b2), .val (.int (p2 &&& (7 : Int32))), .val (.int sd), .val (.int d1), .val (.int d2), .unset, .unset, .unset, .unset, .unset, .unset, .unset] [(.ref b14)])) _
    refine XS.dup X14.here hx rfl (hb hby at_125) rfl rfl ?_
    show Steps p.tables e below (T14.setTop (mkF m 126 #[.val (.int p1), .val (.int p2), .val (.long p3), .second, .val (.long p4), .second, .val (.long p5), .second, .val (.long p6), .second, .val (.long (1152921504606846975 : Int64)), .second, .val (.long q0), .second, .val (.long q1), .second, .val (.long q2), .second, .val (.long q3), .second, .val (.ref b2), .val (.int (p2 &&& (7 : Int32))), .val (.int sd), .val (.int d1), .val (.int d2), .unset, .unset, .unset, .unset, .unset, .unset, .unset] [(.ref b14), (.ref b14)])) _
    refine XS.iconst X14.here hx rfl (hb hby at_126) ?_
    show Steps p.tables e below (T14.setTop (mkF m 127 #[.val (.int p1), .val (.int p2), .val (.long p3), .second, .val (.long p4), .second, .val (.long p5), .second, .val (.long p6), .second, .val (.long (1152921504606846975 : Int64)), .second, .val (.long q0), .second, .val (.long q1), .second, .val (.long q2), .second, .val (.long q3), .second, .val (.ref b2), .val (.int (p2 &&& (7 : Int32))), .val (.int sd), .val (.int d1), .val (.int d2), .unset, .unset, .unset, .unset, .unset, .unset, .unset] [(.int (0 : Int32)), (.ref b14), (.ref b14)])) _
    refine XS.iconst X14.here hx rfl (hb hby at_127) ?_
    show Steps p.tables e below (T14.setTop (mkF m 128 #[.val (.int p1), .val (.int p2), .val (.long p3), .second, .val (.long p4), .second, .val (.long p5), .second, .val (.long p6), .second, .val (.long (1152921504606846975 : Int64)), .second, .val (.long q0), .second, .val (.long q1), .second, .val (.long q2), .second, .val (.long q3), .second, .val (.ref b2), .val (.int (p2 &&& (7 : Int32))), .val (.int sd), .val (.int d1), .val (.int d2), .unset, .unset, .unset, .unset, .unset, .unset, .unset] [(.int (0 : Int32)), (.int (0 : Int32)), (.ref b14), (.ref b14)])) _
    refine st16 _ ?_
    show Steps p.tables e below (T16.setTop (mkF m 129 #[.val (.int p1), .val (.int p2), .val (.long p3), .second, .val (.long p4), .second, .val (.long p5), .second, .val (.long p6), .second, .val (.long (1152921504606846975 : Int64)), .second, .val (.long q0), .second, .val (.long q1), .second, .val (.long q2), .second, .val (.long q3), .second, .val (.ref b2), .val (.int (p2 &&& (7 : Int32))), .val (.int sd), .val (.int d1), .val (.int d2), .unset, .unset, .unset, .unset, .unset, .unset, .unset] [(.ref b14)])) _
    refine XS.dup X16.here hx rfl (hb hby at_129) rfl rfl ?_
    show Steps p.tables e below (T16.setTop (mkF m 130 #[.val (.int p1), .val (.int p2), .val (.long p3), .second, .val (.long p4), .second, .val (.long p5), .second, .val (.long p6), .second, .val (.long (1152921504606846975 : Int64)), .second, .val (.long q0), .second, .val (.long q1), .second, .val (.long q2), .second, .val (.long q3), .second, .val (.ref b2), .val (.int (p2 &&& (7 : Int32))), .val (.int sd), .val (.int d1), .val (.int d2), .unset, .unset, .unset, .unset, .unset, .unset, .unset] [(.ref b14), (.ref b14)])) _
    refine XS.iconst X16.here hx rfl (hb hby at_130) ?_
    show Steps p.tables e below (T16.setTop (mkF m 131 #[.val (.int p1), .val (.int p2), .val (.long p3), .second, .val (.long p4), .second, .val (.long p5), .second, .val (.long p6), .second, .val (.long (1152921504606846975 : Int64)), .second, .val (.long q0), .second, .val (.long q1), .second, .val (.long q2), .second, .val (.long q3), .second, .val (.ref b2), .val (.int (p2 &&& (7 : Int32))), .val (.int sd), .val (.int d1), .val (.int d2), .unset, .unset, .unset, .unset, .unset, .unset, .unset] [(.int (1 : Int32)), (.ref b14), (.ref b14)])) _
    refine XS.iconst X16.here hx rfl (hb hby at_131) ?_
    show Steps p.tables e below (T16.setTop (mkF m 132 #[.val (.int p1), .val (.int p2), .val (.long p3), .second, .val (.long p4), .second, .val (.long p5), .second, .val (.long p6), .second, .val (.long (1152921504606846975 : Int64)), .second, .val (.long q0), .second, .val (.long q1), .second, .val (.long q2), .second, .val (.long q3), .second, .val (.ref b2), .val (.int (p2 &&& (7 : Int32))), .val (.int sd), .val (.int d1), .val (.int d2), .unset, .unset, .unset, .unset, .unset, .unset, .unset] [(.int (1 : Int32)), (.int (1 : Int32)), (.ref b14), (.ref b14)])) _
    refine st18 _ ?_
    show Steps p.tables e below (T18.setTop (mkF m 133 #[.val (.int p1), .val (.int p2), .val (.long p3), .second, .val (.long p4), .second, .val (.long p5), .second, .val (.long p6), .second, .val (.long (1152921504606846975 : Int64)), .second, .val (.long q0), .second, .val (.long q1), .second, .val (.long q2), .second, .val (.long q3), .second, .val (.ref b2), .val (.int (p2 &&& (7 : Int32))), .val (.int sd), .val (.int d1), .val (.int d2), .unset, .unset, .unset, .unset, .unset, .unset, .unset] [(.ref b14)])) _
    refine XS.dup X18.here hx rfl (hb hby at_133) rfl rfl ?_
    show Steps p.tables e below (T18.setTop (mkF m 134 #[.val (.int p1), .val (.int p2), .val (.long p3), .second, .val (.long p4), .second, .val (.long p5), .second, .val (.long p6), .second, .val (.long (1152921504606846975 : Int64)), .second, .val (.long q0), .second, .val (.long q1), .second, .val (.long q2), .second, .val (.long q3), .second, .val (.ref b2), .val (.int (p2 &&& (7 : Int32))), .val (.int sd), .val (.int d1), .val (.int d2), .unset, .unset, .unset, .unset, .unset, .unset, .unset] [(.ref b14), (.ref b14)])) _
    refine XS.iconst X18.here hx rfl (hb hby at_134) ?_
    show Steps p.tables e below (T18.setTop (mkF m 135 #[.val (.int p1), .val (.int p2), .val (.long p3), .second, .val (.long p4), .second, .val (.long p5), .second, .val (.long p6), .second, .val (.long (1152921504606846975 : Int64)), .second, .val (.long q0), .second, .val (.long q1), .second, .val (.long q2), .second, .val (.long q3), .second, .val (.ref b2), .val (.int (p2 &&& (7 : Int32))), .val (.int sd), .val (.int d1), .val (.int d2), .unset, .unset, .unset, .unset, .unset, .unset, .unset] [(.int (2 : Int32)), (.ref b14), (.ref b14)])) _
    refine XS.iconst X18.here hx rfl (hb hby at_135) ?_
    show Steps p.tables e below (T18.setTop (mkF m 136 #[.val (.int p1), .val (.int p2), .val (.long p3), .second, .val (.long p4), .second, .val (.long p5), .second, .val (.long p6), .second, .val (.long (1152921504606846975 : Int64)), .second, .val (.long q0), .second, .val (.long q1), .second, .val (.long q2), .second, .val (.long q3), .second, .val (.ref b2), .val (.int (p2 &&& (7 : Int32))), .val (.int sd), .val (.int d1), .val (.int d2), .unset, .unset, .unset, .unset, .unset, .unset, .unset] [(.int (0 : Int32)), (.int (2 : Int32)), (.ref b14), (.ref b14)])) _
    refine st20 _ ?_
    show Steps p.tables e below (T20.setTop (mkF m 137 #[.val (.int p1), .val (.int p2), .val (.long p3), .second, .val (.long p4), .second, .val (.long p5), .second, .val (.long p6), .second, .val (.long (1152921504606846975 : Int64)), .second, .val (.long q0), .second, .val (.long q1), .second, .val (.long q2), .second, .val (.long q3), .second, .val (.ref b2), .val (.int (p2 &&& (7 : Int32))), .val (.int sd), .val (.int d1), .val (.int d2), .unset, .unset, .unset, .unset, .unset, .unset, .unset] [(.ref b14)])) _
    refine XS.dup X20.here hx rfl (hb hby at_137) rfl rfl ?_
    show Steps p.tables e below (T20.setTop (mkF m 138 #[.val (.int p1), .val (.int p2), .val (.long p3), .second, .val (.long p4), .second, .val (.long p5), .second, .val (.long p6), .second, .val (.long (1152921504606846975 : Int64)), .second, .val (.long q0), .second, .val (.long q1), .second, .val (.long q2), .second, .val (.long q3), .second, .val (.ref b2), .val (.int (p2 &&& (7 : Int32))), .val (.int sd), .val (.int d1), .val (.int d2), .unset, .unset, .unset, .unset, .unset, .unset, .unset] [(.ref b14), (.ref b14)])) _
    refine XS.iconst X20.here hx rfl (hb hby at_138) ?_
    show Steps p.tables e below (T20.setTop (mkF m 139 #[.val (.int p1), .val (.int p2), .val (.long p3), .second, .val (.long p4), .second, .val (.long p5), .second, .val (.long p6), .second, .val (.long (1152921504606846975 : Int64)), .second, .val (.long q0), .second, .val (.long q1), .second, .val (.long q2), .second, .val (.long q3), .second, .val (.ref b2), .val (.int (p2 &&& (7 : Int32))), .val (.int sd), .val (.int d1), .val (.int d2), .unset, .unset, .unset, .unset, .unset, .unset, .unset] [(.int (3 : Int32)), (.ref b14), (.ref b14)])) _
    refine XS.iconst X20.here hx rfl (hb hby at_139) ?_
    show Steps p.tables e below (T20.setTop (mkF m 140 #[.val (.int p1), .val (.int p2), .val (.long p3), .second, .val (.long p4), .second, .val (.long p5), .second, .val (.long p6), .second, .val (.long (1152921504606846975 : Int64)), .second, .val (.long q0), .second, .val (.long q1), .second, .val (.long q2), .second, .val (.long q3), .second, .val (.ref b2), .val (.int (p2 &&& (7 : Int32))), .val (.int sd), .val (.int d1), .val (.int d2), .unset, .unset, .unset, .unset, .unset, .unset, .unset] [(.int (1 : Int32)), (.int (3 : Int32)), (.ref b14), (.ref b14)])) _
    refine st22 _ ?_
    show Steps p.tables e below (T22.setTop (mkF m 141 #[.val (.int p1), .val (.int p2), .val (.long p3), .second, .val (.long p4), .second, .val (.long p5), .second, .val (.long p6), .second, .val (.long (1152921504606846975 : Int64)), .second, .val (.long q0), .second, .val (.long q1), .second, .val (.long q2), .second, .val (.long q3), .second, .val (.ref b2), .val (.int (p2 &&& (7 : Int32))), .val (.int sd), .val (.int d1), .val (.int d2), .unset, .unset, .unset, .unset, .unset, .unset, .unset] [(.ref b14)])) _
    refine XS.dup X22.here hx rfl (hb hby at_141) rfl rfl ?_
    show Steps p.tables e below (T22.setTop (mkF m 142 #[.val (.int p1), .val (.int p2), .val (.long p3), .second, .val (.long p4), .second, .val (.long p5), .second, .val (.long p6), .second, .val (.long (1152921504606846975 : Int64)), .second, .val (.long q0), .second, .val (.long q1), .second, .val (.long q2), .second, .val (.long q3), .second, .val (.ref b2), .val (.int (p2 &&& (7 : Int32))), .val (.int sd), .val (.int d1), .val (.int d2), .unset, .unset, .unset, .unset, .unset, .unset, .unset] [(.ref b14), (.ref b14)])) _
    refine XS.iconst X22.here hx rfl (hb hby at_142) ?_
    show Steps p.tables e below (T22.setTop (mkF m 143 #[.val (.int p1), .val (.int p2), .val (.long p3), .second, .val (.long p4), .second, .val (.long p5), .second, .val (.long p6), .second, .val (.long (1152921504606846975 : Int64)), .second, .val (.long q0), .second, .val (.long q1), .second, .val (.long q2), .second, .val (.long q3), .second, .val (.ref b2), .val (.int (p2 &&& (7 : Int32))), .val (.int sd), .val (.int d1), .val (.int d2), .unset, .unset, .unset, .unset, .unset, .unset, .unset] [(.int (4 : Int32)), (.ref b14), (.ref b14)])) _
    refine XS.iconst X22.here hx rfl (hb hby at_143) ?_
    show Steps p.tables e below (T22.setTop (mkF m 144 #[.val (.int p1), .val (.int p2), .val (.long p3), .second, .val (.long p4), .second, .val (.long p5), .second, .val (.long p6), .second, .val (.long (1152921504606846975 : Int64)), .second, .val (.long q0), .second, .val (.long q1), .second, .val (.long q2), .second, .val (.long q3), .second, .val (.ref b2), .val (.int (p2 &&& (7 : Int32))), .val (.int sd), .val (.int d1), .val (.int d2), .unset, .unset, .unset, .unset, .unset, .unset, .unset] [(.int (0 : Int32)), (.int (4 : Int32)), (.ref b14), (.ref b14)])) _
    refine st24 _ ?_
    show Steps p.tables e below (T24.setTop (mkF m 145 #[.val (.int p1), .val (.int p2), .val (.long p3), .second, .val (.long p4), .second, .val (.long p5), .second, .val (.long p6), .second, .val (.long (1152921504606846975 : Int64)), .second, .val (.long q0), .second, .val (.long q1), .second, .val (.long q2), .second, .val (.long q3), .second, .val (.ref b2), .val (.int (p2 &&& (7 : Int32))), .val (.int sd), .val (.int d1), .val (.int d2), .unset, .unset, .unset, .unset, .unset, .unset, .unset] [(.ref b14)])) _
    refine XS.dup X24.here hx rfl (hb hby at_145) rfl rfl ?_
    show Steps p.tables e below (T24.setTop (mkF m 146 #[.val (.int p1), .val (.int p2), .val (.long p3), .second, .val (.long p4), .second, .val (.long p5), .second, .val (.long p6), .second, .val (.long (1152921504606846975 : Int64)), .second, .val (.long q0), .second, .val (.long q1), .second, .val (.long q2), .second, .val (.long q3), .second, .val (.ref b2), .val (.int (p2 &&& (7 : Int32))), .val (.int sd), .val (.int d1), .val (.int d2), .unset, .unset, .unset, .unset, .unset, .unset, .unset] [(.ref b14), (.ref b14)])) _
    refine XS.iconst X24.here hx rfl (hb hby at_146) ?_
    show Steps p.tables e below (T24.setTop (mkF m 147 #[.val (.int p1), .val (.int p2), .val (.long p3), .second, .val (.long p4), .second, .val (.long p5), .second, .val (.long p6), .second, .val (.long (1152921504606846975 : Int64)), .second, .val (.long q0), .second, .val (.long q1), .second, .val (.long q2), .second, .val (.long q3), .second, .val (.ref b2), .val (.int (p2 &&& (7 : Int32))), .val (.int sd), .val (.int d1), .val (.int d2), .unset, .unset, .unset, .unset, .unset, .unset, .unset] [(.int (5 : Int32)), (.ref b14), (.ref b14)])) _
    refine XS.iconst X24.here hx rfl (hb hby at_147) ?_
    show Steps p.tables e below (T24.setTop (mkF m 148 #[.val (.int p1), .val (.int p2), .val (.long p3), .second, .val (.long p4), .second, .val (.long p5), .second, .val (.long p6), .second, .val (.long (1152921504606846975 : Int64)), .second, .val (.long q0), .second, .val (.long q1), .second, .val (.long q2), .second, .val (.long q3), .second, .val (.ref b2), .val (.int (p2 &&& (7 : Int32))), .val (.int sd), .val (.int d1), .val (.int d2), .unset, .unset, .unset, .unset, .unset, .unset, .unset] [(.int (2 : Int32)), (.int (5 : Int32)), (.ref b14), (.ref b14)])) _
    refine st26 _ ?_
    show Steps p.tables e below (T26.setTop (mkF m 149 #[.val (.int p1), .val (.int p2), .val (.long p3), .second, .val (.long p4), .second, .val (.long p5), .second, .val (.long p6), .second, .val (.long (1152921504606846975 : Int64)), .second, .val (.long q0), .second, .val (.long q1), .second, .val (.long q2), .second, .val (.long q3), .second, .val (.ref b2), .val (.int (p2 &&& (7 : Int32))), .val (.int sd), .val (.int d1), .val (.int d2), .unset, .unset, .unset, .unset, .unset, .unset, .unset] [(.ref b14)])) _
    refine XS.dup X26.here hx rfl (hb hby at_149) rfl rfl ?_
    show Steps p.tables e below (T26.setTop (mkF m 150 #[.val (.int p1), .val (.int p2), .val (.long p3), .second, .val (.long p4), .second, .val (.long p5), .second, .val (.long p6), .second, .val (.long (1152921504606846975 : Int64)), .second, .val (.long q0), .second, .val (.long q1), .second, .val (.long q2), .second, .val (.long q3), .second, .val (.ref b2), .val (.int (p2 &&& (7 : Int32))), .val (.int sd), .val (.int d1), .val (.int d2), .unset, .unset, .unset, .unset, .unset, .unset, .unset] [(.ref b14), (.ref b14)])) _
    refine XS.bipush X26.here hx rfl (hb hby at_150) ?_
    show Steps p.tables e below (T26.setTop (mkF m 152 #[.val (.int p1), .val (.int p2), .val (.long p3), .second, .val (.long p4), .second, .val (.long p5), .second, .val (.long p6), .second, .val (.long (1152921504606846975 : Int64)), .second, .val (.long q0), .second, .val (.long q1), .second, .val (.long q2), .second, .val (.long q3), .second, .val (.ref b2), .val (.int (p2 &&& (7 : Int32))), .val (.int sd), .val (.int d1), .val (.int d2), .unset, .unset, .unset, .unset, .unset, .unset, .unset] [(.int (6 : Int32)), (.ref b14), (.ref b14)])) _
    refine XS.iconst X26.here hx rfl (hb hby at_152) ?_
    show Steps p.tables e below (T26.setTop (mkF m 153 #[.val (.int p1), .val (.int p2), .val (.long p3), .second, .val (.long p4), .second, .val (.long p5), .second, .val (.long p6), .second, .val (.long (1152921504606846975 : Int64)), .second, .val (.long q0), .second, .val (.long q1), .second, .val (.long q2), .second, .val (.long q3), .second, .val (.ref b2), .val (.int (p2 &&& (7 : Int32))), .val (.int sd), .val (.int d1), .val (.int d2), .unset, .unset, .unset, .unset, .unset, .unset, .unset] [(.int (0 : Int32)), (.int (6 : Int32)), (.ref b14), (.ref b14)])) _
    refine st28 _ ?_
    show Steps p.tables e below (T28.setTop (mkF m 154 #[.val (.int p1), .val (.int p2), .val (.long p3), .second, .val (.long p4), .second, .val (.long p5), .second, .val (.long p6), .second, .val (.long (1152921504606846975 : Int64)), .second, .val (.long q0), .second, .val (.long q1), .second, .val (.long q2), .second, .val (.long q3), .second, .val (.ref b2), .val (.int (p2 &&& (7 : Int32))), .val (.int sd), .val (.int d1), .val (.int d2), .unset, .unset, .unset, .unset, .unset, .unset, .unset] [(.ref b14)])) _
    refine XS.dup X28.here hx rfl (hb hby at_154) rfl rfl ?_
    show Steps p.tables e below (T28.setTop (mkF m 155 #[.val (.int p1), .val (.int p2), .val (.long p3), .second, .val (.long p4), .second, .val (.long p5), .second, .val (.long p6), .second, .val (.long (1152921504606846975 : Int64)), .second, .val (.long q0), .second, .val (.long q1), .second, .val (.long q2), .second, .val (.long q3), .second, .val (.ref b2), .val (.int (p2 &&& (7 : Int32))), .val (.int sd), .val (.int d1), .val (.int d2), .unset, .unset, .unset, .unset, .unset, .unset, .unset] [(.ref b14), (.ref b14)])) _
    refine XS.bipush X28.here hx rfl (hb hby at_155) ?_
    show Steps p.tables e below (T28.setTop (mkF m 157 #[.val (.int p1), .val (.int p2), .val (.long p3), .second, .val (.long p4), .second, .val (.long p5), .second, .val (.long p6), .second, .val (.long (1152921504606846975 : Int64)), .second, .val (.long q0), .second, .val (.long q1), .second, .val (.long q2), .second, .val (.long q3), .second, .val (.ref b2), .val (.int (p2 &&& (7 : Int32))), .val (.int sd), .val (.int d1), .val (.int d2), .unset, .unset, .unset, .unset, .unset, .unset, .unset] [(.int (7 : Int32)), (.ref b14), (.ref b14)])) _
    refine XS.iconst X28.here hx rfl (hb hby at_157) ?_
    show Steps p.tables e below (T28.setTop (mkF m 158 #[.val (.int p1), .val (.int p2), .val (.long p3), .second, .val (.long p4), .second, .val (.long p5), .second, .val (.long p6), .second, .val (.long (1152921504606846975 : Int64)), .second, .val (.long q0), .second, .val (.long q1), .second, .val (.long q2), .second, .val (.long q3), .second, .val (.ref b2), .val (.int (p2 &&& (7 : Int32))), .val (.int sd), .val (.int d1), .val (.int d2), .unset, .unset, .unset, .unset, .unset, .unset, .unset] [(.int (0 : Int32)), (.int (7 : Int32)), (.ref b14), (.ref b14)])) _
    refine st30 _ ?_
    show Steps p.tables e below (T30.setTop (mkF m 159 #[.val (.int p1), .val (.int p2), .val (.long p3), .second, .val (.long p4), .second, .val (.long p5), .second, .val (.long p6), .second, .val (.long (1152921504606846975 : Int64)), .second, .val (.long q0), .second, .val (.long q1), .second, .val (.long q2), .second, .val (.long q3), .second, .val (.ref b2), .val (.int (p2 &&& (7 : Int32))), .val (.int sd), .val (.int d1), .val (.int d2), .unset, .unset, .unset, .unset, .unset, .unset, .unset] [(.ref b14)])) _
    refine XS.astore X30.here hx rfl (hb hby at_159) rfl rfl (l' := #[.val (.int p1), .val (.int p2), .val (.long p3), .second, .val (.long p4), .second, .val (.long p5), .second, .val (.long p6), .second, .val (.long (1152921504606846975 : Int64)), .second, .val (.long q0), .second, .val (.long q1), .second, .val (.long q2), .second, .val (.long q3), .second, .val (.ref b2), .val (.int (p2 &&& (7 : Int32))), .val (.int sd), .val (.int d1), .val (.int d2), .val (.ref b14), .unset, .unset, .unset, .unset, .unset, .unset]) rfl ?_
    show Steps p.tables e below (T30.setTop (mkF m 161 #[.val (.int p1), .val (.int p2), .val (.long p3), .second, .val (.long p4), .second, .val (.long p5), .second, .val (.long p6), .second, .val (.long (1152921504606846975 : Int64)), .second, .val (.long q0), .second, .val (.long q1), .second, .val (.long q2), .second, .val (.long q3), .second, .val (.ref b2), .val (.int (p2 &&& (7 : Int32))), .val (.int sd), .val (.int d1), .val (.int d2), .val (.ref b14), .unset, .unset, .unset, .unset, .unset, .unset] [])) _
    refine XS.bipush X30.here hx rfl (hb hby at_161) ?_
    show Steps p.tables e below (T30.setTop (mkF m 163 #[.val (.int p1), .val (.int p2), .val (.long p3), .second, .val (.long p4), .second, .val (.long p5), .second, .val (.long p6), .second, .val (.long (1152921504606846975 : Int64)), .second, .val (.long q0), .second, .val (.long q1), .second, .val (.long q2), .second, .val (.long q3), .second, .val (.ref b2), .val (.int (p2 &&& (7 : Int32))), .val (.int sd), .val (.int d1), .val (.int d2), .val (.ref b14), .unset, .unset, .unset, .unset, .unset, .unset] [(.int (8 : Int32))])) _
    refine st32 _ ?_
    show Steps p.tables e below (T32.setTop (mkF m 165 #[.val (.int p1), .val (.int p2), .val (.long p3), .second, .val (.long p4), .second, .val (.long p5), .second, .val (.long p6), .second, .val (.long (1152921504606846975 : Int64)), .second, .val (.long q0), .second, .val (.long q1), .second, .val (.long q2), .second, .val (.long q3), .second, .val (.ref b2), .val (.int (p2 &&& (7 : Int32))), .val (.int sd), .val (.int d1), .val (.int d2), .val (.ref b14), .unset, .unset, .unset, .unset, .unset, .unset] [(.ref b32)])) _
    refine XS.dup X32.here hx rfl (hb hby at_165) rfl rfl ?_
    show Steps p.tables e below (T32.setTop (mkF m 166 #[.val (.int p1), .val (.int p2), .val (.long p3), .second, .val (.long p4), .second, .val (.long p5), .second, .val (.long p6), .second, .val (.long (1152921504606846975 : Int64)), .second, .val (.long q0), .second, .val (.long q1), .second, .val (.long q2), .second, .val (.long q3), .second, .val (.ref b2), .val (.int (p2 &&& (7 : Int32))), .val (.int sd), .val (.int d1), .val (.int d2), .val (.ref b14), .unset, .unset, .unset, .unset, .unset, .unset] [(.ref b32), (.ref b32)])) _
    refine XS.iconst X32.here hx rfl (hb hby at_166) ?_
    show Steps p.tables e below (T32.setTop (mkF m 167 #[.val (.int p1), .val (.int p2), .val (.long p3), .second, .val (.long p4), .second, .val (.long p5), .second, .val (.long p6), .second, .val (.long (1152921504606846975 : Int64)), .second, .val (.long q0), .second, .val (.long q1), .second, .val (.long q2), .second, .val (.long q3), .second, .val (.ref b2), .val (.int (p2 &&& (7 : Int32))), .val (.int sd), .val (.int d1), .val (.int d2), .val (.ref b14), .unset, .unset, .unset, .unset, .unset, .unset] [(.int (0 : Int32)), (.ref b32), (.ref b32)])) _
    refine XS.iconst X32.here hx rfl (hb hby at_167) ?_
    show Steps p.tables e below (T32.setTop (mkF m 168 #[.val (.int p1), .val (.int p2), .val (.long p3), .second, .val (.long p4), .second, .val (.long p5), .second, .val (.long p6), .second, .val (.long (1152921504606846975 : Int64)), .second, .val (.long q0), .second, .val (.long q1), .second, .val (.long q2), .second, .val (.long q3), .second, .val (.ref b2), .val (.int (p2 &&& (7 : Int32))), .val (.int sd), .val (.int d1), .val (.int d2), .val (.ref b14), .unset, .unset, .unset, .unset, .unset, .unset] [(.int (3 : Int32)), (.int (0 : Int32)), (.ref b32), (.ref b32)])) _
    refine st35 _ ?_
    show Steps p.tables e below (T35.setTop (mkF m 169 #[.val (.int p1), .val (.int p2), .val (.long p3), .second, .val (.long p4), .second, .val (.long p5), .second, .val (.long p6), .second, .val (.long (1152921504606846975 : Int64)), .second, .val (.long q0), .second, .val (.long q1), .second, .val (.long q2), .second, .val (.long q3), .second, .val (.ref b2), .val (.int (p2 &&& (7 : Int32))), .val (.int sd), .val (.int d1), .val (.int d2), .val (.ref b14), .unset, .unset, .unset, .unset, .unset, .unset] [(.ref b32)])) _
    refine XS.dup X35.here hx rfl (hb hby at_169) rfl rfl ?_
    show Steps p.tables e below (T35.setTop (mkF m 170 #[.val (.int p1), .val (.int p2), .val (.long p3), .second, .val (.long p4), .second, .val (.long p5), .second, .val (.long p6), .second, .val (.long (1152921504606846975 : Int64)), .second, .val (.long q0), .second, .val (.long q1), .second, .val (.long q2), .second, .val (.long q3), .second, .val (.ref b2), .val (.int (p2 &&& (7 : Int32))), .val (.int sd), .val (.int d1), .val (.int d2), .val (.ref b14), .unset, .unset, .unset, .unset, .unset, .unset] [(.ref b32), (.ref b32)])) _
    refine XS.iconst X35.here hx rfl (hb hby at_170) ?_
    show Steps p.tables e below (T35.setTop (mkF m 171 #[.val (.int p1), .val (.int p2), .val (.long p3), .second, .val (.long p4), .second, .val (.long p5), .second, .val (.long p6), .second, .val (.long (1152921504606846975 : Int64)), .second, .val (.long q0), .second, .val (.long q1), .second, .val (.long q2), .second, .val (.long q3), .second, .val (.ref b2), .val (.int (p2 &&& (7 : Int32))), .val (.int sd), .val (.int d1), .val (.int d2), .val (.ref b14), .unset, .unset, .unset, .unset, .unset, .unset] [(.int (1 : Int32)), (.ref b32), (.ref b32)])) _
    refine XS.iconst X35.here hx rfl (hb hby at_171) ?_
    show Steps p.tables e below (T35.setTop (mkF m 172 #[.val (.int p1), .val (.int p2), .val (.long p3), .second, .val (.long p4), .second, .val (.long p5), .second, .val (.long p6), .second, .val (.long (1152921504606846975 : Int64)), .second, .val (.long q0), .second, .val (.long q1), .second, .val (.long q2), .second, .val (.long q3), .second, .val (.ref b2), .val (.int (p2 &&& (7 : Int32))), .val (.int sd), .val (.int d1), .val (.int d2), .val (.ref b14), .unset, .unset, .unset, .unset, .unset, .unset] [(.int (2 : Int32)), (.int (1 : Int32)), (.ref b32), (.ref b32)])) _
    refine st38 _ ?_
    show Steps p.tables e below (T38.setTop (mkF m 173 #[.val (.int p1), .val (.int p2), .val (.long p3), .second, .val (.long p4), .second, .val (.long p5), .second, .val (.long p6), .second, .val (.long (1152921504606846975 : Int64)), .second, .val (.long q0), .second, .val (.long q1), .second, .val (.long q2), .second, .val (.long q3), .second, .val (.ref b2), .val (.int (p2 &&& (7 : Int32))), .val (.int sd), .val (.int d1), .val (.int d2), .val (.ref b14), .unset, .unset, .unset, .unset, .unset, .unset] [(.ref b32)])) _
    refine XS.dup X38.here hx rfl (hb hby at_173) rfl rfl ?_
    show Steps p.tables e below (T38.setTop (mkF m 174 #[.val (.int p1), .val (.int p2), .val (.long p3), .second, .val (.long p4), .second, .val (.long p5), .second, .val (.long p6), .second, .val (.long (1152921504606846975 : Int64)), .second, .val (.long q0), .second, .val (.long q1), .second, .val (.long q2), .second, .val (.long q3), .second, .val (.ref b2), .val (.int (p2 &&& (7 : Int32))), .val (.int sd), .val (.int d1), .val (.int d2), .val (.ref b14), .unset, .unset, .unset, .unset, .unset, .unset] [(.ref b32), (.ref b32)])) _
    refine XS.iconst X38.here hx rfl (hb hby at_174) ?_
    show Steps p.tables e below (T38.setTop (mkF m 175 #[.val (.int p1), .val (.int p2), .val (.long p3), .second, .val (.long p4), .second, .val (.long p5), .second, .val (.long p6), .second, .val (.long (1152921504606846975 : Int64)), .second, .val (.long q0), .second, .val (.long q1), .second, .val (.long q2), .second, .val (.long q3), .second, .val (.ref b2), .val (.int (p2 &&& (7 : Int32))), .val (.int sd), .val (.int d1), .val (.int d2), .val (.ref b14), .unset, .unset, .unset, .unset, .unset, .unset] [(.int (2 : Int32)), (.ref b32), (.ref b32)])) _
    refine XS.iconst X38.here hx rfl (hb hby at_175) ?_
    show Steps p.tables e below (T38.setTop (mkF m 176 #[.val (.int p1), .val (.int p2), .val (.long p3), .second, .val (.long p4), .second, .val (.long p5), .second, .val (.long p6), .second, .val (.long (1152921504606846975 : Int64)), .second, .val (.long q0), .second, .val (.long q1), .second, .val (.long q2), .second, .val (.long q3), .second, .val (.ref b2), .val (.int (p2 &&& (7 : Int32))), .val (.int sd), .val (.int d1), .val (.int d2), .val (.ref b14), .unset, .unset, .unset, .unset, .unset, .unset] [(.int (2 : Int32)), (.int (2 : Int32)), (.ref b32), (.ref b32)])) _
    refine st41 _ ?_
    show Steps p.tables e below (T41.setTop (mkF m 177 #[.val (.int p1), .val (.int p2), .val (.long p3), .second, .val (.long p4), .second, .val (.long p5), .second, .val (.long p6), .second, .val (.long (1152921504606846975 : Int64)), .second, .val (.long q0), .second, .val (.long q1), .second, .val (.long q2), .second, .val (.long q3), .second, .val (.ref b2), .val (.int (p2 &&& (7 : Int32))), .val (.int sd), .val (.int d1), .val (.int d2), .val (.ref b14), .unset, .unset, .unset, .unset, .unset, .unset] [(.ref b32)])) _
    refine XS.dup X41.here hx rfl (hb hby at_177) rfl rfl ?_
    show Steps p.tables e below (T41.setTop (mkF m 178 #[.val (.int p1), .val (.int p2), .val (.long p3), .second, .val (.long p4), .second, .val (.long p5), .second, .val (.long p6), .second, .val (.long (1152921504606846975 : Int64)), .second, .val (.long q0), .second, .val (.long q1), .second, .val (.long q2), .second, .val (.long q3), .second, .val (.ref b2), .val (.int (p2 &&& (7 : Int32))), .val (.int sd), .val (.int d1), .val (.int d2), .val (.ref b14), .unset, .unset, .unset, .unset, .unset, .unset] [(.ref b32), (.ref b32)])) _
    refine XS.iconst X41.here hx rfl (hb hby at_178) ?_
    show Steps p.tables e below (T41.setTop (mkF m 179 #[.val (.int p1), .val (.int p2), .val (.long p3), .second, .val (.long p4), .second, .val (.long p5), .second, .val (.long p6), .second, .val (.long (1152921504606846975 : Int64)), .second, .val (.long q0), .second, .val (.long q1), .second, .val (.long q2), .second, .val (.long q3), .second, .val (.ref b2), .val (.int (p2 &&& (7 : Int32))), .val (.int sd), .val (.int d1), .val (.int d2), .val (.ref b14), .unset, .unset, .unset, .unset, .unset, .unset] [(.int (3 : Int32)), (.ref b32), (.ref b32)])) _
    refine XS.iconst X41.here hx rfl (hb hby at_179) ?_
    show Steps p.tables e below (T41.setTop (mkF m 180 #[.val (.int p1), .val (.int p2), .val (.long p3), .second, .val (.long p4), .second, .val (.long p5), .second, .val (.long p6), .second, .val (.long (1152921504606846975 : Int64)), .second, .val (.long q0), .second, .val (.long q1), .second, .val (.long q2), .second, .val (.long q3), .second, .val (.ref b2), .val (.int (p2 &&& (7 : Int32))), .val (.int sd), .val (.int d1), .val (.int d2), .val (.ref b14), .unset, .unset, .unset, .unset, .unset, .unset] [(.int (3 : Int32)), (.int (3 : Int32)), (.ref b32), (.ref b32)])) _
    refine st44 _ ?_
    show Steps p.tables e below (T44.setTop (mkF m 181 #[.val (.int p1), .val (.int p2), .val (.long p3), .second, .val (.long p4), .second, .val (.long p5), .second, .val (.long p6), .second, .val (.long (1152921504606846975 : Int64)), .second, .val (.long q0), .second, .val (.long q1), .second, .val (.long q2), .second, .val (.long q3), .second, .val (.ref b2), .val (.int (p2 &&& (7 : Int32))), .val (.int sd), .val (.int d1), .val (.int d2), .val (.ref b14), .unset, .unset, .unset, .unset, .unset, .unset] [(.ref b32)])) _
    refine XS.dup X44.here hx rfl (hb hby at_181) rfl rfl ?_
    show Steps p.tables e below (T44.setTop (mkF m 182 #[.val (.int p1), .val (.int p2), .val (.long p3), .second, .val (.long p4), .second, .val (.long p5), .second, .val (.long p6), .second, .val (.long (1152921504606846975 : Int64)), .second, .val (.long q0), .second, .val (.long q1), .second, .val (.long q2), .second, .val (.long q3), .second, .val (.ref b2), .val (.int (p2 &&& (7 : Int32))), .val (.int sd), .val (.int d1), .val (.int d2), .val (.ref b14), .unset, .unset, .unset, .unset, .unset, .unset] [(.ref b32), (.ref b32)])) _
    refine XS.iconst X44.here hx rfl (hb hby at_182) ?_
    show Steps p.tables e below (T44.setTop (mkF m 183 #[.val (.int p1), .val (.int p2), .val (.long p3), .second, .val (.long p4), .second, .val (.long p5), .second, .val (.long p6), .second, .val (.long (1152921504606846975 : Int64)), .second, .val (.long q0), .second, .val (.long q1), .second, .val (.long q2), .second, .val (.long q3), .second, .val (.ref b2), .val (.int (p2 &&& (7 : Int32))), .val (.int sd), .val (.int d1), .val (.int d2), .val (.ref b14), .unset, .unset, .unset, .unset, .unset, .unset] [(.int (4 : Int32)), (.ref b32), (.ref b32)])) _
    refine XS.iconst X44.here hx rfl (hb hby at_183) ?_
    show Steps p.tables e below (T44.setTop (mkF m 184 #[.val (.int p1), .val (.int p2), .val (.long p3), .second, .val (.long p4), .second, .val (.long p5), .second, .val (.long p6), .second, .val (.long (1152921504606846975 : Int64)), .second, .val (.long q0), .second, .val (.long q1), .second, .val (.long q2), .second, .val (.long q3), .second, .val (.ref b2), .val (.int (p2 &&& (7 : Int32))), .val (.int sd), .val (.int d1), .val (.int d2), .val (.ref b14), .unset, .unset, .unset, .unset, .unset, .unset] [(.int (1 : Int32)), (.int (4 : Int32)), (.ref b32), (.ref b32)])) _
    refine st47 _ ?_
    show Steps p.tables e below (T47.setTop (mkF m 185 #[.val (.int p1), .val (.int p2), .val (.long p3), .second, .val (.long p4), .second, .val (.long p5), .second, .val (.long p6), .second, .val (.long (1152921504606846975 : Int64)), .second, .val (.long q0), .second, .val (.long q1), .second, .val (.long q2), .second, .val (.long q3), .second, .val (.ref b2), .val (.int (p2 &&& (7 : Int32))), .val (.int sd), .val (.int d1), .val (.int d2), .val (.ref b14), .unset, .unset, .unset, .unset, .unset, .unset] [(.ref b32)])) _
    refine XS.dup X47.here hx rfl (hb hby at_185) rfl rfl ?_
    show Steps p.tables e below (T47.setTop (mkF m 186 #[.val (.int p1), .val (.int p2), .val (.long p3), .second, .val (.long p4), .second, .val (.long p5), .second, .val (.long p6), .second, .val (.long (1152921504606846975 : Int64)), .second, .val (.long q0), .second, .val (.long q1), .second, .val (.long q2), .second, .val (.long q3), .second, .val (.ref b2), .val (.int (p2 &&& (7 : Int32))), .val (.int sd), .val (.int d1), .val (.int d2), .val (.ref b14), .unset, .unset, .unset, .unset, .unset, .unset] [(.ref b32), (.ref b32)])) _
    refine XS.iconst X47.here hx rfl (hb hby at_186) ?_
    show Steps p.tables e below (T47.setTop (mkF m 187 #[.val (.int p1), .val (.int p2), .val (.long p3), .second, .val (.long p4), .second, .val (.long p5), .second, .val (.long p6), .second, .val (.long (1152921504606846975 : Int64)), .second, .val (.long q0), .second, .val (.long q1), .second, .val (.long q2), .second, .val (.long q3), .second, .val (.ref b2), .val (.int (p2 &&& (7 : Int32))), .val (.int sd), .val (.int d1), .val (.int d2), .val (.ref b14), .unset, .unset, .unset, .unset, .unset, .unset] [(.int (5 : Int32)), (.ref b32), (.ref b32)])) _
    refine XS.iconst X47.here hx rfl (hb hby at_187) ?_
    show Steps p.tables e below (T47.setTop (mkF m 188 #[.val (.int p1), .val (.int p2), .val (.long p3), .second, .val (.long p4), .second, .val (.long p5), .second, .val (.long p6), .second, .val (.long (1152921504606846975 : Int64)), .second, .val (.long q0), .second, .val (.long q1), .second, .val (.long q2), .second, .val (.long q3), .second, .val (.ref b2), .val (.int (p2 &&& (7 : Int32))), .val (.int sd), .val (.int d1), .val (.int d2), .val (.ref b14), .unset, .unset, .unset, .unset, .unset, .unset] [(.int (3 : Int32)), (.int (5 : Int32)), (.ref b32), (.ref b32)])) _
    refine st50 _ ?_
    show Steps p.tables e below (T50.setTop (mkF m 189 #[.val (.int p1), .val (.int p2), .val (.long p3), .second, .val (.long p4), .second, .val (.long p5), .second, .val (.long p6), .second, .val (.long (1152921504606846975 : Int64)), .second, .val (.long q0), .second, .val (.long q1), .second, .val (.long q2), .second, .val (.long q3), .second, .val (.ref b2), .val (.int (p2 &&& (7 : Int32))), .val (.int sd), .val (.int d1), .val (.int d2), .val (.ref b14), .unset, .unset, .unset, .unset, .unset, .unset] [(.ref b32)])) _
    refine XS.dup X50.here hx rfl (hb hby at_189) rfl rfl ?_
    show Steps p.tables e below (T50.setTop (mkF m 190 #[.val (.int p1), .val (.int p2), .val (.long p3), .second, .val (.long p4), .second, .val (.long p5), .second, .val (.long p6), .second, .val (.long (1152921504606846975 : Int64)), .second, .val (.long q0), .second, .val (.long q1), .second, .val (.long q2), .second, .val (.long q3), .second, .val (.ref b2), .val (.int (p2 &&& (7 : Int32))), .val (.int sd), .val (.int d1), .val (.int d2), .val (.ref b14), .unset, .unset, .unset, .unset, .unset, .unset] [(.ref b32), (.ref b32)])) _
    refine XS.bipush X50.here hx rfl (hb hby at_190) ?_
    show Steps p.tables e below (T50.setTop (mkF m 192 #[.val (.int p1), .val (.int p2), .val (.long p3), .second, .val (.long p4), .second, .val (.long p5), .second, .val (.long p6), .second, .val (.long (1152921504606846975 : Int64)), .second, .val (.long q0), .second, .val (.long q1), .second, .val (.long q2), .second, .val (.long q3), .second, .val (.ref b2), .val (.int (p2 &&& (7 : Int32))), .val (.int sd), .val (.int d1), .val (.int d2), .val (.ref b14), .unset, .unset, .unset, .unset, .unset, .unset] [(.int (6 : Int32)), (.ref b32), (.ref b32)])) _
    refine XS.iconst X50.here hx rfl (hb hby at_192) ?_
    show Steps p.tables e below (T50.setTop (mkF m 193 #[.val (.int p1), .val (.int p2), .val (.long p3), .second, .val (.long p4), .second, .val (.long p5), .second, .val (.long p6), .second, .val (.long (1152921504606846975 : Int64)), .second, .val (.long q0), .second, .val (.long q1), .second, .val (.long q2), .second, .val (.long q3), .second, .val (.ref b2), .val (.int (p2 &&& (7 : Int32))), .val (.int sd), .val (.int d1), .val (.int d2), .val (.ref b14), .unset, .unset, .unset, .unset, .unset, .unset] [(.int (3 : Int32)), (.int (6 : Int32)), (.ref b32), (.ref b32)])) _
    refine st53 _ ?_
    show Steps p.tables e below (T53.setTop (mkF m 194 #[.val (.int p1), .val (.int p2), .val (.long p3), .second, .val (.long p4), .second, .val (.long p5), .second, .val (.long p6), .second, .val (.long (1152921504606846975 : Int64)), .second, .val (.long q0), .second, .val (.long q1), .second, .val (.long q2), .second, .val (.long q3), .second, .val (.ref b2), .val (.int (p2 &&& (7 : Int32))), .val (.int sd), .val (.int d1), .val (.int d2), .val (.ref b14), .unset, .unset, .unset, .unset, .unset, .unset] [(.ref b32)])) _
    refine XS.dup X53.here hx rfl (hb hby at_194) rfl rfl ?_
    show Steps p.tables e below (T53.setTop (mkF m 195 #[.val (.int p1), .val (.int p2), .val (.long p3), .second, .val (.long p4), .second, .val (.long p5), .second, .val (.long p6), .second, .val (.long (1152921504606846975 : Int64)), .second, .val (.long q0), .second, .val (.long q1), .second, .val (.long q2), .second, .val (.long q3), .second, .val (.ref b2), .val (.int (p2 &&& (7 : Int32))), .val (.int sd), .val (.int d1), .val (.int d2), .val (.ref b14), .unset, .unset, .unset, .unset, .unset, .unset] [(.ref b32), (.ref b32)])) _
    refine XS.bipush X53.here hx rfl (hb hby at_195) ?_
    show Steps p.tables e below (T53.setTop (mkF m 197 #[.val (.int p1), .val (.int p2), .val (.long p3), .second, .val (.long p4), .second, .val (.long p5), .second, .val (.long p6), .second, .val (.long (1152921504606846975 : Int64)), .second, .val (.long q0), .second, .val (.long q1), .second, .val (.long q2), .second, .val (.long q3), .second, .val (.ref b2), .val (.int (p2 &&& (7 : Int32))), .val (.int sd), .val (.int d1), .val (.int d2), .val (.ref b14), .unset, .unset, .unset, .unset, .unset, .unset] [(.int (7 : Int32)), (.ref b32), (.ref b32)])) _
    refine XS.iconst X53.here hx rfl (hb hby at_197) ?_
    show Steps p.tables e below (T53.setTop (mkF m 198 #[.val (.int p1), .val (.int p2), .val (.long p3), .second, .val (.long p4), .second, .val (.long p5), .second, .val (.long p6), .second, .val (.long (1152921504606846975 : Int64)), .second, .val (.long q0), .second, .val (.long q1), .second, .val (.long q2), .second, .val (.long q3), .second, .val (.ref b2), .val (.int (p2 &&& (7 : Int32))), .val (.int sd), .val (.int d1), .val (.int d2), .val (.ref b14), .unset, .unset, .unset, .unset, .unset, .unset] [(.int (3 : Int32)), (.int (7 : Int32)), (.ref b32), (.ref b32)])) _
    refine st56 _ ?_
    show Steps p.tables e below (T56.setTop (mkF m 199 #[.val (.int p1), .val (.int p2), .val (.long p3), .second, .val (.long p4), .second, .val (.long p5), .second, .val (.long p6), .second, .val (.long (1152921504606846975 : Int64)), .second, .val (.long q0), .second, .val (.long q1), .second, .val (.long q2), .second, .val (.long q3), .second, .val (.ref b2), .val (.int (p2 &&& (7 : Int32))), .val (.int sd), .val (.int d1), .val (.int d2), .val (.ref b14), .unset, .unset, .unset, .unset, .unset, .unset] [(.ref b32)])) _
    refine XS.astore X56.here hx rfl (hb hby at_199) rfl rfl (l' := #[.val (.int p1), .val (.int p2), .val (.long p3), .second, .val (.long p4), .second, .val (.long p5), .second, .val (.long p6), .second, .val (.long (1152921504606846975 : Int64)), .second, .val (.long q0), .second, .val (.long q1), .second, .val (.long q2), .second, .val (.long q3), .second, .val (.ref b2), .val (.int (p2 &&& (7 : Int32))), .val (.int sd), .val (.int d1), .val (.int d2), .val (.ref b14), .val (.ref b32), .unset, .unset, .unset, .unset, .unset]) rfl ?_
    show Steps p.tables e below (T56.setTop (mkF m 201 #[.val (.int p1), .val (.int p2), .val (.long p3), .second, .val (.long p4), .second, .val (.long p5), .second, .val (.long p6), .second, .val (.long (1152921504606846975 : Int64)), .second, .val (.long q0), .second, .val (.long q1), .second, .val (.long q2), .second, .val (.long q3), .second, .val (.ref b2), .val (.int (p2 &&& (7 : Int32))), .val (.int sd), .val (.int d1), .val (.int d2), .val (.ref b14), .val (.ref b32), .unset, .unset, .unset, .unset, .unset] [])) _
    refine XS.bipush X56.here hx rfl (hb hby at_201) ?_
    show Steps p.tables e below (T56.setTop (mkF m 203 #[.val (.int p1), .val (.int p2), .val (.long p3), .second, .val (.long p4), .second, .val (.long p5), .second, .val (.long p6), .second, .val (.long (1152921504606846975 : Int64)), .second, .val (.long q0), .second, .val (.long q1), .second, .val (.long q2), .second, .val (.long q3), .second, .val (.ref b2), .val (.int (p2 &&& (7 : Int32))), .val (.int sd), .val (.int d1), .val (.int d2), .val (.ref b14), .val (.ref b32), .unset, .unset, .unset, .unset, .unset] [(.int (8 : Int32))])) _
    refine st59 _ ?_
    show Steps p.tables e below (T59.setTop (mkF m 205 #[.val (.int p1), .val (.int p2), .val (.long p3), .second, .val (.long p4), .second, .val (.long p5), .second, .val (.long p6), .second, .val (.long (1152921504606846975 : Int64)), .second, .val (.long q0), .second, .val (.long q1), .second, .val (.long q2), .second, .val (.long q3), .second, .val (.ref b2), .val (.int (p2 &&& (7 : Int32))), .val (.int sd), .val (.int d1), .val (.int d2), .val (.ref b14), .val (.ref b32), .unset, .unset, .unset, .unset, .unset] [(.ref b59)])) _
    refine XS.dup X59.here hx rfl (hb hby at_205) rfl rfl ?_
    show Steps p.tables e below (T59.setTop (mkF m 206 #[.val (.int p1), .val (.int p2), .val (.long p3), .second, .val (.long p4), .second, .val (.long p5), .second, .val (.long p6), .second, .val (.long (1152921504606846975 : Int64)), .second, .val (.long q0), .second, .val (.long q1), .second, .val (.long q2), .second, .val (.long q3), .second, .val (.ref b2), .val (.int (p2 &&& (7 : Int32))), .val (.int sd), .val (.int d1), .val (.int d2), .val (.ref b14), .val (.ref b32), .unset, .unset, .unset, .unset, .unset] [(.ref b59), (.ref b59)])) _
    refine XS.iconst X59.here hx rfl (hb hby at_206) ?_
    show Steps p.tables e below (T59.setTop (mkF m 207 #[.val (.int p1), .val (.int p2), .val (.long p3), .second, .val (.long p4), .second, .val (.long p5), .second, .val (.long p6), .second, .val (.long (1152921504606846975 : Int64)), .second, .val (.long q0), .second, .val (.long q1), .second, .val (.long q2), .second, .val (.long q3), .second, .val (.ref b2), .val (.int (p2 &&& (7 : Int32))), .val (.int sd), .val (.int d1), .val (.int d2), .val (.ref b14), .val (.ref b32), .unset, .unset, .unset, .unset, .unset] [(.int (0 : Int32)), (.ref b59), (.ref b59)])) _
    refine XS.iconst X59.here hx rfl (hb hby at_207) ?_
    show Steps p.tables e below (T59.setTop (mkF m 208 #[.val (.int p1), .val (.int p2), .val (.long p3), .second, .val (.long p4), .second, .val (.long p5), .second, .val (.long p6), .second, .val (.long (1152921504606846975 : Int64)), .second, .val (.long q0), .second, .val (.long q1), .second, .val (.long q2), .second, .val (.long q3), .second, .val (.ref b2), .val (.int (p2 &&& (7 : Int32))), .val (.int sd), .val (.int d1), .val (.int d2), .val (.ref b14), .val (.ref b32), .unset, .unset, .unset, .unset, .unset] [(.int (1 : Int32)), (.int (0 : Int32)), (.ref b59), (.ref b59)])) _
    refine st63 _ ?_
    show Steps p.tables e below (T63.setTop (mkF m 209 #[.val (.int p1), .val (.int p2), .val (.long p3), .second, .val (.long p4), .second, .val (.long p5), .second, .val (.long p6), .second, .val (.long (1152921504606846975 : Int64)), .second, .val (.long q0), .second, .val (.long q1), .second, .val (.long q2), .second, .val (.long q3), .second, .val (.ref b2), .val (.int (p2 &&& (7 : Int32))), .val (.int sd), .val (.int d1), .val (.int d2), .val (.ref b14), .val (.ref b32), .unset, .unset, .unset, .unset, .unset] [(.ref b59)])) _
    refine XS.dup X63.here hx rfl (hb hby at_209) rfl rfl ?_
    show Steps p.tables e below (T63.setTop (mkF m 210 #[.val (.int p1), .val (.int p2), .val (.long p3), .second, .val (.long p4), .second, .val (.long p5), .second, .val (.long p6), .second, .val (.long (1152921504606846975 : Int64)), .second, .val (.long q0), .second, .val (.long q1), .second, .val (.long q2), .second, .val (.long q3), .second, .val (.ref b2), .val (.int (p2 &&& (7 : Int32))), .val (.int sd), .val (.int d1), .val (.int d2), .val (.ref b14), .val (.ref b32), .unset, .unset, .unset, .unset, .unset] [(.ref b59), (.ref b59)])) _
    refine XS.iconst X63.here hx rfl (hb hby at_210) ?_
    show Steps p.tables e below (T63.setTop (mkF m 211 #[.val (.int p1), .val (.int p2), .val (.long p3), .second, .val (.long p4), .second, .val (.long p5), .second, .val (.long p6), .second, .val (.long (1152921504606846975 : Int64)), .second, .val (.long q0), .second, .val (.long q1), .second, .val (.long q2), .second, .val (.long q3), .second, .val (.ref b2), .val (.int (p2 &&& (7 : Int32))), .val (.int sd), .val (.int d1), .val (.int d2), .val (.ref b14), .val (.ref b32), .unset, .unset, .unset, .unset, .unset] [(.int (1 : Int32)), (.ref b59), (.ref b59)])) _
    refine XS.iconst X63.here hx rfl (hb hby at_211) ?_
    show Steps p.tables e below (T63.setTop (mkF m 212 #[.val (.int p1), .val (.int p2), .val (.long p3), .second, .val (.long p4), .second, .val (.long p5), .second, .val (.long p6), .second, .val (.long (1152921504606846975 : Int64)), .second, .val (.long q0), .second, .val (.long q1), .second, .val (.long q2), .second, .val (.long q3), .second, .val (.ref b2), .val (.int (p2 &&& (7 : Int32))), .val (.int sd), .val (.int d1), .val (.int d2), .val (.ref b14), .val (.ref b32), .unset, .unset, .unset, .unset, .unset] [(.int (0 : Int32)), (.int (1 : Int32)), (.ref b59), (.ref b59)])) _
    refine st67 _ ?_
    show Steps p.tables e below (T67.setTop (mkF m 213 #[.val (.int p1), .val (.int p2), .val (.long p3), .second, .val (.long p4), .second, .val (.long p5), .second, .val (.long p6), .second, .val (.long (1152921504606846975 : Int64)), .second, .val (.long q0), .second, .val (.long q1), .second, .val (.long q2), .second, .val (.long q3), .second, .val (.ref b2), .val (.int (p2 &&& (7 : Int32))), .val (.int sd), .val (.int d1), .val (.int d2), .val (.ref b14), .val (.ref b32), .unset, .unset, .unset, .unset, .unset] [(.ref b59)])) _
    refine XS.dup X67.here hx rfl (hb hby at_213) rfl rfl ?_
    show Steps p.tables e below (T67.setTop (mkF m 214 #[.val (.int p1), .val (.int p2), .val (.long p3), .second, .val (.long p4), .second, .val (.long p5), .second, .val (.long p6), .second, .val (.long (1152921504606846975 : Int64)), .second, .val (.long q0), .second, .val (.long q1), .second, .val (.long q2), .second, .val (.long q3), .second, .val (.ref b2), .val (.int (p2 &&& (7 : Int32))), .val (.int sd), .val (.int d1), .val (.int d2), .val (.ref b14), .val (.ref b32), .unset, .unset, .unset, .unset, .unset] [(.ref b59), (.ref b59)])) _
    refine XS.iconst X67.here hx rfl (hb hby at_214) ?_
    show Steps p.tables e below (T67.setTop (mkF m 215 #[.val (.int p1), .val (.int p2), .val (.long p3), .second, .val (.long p4), .second, .val (.long p5), .second, .val (.long p6), .second, .val (.long (1152921504606846975 : Int64)), .second, .val (.long q0), .second, .val (.long q1), .second, .val (.long q2), .second, .val (.long q3), .second, .val (.ref b2), .val (.int (p2 &&& (7 : Int32))), .val (.int sd), .val (.int d1), .val (.int d2), .val (.ref b14), .val (.ref b32), .unset, .unset, .unset, .unset, .unset] [(.int (2 : Int32)), (.ref b59), (.ref b59)])) _
    refine XS.iconst X67.here hx rfl (hb hby at_215) ?_
    show Steps p.tables e below (T67.setTop (mkF m 216 #[.val (.int p1), .val (.int p2), .val (.long p3), .second, .val (.long p4), .second, .val (.long p5), .second, .val (.long p6), .second, .val (.long (1152921504606846975 : Int64)), .second, .val (.long q0), .second, .val (.long q1), .second, .val (.long q2), .second, .val (.long q3), .second, .val (.ref b2), .val (.int (p2 &&& (7 : Int32))), .val (.int sd), .val (.int d1), .val (.int d2), .val (.ref b14), .val (.ref b32), .unset, .unset, .unset, .unset, .unset] [(.int (1 : Int32)), (.int (2 : Int32)), (.ref b59), (.ref b59)])) _
    refine st71 _ ?_
    show Steps p.tables e below (T71.setTop (mkF m 217 #[.val (.int p1), .val (.int p2), .val (.long p3), .second, .val (.long p4), .second, .val (.long p5), .second, .val (.long p6), .second, .val (.long (1152921504606846975 : Int64)), .second, .val (.long q0), .second, .val (.long q1), .second, .val (.long q2), .second, .val (.long q3), .second, .val (.ref b2), .val (.int (p2 &&& (7 : Int32))), .val (.int sd), .val (.int d1), .val (.int d2), .val (.ref b14), .val (.ref b32), .unset, .unset, .unset, .unset, .unset] [(.ref b59)])) _
    refine XS.dup X71.here hx rfl (hb hby at_217) rfl rfl ?_
    show Steps p.tables e below (T71.setTop (mkF m 218 #[.val (.int p1), .val (.int p2), .val (.long p3), .second, .val (.long p4), .second, .val (.long p5), .second, .val (.long p6), .second, .val (.long (1152921504606846975 : Int64)), .second, .val (.long q0), .second, .val (.long q1), .second, .val (.long q2), .second, .val (.long q3), .second, .val (.ref b2), .val (.int (p2 &&& (7 : Int32))), .val (.int sd), .val (.int d1), .val (.int d2), .val (.ref b14), .val (.ref b32), .unset, .unset, .unset, .unset, .unset] [(.ref b59), (.ref b59)])) _
    refine XS.iconst X71.here hx rfl (hb hby at_218) ?_
    show Steps p.tables e below (T71.setTop (mkF m 219 #[.val (.int p1), .val (.int p2), .val (.long p3), .second, .val (.long p4), .second, .val (.long p5), .second, .val (.long p6), .second, .val (.long (1152921504606846975 : Int64)), .second, .val (.long q0), .second, .val (.long q1), .second, .val (.long q2), .second, .val (.long q3), .second, .val (.ref b2), .val (.int (p2 &&& (7 : Int32))), .val (.int sd), .val (.int d1), .val (.int d2), .val (.ref b14), .val (.ref b32), .unset, .unset, .unset, .unset, .unset] [(.int (3 : Int32)), (.ref b59), (.ref b59)])) _
    refine XS.iconst X71.here hx rfl (hb hby at_219) ?_
    show Steps p.tables e below (T71.setTop (mkF m 220 #[.val (.int p1), .val (.int p2), .val (.long p3), .second, .val (.long p4), .second, .val (.long p5), .second, .val (.long p6), .second, .val (.long (1152921504606846975 : Int64)), .second, .val (.long q0), .second, .val (.long q1), .second, .val (.long q2), .second, .val (.long q3), .second, .val (.ref b2), .val (.int (p2 &&& (7 : Int32))), .val (.int sd), .val (.int d1), .val (.int d2), .val (.ref b14), .val (.ref b32), .unset, .unset, .unset, .unset, .unset] [(.int (0 : Int32)), (.int (3 : Int32)), (.ref b59), (.ref b59)])) _
    refine st75 _ ?_
    show Steps p.tables e below (T75.setTop (mkF m 221 #[.val (.int p1), .val (.int p2), .val (.long p3), .second, .val (.long p4), .second, .val (.long p5), .second, .val (.long p6), .second, .val (.long (1152921504606846975 : Int64)), .second, .val (.long q0), .second, .val (.long q1), .second, .val (.long q2), .second, .val (.long q3), .second, .val (.ref b2), .val (.int (p2 &&& (7 : Int32))), .val (.int sd), .val (.int d1), .val (.int d2), .val (.ref b14), .val (.ref b32), .unset, .unset, .unset, .unset, .unset] [(.ref b59)])) _
    refine XS.dup X75.here hx rfl (hb hby at_221) rfl rfl ?_
    show Steps p.tables e below (T75.setTop (mkF m 222 #[.val (.int p1), .val (.int p2), .val (.long p3), .second, .val (.long p4), .second, .val (.long p5), .second, .val (.long p6), .second, .val (.long (1152921504606846975 : Int64)), .second, .val (.long q0), .second, .val (.long q1), .second, .val (.long q2), .second, .val (.long q3), .second, .val (.ref b2), .val (.int (p2 &&& (7 : Int32))), .val (.int sd), .val (.int d1), .val (.int d2), .val (.ref b14), .val (.ref b32), .unset, .unset, .unset, .unset, .unset] [(.ref b59), (.ref b59)])) _
    refine XS.iconst X75.here hx rfl (hb hby at_222) ?_
    show Steps p.tables e below (T75.setTop (mkF m 223 #[.val (.int p1), .val (.int p2), .val (.long p3), .second, .val (.long p4), .second, .val (.long p5), .second, .val (.long p6), .second, .val (.long (1152921504606846975 : Int64)), .second, .val (.long q0), .second, .val (.long q1), .second, .val (.long q2), .second, .val (.long q3), .second, .val (.ref b2), .val (.int (p2 &&& (7 : Int32))), .val (.int sd), .val (.int d1), .val (.int d2), .val (.ref b14), .val (.ref b32), .unset, .unset, .unset, .unset, .unset] [(.int (4 : Int32)), (.ref b59), (.ref b59)])) _
    refine XS.iconst X75.here hx rfl (hb hby at_223) ?_
    show Steps p.tables e below (T75.setTop (mkF m 224 #[.val (.int p1), .val (.int p2), .val (.long p3), .second, .val (.long p4), .second, .val (.long p5), .second, .val (.long p6), .second, .val (.long (1152921504606846975 : Int64)), .second, .val (.long q0), .second, .val (.long q1), .second, .val (.long q2), .second, .val (.long q3), .second, .val (.ref b2), .val (.int (p2 &&& (7 : Int32))), .val (.int sd), .val (.int d1), .val (.int d2), .val (.ref b14), .val (.ref b32), .unset, .unset, .unset, .unset, .unset] [(.int (2 : Int32)), (.int (4 : Int32)), (.ref b59), (.ref b59)])) _
    refine st79 _ ?_
    show Steps p.tables e below (T79.setTop (mkF m 225 #[.val (.int p1), .val (.int p2), .val (.long p3), .second, .val (.long p4), .second, .val (.long p5), .second, .val (.long p6), .second, .val (.long (1152921504606846975 : Int64)), .second, .val (.long q0), .second, .val (.long q1), .second, .val (.long q2), .second, .val (.long q3), .second, .val (.ref b2), .val (.int (p2 &&& (7 : Int32))), .val (.int sd), .val (.int d1), .val (.int d2), .val (.ref b14), .val (.ref b32), .unset, .unset, .unset, .unset, .unset] [(.ref b59)])) _
    refine XS.dup X79.here hx rfl (hb hby at_225) rfl rfl ?_
    show Steps p.tables e below (T79.setTop (mkF m 226 #[.val (.int p1), .val (.int p2), .val (.long p3), .second, .val (.long p4), .second, .val (.long p5), .second, .val (.long p6), .second, .val (.long (1152921504606846975 : Int64)), .second, .val (.long q0), .second, .val (.long q1), .second, .val (.long q2), .second, .val (.long q3), .second, .val (.ref b2), .val (.int (p2 &&& (7 : Int32))), .val (.int sd), .val (.int d1), .val (.int d2), .val (.ref b14), .val (.ref b32), .unset, .unset, .unset, .unset, .unset] [(.ref b59), (.ref b59)])) _
    refine XS.iconst X79.here hx rfl (hb hby at_226) ?_
    show Steps p.tables e below (T79.setTop (mkF m 227 #[.val (.int p1), .val (.int p2), .val (.long p3), .second, .val (.long p4), .second, .val (.long p5), .second, .val (.long p6), .second, .val (.long (1152921504606846975 : Int64)), .second, .val (.long q0), .second, .val (.long q1), .second, .val (.long q2), .second, .val (.long q3), .second, .val (.ref b2), .val (.int (p2 &&& (7 : Int32))), .val (.int sd), .val (.int d1), .val (.int d2), .val (.ref b14), .val (.ref b32), .unset, .unset, .unset, .unset, .unset] [(.int (5 : Int32)), (.ref b59), (.ref b59)])) _
    refine XS.iconst X79.here hx rfl (hb hby at_227) ?_
    show Steps p.tables e below (T79.setTop (mkF m 228 #[.val (.int p1), .val (.int p2), .val (.long p3), .second, .val (.long p4), .second, .val (.long p5), .second, .val (.long p6), .second, .val (.long (1152921504606846975 : Int64)), .second, .val (.long q0), .second, .val (.long q1), .second, .val (.long q2), .second, .val (.long q3), .second, .val (.ref b2), .val (.int (p2 &&& (7 : Int32))), .val (.int sd), .val (.int d1), .val (.int d2), .val (.ref b14), .val (.ref b32), .unset, .unset, .unset, .unset, .unset] [(.int (0 : Int32)), (.int (5 : Int32)), (.ref b59), (.ref b59)])) _
    refine st83 _ ?_
    show Steps p.tables e below (T83.setTop (mkF m 229 #[.val (.int p1), .val (.int p2), .val (.long p3), .second, .val (.long p4), .second, .val (.long p5), .second, .val (.long p6), .second, .val (.long (1152921504606846975 : Int64)), .second, .val (.long q0), .second, .val (.long q1), .second, .val (.long q2), .second, .val (.long q3), .second, .val (.ref b2), .val (.int (p2 &&& (7 : Int32))), .val (.int sd), .val (.int d1), .val (.int d2), .val (.ref b14), .val (.ref b32), .unset, .unset, .unset, .unset, .unset] [(.ref b59)])) _
    refine XS.dup X83.here hx rfl (hb hby at_229) rfl rfl ?_
    show Steps p.tables e below (T83.setTop (mkF m 230 #[.val (.int p1), .val (.int p2), .val (.long p3), .second, .val (.long p4), .second, .val (.long p5), .second, .val (.long p6), .second, .val (.long (1152921504606846975 : Int64)), .second, .val (.long q0), .second, .val (.long q1), .second, .val (.long q2), .second, .val (.long q3), .second, .val (.ref b2), .val (.int (p2 &&& (7 : Int32))), .val (.int sd), .val (.int d1), .val (.int d2), .val (.ref b14), .val (.ref b32), .unset, .unset, .unset, .unset, .unset] [(.ref b59), (.ref b59)])) _
    refine XS.bipush X83.here hx rfl (hb hby at_230) ?_
    show Steps p.tables e below (T83.setTop (mkF m 232 #[.val (.int p1), .val (.int p2), .val (.long p3), .second, .val (.long p4), .second, .val (.long p5), .second, .val (.long p6), .second, .val (.long (1152921504606846975 : Int64)), .second, .val (.long q0), .second, .val (.long q1), .second, .val (.long q2), .second, .val (.long q3), .second, .val (.ref b2), .val (.int (p2 &&& (7 : Int32))), .val (.int sd), .val (.int d1), .val (.int d2), .val (.ref b14), .val (.ref b32), .unset, .unset, .unset, .unset, .unset] [(.int (6 : Int32)), (.ref b59), (.ref b59)])) _
    refine XS.iconst X83.here hx rfl (hb hby at_232) ?_
    show Steps p.tables e below (T83.setTop (mkF m 233 #[.val (.int p1), .val (.int p2), .val (.long p3), .second, .val (.long p4), .second, .val (.long p5), .second, .val (.long p6), .second, .val (.long (1152921504606846975 : Int64)), .second, .val (.long q0), .second, .val (.long q1), .second, .val (.long q2), .second, .val (.long q3), .second, .val (.ref b2), .val (.int (p2 &&& (7 : Int32))), .val (.int sd), .val (.int d1), .val (.int d2), .val (.ref b14), .val (.ref b32), .unset, .unset, .unset, .unset, .unset] [(.int (0 : Int32)), (.int (6 : Int32)), (.ref b59), (.ref b59)])) _
    refine st87 _ ?_
    show Steps p.tables e below (T87.setTop (mkF m 234 #[.val (.int p1), .val (.int p2), .val (.long p3), .second, .val (.long p4), .second, .val (.long p5), .second, .val (.long p6), .second, .val (.long (1152921504606846975 : Int64)), .second, .val (.long q0), .second, .val (.long q1), .second, .val (.long q2), .second, .val (.long q3), .second, .val (.ref b2), .val (.int (p2 &&& (7 : Int32))), .val (.int sd), .val (.int d1), .val (.int d2), .val (.ref b14), .val (.ref b32), .unset, .unset, .unset, .unset, .unset] [(.ref b59)])) _
    refine XS.dup X87.here hx rfl (hb hby at_234) rfl rfl ?_
    show Steps p.tables e below (T87.setTop (mkF m 235 #[.val (.int p1), .val (.int p2), .val (.long p3), .second, .val (.long p4), .second, .val (.long p5), .second, .val (.long p6), .second, .val (.long (1152921504606846975 : Int64)), .second, .val (.long q0), .second, .val (.long q1), .second, .val (.long q2), .second, .val (.long q3), .second, .val (.ref b2), .val (.int (p2 &&& (7 : Int32))), .val (.int sd), .val (.int d1), .val (.int d2), .val (.ref b14), .val (.ref b32), .unset, .unset, .unset, .unset, .unset] [(.ref b59), (.ref b59)])) _
    refine XS.bipush X87.here hx rfl (hb hby at_235) ?_
    show Steps p.tables e below (T87.setTop (mkF m 237 #[.val (.int p1), .val (.int p2), .val (.long p3), .second, .val (.long p4), .second, .val (.long p5), .second, .val (.long p6), .second, .val (.long (1152921504606846975 : Int64)), .second, .val (.long q0), .second, .val (.long q1), .second, .val (.long q2), .second, .val (.long q3), .second, .val (.ref b2), .val (.int (p2 &&& (7 : Int32))), .val (.int sd), .val (.int d1), .val (.int d2), .val (.ref b14), .val (.ref b32), .unset, .unset, .unset, .unset, .unset] [(.int (7 : Int32)), (.ref b59), (.ref b59)])) _
    refine XS.iconst X87.here hx rfl (hb hby at_237) ?_
    show Steps p.tables e below (T87.setTop (mkF m 238 #[.val (.int p1), .val (.int p2), .val (.long p3), .second, .val (.long p4), .second, .val (.long p5), .second, .val (.long p6), .second, .val (.long (1152921504606846975 : Int64)), .second, .val (.long q0), .second, .val (.long q1), .second, .val (.long q2), .second, .val (.long q3), .second, .val (.ref b2), .val (.int (p2 &&& (7 : Int32))), .val (.int sd), .val (.int d1), .val (.int d2), .val (.ref b14), .val (.ref b32), .unset, .unset, .unset, .unset, .unset] [(.int (1 : Int32)), (.int (7 : Int32)), (.ref b59), (.ref b59)])) _
    refine st91 _ ?_
    show Steps p.tables e below (T91.setTop (mkF m 239 #[.val (.int p1), .val (.int p2), .val (.long p3), .second, .val (.long p4), .second, .val (.long p5), .second, .val (.long p6), .second, .val (.long (1152921504606846975 : Int64)), .second, .val (.long q0), .second, .val (.long q1), .second, .val (.long q2), .second, .val (.long q3), .second, .val (.ref b2), .val (.int (p2 &&& (7 : Int32))), .val (.int sd), .val (.int d1), .val (.int d2), .val (.ref b14), .val (.ref b32), .unset, .unset, .unset, .unset, .unset] [(.ref b59)])) _
    refine XS.astore X91.here hx rfl (hb hby at_239) rfl rfl (l' := #[.val (.int p1), .val (.int p2), .val (.long p3), .second, .val (.long p4), .second, .val (.long p5), .second, .val (.long p6), .second, .val (.long (1152921504606846975 : Int64)), .second, .val (.long q0), .second, .val (.long q1), .second, .val (.long q2), .second, .val (.long q3), .second, .val (.ref b2), .val (.int (p2 &&& (7 : Int32))), .val (.int sd), .val (.int d1), .val (.int d2), .val (.ref b14), .val (.ref b32), .val (.ref b59), .unset, .unset, .unset, .unset]) rfl ?_
    show Steps p.tables e below (T91.setTop (mkF m 241 #[.val (.int p1), .val (.int p2), .val (.long p3), .second, .val (.long p4), .second, .val (.long p5), .second, .val (.long p6), .second, .val (.long (1152921504606846975 : Int64)), .second, .val (.long q0), .second, .val (.long q1), .second, .val (.long q2), .second, .val (.long q3), .second, .val (.ref b2), .val (.int (p2 &&& (7 : Int32))), .val (.int sd), .val (.int d1), .val (.int d2), .val (.ref b14), .val (.ref b32), .val (.ref b59), .unset, .unset, .unset, .unset] [])) _
    refine XS.bipush X91.here hx rfl (hb hby at_241) ?_
    show Steps p.tables e below (T91.setTop (mkF m 243 #[.val (.int p1), .val (.int p2), .val (.long p3), .second, .val (.long p4), .second, .val (.long p5), .second, .val (.long p6), .second, .val (.long (1152921504606846975 : Int64)), .second, .val (.long q0), .second, .val (.long q1), .second, .val (.long q2), .second, .val (.long q3), .second, .val (.ref b2), .val (.int (p2 &&& (7 : Int32))), .val (.int sd), .val (.int d1), .val (.int d2), .val (.ref b14), .val (.ref b32), .val (.ref b59), .unset, .unset, .unset, .unset] [(.int (8 : Int32))])) _
    refine st95 _ ?_
    show Steps p.tables e below (T95.setTop (mkF m 245 #[.val (.int p1), .val (.int p2), .val (.long p3), .second, .val (.long p4), .second, .val (.long p5), .second, .val (.long p6), .second, .val (.long (1152921504606846975 : Int64)), .second, .val (.long q0), .second, .val (.long q1), .second, .val (.long q2), .second, .val (.long q3), .second, .val (.ref b2), .val (.int (p2 &&& (7 : Int32))), .val (.int sd), .val (.int d1), .val (.int d2), .val (.ref b14), .val (.ref b32), .val (.ref b59), .unset, .unset, .unset, .unset] [(.ref b95)])) _
    refine XS.dup X95.here hx rfl (hb hby at_245) rfl rfl ?_
    show Steps p.tables e below (T95.setTop (mkF m 246 #[.val (.int p1), .val (.int p2), .val (.long p3), .second, .val (.long p4), .second, .val (.long p5), .second, .val (.long p6), .second, .val (.long (1152921504606846975 : Int64)), .second, .val (.long q0), .second, .val (.long q1), .second, .val (.long q2), .second, .val (.long q3), .second, .val (.ref b2), .val (.int (p2 &&& (7 : Int32))), .val (.int sd), .val (.int d1), .val (.int d2), .val (.ref b14), .val (.ref b32), .val (.ref b59), .unset, .unset, .unset, .unset] [(.ref b95), (.ref b95)])) _
    refine XS.iconst X95.here hx rfl (hb hby at_246) ?_
    show Steps p.tables e below (T95.setTop (mkF m 247 #[.val (.int p1), .val (.int p2), .val (.long p3), .second, .val (.long p4), .second, .val (.long p5), .second, .val (.long p6), .second, .val (.long (1152921504606846975 : Int64)), .second, .val (.long q0), .second, .val (.long q1), .second, .val (.long q2), .second, .val (.long q3), .second, .val (.ref b2), .val (.int (p2 &&& (7 : Int32))), .val (.int sd), .val (.int d1), .val (.int d2), .val (.ref b14), .val (.ref b32), .val (.ref b59), .unset, .unset, .unset, .unset] [(.int (0 : Int32)), (.ref b95), (.ref b95)])) _
    refine XS.iconst X95.here hx rfl (hb hby at_247) ?_
    show Steps p.tables e below (T95.setTop (mkF m 248 #[.val (.int p1), .val (.int p2), .val (.long p3), .second, .val (.long p4), .second, .val (.long p5), .second, .val (.long p6), .second, .val (.long (1152921504606846975 : Int64)), .second, .val (.long q0), .second, .val (.long q1), .second, .val (.long q2), .second, .val (.long q3), .second, .val (.ref b2), .val (.int (p2 &&& (7 : Int32))), .val (.int sd), .val (.int d1), .val (.int d2), .val (.ref b14), .val (.ref b32), .val (.ref b59), .unset, .unset, .unset, .unset] [(.int (2 : Int32)), (.int (0 : Int32)), (.ref b95), (.ref b95)])) _
    refine st100 _ ?_
    show Steps p.tables e below (T100.setTop (mkF m 249 #[.val (.int p1), .val (.int p2), .val (.long p3), .second, .val (.long p4), .second, .val (.long p5), .second, .val (.long p6), .second, .val (.long (1152921504606846975 : Int64)), .second, .val (.long q0), .second, .val (.long q1), .second, .val (.long q2), .second, .val (.long q3), .second, .val (.ref b2), .val (.int (p2 &&& (7 : Int32))), .val (.int sd), .val (.int d1), .val (.int d2), .val (.ref b14), .val (.ref b32), .val (.ref b59), .unset, .unset, .unset, .unset] [(.ref b95)])) _
    refine XS.dup X100.here hx rfl (hb hby at_249) rfl rfl ?_
    show Steps p.tables e below (T100.setTop (mkF m 250 #[.val (.int p1), .val (.int p2), .val (.long p3), .second, .val (.long p4), .second, .val (.long p5), .second, .val (.long p6), .second, .val (.long (1152921504606846975 : Int64)), .second, .val (.long q0), .second, .val (.long q1), .second, .val (.long q2), .second, .val (.long q3), .second, .val (.ref b2), .val (.int (p2 &&& (7 : Int32))), .val (.int sd), .val (.int d1), .val (.int d2), .val (.ref b14), .val (.ref b32), .val (.ref b59), .unset, .unset, .unset, .unset] [(.ref b95), (.ref b95)])) _
    refine XS.iconst X100.here hx rfl (hb hby at_250) ?_
    show Steps p.tables e below (T100.setTop (mkF m 251 #[.val (.int p1), .val (.int p2), .val (.long p3), .second, .val (.long p4), .second, .val (.long p5), .second, .val (.long p6), .second, .val (.long (1152921504606846975 : Int64)), .second, .val (.long q0), .second, .val (.long q1), .second, .val (.long q2), .second, .val (.long q3), .second, .val (.ref b2), .val (.int (p2 &&& (7 : Int32))), .val (.int sd), .val (.int d1), .val (.int d2), .val (.ref b14), .val (.ref b32), .val (.ref b59), .unset, .unset, .unset, .unset] [(.int (1 : Int32)), (.ref b95), (.ref b95)])) _
    refine XS.iconst X100.here hx rfl (hb hby at_251) ?_
    show Steps p.tables e below (T100.setTop (mkF m 252 #[.val (.int p1), .val (.int p2), .val (.long p3), .second, .val (.long p4), .second, .val (.long p5), .second, .val (.long p6), .second, .val (.long (1152921504606846975 : Int64)), .second, .val (.long q0), .second, .val (.long q1), .second, .val (.long q2), .second, .val (.long q3), .second, .val (.ref b2), .val (.int (p2 &&& (7 : Int32))), .val (.int sd), .val (.int d1), .val (.int d2), .val (.ref b14), .val (.ref b32), .val (.ref b59), .unset, .unset, .unset, .unset] [(.int (3 : Int32)), (.int (1 : Int32)), (.ref b95), (.ref b95)])) _
    refine st105 _ ?_
    show Steps p.tables e below (T105.setTop (mkF m 253 #[.val (.int p1), .val (.int p2), .val (.long p3), .second, .val (.long p4), .second, .val (.long p5), .second, .val (.long p6), .second, .val (.long (1152921504606846975 : Int64)), .second, .val (.long q0), .second, .val (.long q1), .second, .val (.long q2), .second, .val (.long q3), .second, .val (.ref b2), .val (.int (p2 &&& (7 : Int32))), .val (.int sd), .val (.int d1), .val (.int d2), .val (.ref b14), .val (.ref b32), .val (.ref b59), .unset, .unset, .unset, .unset] [(.ref b95)])) _
    refine XS.dup X105.here hx rfl (hb hby at_253) rfl rfl ?_
    show Steps p.tables e below (T105.setTop (mkF m 254 #[.val (.int p1), .val (.int p2), .val (.long p3), .second, .val (.long p4), .second, .val (.long p5), .second, .val (.long p6), .second, .val (.long (1152921504606846975 : Int64)), .second, .val (.long q0), .second, .val (.long q1), .second, .val (.long q2), .second, .val (.long q3), .second, .val (.ref b2), .val (.int (p2 &&& (7 : Int32))), .val (.int sd), .val (.int d1), .val (.int d2), .val (.ref b14), .val (.ref b32), .val (.ref b59), .unset, .unset, .unset, .unset] [(.ref b95), (.ref b95)])) _
    refine XS.iconst X105.here hx rfl (hb hby at_254) ?_
    show Steps p.tables e below (T105.setTop (mkF m 255 #[.val (.int p1), .val (.int p2), .val (.long p3), .second, .val (.long p4), .second, .val (.long p5), .second, .val (.long p6), .second, .val (.long (1152921504606846975 : Int64)), .second, .val (.long q0), .second, .val (.long q1), .second, .val (.long q2), .second, .val (.long q3), .second, .val (.ref b2), .val (.int (p2 &&& (7 : Int32))), .val (.int sd), .val (.int d1), .val (.int d2), .val (.ref b14), .val (.ref b32), .val (.ref b59), .unset, .unset, .unset, .unset] [(.int (2 : Int32)), (.ref b95), (.ref b95)])) _
    refine XS.iconst X105.here hx rfl (hb hby at_255) ?_
    show Steps p.tables e below (T105.setTop (mkF m 256 #[.val (.int p1), .val (.int p2), .val (.long p3), .second, .val (.long p4), .second, .val (.long p5), .second, .val (.long p6), .second, .val (.long (1152921504606846975 : Int64)), .second, .val (.long q0), .second, .val (.long q1), .second, .val (.long q2), .second, .val (.long q3), .second, .val (.ref b2), .val (.int (p2 &&& (7 : Int32))), .val (.int sd), .val (.int d1), .val (.int d2), .val (.ref b14), .val (.ref b32), .val (.ref b59), .unset, .unset, .unset, .unset] [(.int (3 : Int32)), (.int (2 : Int32)), (.ref b95), (.ref b95)])) _
    refine st110 _ ?_
    show Steps p.tables e below (T110.setTop (mkF m 257 #[.val (.int p1), .val (.int p2), .val (.long p3), .second, .val (.long p4), .second, .val (.long p5), .second, .val (.long p6), .second, .val (.long (1152921504606846975 : Int64)), .second, .val (.long q0), .second, .val (.long q1), .second, .val (.long q2), .second, .val (.long q3), .second, .val (.ref b2), .val (.int (p2 &&& (7 : Int32))), .val (.int sd), .val (.int d1), .val (.int d2), .val (.ref b14), .val (.ref b32), .val (.ref b59), .unset, .unset, .unset, .unset] [(.ref b95)])) _
    refine XS.dup X110.here hx rfl (hb hby at_257) rfl rfl ?_
    show Steps p.tables e below (T110.setTop (mkF m 258 #[.val (.int p1), .val (.int p2), .val (.long p3), .second, .val (.long p4), .second, .val (.long p5), .second, .val (.long p6), .second, .val (.long (1152921504606846975 : Int64)), .second, .val (.long q0), .second, .val (.long q1), .second, .val (.long q2), .second, .val (.long q3), .second, .val (.ref b2), .val (.int (p2 &&& (7 : Int32))), .val (.int sd), .val (.int d1), .val (.int d2), .val (.ref b14), .val (.ref b32), .val (.ref b59), .unset, .unset, .unset, .unset] [(.ref b95), (.ref b95)])) _
    refine XS.iconst X110.here hx rfl (hb hby at_258) ?_
    show Steps p.tables e below (T110.setTop (mkF m 259 #[.val (.int p1), .val (.int p2), .val (.long p3), .second, .val (.long p4), .second, .val (.long p5), .second, .val (.long p6), .second, .val (.long (1152921504606846975 : Int64)), .second, .val (.long q0), .second, .val (.long q1), .second, .val (.long q2), .second, .val (.long q3), .second, .val (.ref b2), .val (.int (p2 &&& (7 : Int32))), .val (.int sd), .val (.int d1), .val (.int d2), .val (.ref b14), .val (.ref b32), .val (.ref b59), .unset, .unset, .unset, .unset] [(.int (3 : Int32)), (.ref b95), (.ref b95)])) _
    refine XS.iconst X110.here hx rfl (hb hby at_259) ?_
    show Steps p.tables e below (T110.setTop (mkF m 260 #[.val (.int p1), .val (.int p2), .val (.long p3), .second, .val (.long p4), .second, .val (.long p5), .second, .val (.long p6), .second, .val (.long (1152921504606846975 : Int64)), .second, .val (.long q0), .second, .val (.long q1), .second, .val (.long q2), .second, .val (.long q3), .second, .val (.ref b2), .val (.int (p2 &&& (7 : Int32))), .val (.int sd), .val (.int d1), .val (.int d2), .val (.ref b14), .val (.ref b32), .val (.ref b59), .unset, .unset, .unset, .unset] [(.int (2 : Int32)), (.int (3 : Int32)), (.ref b95), (.ref b95)])) _
    refine st115 _ ?_
    show Steps p.tables e below (T115.setTop (mkF m 261 #[.val (.int p1), .val (.int p2), .val (.long p3), .second, .val (.long p4), .second, .val (.long p5), .second, .val (.long p6), .second, .val (.long (1152921504606846975 : Int64)), .second, .val (.long q0), .second, .val (.long q1), .second, .val (.long q2), .second, .val (.long q3), .second, .val (.ref b2), .val (.int (p2 &&& (7 : Int32))), .val (.int sd), .val (.int d1), .val (.int d2), .val (.ref b14), .val (.ref b32), .val (.ref b59), .unset, .unset, .unset, .unset] [(.ref b95)])) _
    refine XS.dup X115.here hx rfl (hb hby at_261) rfl rfl ?_
    show Steps p.tables e below (T115.setTop (mkF m 262 #[.val (.int p1), .val (.int p2), .val (.long p3), .second, .val (.long p4), .second, .val (.long p5), .second, .val (.long p6), .second, .val (.long (1152921504606846975 : Int64)), .second, .val (.long q0), .second, .val (.long q1), .second, .val (.long q2), .second, .val (.long q3), .second, .val (.ref b2), .val (.int (p2 &&& (7 : Int32))), .val (.int sd), .val (.int d1), .val (.int d2), .val (.ref b14), .val (.ref b32), .val (.ref b59), .unset, .unset, .unset, .unset] [(.ref b95), (.ref b95)])) _
    refine XS.iconst X115.here hx rfl (hb hby at_262) ?_
    show Steps p.tables e below (T115.setTop (mkF m 263 #[.val (.int p1), .val (.int p2), .val (.long p3), .second, .val (.long p4), .second, .val (.long p5), .second, .val (.long p6), .second, .val (.long (1152921504606846975 : Int64)), .second, .val (.long q0), .second, .val (.long q1), .second, .val (.long q2), .second, .val (.long q3), .second, .val (.ref b2), .val (.int (p2 &&& (7 : Int32))), .val (.int sd), .val (.int d1), .val (.int d2), .val (.ref b14), .val (.ref b32), .val (.ref b59), .unset, .unset, .unset, .unset] [(.int (4 : Int32)), (.ref b95), (.ref b95)])) _
    refine XS.iconst X115.here hx rfl (hb hby at_263) ?_
    show Steps p.tables e below (T115.setTop (mkF m 264 #[.val (.int p1), .val (.int p2), .val (.long p3), .second, .val (.long p4), .second, .val (.long p5), .second, .val (.long p6), .second, .val (.long (1152921504606846975 : Int64)), .second, .val (.long q0), .second, .val (.long q1), .second, .val (.long q2), .second, .val (.long q3), .second, .val (.ref b2), .val (.int (p2 &&& (7 : Int32))), .val (.int sd), .val (.int d1), .val (.int d2), .val (.ref b14), .val (.ref b32), .val (.ref b59), .unset, .unset, .unset, .unset] [(.int (3 : Int32)), (.int (4 : Int32)), (.ref b95), (.ref b95)])) _
    refine st120 _ ?_
    show Steps p.tables e below (T120.setTop (mkF m 265 #[.val (.int p1), .val (.int p2), .val (.long p3), .second, .val (.long p4), .second, .val (.long p5), .second, .val (.long p6), .second, .val (.long (1152921504606846975 : Int64)), .second, .val (.long q0), .second, .val (.long q1), .second, .val (.long q2), .second, .val (.long q3), .second, .val (.ref b2), .val (.int (p2 &&& (7 : Int32))), .val (.int sd), .val (.int d1), .val (.int d2), .val (.ref b14), .val (.ref b32), .val (.ref b59), .unset, .unset, .unset, .unset] [(.ref b95)])) _
    refine XS.dup X120.here hx rfl (hb hby at_265) rfl rfl ?_
    show Steps p.tables e below (T120.setTop (mkF m 266 #[.val (.int p1), .val (.int p2), .val (.long p3), .second, .val (.long p4), .second, .val (.long p5), .second, .val (.long p6), .second, .val (.long (1152921504606846975 : Int64)), .second, .val (.long q0), .second, .val (.long q1), .second, .val (.long q2), .second, .val (.long q3), .second, .val (.ref b2), .val (.int (p2 &&& (7 : Int32))), .val (.int sd), .val (.int d1), .val (.int d2), .val (.ref b14), .val (.ref b32), .val (.ref b59), .unset, .unset, .unset, .unset] [(.ref b95), (.ref b95)])) _
    refine XS.iconst X120.here hx rfl (hb hby at_266) ?_
    show Steps p.tables e below (T120.setTop (mkF m 267 #[.val (.int p1), .val (.int p2), .val (.long p3), .second, .val (.long p4), .second, .val (.long p5), .second, .val (.long p6), .second, .val (.long (1152921504606846975 : Int64)), .second, .val (.long q0), .second, .val (.long q1), .second, .val (.long q2), .second, .val (.long q3), .second, .val (.ref b2), .val (.int (p2 &&& (7 : Int32))), .val (.int sd), .val (.int d1), .val (.int d2), .val (.ref b14), .val (.ref b32), .val (.ref b59), .unset, .unset, .unset, .unset] [(.int (5 : Int32)), (.ref b95), (.ref b95)])) _
    refine XS.iconst X120.here hx rfl (hb hby at_267) ?_
    show Steps p.tables e below (T120.setTop (mkF m 268 #[.val (.int p1), .val (.int p2), .val (.long p3), .second, .val (.long p4), .second, .val (.long p5), .second, .val (.long p6), .second, .val (.long (1152921504606846975 : Int64)), .second, .val (.long q0), .second, .val (.long q1), .second, .val (.long q2), .second, .val (.long q3), .second, .val (.ref b2), .val (.int (p2 &&& (7 : Int32))), .val (.int sd), .val (.int d1), .val (.int d2), .val (.ref b14), .val (.ref b32), .val (.ref b59), .unset, .unset, .unset, .unset] [(.int (1 : Int32)), (.int (5 : Int32)), (.ref b95), (.ref b95)])) _
    refine st125 _ ?_
    show Steps p.tables e below (T125.setTop (mkF m 269 #[.val (.int p1), .val (.int p2), .val (.long p3), .second, .val (.long p4), .second, .val (.long p5), .second, .val (.long p6), .second, .val (.long (1152921504606846975 : Int64)), .second, .val (.long q0), .second, .val (.long q1), .second, .val (.long q2), .second, .val (.long q3), .second, .val (.ref b2), .val (.int (p2 &&& (7 : Int32))), .val (.int sd), .val (.int d1), .val (.int d2), .val (.ref b14), .val (.ref b32), .val (.ref b59), .unset, .unset, .unset, .unset] [(.ref b95)])) _
    refine XS.dup X125.here hx rfl (hb hby at_269) rfl rfl ?_
    show Steps p.tables e below (T125.setTop (mkF m 270 #[.val (.int p1), .val (.int p2), .val (.long p3), .second, .val (.long p4), .second, .val (.long p5), .second, .val (.long p6), .second, .val (.long (1152921504606846975 : Int64)), .second, .val (.long q0), .second, .val (.long q1), .second, .val (.long q2), .second, .val (.long q3), .second, .val (.ref b2), .val (.int (p2 &&& (7 : Int32))), .val (.int sd), .val (.int d1), .val (.int d2), .val (.ref b14), .val (.ref b32), .val (.ref b59), .unset, .unset, .unset, .unset] [(.ref b95), (.ref b95)])) _
    refine XS.bipush X125.here hx rfl (hb hby at_270) ?_
    show Steps p.tables e below (T125.setTop (mkF m 272 #[.val (.int p1), .val (.int p2), .val (.long p3), .second, .val (.long p4), .second, .val (.long p5), .second, .val (.long p6), .second, .val (.long (1152921504606846975 : Int64)), .second, .val (.long q0), .second, .val (.long q1), .second, .val (.long q2), .second, .val (.long q3), .second, .val (.ref b2), .val (.int (p2 &&& (7 : Int32))), .val (.int sd), .val (.int d1), .val (.int d2), .val (.ref b14), .val (.ref b32), .val (.ref b59), .unset, .unset, .unset, .unset] [(.int (6 : Int32)), (.ref b95), (.ref b95)])) _
    refine XS.iconst X125.here hx rfl (hb hby at_272) ?_
    show Steps p.tables e below (T125.setTop (mkF m 273 #[.val (.int p1), .val (.int p2), .val (.long p3), .second, .val (.long p4), .second, .val (.long p5), .second, .val (.long p6), .second, .val (.long (1152921504606846975 : Int64)), .second, .val (.long q0), .second, .val (.long q1), .second, .val (.long q2), .second, .val (.long q3), .second, .val (.ref b2), .val (.int (p2 &&& (7 : Int32))), .val (.int sd), .val (.int d1), .val (.int d2), .val (.ref b14), .val (.ref b32), .val (.ref b59), .unset, .unset, .unset, .unset] [(.int (3 : Int32)), (.int (6 : Int32)), (.ref b95), (.ref b95)])) _
    refine st130 _ ?_
    show Steps p.tables e below (T130.setTop (mkF m 274 #[.val (.int p1), .val (.int p2), .val (.long p3), .second, .val (.long p4), .second, .val (.long p5), .second, .val (.long p6), .second, .val (.long (1152921504606846975 : Int64)), .second, .val (.long q0), .second, .val (.long q1), .second, .val (.long q2), .second, .val (.long q3), .second, .val (.ref b2), .val (.int (p2 &&& (7 : Int32))), .val (.int sd), .val (.int d1), .val (.int d2), .val (.ref b14), .val (.ref b32), .val (.ref b59), .unset, .unset, .unset, .unset] [(.ref b95)])) _
    refine XS.dup X130.here hx rfl (hb hby at_274) rfl rfl ?_
    show Steps p.tables e below (T130.setTop (mkF m 275 #[.val (.int p1), .val (.int p2), .val (.long p3), .second, .val (.long p4), .second, .val (.long p5), .second, .val (.long p6), .second, .val (.long (1152921504606846975 : Int64)), .second, .val (.long q0), .second, .val (.long q1), .second, .val (.long q2), .second, .val (.long q3), .second, .val (.ref b2), .val (.int (p2 &&& (7 : Int32))), .val (.int sd), .val (.int d1), .val (.int d2), .val (.ref b14), .val (.ref b32), .val (.ref b59), .unset, .unset, .unset, .unset] [(.ref b95), (.ref b95)])) _
    refine XS.bipush X130.here hx rfl (hb hby at_275) ?_
    show Steps p.tables e below (T130.setTop (mkF m 277 #[.val (.int p1), .val (.int p2), .val (.long p3), .second, .val (.long p4), .second, .val (.long p5), .second, .val (.long p6), .second, .val (.long (1152921504606846975 : Int64)), .second, .val (.long q0), .second, .val (.long q1), .second, .val (.long q2), .second, .val (.long q3), .second, .val (.ref b2), .val (.int (p2 &&& (7 : Int32))), .val (.int sd), .val (.int d1), .val (.int d2), .val (.ref b14), .val (.ref b32), .val (.ref b59), .unset, .unset, .unset, .unset] [(.int (7 : Int32)), (.ref b95), (.ref b95)])) _
    refine XS.iconst X130.here hx rfl (hb hby at_277) ?_
    show Steps p.tables e below (T130.setTop (mkF m 278 #[.val (.int p1), .val (.int p2), .val (.long p3), .second, .val (.long p4), .second, .val (.long p5), .second, .val (.long p6), .second, .val (.long (1152921504606846975 : Int64)), .second, .val (.long q0), .second, .val (.long q1), .second, .val (.long q2), .second, .val (.long q3), .second, .val (.ref b2), .val (.int (p2 &&& (7 : Int32))), .val (.int sd), .val (.int d1), .val (.int d2), .val (.ref b14), .val (.ref b32), .val (.ref b59), .unset, .unset, .unset, .unset] [(.int (3 : Int32)), (.int (7 : Int32)), (.ref b95), (.ref b95)])) _
    refine st135 _ ?_
    show Steps p.tables e below (T135.setTop (mkF m 279 #[.val (.int p1), .val (.int p2), .val (.long p3), .second, .val (.long p4), .second, .val (.long p5), .second, .val (.long p6), .second, .val (.long (1152921504606846975 : Int64)), .second, .val (.long q0), .second, .val (.long q1), .second, .val (.long q2), .second, .val (.long q3), .second, .val (.ref b2), .val (.int (p2 &&& (7 : Int32))), .val (.int sd), .val (.int d1), .val (.int d2), .val (.ref b14), .val (.ref b32), .val (.ref b59), .unset, .unset, .unset, .unset] [(.ref b95)])) _
    refine XS.astore X135.here hx rfl (hb hby at_279) rfl rfl (l' := #[.val (.int p1), .val (.int p2), .val (.long p3), .second, .val (.long p4), .second, .val (.long p5), .second, .val (.long p6), .second, .val (.long (1152921504606846975 : Int64)), .second, .val (.long q0), .second, .val (.long q1), .second, .val (.long q2), .second, .val (.long q3), .second, .val (.ref b2), .val (.int (p2 &&& (7 : Int32))), .val (.int sd), .val (.int d1), .val (.int d2), .val (.ref b14), .val (.ref b32), .val (.ref b59), .val (.ref b95), .unset, .unset, .unset]) rfl ?_
    show Steps p.tables e below (T135.setTop (mkF m 281 #[.val (.int p1), .val (.int p2), .val (.long p3), .second, .val (.long p4), .second, .val (.long p5), .second, .val (.long p6), .second, .val (.long (1152921504606846975 : Int64)), .second, .val (.long q0), .second, .val (.long q1), .second, .val (.long q2), .second, .val (.long q3), .second, .val (.ref b2), .val (.int (p2 &&& (7 : Int32))), .val (.int sd), .val (.int d1), .val (.int d2), .val (.ref b14), .val (.ref b32), .val (.ref b59), .val (.ref b95), .unset, .unset, .unset] [])) _
    exact k
  obtain ⟨cc, hcc⟩ : ∃ z, z = (p2 &&& (7 : Int32)) := ⟨_, rfl⟩
  rw [← hcc] at pre140
  have B0 := own_h p3
  rw [← hq0] at B0
  have B1 := own_h p4
  rw [← hq1] at B1
  have B2 := own_h p5
  rw [← hq2] at B2
  have B3 := own_h p6
  rw [← hq3] at B3
  have P1 : r1.toInt = q0.toInt + q1.toInt := by rw [hr1]; exact Jvm.Kit.i64_add (by omega) (by omega)
  have P2 : r2.toInt = r1.toInt + q2.toInt := by rw [hr2]; exact Jvm.Kit.i64_add (by omega) (by omega)
  have P3 : r3.toInt = r2.toInt + q3.toInt := by rw [hr3]; exact Jvm.Kit.i64_add (by omega) (by omega)
  have P0 : (0 : Int64).toInt = 0 := by decide
  obtain ⟨i1, i2, i3, i4, s1, u1, s2, u2, jc, ti1, ti2, ti3, ti4, ji1, ji2, ji3, ji4, tv1, tv2, tv3, tv4, hord, hcase⟩ : ∃ (i1 i2 i3 i4 : Int32) (s1 u1 s2 u2 : Int64), ¬ (cc < 0 ∨ 8 ≤ cc.toNatClampNeg) ∧ ([(.int (0 : Int32)), (.int (1 : Int32)), (.int (0 : Int32)), (.int (1 : Int32)), (.int (0 : Int32)), (.int (2 : Int32)), (.int (0 : Int32)), (.int (0 : Int32))] : List Value)[cc.toNatClampNeg]? = some (.int i1) ∧ ([(.int (3 : Int32)), (.int (2 : Int32)), (.int (2 : Int32)), (.int (3 : Int32)), (.int (1 : Int32)), (.int (3 : Int32)), (.int (3 : Int32)), (.int (3 : Int32))] : List Value)[cc.toNatClampNeg]? = some (.int i2) ∧ ([(.int (1 : Int32)), (.int (0 : Int32)), (.int (1 : Int32)), (.int (0 : Int32)), (.int (2 : Int32)), (.int (0 : Int32)), (.int (0 : Int32)), (.int (1 : Int32))] : List Value)[cc.toNatClampNeg]? = some (.int i3) ∧ ([(.int (2 : Int32)), (.int (3 : Int32)), (.int (3 : Int32)), (.int (2 : Int32)), (.int (3 : Int32)), (.int (1 : Int32)), (.int (3 : Int32)), (.int (3 : Int32))] : List Value)[cc.toNatClampNeg]? = some (.int i4) ∧ ¬ (i1 < 0 ∨ 4 ≤ i1.toNatClampNeg) ∧ ¬ (i2 < 0 ∨ 4 ≤ i2.toNatClampNeg) ∧ ¬ (i3 < 0 ∨ 4 ≤ i3.toNatClampNeg) ∧ ¬ (i4 < 0 ∨ 4 ≤ i4.toNatClampNeg) ∧ ([.long q0, .long r1, .long r2, .long r3] : List Value)[i1.toNatClampNeg]? = some (.long s1) ∧ ([.long q0, .long r1, .long r2, .long r3] : List Value)[i2.toNatClampNeg]? = some (.long u1) ∧ ([.long q0, .long r1, .long r2, .long r3] : List Value)[i3.toNatClampNeg]? = some (.long s2) ∧ ([.long q0, .long r1, .long r2, .long r3] : List Value)[i4.toNatClampNeg]? = some (.long u2) ∧ (0 ≤ s1.toInt ∧ s1.toInt ≤ u1.toInt ∧ 0 ≤ s2.toInt ∧ s2.toInt ≤ u2.toInt) ∧ own_case cc s1 u1 s2 u2 q0 r1 r2 r3 := by
    have c8 := own_c8 p2
    rw [← hcc] at c8
    clear pre140
    rcases c8 with hc | hc | hc | hc | hc | hc | hc | hc
    · subst hc
      exact ⟨0, 3, 1, 2, q0, r3, r1, r2, by decide, rfl, rfl, rfl, rfl, by decide, by decide, by decide, by decide, rfl, rfl, rfl, rfl, ⟨by omega, by omega, by omega, by omega⟩, Or.inl ⟨rfl, rfl, rfl, rfl, rfl⟩⟩
    · subst hc
      exact ⟨1, 2, 0, 3, r1, r2, q0, r3, by decide, rfl, rfl, rfl, rfl, by decide, by decide, by decide, by decide, rfl, rfl, rfl, rfl, ⟨by omega, by omega, by omega, by omega⟩, Or.inr ⟨by decide, by omega⟩⟩
    · subst hc
      exact ⟨0, 2, 1, 3, q0, r2, r1, r3, by decide, rfl, rfl, rfl, rfl, by decide, by decide, by decide, by decide, rfl, rfl, rfl, rfl, ⟨by omega, by omega, by omega, by omega⟩, Or.inr ⟨by decide, by omega⟩⟩
    · subst hc
      exact ⟨1, 3, 0, 2, r1, r3, q0, r2, by decide, rfl, rfl, rfl, rfl, by decide, by decide, by decide, by decide, rfl, rfl, rfl, rfl, ⟨by omega, by omega, by omega, by omega⟩, Or.inr ⟨by decide, by omega⟩⟩
    · subst hc
      exact ⟨0, 1, 2, 3, q0, r1, r2, r3, by decide, rfl, rfl, rfl, rfl, by decide, by decide, by decide, by decide, rfl, rfl, rfl, rfl, ⟨by omega, by omega, by omega, by omega⟩, Or.inr ⟨by decide, by omega⟩⟩
    · subst hc
      exact ⟨2, 3, 0, 1, r2, r3, q0, r1, by decide, rfl, rfl, rfl, rfl, by decide, by decide, by decide, by decide, rfl, rfl, rfl, rfl, ⟨by omega, by omega, by omega, by omega⟩, Or.inr ⟨by decide, by omega⟩⟩
    · subst hc
      exact ⟨0, 3, 0, 3, q0, r3, q0, r3, by decide, rfl, rfl, rfl, rfl, by decide, by decide, by decide, by decide, rfl, rfl, rfl, rfl, ⟨by omega, by omega, by omega, by omega⟩, Or.inr ⟨by decide, by omega⟩⟩
    · subst hc
      exact ⟨0, 3, 1, 3, q0, r3, r1, r3, by decide, rfl, rfl, rfl, rfl, by decide, by decide, by decide, by decide, rfl, rfl, rfl, rfl, ⟨by omega, by omega, by omega, by omega⟩, Or.inr ⟨by decide, by omega⟩⟩
  obtain ⟨T141, H141, X141, e141, E141, Q141, D141, -, st141⟩ := newO X135 hx hZ hown (hw _ (List.mem_of_getElem? (i := 4) rfl)) (hw _ (List.mem_of_getElem? (i := 5) rfl)) (hw _ (List.mem_of_getElem? (i := 6) rfl)) e135 (g := (mkF m 281 #[.val (.int p1), .val (.int p2), .val (.long p3), .second, .val (.long p4), .second, .val (.long p5), .second, .val (.long p6), .second, .val (.long (1152921504606846975 : Int64)), .second, .val (.long q0), .second, .val (.long q1), .second, .val (.long q2), .second, .val (.long q3), .second, .val (.ref b2), .val (.int cc), .val (.int sd), .val (.int d1), .val (.int d2), .val (.ref b14), .val (.ref b32), .val (.ref b59), .val (.ref b95), .unset, .unset, .unset] [])) rfl (hb hby at_281) (by decide) (by decide)
  obtain ⟨b141, g141⟩ : ∃ z, z = H135.size := ⟨_, rfl⟩
  rw [← g141] at Q141 D141 st141
  have lt_b2_b141 : b2 < b141 := Nat.lt_of_lt_of_le (own_VA_lt Ab2_136) (Nat.le_of_eq g141.symm)
  have lt_b14_b141 : b14 < b141 := Nat.lt_of_lt_of_le (own_VA_lt Ab14_137) (Nat.le_of_eq g141.symm)
  have lt_b32_b141 : b32 < b141 := Nat.lt_of_lt_of_le (own_VA_lt Ab32_138) (Nat.le_of_eq g141.symm)
  have lt_b59_b141 : b59 < b141 := Nat.lt_of_lt_of_le (own_VA_lt Ab59_139) (Nat.le_of_eq g141.symm)
  have lt_b95_b141 : b95 < b141 := Nat.lt_of_lt_of_le (own_VA_lt V135) (Nat.le_of_eq g141.symm)
  have Fb141_document : Fld Z H141 b141 "com/example/twyg/twyg/node/NodePosition" "document" "I" (.int (0 : Int32)) := D141 (Or.inr (hw _ (List.mem_of_getElem? (i := 19) rfl))) (ty := .int) (by decide)
  have Fb141_start : Fld Z H141 b141 "com/example/twyg/twyg/node/NodePosition" "start" "J" (.long (0 : Int64)) := D141 (Or.inr (hw _ (List.mem_of_getElem? (i := 21) rfl))) (ty := .long) (by decide)
  have Fb141_end : Fld Z H141 b141 "com/example/twyg/twyg/node/NodePosition" "end" "J" (.long (0 : Int64)) := D141 (Or.inr (hw _ (List.mem_of_getElem? (i := 23) rfl))) (ty := .long) (by decide)
  have Fb141_depth : Fld Z H141 b141 "com/example/twyg/twyg/node/NodePosition" "depth" "I" (.int (0 : Int32)) := D141 (Or.inr (hw _ (List.mem_of_getElem? (i := 25) rfl))) (ty := .int) (by decide)
  have Z141 : n0 ≤ H141.size := Nat.le_trans Z135 E141.1
  have gb141 : n0 ≤ b141 := Nat.le_trans Z135 (Nat.le_of_eq g141.symm)
  have Ab2_142 := own_VA_ext Ab2_136 E141
  have Ab14_143 := own_VA_ext Ab14_137 E141
  have Ab32_144 := own_VA_ext Ab32_138 E141
  have Ab59_145 := own_VA_ext Ab59_139 E141
  have Ab95_146 := own_VA_ext V135 E141
  have hj147 : ¬ (cc < 0 ∨ 8 ≤ (cc).toNatClampNeg) := jc
  have hv147 : ([(.int (0 : Int32)), (.int (1 : Int32)), (.int (0 : Int32)), (.int (1 : Int32)), (.int (0 : Int32)), (.int (2 : Int32)), (.int (0 : Int32)), (.int (0 : Int32))] : List Value)[(cc).toNatClampNeg]? = some (.int i1) := ti1
  have hj148 : ¬ (i1 < 0 ∨ 4 ≤ (i1).toNatClampNeg) := ji1
  have hv148 : ([(.long q0), (.long r1), (.long r2), (.long r3)] : List Value)[(i1).toNatClampNeg]? = some (.long s1) := tv1
  have hj149 : ¬ (cc < 0 ∨ 8 ≤ (cc).toNatClampNeg) := jc
  have hv149 : ([(.int (3 : Int32)), (.int (2 : Int32)), (.int (2 : Int32)), (.int (3 : Int32)), (.int (1 : Int32)), (.int (3 : Int32)), (.int (3 : Int32)), (.int (3 : Int32))] : List Value)[(cc).toNatClampNeg]? = some (.int i2) := ti2
  have hj150 : ¬ (i2 < 0 ∨ 4 ≤ (i2).toNatClampNeg) := ji2
  have hv150 : ([(.long q0), (.long r1), (.long r2), (.long r3)] : List Value)[(i2).toNatClampNeg]? = some (.long u1) := tv2
  obtain ⟨_, _, ⟨T151, L151, k151, n151⟩, -, X151, ⟨Lc151, hQ151, l151, y151, z151⟩, st151⟩ := X141.specialBack hx (y := (⟨"com/example/twyg/twyg/node/NodePosition", "<init>", "(IJJI)V"⟩ : MethodName)) rfl hown (mvT hZ (hw _ (List.mem_of_getElem? (i := 7) rfl))) (mvT hZ (hw _ (List.mem_of_getElem? (i := 8) rfl))) (mvT hZ (hw _ (List.mem_of_getElem? (i := 9) rfl))) (by decide) (backOf (W := 1) (rm1 l Z a0 hw [] b141 d1 s1 u1 (XT.ushr p1 (1 : Int32)) H141 n0 Z141 Q141 Fb141_document Fb141_start Fb141_end Fb141_depth gb141 hdn (own_ge (by omega)) (own_ge (by omega)) (own_ush1 _)) hZ (hw _ (List.mem_of_getElem? (i := 9) rfl)) (hw _ (List.mem_of_getElem? (i := 6) rfl)) (by decide) (by decide)) (g := (mkF m 306 #[.val (.int p1), .val (.int p2), .val (.long p3), .second, .val (.long p4), .second, .val (.long p5), .second, .val (.long p6), .second, .val (.long (1152921504606846975 : Int64)), .second, .val (.long q0), .second, .val (.long q1), .second, .val (.long q2), .second, .val (.long q3), .second, .val (.ref b2), .val (.int cc), .val (.int sd), .val (.int d1), .val (.int d2), .val (.ref b14), .val (.ref b32), .val (.ref b59), .val (.ref b95), .unset, .unset, .unset] [(.int (XT.ushr p1 (1 : Int32))), (.long u1), (.long s1), (.int d1), (.ref b141), (.ref b141)])) rfl (by rw [hml]; rfl) (Steps.refl _) (a := b141) (argsL := [(.int d1), (.long s1), (.long u1), (.int (XT.ushr p1 (1 : Int32)))]) (rest := [(.ref b141)]) (lenOf pd_0_0 rfl) rfl (by show 2 * 0 + _ ≤ _; exact Nat.le_of_eq rfl) (hb hby at_306) (fun _ _ => ⟨rfl, e141, (by decide : 6 + 0 ≤ _), (by decide : 40 + 0 ≤ _)⟩)
  dsimp only [Pt.U, Pt.locs, Pt.cells, Pt.slots] at X151 l151 y151 z151 st151 hQ151
  subst l151 y151 z151
  obtain ⟨rfl, N151q, K151, EE151, FF151_document, FF151_start, FF151_end, FF151_depth⟩ := hQ151
  have N151 := Fr.app N135 N151q
  have e151 : T151.heap = T151.heap := rfl
  have Z151 : n0 ≤ T151.heap.size := Nat.le_trans Z141 K151.1
  have Ab2_152 := own_VA_keep Ab2_142 K151 (fun q => (Nat.ne_of_lt lt_b2_b141) (List.mem_singleton.mp q))
  have Ab14_153 := own_VA_keep Ab14_143 K151 (fun q => (Nat.ne_of_lt lt_b14_b141) (List.mem_singleton.mp q))
  have Ab32_154 := own_VA_keep Ab32_144 K151 (fun q => (Nat.ne_of_lt lt_b32_b141) (List.mem_singleton.mp q))
  have Ab59_155 := own_VA_keep Ab59_145 K151 (fun q => (Nat.ne_of_lt lt_b59_b141) (List.mem_singleton.mp q))
  have Ab95_156 := own_VA_keep Ab95_146 K151 (fun q => (Nat.ne_of_lt lt_b95_b141) (List.mem_singleton.mp q))
  have Eb141_157 := Exa.keep Q141 K151
  obtain ⟨T158, H158, X158, e158, E158, Q158, D158, -, st158⟩ := newO X151 hx hZ hown (hw _ (List.mem_of_getElem? (i := 4) rfl)) (hw _ (List.mem_of_getElem? (i := 5) rfl)) (hw _ (List.mem_of_getElem? (i := 6) rfl)) e151 (g := (mkF m 311 #[.val (.int p1), .val (.int p2), .val (.long p3), .second, .val (.long p4), .second, .val (.long p5), .second, .val (.long p6), .second, .val (.long (1152921504606846975 : Int64)), .second, .val (.long q0), .second, .val (.long q1), .second, .val (.long q2), .second, .val (.long q3), .second, .val (.ref b2), .val (.int cc), .val (.int sd), .val (.int d1), .val (.int d2), .val (.ref b14), .val (.ref b32), .val (.ref b59), .val (.ref b95), .val (.ref b141), .unset, .unset] [])) rfl (hb hby at_311) (by decide) (by decide)
  obtain ⟨b158, g158⟩ : ∃ z, z = T151.heap.size := ⟨_, rfl⟩
  rw [← g158] at Q158 D158 st158
  have lt_b2_b158 : b2 < b158 := Nat.lt_of_lt_of_le (own_VA_lt Ab2_152) (Nat.le_of_eq g158.symm)
  have lt_b14_b158 : b14 < b158 := Nat.lt_of_lt_of_le (own_VA_lt Ab14_153) (Nat.le_of_eq g158.symm)
  have lt_b32_b158 : b32 < b158 := Nat.lt_of_lt_of_le (own_VA_lt Ab32_154) (Nat.le_of_eq g158.symm)
  have lt_b59_b158 : b59 < b158 := Nat.lt_of_lt_of_le (own_VA_lt Ab59_155) (Nat.le_of_eq g158.symm)
  have lt_b95_b158 : b95 < b158 := Nat.lt_of_lt_of_le (own_VA_lt Ab95_156) (Nat.le_of_eq g158.symm)
  have lt_b141_b158 : b141 < b158 := Nat.lt_of_lt_of_le (Exa.lt EE151) (Nat.le_of_eq g158.symm)
  have Fb158_document : Fld Z H158 b158 "com/example/twyg/twyg/node/NodePosition" "document" "I" (.int (0 : Int32)) := D158 (Or.inr (hw _ (List.mem_of_getElem? (i := 19) rfl))) (ty := .int) (by decide)
  have Fb158_start : Fld Z H158 b158 "com/example/twyg/twyg/node/NodePosition" "start" "J" (.long (0 : Int64)) := D158 (Or.inr (hw _ (List.mem_of_getElem? (i := 21) rfl))) (ty := .long) (by decide)
  have Fb158_end : Fld Z H158 b158 "com/example/twyg/twyg/node/NodePosition" "end" "J" (.long (0 : Int64)) := D158 (Or.inr (hw _ (List.mem_of_getElem? (i := 23) rfl))) (ty := .long) (by decide)
  have Fb158_depth : Fld Z H158 b158 "com/example/twyg/twyg/node/NodePosition" "depth" "I" (.int (0 : Int32)) := D158 (Or.inr (hw _ (List.mem_of_getElem? (i := 25) rfl))) (ty := .int) (by decide)
  have Z158 : n0 ≤ H158.size := Nat.le_trans Z151 E158.1
  have gb158 : n0 ≤ b158 := Nat.le_trans Z151 (Nat.le_of_eq g158.symm)
  have Ab2_159 := own_VA_ext Ab2_152 E158
  have Ab14_160 := own_VA_ext Ab14_153 E158
  have Ab32_161 := own_VA_ext Ab32_154 E158
  have Ab59_162 := own_VA_ext Ab59_155 E158
  have Ab95_163 := own_VA_ext Ab95_156 E158
  have Eb141_164 := Exa.ext E158 EE151
  have Fb141_document_164 := Fld.ext E158 FF151_document
  have Fb141_start_164 := Fld.ext E158 FF151_start
  have Fb141_end_164 := Fld.ext E158 FF151_end
  have Fb141_depth_164 := Fld.ext E158 FF151_depth
  have hj165 : ¬ (cc < 0 ∨ 8 ≤ (cc).toNatClampNeg) := jc
  have hv165 : ([(.int (1 : Int32)), (.int (0 : Int32)), (.int (1 : Int32)), (.int (0 : Int32)), (.int (2 : Int32)), (.int (0 : Int32)), (.int (0 : Int32)), (.int (1 : Int32))] : List Value)[(cc).toNatClampNeg]? = some (.int i3) := ti3
  have hj166 : ¬ (i3 < 0 ∨ 4 ≤ (i3).toNatClampNeg) := ji3
  have hv166 : ([(.long q0), (.long r1), (.long r2), (.long r3)] : List Value)[(i3).toNatClampNeg]? = some (.long s2) := tv3
  have hj167 : ¬ (cc < 0 ∨ 8 ≤ (cc).toNatClampNeg) := jc
  have hv167 : ([(.int (2 : Int32)), (.int (3 : Int32)), (.int (3 : Int32)), (.int (2 : Int32)), (.int (3 : Int32)), (.int (1 : Int32)), (.int (3 : Int32)), (.int (3 : Int32))] : List Value)[(cc).toNatClampNeg]? = some (.int i4) := ti4
  have hj168 : ¬ (i4 < 0 ∨ 4 ≤ (i4).toNatClampNeg) := ji4
  have hv168 : ([(.long q0), (.long r1), (.long r2), (.long r3)] : List Value)[(i4).toNatClampNeg]? = some (.long u2) := tv4
  obtain ⟨_, _, ⟨T169, L169, k169, n169⟩, -, X169, ⟨Lc169, hQ169, l169, y169, z169⟩, st169⟩ := X158.specialBack hx (y := (⟨"com/example/twyg/twyg/node/NodePosition", "<init>", "(IJJI)V"⟩ : MethodName)) rfl hown (mvT hZ (hw _ (List.mem_of_getElem? (i := 7) rfl))) (mvT hZ (hw _ (List.mem_of_getElem? (i := 8) rfl))) (mvT hZ (hw _ (List.mem_of_getElem? (i := 9) rfl))) (by decide) (backOf (W := 1) (rm1 l Z a0 hw [] b158 d2 s2 u2 (XT.ushr p2 (1 : Int32)) H158 n0 Z158 Q158 Fb158_document Fb158_start Fb158_end Fb158_depth gb158 hd2 (own_ge (by omega)) (own_ge (by omega)) (own_ush1 _)) hZ (hw _ (List.mem_of_getElem? (i := 9) rfl)) (hw _ (List.mem_of_getElem? (i := 6) rfl)) (by decide) (by decide)) (g := (mkF m 336 #[.val (.int p1), .val (.int p2), .val (.long p3), .second, .val (.long p4), .second, .val (.long p5), .second, .val (.long p6), .second, .val (.long (1152921504606846975 : Int64)), .second, .val (.long q0), .second, .val (.long q1), .second, .val (.long q2), .second, .val (.long q3), .second, .val (.ref b2), .val (.int cc), .val (.int sd), .val (.int d1), .val (.int d2), .val (.ref b14), .val (.ref b32), .val (.ref b59), .val (.ref b95), .val (.ref b141), .unset, .unset] [(.int (XT.ushr p2 (1 : Int32))), (.long u2), (.long s2), (.int d2), (.ref b158), (.ref b158)])) rfl (by rw [hml]; rfl) (Steps.refl _) (a := b158) (argsL := [(.int d2), (.long s2), (.long u2), (.int (XT.ushr p2 (1 : Int32)))]) (rest := [(.ref b158)]) (lenOf pd_0_0 rfl) rfl (by show 2 * 0 + _ ≤ _; exact Nat.le_of_eq rfl) (hb hby at_336) (fun _ _ => ⟨rfl, e158, (by decide : 7 + 0 ≤ _), (by decide : 44 + 0 ≤ _)⟩)
  dsimp only [Pt.U, Pt.locs, Pt.cells, Pt.slots] at X169 l169 y169 z169 st169 hQ169
  subst l169 y169 z169
  obtain ⟨rfl, N169q, K169, EE169, FF169_document, FF169_start, FF169_end, FF169_depth⟩ := hQ169
  have N169 := Fr.app N151 N169q
  have e169 : T169.heap = T169.heap := rfl
  have Z169 : n0 ≤ T169.heap.size := Nat.le_trans Z158 K169.1
  have Ab2_170 := own_VA_keep Ab2_159 K169 (fun q => (Nat.ne_of_lt lt_b2_b158) (List.mem_singleton.mp q))
  have Ab14_171 := own_VA_keep Ab14_160 K169 (fun q => (Nat.ne_of_lt lt_b14_b158) (List.mem_singleton.mp q))
  have Ab32_172 := own_VA_keep Ab32_161 K169 (fun q => (Nat.ne_of_lt lt_b32_b158) (List.mem_singleton.mp q))
  have Ab59_173 := own_VA_keep Ab59_162 K169 (fun q => (Nat.ne_of_lt lt_b59_b158) (List.mem_singleton.mp q))
  have Ab95_174 := own_VA_keep Ab95_163 K169 (fun q => (Nat.ne_of_lt lt_b95_b158) (List.mem_singleton.mp q))
  have Eb141_175 := Exa.keep Eb141_164 K169
  have Fb141_document_175 := Fld.keep Fb141_document_164 K169 (fun q => (Nat.ne_of_lt lt_b141_b158) (List.mem_singleton.mp q))
  have Fb141_start_175 := Fld.keep Fb141_start_164 K169 (fun q => (Nat.ne_of_lt lt_b141_b158) (List.mem_singleton.mp q))
  have Fb141_end_175 := Fld.keep Fb141_end_164 K169 (fun q => (Nat.ne_of_lt lt_b141_b158) (List.mem_singleton.mp q))
  have Fb141_depth_175 := Fld.keep Fb141_depth_164 K169 (fun q => (Nat.ne_of_lt lt_b141_b158) (List.mem_singleton.mp q))
  have Eb158_176 := Exa.keep Q158 K169
  have pre178 : ∀ t, Steps p.tables e below (T169.setTop (mkF m 343 #[.val (.int p1), .val (.int p2), .val (.long p3), .second, .val (.long p4), .second, .val (.long p5), .second, .val (.long p6), .second, .val (.long (1152921504606846975 : Int64)), .second, .val (.long q0), .second, .val (.long q1), .second, .val (.long q2), .second, .val (.long q3), .second, .val (.ref b2), .val (.int cc), .val (.int sd), .val (.int d1), .val (.int d2), .val (.ref b14), .val (.ref b32), .val (.ref b59), .val (.ref b95), .val (.ref b141), .val (.ref b158), .unset] [(.int sd)])) t → Steps p.tables e below (s₁.setTop (entryFrame m #[(.int p1), (.int p2), (.long p3), (.long p4), (.long p5), (.long p6)] maxLocals)) t := by
    intro t k
    refine pre140 t ?_
    show Steps p.tables e below (T135.setTop (mkF m 281 #[.val (.int p1), .val (.int p2), .val (.long p3), .second, .val (.long p4), .second, .val (.long p5), .second, .val (.long p6), .second, .val (.long (1152921504606846975 : Int64)), .second, .val (.long q0), .second, .val (.long q1), .second, .val (.long q2), .second, .val (.long q3), .second, .val (.ref b2), .val (.int cc), .val (.int sd), .val (.int d1), .val (.int d2), .val (.ref b14), .val (.ref b32), .val (.ref b59), .val (.ref b95), .unset, .unset, .unset] [])) _
    refine st141 _ ?_
    show Steps p.tables e below (T141.setTop (mkF m 284 #[.val (.int p1), .val (.int p2), .val (.long p3), .second, .val (.long p4), .second, .val (.long p5), .second, .val (.long p6), .second, .val (.long (1152921504606846975 : Int64)), .second, .val (.long q0), .second, .val (.long q1), .second, .val (.long q2), .second, .val (.long q3), .second, .val (.ref b2), .val (.int cc), .val (.int sd), .val (.int d1), .val (.int d2), .val (.ref b14), .val (.ref b32), .val (.ref b59), .val (.ref b95), .unset, .unset, .unset] [(.ref b141)])) _
    refine XS.dup X141.here hx rfl (hb hby at_284) rfl rfl ?_
    show Steps p.tables e below (T141.setTop (mkF m 285 #[.val (.int p1), .val (.int p2), .val (.long p3), .second, .val (.long p4), .second, .val (.long p5), .second, .val (.long p6), .second, .val (.long (1152921504606846975 : Int64)), .second, .val (.long q0), .second, .val (.long q1), .second, .val (.long q2), .second, .val (.long q3), .second, .val (.ref b2), .val (.int cc), .val (.int sd), .val (.int d1), .val (.int d2), .val (.ref b14), .val (.ref b32), .val (.ref b59), .val (.ref b95), .unset, .unset, .unset] [(.ref b141), (.ref b141)])) _
    refine XS.iload X141.here hx rfl (hb hby at_285) rfl ?_
    show Steps p.tables e below (T141.setTop (mkF m 287 #[.val (.int p1), .val (.int p2), .val (.long p3), .second, .val (.long p4), .second, .val (.long p5), .second, .val (.long p6), .second, .val (.long (1152921504606846975 : Int64)), .second, .val (.long q0), .second, .val (.long q1), .second, .val (.long q2), .second, .val (.long q3), .second, .val (.ref b2), .val (.int cc), .val (.int sd), .val (.int d1), .val (.int d2), .val (.ref b14), .val (.ref b32), .val (.ref b59), .val (.ref b95), .unset, .unset, .unset] [(.int d1), (.ref b141), (.ref b141)])) _
    refine XS.aload X141.here hx rfl (hb hby at_287) rfl rfl ?_
    show Steps p.tables e below (T141.setTop (mkF m 289 #[.val (.int p1), .val (.int p2), .val (.long p3), .second, .val (.long p4), .second, .val (.long p5), .second, .val (.long p6), .second, .val (.long (1152921504606846975 : Int64)), .second, .val (.long q0), .second, .val (.long q1), .second, .val (.long q2), .second, .val (.long q3), .second, .val (.ref b2), .val (.int cc), .val (.int sd), .val (.int d1), .val (.int d2), .val (.ref b14), .val (.ref b32), .val (.ref b59), .val (.ref b95), .unset, .unset, .unset] [(.ref b2), (.int d1), (.ref b141), (.ref b141)])) _
    refine XS.aload X141.here hx rfl (hb hby at_289) rfl rfl ?_
    show Steps p.tables e below (T141.setTop (mkF m 291 #[.val (.int p1), .val (.int p2), .val (.long p3), .second, .val (.long p4), .second, .val (.long p5), .second, .val (.long p6), .second, .val (.long (1152921504606846975 : Int64)), .second, .val (.long q0), .second, .val (.long q1), .second, .val (.long q2), .second, .val (.long q3), .second, .val (.ref b2), .val (.int cc), .val (.int sd), .val (.int d1), .val (.int d2), .val (.ref b14), .val (.ref b32), .val (.ref b59), .val (.ref b95), .unset, .unset, .unset] [(.ref b14), (.ref b2), (.int d1), (.ref b141), (.ref b141)])) _
    refine XS.iload X141.here hx rfl (hb hby at_291) rfl ?_
    show Steps p.tables e below (T141.setTop (mkF m 293 #[.val (.int p1), .val (.int p2), .val (.long p3), .second, .val (.long p4), .second, .val (.long p5), .second, .val (.long p6), .second, .val (.long (1152921504606846975 : Int64)), .second, .val (.long q0), .second, .val (.long q1), .second, .val (.long q2), .second, .val (.long q3), .second, .val (.ref b2), .val (.int cc), .val (.int sd), .val (.int d1), .val (.int d2), .val (.ref b14), .val (.ref b32), .val (.ref b59), .val (.ref b95), .unset, .unset, .unset] [(.int cc), (.ref b14), (.ref b2), (.int d1), (.ref b141), (.ref b141)])) _
    refine own_ldI X141 hx hZ e141 Ab14_143 (n := 8) (v := (.int i1)) rfl hj147 hv147 (g := (mkF m 293 #[.val (.int p1), .val (.int p2), .val (.long p3), .second, .val (.long p4), .second, .val (.long p5), .second, .val (.long p6), .second, .val (.long (1152921504606846975 : Int64)), .second, .val (.long q0), .second, .val (.long q1), .second, .val (.long q2), .second, .val (.long q3), .second, .val (.ref b2), .val (.int cc), .val (.int sd), .val (.int d1), .val (.int d2), .val (.ref b14), .val (.ref b32), .val (.ref b59), .val (.ref b95), .unset, .unset, .unset] [(.int cc), (.ref b14), (.ref b2), (.int d1), (.ref b141), (.ref b141)])) rfl rfl (hb hby at_293) _ ?_
    show Steps p.tables e below (T141.setTop (mkF m 294 #[.val (.int p1), .val (.int p2), .val (.long p3), .second, .val (.long p4), .second, .val (.long p5), .second, .val (.long p6), .second, .val (.long (1152921504606846975 : Int64)), .second, .val (.long q0), .second, .val (.long q1), .second, .val (.long q2), .second, .val (.long q3), .second, .val (.ref b2), .val (.int cc), .val (.int sd), .val (.int d1), .val (.int d2), .val (.ref b14), .val (.ref b32), .val (.ref b59), .val (.ref b95), .unset, .unset, .unset] [(.int i1), (.ref b2), (.int d1), (.ref b141), (.ref b141)])) _
    refine own_ldJ X141 hx hZ e141 Ab2_142 (n := 4) (v := (.long s1)) rfl hj148 hv148 (g := (mkF m 294 #[.val (.int p1), .val (.int p2), .val (.long p3), .second, .val (.long p4), .second, .val (.long p5), .second, .val (.long p6), .second, .val (.long (1152921504606846975 : Int64)), .second, .val (.long q0), .second, .val (.long q1), .second, .val (.long q2), .second, .val (.long q3), .second, .val (.ref b2), .val (.int cc), .val (.int sd), .val (.int d1), .val (.int d2), .val (.ref b14), .val (.ref b32), .val (.ref b59), .val (.ref b95), .unset, .unset, .unset] [(.int i1), (.ref b2), (.int d1), (.ref b141), (.ref b141)])) rfl rfl (hb hby at_294) _ ?_
    show Steps p.tables e below (T141.setTop (mkF m 295 #[.val (.int p1), .val (.int p2), .val (.long p3), .second, .val (.long p4), .second, .val (.long p5), .second, .val (.long p6), .second, .val (.long (1152921504606846975 : Int64)), .second, .val (.long q0), .second, .val (.long q1), .second, .val (.long q2), .second, .val (.long q3), .second, .val (.ref b2), .val (.int cc), .val (.int sd), .val (.int d1), .val (.int d2), .val (.ref b14), .val (.ref b32), .val (.ref b59), .val (.ref b95), .unset, .unset, .unset] [(.long s1), (.int d1), (.ref b141), (.ref b141)])) _
    refine XS.aload X141.here hx rfl (hb hby at_295) rfl rfl ?_
    show Steps p.tables e below (T141.setTop (mkF m 297 #[.val (.int p1), .val (.int p2), .val (.long p3), .second, .val (.long p4), .second, .val (.long p5), .second, .val (.long p6), .second, .val (.long (1152921504606846975 : Int64)), .second, .val (.long q0), .second, .val (.long q1), .second, .val (.long q2), .second, .val (.long q3), .second, .val (.ref b2), .val (.int cc), .val (.int sd), .val (.int d1), .val (.int d2), .val (.ref b14), .val (.ref b32), .val (.ref b59), .val (.ref b95), .unset, .unset, .unset] [(.ref b2), (.long s1), (.int d1), (.ref b141), (.ref b141)])) _
    refine XS.aload X141.here hx rfl (hb hby at_297) rfl rfl ?_
    show Steps p.tables e below (T141.setTop (mkF m 299 #[.val (.int p1), .val (.int p2), .val (.long p3), .second, .val (.long p4), .second, .val (.long p5), .second, .val (.long p6), .second, .val (.long (1152921504606846975 : Int64)), .second, .val (.long q0), .second, .val (.long q1), .second, .val (.long q2), .second, .val (.long q3), .second, .val (.ref b2), .val (.int cc), .val (.int sd), .val (.int d1), .val (.int d2), .val (.ref b14), .val (.ref b32), .val (.ref b59), .val (.ref b95), .unset, .unset, .unset] [(.ref b32), (.ref b2), (.long s1), (.int d1), (.ref b141), (.ref b141)])) _
    refine XS.iload X141.here hx rfl (hb hby at_299) rfl ?_
    show Steps p.tables e below (T141.setTop (mkF m 301 #[.val (.int p1), .val (.int p2), .val (.long p3), .second, .val (.long p4), .second, .val (.long p5), .second, .val (.long p6), .second, .val (.long (1152921504606846975 : Int64)), .second, .val (.long q0), .second, .val (.long q1), .second, .val (.long q2), .second, .val (.long q3), .second, .val (.ref b2), .val (.int cc), .val (.int sd), .val (.int d1), .val (.int d2), .val (.ref b14), .val (.ref b32), .val (.ref b59), .val (.ref b95), .unset, .unset, .unset] [(.int cc), (.ref b32), (.ref b2), (.long s1), (.int d1), (.ref b141), (.ref b141)])) _
    refine own_ldI X141 hx hZ e141 Ab32_144 (n := 8) (v := (.int i2)) rfl hj149 hv149 (g := (mkF m 301 #[.val (.int p1), .val (.int p2), .val (.long p3), .second, .val (.long p4), .second, .val (.long p5), .second, .val (.long p6), .second, .val (.long (1152921504606846975 : Int64)), .second, .val (.long q0), .second, .val (.long q1), .second, .val (.long q2), .second, .val (.long q3), .second, .val (.ref b2), .val (.int cc), .val (.int sd), .val (.int d1), .val (.int d2), .val (.ref b14), .val (.ref b32), .val (.ref b59), .val (.ref b95), .unset, .unset, .unset] [(.int cc), (.ref b32), (.ref b2), (.long s1), (.int d1), (.ref b141), (.ref b141)])) rfl rfl (hb hby at_301) _ ?_
    show Steps p.tables e below (T141.setTop (mkF m 302 #[.val (.int p1), .val (.int p2), .val (.long p3), .second, .val (.long p4), .second, .val (.long p5), .second, .val (.long p6), .second, .val (.long (1152921504606846975 : Int64)), .second, .val (.long q0), .second, .val (.long q1), .second, .val (.long q2), .second, .val (.long q3), .second, .val (.ref b2), .val (.int cc), .val (.int sd), .val (.int d1), .val (.int d2), .val (.ref b14), .val (.ref b32), .val (.ref b59), .val (.ref b95), .unset, .unset, .unset] [(.int i2), (.ref b2), (.long s1), (.int d1), (.ref b141), (.ref b141)])) _
    refine own_ldJ X141 hx hZ e141 Ab2_142 (n := 4) (v := (.long u1)) rfl hj150 hv150 (g := (mkF m 302 #[.val (.int p1), .val (.int p2), .val (.long p3), .second, .val (.long p4), .second, .val (.long p5), .second, .val (.long p6), .second, .val (.long (1152921504606846975 : Int64)), .second, .val (.long q0), .second, .val (.long q1), .second, .val (.long q2), .second, .val (.long q3), .second, .val (.ref b2), .val (.int cc), .val (.int sd), .val (.int d1), .val (.int d2), .val (.ref b14), .val (.ref b32), .val (.ref b59), .val (.ref b95), .unset, .unset, .unset] [(.int i2), (.ref b2), (.long s1), (.int d1), (.ref b141), (.ref b141)])) rfl rfl (hb hby at_302) _ ?_
    show Steps p.tables e below (T141.setTop (mkF m 303 #[.val (.int p1), .val (.int p2), .val (.long p3), .second, .val (.long p4), .second, .val (.long p5), .second, .val (.long p6), .second, .val (.long (1152921504606846975 : Int64)), .second, .val (.long q0), .second, .val (.long q1), .second, .val (.long q2), .second, .val (.long q3), .second, .val (.ref b2), .val (.int cc), .val (.int sd), .val (.int d1), .val (.int d2), .val (.ref b14), .val (.ref b32), .val (.ref b59), .val (.ref b95), .unset, .unset, .unset] [(.long u1), (.long s1), (.int d1), (.ref b141), (.ref b141)])) _
    refine XS.iloadN X141.here hx rfl (hb hby at_303) rfl ?_
    show Steps p.tables e below (T141.setTop (mkF m 304 #[.val (.int p1), .val (.int p2), .val (.long p3), .second, .val (.long p4), .second, .val (.long p5), .second, .val (.long p6), .second, .val (.long (1152921504606846975 : Int64)), .second, .val (.long q0), .second, .val (.long q1), .second, .val (.long q2), .second, .val (.long q3), .second, .val (.ref b2), .val (.int cc), .val (.int sd), .val (.int d1), .val (.int d2), .val (.ref b14), .val (.ref b32), .val (.ref b59), .val (.ref b95), .unset, .unset, .unset] [(.int p1), (.long u1), (.long s1), (.int d1), (.ref b141), (.ref b141)])) _
    refine XS.iconst X141.here hx rfl (hb hby at_304) ?_
    show Steps p.tables e below (T141.setTop (mkF m 305 #[.val (.int p1), .val (.int p2), .val (.long p3), .second, .val (.long p4), .second, .val (.long p5), .second, .val (.long p6), .second, .val (.long (1152921504606846975 : Int64)), .second, .val (.long q0), .second, .val (.long q1), .second, .val (.long q2), .second, .val (.long q3), .second, .val (.ref b2), .val (.int cc), .val (.int sd), .val (.int d1), .val (.int d2), .val (.ref b14), .val (.ref b32), .val (.ref b59), .val (.ref b95), .unset, .unset, .unset] [(.int (1 : Int32)), (.int p1), (.long u1), (.long s1), (.int d1), (.ref b141), (.ref b141)])) _
    refine XT.iushr X141.here hx rfl (hb hby at_305) rfl ?_
    show Steps p.tables e below (T141.setTop (mkF m 306 #[.val (.int p1), .val (.int p2), .val (.long p3), .second, .val (.long p4), .second, .val (.long p5), .second, .val (.long p6), .second, .val (.long (1152921504606846975 : Int64)), .second, .val (.long q0), .second, .val (.long q1), .second, .val (.long q2), .second, .val (.long q3), .second, .val (.ref b2), .val (.int cc), .val (.int sd), .val (.int d1), .val (.int d2), .val (.ref b14), .val (.ref b32), .val (.ref b59), .val (.ref b95), .unset, .unset, .unset] [(.int (XT.ushr p1 (1 : Int32))), (.long u1), (.long s1), (.int d1), (.ref b141), (.ref b141)])) _
    refine st151.trans ?_
    show Steps p.tables e below (T151.setTop (mkF m 309 #[.val (.int p1), .val (.int p2), .val (.long p3), .second, .val (.long p4), .second, .val (.long p5), .second, .val (.long p6), .second, .val (.long (1152921504606846975 : Int64)), .second, .val (.long q0), .second, .val (.long q1), .second, .val (.long q2), .second, .val (.long q3), .second, .val (.ref b2), .val (.int cc), .val (.int sd), .val (.int d1), .val (.int d2), .val (.ref b14), .val (.ref b32), .val (.ref b59), .val (.ref b95), .unset, .unset, .unset] [(.ref b141)])) _
    refine XS.astore X151.here hx rfl (hb hby at_309) rfl rfl (l' := #[.val (.int p1), .val (.int p2), .val (.long p3), .second, .val (.long p4), .second, .val (.long p5), .second, .val (.long p6), .second, .val (.long (1152921504606846975 : Int64)), .second, .val (.long q0), .second, .val (.long q1), .second, .val (.long q2), .second, .val (.long q3), .second, .val (.ref b2), .val (.int cc), .val (.int sd), .val (.int d1), .val (.int d2), .val (.ref b14), .val (.ref b32), .val (.ref b59), .val (.ref b95), .val (.ref b141), .unset, .unset]) rfl ?_
    show Steps p.tables e below (T151.setTop (mkF m 311 #[.val (.int p1), .val (.int p2), .val (.long p3), .second, .val (.long p4), .second, .val (.long p5), .second, .val (.long p6), .second, .val (.long (1152921504606846975 : Int64)), .second, .val (.long q0), .second, .val (.long q1), .second, .val (.long q2), .second, .val (.long q3), .second, .val (.ref b2), .val (.int cc), .val (.int sd), .val (.int d1), .val (.int d2), .val (.ref b14), .val (.ref b32), .val (.ref b59), .val (.ref b95), .val (.ref b141), .unset, .unset] [])) _
    refine st158 _ ?_
    show Steps p.tables e below (T158.setTop (mkF m 314 #[.val (.int p1), .val (.int p2), .val (.long p3), .second, .val (.long p4), .second, .val (.long p5), .second, .val (.long p6), .second, .val (.long (1152921504606846975 : Int64)), .second, .val (.long q0), .second, .val (.long q1), .second, .val (.long q2), .second, .val (.long q3), .second, .val (.ref b2), .val (.int cc), .val (.int sd), .val (.int d1), .val (.int d2), .val (.ref b14), .val (.ref b32), .val (.ref b59), .val (.ref b95), .val (.ref b141), .unset, .unset] [(.ref b158)])) _
    refine XS.dup X158.here hx rfl (hb hby at_314) rfl rfl ?_
    show Steps p.tables e below (T158.setTop (mkF m 315 #[.val (.int p1), .val (.int p2), .val (.long p3), .second, .val (.long p4), .second, .val (.long p5), .second, .val (.long p6), .second, .val (.long (1152921504606846975 : Int64)), .second, .val (.long q0), .second, .val (.long q1), .second, .val (.long q2), .second, .val (.long q3), .second, .val (.ref b2), .val (.int cc), .val (.int sd), .val (.int d1), .val (.int d2), .val (.ref b14), .val (.ref b32), .val (.ref b59), .val (.ref b95), .val (.ref b141), .unset, .unset] [(.ref b158), (.ref b158)])) _
    refine XS.iload X158.here hx rfl (hb hby at_315) rfl ?_
    show Steps p.tables e below (T158.setTop (mkF m 317 #[.val (.int p1), .val (.int p2), .val (.long p3), .second, .val (.long p4), .second, .val (.long p5), .second, .val (.long p6), .second, .val (.long (1152921504606846975 : Int64)), .second, .val (.long q0), .second, .val (.long q1), .second, .val (.long q2), .second, .val (.long q3), .second, .val (.ref b2), .val (.int cc), .val (.int sd), .val (.int d1), .val (.int d2), .val (.ref b14), .val (.ref b32), .val (.ref b59), .val (.ref b95), .val (.ref b141), .unset, .unset] [(.int d2), (.ref b158), (.ref b158)])) _
    refine XS.aload X158.here hx rfl (hb hby at_317) rfl rfl ?_
    show Steps p.tables e below (T158.setTop (mkF m 319 #[.val (.int p1), .val (.int p2), .val (.long p3), .second, .val (.long p4), .second, .val (.long p5), .second, .val (.long p6), .second, .val (.long (1152921504606846975 : Int64)), .second, .val (.long q0), .second, .val (.long q1), .second, .val (.long q2), .second, .val (.long q3), .second, .val (.ref b2), .val (.int cc), .val (.int sd), .val (.int d1), .val (.int d2), .val (.ref b14), .val (.ref b32), .val (.ref b59), .val (.ref b95), .val (.ref b141), .unset, .unset] [(.ref b2), (.int d2), (.ref b158), (.ref b158)])) _
    refine XS.aload X158.here hx rfl (hb hby at_319) rfl rfl ?_
    show Steps p.tables e below (T158.setTop (mkF m 321 #[.val (.int p1), .val (.int p2), .val (.long p3), .second, .val (.long p4), .second, .val (.long p5), .second, .val (.long p6), .second, .val (.long (1152921504606846975 : Int64)), .second, .val (.long q0), .second, .val (.long q1), .second, .val (.long q2), .second, .val (.long q3), .second, .val (.ref b2), .val (.int cc), .val (.int sd), .val (.int d1), .val (.int d2), .val (.ref b14), .val (.ref b32), .val (.ref b59), .val (.ref b95), .val (.ref b141), .unset, .unset] [(.ref b59), (.ref b2), (.int d2), (.ref b158), (.ref b158)])) _
    refine XS.iload X158.here hx rfl (hb hby at_321) rfl ?_
    show Steps p.tables e below (T158.setTop (mkF m 323 #[.val (.int p1), .val (.int p2), .val (.long p3), .second, .val (.long p4), .second, .val (.long p5), .second, .val (.long p6), .second, .val (.long (1152921504606846975 : Int64)), .second, .val (.long q0), .second, .val (.long q1), .second, .val (.long q2), .second, .val (.long q3), .second, .val (.ref b2), .val (.int cc), .val (.int sd), .val (.int d1), .val (.int d2), .val (.ref b14), .val (.ref b32), .val (.ref b59), .val (.ref b95), .val (.ref b141), .unset, .unset] [(.int cc), (.ref b59), (.ref b2), (.int d2), (.ref b158), (.ref b158)])) _
    refine own_ldI X158 hx hZ e158 Ab59_162 (n := 8) (v := (.int i3)) rfl hj165 hv165 (g := (mkF m 323 #[.val (.int p1), .val (.int p2), .val (.long p3), .second, .val (.long p4), .second, .val (.long p5), .second, .val (.long p6), .second, .val (.long (1152921504606846975 : Int64)), .second, .val (.long q0), .second, .val (.long q1), .second, .val (.long q2), .second, .val (.long q3), .second, .val (.ref b2), .val (.int cc), .val (.int sd), .val (.int d1), .val (.int d2), .val (.ref b14), .val (.ref b32), .val (.ref b59), .val (.ref b95), .val (.ref b141), .unset, .unset] [(.int cc), (.ref b59), (.ref b2), (.int d2), (.ref b158), (.ref b158)])) rfl rfl (hb hby at_323) _ ?_
    show Steps p.tables e below (T158.setTop (mkF m 324 #[.val (.int p1), .val (.int p2), .val (.long p3), .second, .val (.long p4), .second, .val (.long p5), .second, .val (.long p6), .second, .val (.long (1152921504606846975 : Int64)), .second, .val (.long q0), .second, .val (.long q1), .second, .val (.long q2), .second, .val (.long q3), .second, .val (.ref b2), .val (.int cc), .val (.int sd), .val (.int d1), .val (.int d2), .val (.ref b14), .val (.ref b32), .val (.ref b59), .val (.ref b95), .val (.ref b141), .unset, .unset] [(.int i3), (.ref b2), (.int d2), (.ref b158), (.ref b158)])) _
    refine own_ldJ X158 hx hZ e158 Ab2_159 (n := 4) (v := (.long s2)) rfl hj166 hv166 (g := (mkF m 324 #[.val (.int p1), .val (.int p2), .val (.long p3), .second, .val (.long p4), .second, .val (.long p5), .second, .val (.long p6), .second, .val (.long (1152921504606846975 : Int64)), .second, .val (.long q0), .second, .val (.long q1), .second, .val (.long q2), .second, .val (.long q3), .second, .val (.ref b2), .val (.int cc), .val (.int sd), .val (.int d1), .val (.int d2), .val (.ref b14), .val (.ref b32), .val (.ref b59), .val (.ref b95), .val (.ref b141), .unset, .unset] [(.int i3), (.ref b2), (.int d2), (.ref b158), (.ref b158)])) rfl rfl (hb hby at_324) _ ?_
    show Steps p.tables e below (T158.setTop (mkF m 325 #[.val (.int p1), .val (.int p2), .val (.long p3), .second, .val (.long p4), .second, .val (.long p5), .second, .val (.long p6), .second, .val (.long (1152921504606846975 : Int64)), .second, .val (.long q0), .second, .val (.long q1), .second, .val (.long q2), .second, .val (.long q3), .second, .val (.ref b2), .val (.int cc), .val (.int sd), .val (.int d1), .val (.int d2), .val (.ref b14), .val (.ref b32), .val (.ref b59), .val (.ref b95), .val (.ref b141), .unset, .unset] [(.long s2), (.int d2), (.ref b158), (.ref b158)])) _
    refine XS.aload X158.here hx rfl (hb hby at_325) rfl rfl ?_
    show Steps p.tables e below (T158.setTop (mkF m 327 #[.val (.int p1), .val (.int p2), .val (.long p3), .second, .val (.long p4), .second, .val (.long p5), .second, .val (.long p6), .second, .val (.long (1152921504606846975 : Int64)), .second, .val (.long q0), .second, .val (.long q1), .second, .val (.long q2), .second, .val (.long q3), .second, .val (.ref b2), .val (.int cc), .val (.int sd), .val (.int d1), .val (.int d2), .val (.ref b14), .val (.ref b32), .val (.ref b59), .val (.ref b95), .val (.ref b141), .unset, .unset] [(.ref b2), (.long s2), (.int d2), (.ref b158), (.ref b158)])) _
    refine XS.aload X158.here hx rfl (hb hby at_327) rfl rfl ?_
    show Steps p.tables e below (T158.setTop (mkF m 329 #[.val (.int p1), .val (.int p2), .val (.long p3), .second, .val (.long p4), .second, .val (.long p5), .second, .val (.long p6), .second, .val (.long (1152921504606846975 : Int64)), .second, .val (.long q0), .second, .val (.long q1), .second, .val (.long q2), .second, .val (.long q3), .second, .val (.ref b2), .val (.int cc), .val (.int sd), .val (.int d1), .val (.int d2), .val (.ref b14), .val (.ref b32), .val (.ref b59), .val (.ref b95), .val (.ref b141), .unset, .unset] [(.ref b95), (.ref b2), (.long s2), (.int d2), (.ref b158), (.ref b158)])) _
    refine XS.iload X158.here hx rfl (hb hby at_329) rfl ?_
    show Steps p.tables e below (T158.setTop (mkF m 331 #[.val (.int p1), .val (.int p2), .val (.long p3), .second, .val (.long p4), .second, .val (.long p5), .second, .val (.long p6), .second, .val (.long (1152921504606846975 : Int64)), .second, .val (.long q0), .second, .val (.long q1), .second, .val (.long q2), .second, .val (.long q3), .second, .val (.ref b2), .val (.int cc), .val (.int sd), .val (.int d1), .val (.int d2), .val (.ref b14), .val (.ref b32), .val (.ref b59), .val (.ref b95), .val (.ref b141), .unset, .unset] [(.int cc), (.ref b95), (.ref b2), (.long s2), (.int d2), (.ref b158), (.ref b158)])) _
    refine own_ldI X158 hx hZ e158 Ab95_163 (n := 8) (v := (.int i4)) rfl hj167 hv167 (g := (mkF m 331 #[.val (.int p1), .val (.int p2), .val (.long p3), .second, .val (.long p4), .second, .val (.long p5), .second, .val (.long p6), .second, .val (.long (1152921504606846975 : Int64)), .second, .val (.long q0), .second, .val (.long q1), .second, .val (.long q2), .second, .val (.long q3), .second, .val (.ref b2), .val (.int cc), .val (.int sd), .val (.int d1), .val (.int d2), .val (.ref b14), .val (.ref b32), .val (.ref b59), .val (.ref b95), .val (.ref b141), .unset, .unset] [(.int cc), (.ref b95), (.ref b2), (.long s2), (.int d2), (.ref b158), (.ref b158)])) rfl rfl (hb hby at_331) _ ?_
    show Steps p.tables e below (T158.setTop (mkF m 332 #[.val (.int p1), .val (.int p2), .val (.long p3), .second, .val (.long p4), .second, .val (.long p5), .second, .val (.long p6), .second, .val (.long (1152921504606846975 : Int64)), .second, .val (.long q0), .second, .val (.long q1), .second, .val (.long q2), .second, .val (.long q3), .second, .val (.ref b2), .val (.int cc), .val (.int sd), .val (.int d1), .val (.int d2), .val (.ref b14), .val (.ref b32), .val (.ref b59), .val (.ref b95), .val (.ref b141), .unset, .unset] [(.int i4), (.ref b2), (.long s2), (.int d2), (.ref b158), (.ref b158)])) _
    refine own_ldJ X158 hx hZ e158 Ab2_159 (n := 4) (v := (.long u2)) rfl hj168 hv168 (g := (mkF m 332 #[.val (.int p1), .val (.int p2), .val (.long p3), .second, .val (.long p4), .second, .val (.long p5), .second, .val (.long p6), .second, .val (.long (1152921504606846975 : Int64)), .second, .val (.long q0), .second, .val (.long q1), .second, .val (.long q2), .second, .val (.long q3), .second, .val (.ref b2), .val (.int cc), .val (.int sd), .val (.int d1), .val (.int d2), .val (.ref b14), .val (.ref b32), .val (.ref b59), .val (.ref b95), .val (.ref b141), .unset, .unset] [(.int i4), (.ref b2), (.long s2), (.int d2), (.ref b158), (.ref b158)])) rfl rfl (hb hby at_332) _ ?_
    show Steps p.tables e below (T158.setTop (mkF m 333 #[.val (.int p1), .val (.int p2), .val (.long p3), .second, .val (.long p4), .second, .val (.long p5), .second, .val (.long p6), .second, .val (.long (1152921504606846975 : Int64)), .second, .val (.long q0), .second, .val (.long q1), .second, .val (.long q2), .second, .val (.long q3), .second, .val (.ref b2), .val (.int cc), .val (.int sd), .val (.int d1), .val (.int d2), .val (.ref b14), .val (.ref b32), .val (.ref b59), .val (.ref b95), .val (.ref b141), .unset, .unset] [(.long u2), (.long s2), (.int d2), (.ref b158), (.ref b158)])) _
    refine XS.iloadN X158.here hx rfl (hb hby at_333) rfl ?_
    show Steps p.tables e below (T158.setTop (mkF m 334 #[.val (.int p1), .val (.int p2), .val (.long p3), .second, .val (.long p4), .second, .val (.long p5), .second, .val (.long p6), .second, .val (.long (1152921504606846975 : Int64)), .second, .val (.long q0), .second, .val (.long q1), .second, .val (.long q2), .second, .val (.long q3), .second, .val (.ref b2), .val (.int cc), .val (.int sd), .val (.int d1), .val (.int d2), .val (.ref b14), .val (.ref b32), .val (.ref b59), .val (.ref b95), .val (.ref b141), .unset, .unset] [(.int p2), (.long u2), (.long s2), (.int d2), (.ref b158), (.ref b158)])) _
    refine XS.iconst X158.here hx rfl (hb hby at_334) ?_
    show Steps p.tables e below (T158.setTop (mkF m 335 #[.val (.int p1), .val (.int p2), .val (.long p3), .second, .val (.long p4), .second, .val (.long p5), .second, .val (.long p6), .second, .val (.long (1152921504606846975 : Int64)), .second, .val (.long q0), .second, .val (.long q1), .second, .val (.long q2), .second, .val (.long q3), .second, .val (.ref b2), .val (.int cc), .val (.int sd), .val (.int d1), .val (.int d2), .val (.ref b14), .val (.ref b32), .val (.ref b59), .val (.ref b95), .val (.ref b141), .unset, .unset] [(.int (1 : Int32)), (.int p2), (.long u2), (.long s2), (.int d2), (.ref b158), (.ref b158)])) _
    refine XT.iushr X158.here hx rfl (hb hby at_335) rfl ?_
    show Steps p.tables e below (T158.setTop (mkF m 336 #[.val (.int p1), .val (.int p2), .val (.long p3), .second, .val (.long p4), .second, .val (.long p5), .second, .val (.long p6), .second, .val (.long (1152921504606846975 : Int64)), .second, .val (.long q0), .second, .val (.long q1), .second, .val (.long q2), .second, .val (.long q3), .second, .val (.ref b2), .val (.int cc), .val (.int sd), .val (.int d1), .val (.int d2), .val (.ref b14), .val (.ref b32), .val (.ref b59), .val (.ref b95), .val (.ref b141), .unset, .unset] [(.int (XT.ushr p2 (1 : Int32))), (.long u2), (.long s2), (.int d2), (.ref b158), (.ref b158)])) _
    refine st169.trans ?_
    show Steps p.tables e below (T169.setTop (mkF m 339 #[.val (.int p1), .val (.int p2), .val (.long p3), .second, .val (.long p4), .second, .val (.long p5), .second, .val (.long p6), .second, .val (.long (1152921504606846975 : Int64)), .second, .val (.long q0), .second, .val (.long q1), .second, .val (.long q2), .second, .val (.long q3), .second, .val (.ref b2), .val (.int cc), .val (.int sd), .val (.int d1), .val (.int d2), .val (.ref b14), .val (.ref b32), .val (.ref b59), .val (.ref b95), .val (.ref b141), .unset, .unset] [(.ref b158)])) _
    refine XS.astore X169.here hx rfl (hb hby at_339) rfl rfl (l' := #[.val (.int p1), .val (.int p2), .val (.long p3), .second, .val (.long p4), .second, .val (.long p5), .second, .val (.long p6), .second, .val (.long (1152921504606846975 : Int64)), .second, .val (.long q0), .second, .val (.long q1), .second, .val (.long q2), .second, .val (.long q3), .second, .val (.ref b2), .val (.int cc), .val (.int sd), .val (.int d1), .val (.int d2), .val (.ref b14), .val (.ref b32), .val (.ref b59), .val (.ref b95), .val (.ref b141), .val (.ref b158), .unset]) rfl ?_
    show Steps p.tables e below (T169.setTop (mkF m 341 #[.val (.int p1), .val (.int p2), .val (.long p3), .second, .val (.long p4), .second, .val (.long p5), .second, .val (.long p6), .second, .val (.long (1152921504606846975 : Int64)), .second, .val (.long q0), .second, .val (.long q1), .second, .val (.long q2), .second, .val (.long q3), .second, .val (.ref b2), .val (.int cc), .val (.int sd), .val (.int d1), .val (.int d2), .val (.ref b14), .val (.ref b32), .val (.ref b59), .val (.ref b95), .val (.ref b141), .val (.ref b158), .unset] [])) _
    refine XS.iload X169.here hx rfl (hb hby at_341) rfl ?_
    show Steps p.tables e below (T169.setTop (mkF m 343 #[.val (.int p1), .val (.int p2), .val (.long p3), .second, .val (.long p4), .second, .val (.long p5), .second, .val (.long p6), .second, .val (.long (1152921504606846975 : Int64)), .second, .val (.long q0), .second, .val (.long q1), .second, .val (.long q2), .second, .val (.long q3), .second, .val (.ref b2), .val (.int cc), .val (.int sd), .val (.int d1), .val (.int d2), .val (.ref b14), .val (.ref b32), .val (.ref b59), .val (.ref b95), .val (.ref b141), .val (.ref b158), .unset] [(.int sd)])) _
    exact k
  by_cases h343_177 : sd = (0 : Int32)
  · obtain ⟨cq179, kq179, q179a, q179b, q179c⟩ := isOf hZ e169 Eb141_175
    obtain ⟨_, _, ⟨T179, L179, k179, n179⟩, -, X179, ⟨Lc179, hQ179, l179, y179, z179⟩, st179⟩ := X169.virtualBack hx (y := (⟨"com/example/twyg/twyg/node/NodePosition", "isAncestorOf", "(Lcom/example/twyg/twyg/node/NodePosition;)Z"⟩ : MethodName)) (z := (⟨"com/example/twyg/twyg/node/NodePosition", "isAncestorOf", "(Lcom/example/twyg/twyg/node/NodePosition;)Z"⟩ : MethodName)) hown (mvT hZ (hw _ (List.mem_of_getElem? (i := 26) rfl))) (mvT hZ (hw _ (List.mem_of_getElem? (i := 27) rfl))) (notFace_of_selects (args := #[]) (mvT hZ (hw _ (List.mem_of_getElem? (i := 29) rfl)))) (mvT hZ (hw _ (List.mem_of_getElem? (i := 29) rfl))) (mvT hZ (hw _ (List.mem_of_getElem? (i := 28) rfl))) (by decide) (backOf (W := 0) (rm4 l Z a0 hw [] b141 b158 T169.heap n0 Z169 d1 d2 s1 u1 s2 u2 Fb141_document_175 Fb141_start_175 Fb141_end_175 FF169_document FF169_start FF169_end) hZ (hw _ (List.mem_of_getElem? (i := 30) rfl)) (hw _ (List.mem_of_getElem? (i := 6) rfl)) (by decide) (by decide)) q179a q179c (g := (mkF m 376 #[.val (.int p1), .val (.int p2), .val (.long p3), .second, .val (.long p4), .second, .val (.long p5), .second, .val (.long p6), .second, .val (.long (1152921504606846975 : Int64)), .second, .val (.long q0), .second, .val (.long q1), .second, .val (.long q2), .second, .val (.long q3), .second, .val (.ref b2), .val (.int cc), .val (.int sd), .val (.int d1), .val (.int d2), .val (.ref b14), .val (.ref b32), .val (.ref b59), .val (.ref b95), .val (.ref b141), .val (.ref b158), .val (.int (0 : Int32))] [(.ref b158), (.ref b141)])) rfl (by rw [hml]; rfl) (Steps.refl _) (argsL := [(.ref b158)]) (rest := []) (lenOf pd_0_1 rfl) rfl (by show 2 * 0 + _ ≤ _; exact Nat.le_of_eq rfl) (hb hby at_376) (fun _ _ => ⟨rfl, e169, (by decide : 7 + 0 ≤ _), (by decide : 44 + 0 ≤ _)⟩)
    dsimp only [Pt.U, Pt.locs, Pt.cells, Pt.slots] at X179 l179 y179 z179 st179 hQ179
    subst l179 y179 z179
    obtain ⟨rfl, N179q, e179⟩ := hQ179
    have N179 := Fr.app N169 N179q
    have h381_180 : (fA d1 s1 u1 d2 s2 u2) = (0 : Int32) := own_fdoc (own_J0 hJ13 h343_177)
    have pre181 : ∀ t, Steps p.tables e below (T179.setTop (mkF m 389 #[.val (.int p1), .val (.int p2), .val (.long p3), .second, .val (.long p4), .second, .val (.long p5), .second, .val (.long p6), .second, .val (.long (1152921504606846975 : Int64)), .second, .val (.long q0), .second, .val (.long q1), .second, .val (.long q2), .second, .val (.long q3), .second, .val (.ref b2), .val (.int cc), .val (.int sd), .val (.int d1), .val (.int d2), .val (.ref b14), .val (.ref b32), .val (.ref b59), .val (.ref b95), .val (.ref b141), .val (.ref b158), .val (.int (0 : Int32))] [(.int (1 : Int32))])) t → Steps p.tables e below (s₁.setTop (entryFrame m #[(.int p1), (.int p2), (.long p3), (.long p4), (.long p5), (.long p6)] maxLocals)) t := by
      intro t k
      refine pre178 t ?_
      refine XS.ifYes X169.here hx rfl (pc0 := 343) (pc' := 369) rfl (hb hby at_343) rfl ((if0 _ _).trans (teq h343_177).1) (by decide) (by decide) ?_
      show Steps p.tables e below (T169.setTop (mkF m 369 #[.val (.int p1), .val (.int p2), .val (.long p3), .second, .val (.long p4), .second, .val (.long p5), .second, .val (.long p6), .second, .val (.long (1152921504606846975 : Int64)), .second, .val (.long q0), .second, .val (.long q1), .second, .val (.long q2), .second, .val (.long q3), .second, .val (.ref b2), .val (.int cc), .val (.int sd), .val (.int d1), .val (.int d2), .val (.ref b14), .val (.ref b32), .val (.ref b59), .val (.ref b95), .val (.ref b141), .val (.ref b158), .unset] [])) _
      refine XS.iconst X169.here hx rfl (hb hby at_369) ?_
      show Steps p.tables e below (T169.setTop (mkF m 370 #[.val (.int p1), .val (.int p2), .val (.long p3), .second, .val (.long p4), .second, .val (.long p5), .second, .val (.long p6), .second, .val (.long (1152921504606846975 : Int64)), .second, .val (.long q0), .second, .val (.long q1), .second, .val (.long q2), .second, .val (.long q3), .second, .val (.ref b2), .val (.int cc), .val (.int sd), .val (.int d1), .val (.int d2), .val (.ref b14), .val (.ref b32), .val (.ref b59), .val (.ref b95), .val (.ref b141), .val (.ref b158), .unset] [(.int (0 : Int32))])) _
      refine XS.istore X169.here hx rfl (hb hby at_370) rfl (l' := #[.val (.int p1), .val (.int p2), .val (.long p3), .second, .val (.long p4), .second, .val (.long p5), .second, .val (.long p6), .second, .val (.long (1152921504606846975 : Int64)), .second, .val (.long q0), .second, .val (.long q1), .second, .val (.long q2), .second, .val (.long q3), .second, .val (.ref b2), .val (.int cc), .val (.int sd), .val (.int d1), .val (.int d2), .val (.ref b14), .val (.ref b32), .val (.ref b59), .val (.ref b95), .val (.ref b141), .val (.ref b158), .val (.int (0 : Int32))]) rfl ?_
      show Steps p.tables e below (T169.setTop (mkF m 372 #[.val (.int p1), .val (.int p2), .val (.long p3), .second, .val (.long p4), .second, .val (.long p5), .second, .val (.long p6), .second, .val (.long (1152921504606846975 : Int64)), .second, .val (.long q0), .second, .val (.long q1), .second, .val (.long q2), .second, .val (.long q3), .second, .val (.ref b2), .val (.int cc), .val (.int sd), .val (.int d1), .val (.int d2), .val (.ref b14), .val (.ref b32), .val (.ref b59), .val (.ref b95), .val (.ref b141), .val (.ref b158), .val (.int (0 : Int32))] [])) _
      refine XS.aload X169.here hx rfl (hb hby at_372) rfl rfl ?_
      show Steps p.tables e below (T169.setTop (mkF m 374 #[.val (.int p1), .val (.int p2), .val (.long p3), .second, .val (.long p4), .second, .val (.long p5), .second, .val (.long p6), .second, .val (.long (1152921504606846975 : Int64)), .second, .val (.long q0), .second, .val (.long q1), .second, .val (.long q2), .second, .val (.long q3), .second, .val (.ref b2), .val (.int cc), .val (.int sd), .val (.int d1), .val (.int d2), .val (.ref b14), .val (.ref b32), .val (.ref b59), .val (.ref b95), .val (.ref b141), .val (.ref b158), .val (.int (0 : Int32))] [(.ref b141)])) _
      refine XS.aload X169.here hx rfl (hb hby at_374) rfl rfl ?_
      show Steps p.tables e below (T169.setTop (mkF m 376 #[.val (.int p1), .val (.int p2), .val (.long p3), .second, .val (.long p4), .second, .val (.long p5), .second, .val (.long p6), .second, .val (.long (1152921504606846975 : Int64)), .second, .val (.long q0), .second, .val (.long q1), .second, .val (.long q2), .second, .val (.long q3), .second, .val (.ref b2), .val (.int cc), .val (.int sd), .val (.int d1), .val (.int d2), .val (.ref b14), .val (.ref b32), .val (.ref b59), .val (.ref b95), .val (.ref b141), .val (.ref b158), .val (.int (0 : Int32))] [(.ref b158), (.ref b141)])) _
      refine st179.trans ?_
      show Steps p.tables e below (T179.setTop (mkF m 379 #[.val (.int p1), .val (.int p2), .val (.long p3), .second, .val (.long p4), .second, .val (.long p5), .second, .val (.long p6), .second, .val (.long (1152921504606846975 : Int64)), .second, .val (.long q0), .second, .val (.long q1), .second, .val (.long q2), .second, .val (.long q3), .second, .val (.ref b2), .val (.int cc), .val (.int sd), .val (.int d1), .val (.int d2), .val (.ref b14), .val (.ref b32), .val (.ref b59), .val (.ref b95), .val (.ref b141), .val (.ref b158), .val (.int (0 : Int32))] [(.int (fA d1 s1 u1 d2 s2 u2))])) _
      refine XS.iload X179.here hx rfl (hb hby at_379) rfl ?_
      show Steps p.tables e below (T179.setTop (mkF m 381 #[.val (.int p1), .val (.int p2), .val (.long p3), .second, .val (.long p4), .second, .val (.long p5), .second, .val (.long p6), .second, .val (.long (1152921504606846975 : Int64)), .second, .val (.long q0), .second, .val (.long q1), .second, .val (.long q2), .second, .val (.long q3), .second, .val (.ref b2), .val (.int cc), .val (.int sd), .val (.int d1), .val (.int d2), .val (.ref b14), .val (.ref b32), .val (.ref b59), .val (.ref b95), .val (.ref b141), .val (.ref b158), .val (.int (0 : Int32))] [(.int (0 : Int32)), (.int (fA d1 s1 u1 d2 s2 u2))])) _
      refine XS.icmpNo X179.here hx rfl (hb hby at_381) rfl (teq h381_180).2 ?_
      show Steps p.tables e below (T179.setTop (mkF m 384 #[.val (.int p1), .val (.int p2), .val (.long p3), .second, .val (.long p4), .second, .val (.long p5), .second, .val (.long p6), .second, .val (.long (1152921504606846975 : Int64)), .second, .val (.long q0), .second, .val (.long q1), .second, .val (.long q2), .second, .val (.long q3), .second, .val (.ref b2), .val (.int cc), .val (.int sd), .val (.int d1), .val (.int d2), .val (.ref b14), .val (.ref b32), .val (.ref b59), .val (.ref b95), .val (.ref b141), .val (.ref b158), .val (.int (0 : Int32))] [])) _
      refine XS.iconst X179.here hx rfl (hb hby at_384) ?_
      show Steps p.tables e below (T179.setTop (mkF m 385 #[.val (.int p1), .val (.int p2), .val (.long p3), .second, .val (.long p4), .second, .val (.long p5), .second, .val (.long p6), .second, .val (.long (1152921504606846975 : Int64)), .second, .val (.long q0), .second, .val (.long q1), .second, .val (.long q2), .second, .val (.long q3), .second, .val (.ref b2), .val (.int cc), .val (.int sd), .val (.int d1), .val (.int d2), .val (.ref b14), .val (.ref b32), .val (.ref b59), .val (.ref b95), .val (.ref b141), .val (.ref b158), .val (.int (0 : Int32))] [(.int (1 : Int32))])) _
      refine XS.goto X179.here hx rfl (pc0 := 385) (pc' := 389) rfl (hb hby at_385) (by decide) (by decide) ?_
      show Steps p.tables e below (T179.setTop (mkF m 389 #[.val (.int p1), .val (.int p2), .val (.long p3), .second, .val (.long p4), .second, .val (.long p5), .second, .val (.long p6), .second, .val (.long (1152921504606846975 : Int64)), .second, .val (.long q0), .second, .val (.long q1), .second, .val (.long q2), .second, .val (.long q3), .second, .val (.ref b2), .val (.int cc), .val (.int sd), .val (.int d1), .val (.int d2), .val (.ref b14), .val (.ref b32), .val (.ref b59), .val (.ref b95), .val (.ref b141), .val (.ref b158), .val (.int (0 : Int32))] [(.int (1 : Int32))])) _
      exact k
    obtain ⟨fs, hr, hrun, hended, hW, hsame⟩ := X179.leave (v := some (.int (1 : Int32))) (fun h => by rw [Bd.returns] at h; cases h)
    refine ⟨_, _, pre181 _ ?_, hrun, hended, _, _, rfl, ?_, ⟨_, rfl⟩, hW, hsame.mono (by decide) (by decide)⟩
    · exact retN X179 hx (t := .boolean) Bd.returns (by simp) (hb hby at_389) hr
    · exact ⟨rfl, N179⟩
  · have pre183 : ∀ t, Steps p.tables e below (T169.setTop (mkF m 348 #[.val (.int p1), .val (.int p2), .val (.long p3), .second, .val (.long p4), .second, .val (.long p5), .second, .val (.long p6), .second, .val (.long (1152921504606846975 : Int64)), .second, .val (.long q0), .second, .val (.long q1), .second, .val (.long q2), .second, .val (.long q3), .second, .val (.ref b2), .val (.int cc), .val (.int sd), .val (.int d1), .val (.int d2), .val (.ref b14), .val (.ref b32), .val (.ref b59), .val (.ref b95), .val (.ref b141), .val (.ref b158), .unset] [(.int cc)])) t → Steps p.tables e below (s₁.setTop (entryFrame m #[(.int p1), (.int p2), (.long p3), (.long p4), (.long p5), (.long p6)] maxLocals)) t := by
      intro t k
      refine pre178 t ?_
      refine XS.ifNo X169.here hx rfl (hb hby at_343) rfl ((if0 _ _).trans (feq h343_177).1) ?_
      show Steps p.tables e below (T169.setTop (mkF m 346 #[.val (.int p1), .val (.int p2), .val (.long p3), .second, .val (.long p4), .second, .val (.long p5), .second, .val (.long p6), .second, .val (.long (1152921504606846975 : Int64)), .second, .val (.long q0), .second, .val (.long q1), .second, .val (.long q2), .second, .val (.long q3), .second, .val (.ref b2), .val (.int cc), .val (.int sd), .val (.int d1), .val (.int d2), .val (.ref b14), .val (.ref b32), .val (.ref b59), .val (.ref b95), .val (.ref b141), .val (.ref b158), .unset] [])) _
      refine XS.iload X169.here hx rfl (hb hby at_346) rfl ?_
      show Steps p.tables e below (T169.setTop (mkF m 348 #[.val (.int p1), .val (.int p2), .val (.long p3), .second, .val (.long p4), .second, .val (.long p5), .second, .val (.long p6), .second, .val (.long (1152921504606846975 : Int64)), .second, .val (.long q0), .second, .val (.long q1), .second, .val (.long q2), .second, .val (.long q3), .second, .val (.ref b2), .val (.int cc), .val (.int sd), .val (.int d1), .val (.int d2), .val (.ref b14), .val (.ref b32), .val (.ref b59), .val (.ref b95), .val (.ref b141), .val (.ref b158), .unset] [(.int cc)])) _
      exact k
    by_cases h348_182 : cc = (0 : Int32)
    · have pre185 : ∀ t, Steps p.tables e below (T169.setTop (mkF m 355 #[.val (.int p1), .val (.int p2), .val (.long p3), .second, .val (.long p4), .second, .val (.long p5), .second, .val (.long p6), .second, .val (.long (1152921504606846975 : Int64)), .second, .val (.long q0), .second, .val (.long q1), .second, .val (.long q2), .second, .val (.long q3), .second, .val (.ref b2), .val (.int cc), .val (.int sd), .val (.int d1), .val (.int d2), .val (.ref b14), .val (.ref b32), .val (.ref b59), .val (.ref b95), .val (.ref b141), .val (.ref b158), .unset] [(.int (XT.cmpL q1 (0 : Int64)))])) t → Steps p.tables e below (s₁.setTop (entryFrame m #[(.int p1), (.int p2), (.long p3), (.long p4), (.long p5), (.long p6)] maxLocals)) t := by
        intro t k
        refine pre183 t ?_
        refine XS.ifNo X169.here hx rfl (hb hby at_348) rfl ((if0 _ _).trans (teq h348_182).2) ?_
        show Steps p.tables e below (T169.setTop (mkF m 351 #[.val (.int p1), .val (.int p2), .val (.long p3), .second, .val (.long p4), .second, .val (.long p5), .second, .val (.long p6), .second, .val (.long (1152921504606846975 : Int64)), .second, .val (.long q0), .second, .val (.long q1), .second, .val (.long q2), .second, .val (.long q3), .second, .val (.ref b2), .val (.int cc), .val (.int sd), .val (.int d1), .val (.int d2), .val (.ref b14), .val (.ref b32), .val (.ref b59), .val (.ref b95), .val (.ref b141), .val (.ref b158), .unset] [])) _
        refine XT.lload X169.here hx rfl (hb hby at_351) rfl ?_
        show Steps p.tables e below (T169.setTop (mkF m 353 #[.val (.int p1), .val (.int p2), .val (.long p3), .second, .val (.long p4), .second, .val (.long p5), .second, .val (.long p6), .second, .val (.long (1152921504606846975 : Int64)), .second, .val (.long q0), .second, .val (.long q1), .second, .val (.long q2), .second, .val (.long q3), .second, .val (.ref b2), .val (.int cc), .val (.int sd), .val (.int d1), .val (.int d2), .val (.ref b14), .val (.ref b32), .val (.ref b59), .val (.ref b95), .val (.ref b141), .val (.ref b158), .unset] [(.long q1)])) _
        refine XT.lconst X169.here hx rfl (hb hby at_353) ?_
        show Steps p.tables e below (T169.setTop (mkF m 354 #[.val (.int p1), .val (.int p2), .val (.long p3), .second, .val (.long p4), .second, .val (.long p5), .second, .val (.long p6), .second, .val (.long (1152921504606846975 : Int64)), .second, .val (.long q0), .second, .val (.long q1), .second, .val (.long q2), .second, .val (.long q3), .second, .val (.ref b2), .val (.int cc), .val (.int sd), .val (.int d1), .val (.int d2), .val (.ref b14), .val (.ref b32), .val (.ref b59), .val (.ref b95), .val (.ref b141), .val (.ref b158), .unset] [(.long (0 : Int64)), (.long q1)])) _
        refine XT.lcmp X169.here hx rfl (hb hby at_354) rfl ?_
        show Steps p.tables e below (T169.setTop (mkF m 355 #[.val (.int p1), .val (.int p2), .val (.long p3), .second, .val (.long p4), .second, .val (.long p5), .second, .val (.long p6), .second, .val (.long (1152921504606846975 : Int64)), .second, .val (.long q0), .second, .val (.long q1), .second, .val (.long q2), .second, .val (.long q3), .second, .val (.ref b2), .val (.int cc), .val (.int sd), .val (.int d1), .val (.int d2), .val (.ref b14), .val (.ref b32), .val (.ref b59), .val (.ref b95), .val (.ref b141), .val (.ref b158), .unset] [(.int (XT.cmpL q1 (0 : Int64)))])) _
        exact k
      by_cases h355_184 : (0 : Int32) < (XT.cmpL q1 (0 : Int64))
      · have pre187 : ∀ t, Steps p.tables e below (T169.setTop (mkF m 362 #[.val (.int p1), .val (.int p2), .val (.long p3), .second, .val (.long p4), .second, .val (.long p5), .second, .val (.long p6), .second, .val (.long (1152921504606846975 : Int64)), .second, .val (.long q0), .second, .val (.long q1), .second, .val (.long q2), .second, .val (.long q3), .second, .val (.ref b2), .val (.int cc), .val (.int sd), .val (.int d1), .val (.int d2), .val (.ref b14), .val (.ref b32), .val (.ref b59), .val (.ref b95), .val (.ref b141), .val (.ref b158), .unset] [(.int (XT.cmpL q3 (0 : Int64)))])) t → Steps p.tables e below (s₁.setTop (entryFrame m #[(.int p1), (.int p2), (.long p3), (.long p4), (.long p5), (.long p6)] maxLocals)) t := by
          intro t k
          refine pre185 t ?_
          refine XS.ifNo X169.here hx rfl (hb hby at_355) rfl ((if0 _ _).trans (tlt h355_184).2.2.2) ?_
          show Steps p.tables e below (T169.setTop (mkF m 358 #[.val (.int p1), .val (.int p2), .val (.long p3), .second, .val (.long p4), .second, .val (.long p5), .second, .val (.long p6), .second, .val (.long (1152921504606846975 : Int64)), .second, .val (.long q0), .second, .val (.long q1), .second, .val (.long q2), .second, .val (.long q3), .second, .val (.ref b2), .val (.int cc), .val (.int sd), .val (.int d1), .val (.int d2), .val (.ref b14), .val (.ref b32), .val (.ref b59), .val (.ref b95), .val (.ref b141), .val (.ref b158), .unset] [])) _
          refine XT.lload X169.here hx rfl (hb hby at_358) rfl ?_
          show Steps p.tables e below (T169.setTop (mkF m 360 #[.val (.int p1), .val (.int p2), .val (.long p3), .second, .val (.long p4), .second, .val (.long p5), .second, .val (.long p6), .second, .val (.long (1152921504606846975 : Int64)), .second, .val (.long q0), .second, .val (.long q1), .second, .val (.long q2), .second, .val (.long q3), .second, .val (.ref b2), .val (.int cc), .val (.int sd), .val (.int d1), .val (.int d2), .val (.ref b14), .val (.ref b32), .val (.ref b59), .val (.ref b95), .val (.ref b141), .val (.ref b158), .unset] [(.long q3)])) _
          refine XT.lconst X169.here hx rfl (hb hby at_360) ?_
          show Steps p.tables e below (T169.setTop (mkF m 361 #[.val (.int p1), .val (.int p2), .val (.long p3), .second, .val (.long p4), .second, .val (.long p5), .second, .val (.long p6), .second, .val (.long (1152921504606846975 : Int64)), .second, .val (.long q0), .second, .val (.long q1), .second, .val (.long q2), .second, .val (.long q3), .second, .val (.ref b2), .val (.int cc), .val (.int sd), .val (.int d1), .val (.int d2), .val (.ref b14), .val (.ref b32), .val (.ref b59), .val (.ref b95), .val (.ref b141), .val (.ref b158), .unset] [(.long (0 : Int64)), (.long q3)])) _
          refine XT.lcmp X169.here hx rfl (hb hby at_361) rfl ?_
          show Steps p.tables e below (T169.setTop (mkF m 362 #[.val (.int p1), .val (.int p2), .val (.long p3), .second, .val (.long p4), .second, .val (.long p5), .second, .val (.long p6), .second, .val (.long (1152921504606846975 : Int64)), .second, .val (.long q0), .second, .val (.long q1), .second, .val (.long q2), .second, .val (.long q3), .second, .val (.ref b2), .val (.int cc), .val (.int sd), .val (.int d1), .val (.int d2), .val (.ref b14), .val (.ref b32), .val (.ref b59), .val (.ref b95), .val (.ref b141), .val (.ref b158), .unset] [(.int (XT.cmpL q3 (0 : Int64)))])) _
          exact k
        by_cases h362_186 : (0 : Int32) < (XT.cmpL q3 (0 : Int64))
        · obtain ⟨cq188, kq188, q188a, q188b, q188c⟩ := isOf hZ e169 Eb141_175
          obtain ⟨_, _, ⟨T188, L188, k188, n188⟩, -, X188, ⟨Lc188, hQ188, l188, y188, z188⟩, st188⟩ := X169.virtualBack hx (y := (⟨"com/example/twyg/twyg/node/NodePosition", "isAncestorOf", "(Lcom/example/twyg/twyg/node/NodePosition;)Z"⟩ : MethodName)) (z := (⟨"com/example/twyg/twyg/node/NodePosition", "isAncestorOf", "(Lcom/example/twyg/twyg/node/NodePosition;)Z"⟩ : MethodName)) hown (mvT hZ (hw _ (List.mem_of_getElem? (i := 26) rfl))) (mvT hZ (hw _ (List.mem_of_getElem? (i := 27) rfl))) (notFace_of_selects (args := #[]) (mvT hZ (hw _ (List.mem_of_getElem? (i := 29) rfl)))) (mvT hZ (hw _ (List.mem_of_getElem? (i := 29) rfl))) (mvT hZ (hw _ (List.mem_of_getElem? (i := 28) rfl))) (by decide) (backOf (W := 0) (rm4 l Z a0 hw [] b141 b158 T169.heap n0 Z169 d1 d2 s1 u1 s2 u2 Fb141_document_175 Fb141_start_175 Fb141_end_175 FF169_document FF169_start FF169_end) hZ (hw _ (List.mem_of_getElem? (i := 30) rfl)) (hw _ (List.mem_of_getElem? (i := 6) rfl)) (by decide) (by decide)) q188a q188c (g := (mkF m 376 #[.val (.int p1), .val (.int p2), .val (.long p3), .second, .val (.long p4), .second, .val (.long p5), .second, .val (.long p6), .second, .val (.long (1152921504606846975 : Int64)), .second, .val (.long q0), .second, .val (.long q1), .second, .val (.long q2), .second, .val (.long q3), .second, .val (.ref b2), .val (.int cc), .val (.int sd), .val (.int d1), .val (.int d2), .val (.ref b14), .val (.ref b32), .val (.ref b59), .val (.ref b95), .val (.ref b141), .val (.ref b158), .val (.int (1 : Int32))] [(.ref b158), (.ref b141)])) rfl (by rw [hml]; rfl) (Steps.refl _) (argsL := [(.ref b158)]) (rest := []) (lenOf pd_0_1 rfl) rfl (by show 2 * 0 + _ ≤ _; exact Nat.le_of_eq rfl) (hb hby at_376) (fun _ _ => ⟨rfl, e169, (by decide : 7 + 0 ≤ _), (by decide : 44 + 0 ≤ _)⟩)
          dsimp only [Pt.U, Pt.locs, Pt.cells, Pt.slots] at X188 l188 y188 z188 st188 hQ188
          subst l188 y188 z188
          obtain ⟨rfl, N188q, e188⟩ := hQ188
          have N188 := Fr.app N169 N188q
          have h381_189 : (fA d1 s1 u1 d2 s2 u2) = (1 : Int32) := own_f1 (own_J1 hJ13 h343_177) (own_lt' (by have := own_pos h355_184; have := own_first hcase h348_182; omega)) (own_lt' (by have := own_pos h362_186; have := own_first hcase h348_182; omega))
          have pre190 : ∀ t, Steps p.tables e below (T188.setTop (mkF m 389 #[.val (.int p1), .val (.int p2), .val (.long p3), .second, .val (.long p4), .second, .val (.long p5), .second, .val (.long p6), .second, .val (.long (1152921504606846975 : Int64)), .second, .val (.long q0), .second, .val (.long q1), .second, .val (.long q2), .second, .val (.long q3), .second, .val (.ref b2), .val (.int cc), .val (.int sd), .val (.int d1), .val (.int d2), .val (.ref b14), .val (.ref b32), .val (.ref b59), .val (.ref b95), .val (.ref b141), .val (.ref b158), .val (.int (1 : Int32))] [(.int (1 : Int32))])) t → Steps p.tables e below (s₁.setTop (entryFrame m #[(.int p1), (.int p2), (.long p3), (.long p4), (.long p5), (.long p6)] maxLocals)) t := by
            intro t k
            refine pre187 t ?_
            refine XS.ifNo X169.here hx rfl (hb hby at_362) rfl ((if0 _ _).trans (tlt h362_186).2.2.2) ?_
            show Steps p.tables e below (T169.setTop (mkF m 365 #[.val (.int p1), .val (.int p2), .val (.long p3), .second, .val (.long p4), .second, .val (.long p5), .second, .val (.long p6), .second, .val (.long (1152921504606846975 : Int64)), .second, .val (.long q0), .second, .val (.long q1), .second, .val (.long q2), .second, .val (.long q3), .second, .val (.ref b2), .val (.int cc), .val (.int sd), .val (.int d1), .val (.int d2), .val (.ref b14), .val (.ref b32), .val (.ref b59), .val (.ref b95), .val (.ref b141), .val (.ref b158), .unset] [])) _
            refine XS.iconst X169.here hx rfl (hb hby at_365) ?_
            show Steps p.tables e below (T169.setTop (mkF m 366 #[.val (.int p1), .val (.int p2), .val (.long p3), .second, .val (.long p4), .second, .val (.long p5), .second, .val (.long p6), .second, .val (.long (1152921504606846975 : Int64)), .second, .val (.long q0), .second, .val (.long q1), .second, .val (.long q2), .second, .val (.long q3), .second, .val (.ref b2), .val (.int cc), .val (.int sd), .val (.int d1), .val (.int d2), .val (.ref b14), .val (.ref b32), .val (.ref b59), .val (.ref b95), .val (.ref b141), .val (.ref b158), .unset] [(.int (1 : Int32))])) _
            refine XS.goto X169.here hx rfl (pc0 := 366) (pc' := 370) rfl (hb hby at_366) (by decide) (by decide) ?_
            show Steps p.tables e below (T169.setTop (mkF m 370 #[.val (.int p1), .val (.int p2), .val (.long p3), .second, .val (.long p4), .second, .val (.long p5), .second, .val (.long p6), .second, .val (.long (1152921504606846975 : Int64)), .second, .val (.long q0), .second, .val (.long q1), .second, .val (.long q2), .second, .val (.long q3), .second, .val (.ref b2), .val (.int cc), .val (.int sd), .val (.int d1), .val (.int d2), .val (.ref b14), .val (.ref b32), .val (.ref b59), .val (.ref b95), .val (.ref b141), .val (.ref b158), .unset] [(.int (1 : Int32))])) _
            refine XS.istore X169.here hx rfl (hb hby at_370) rfl (l' := #[.val (.int p1), .val (.int p2), .val (.long p3), .second, .val (.long p4), .second, .val (.long p5), .second, .val (.long p6), .second, .val (.long (1152921504606846975 : Int64)), .second, .val (.long q0), .second, .val (.long q1), .second, .val (.long q2), .second, .val (.long q3), .second, .val (.ref b2), .val (.int cc), .val (.int sd), .val (.int d1), .val (.int d2), .val (.ref b14), .val (.ref b32), .val (.ref b59), .val (.ref b95), .val (.ref b141), .val (.ref b158), .val (.int (1 : Int32))]) rfl ?_
            show Steps p.tables e below (T169.setTop (mkF m 372 #[.val (.int p1), .val (.int p2), .val (.long p3), .second, .val (.long p4), .second, .val (.long p5), .second, .val (.long p6), .second, .val (.long (1152921504606846975 : Int64)), .second, .val (.long q0), .second, .val (.long q1), .second, .val (.long q2), .second, .val (.long q3), .second, .val (.ref b2), .val (.int cc), .val (.int sd), .val (.int d1), .val (.int d2), .val (.ref b14), .val (.ref b32), .val (.ref b59), .val (.ref b95), .val (.ref b141), .val (.ref b158), .val (.int (1 : Int32))] [])) _
            refine XS.aload X169.here hx rfl (hb hby at_372) rfl rfl ?_
            show Steps p.tables e below (T169.setTop (mkF m 374 #[.val (.int p1), .val (.int p2), .val (.long p3), .second, .val (.long p4), .second, .val (.long p5), .second, .val (.long p6), .second, .val (.long (1152921504606846975 : Int64)), .second, .val (.long q0), .second, .val (.long q1), .second, .val (.long q2), .second, .val (.long q3), .second, .val (.ref b2), .val (.int cc), .val (.int sd), .val (.int d1), .val (.int d2), .val (.ref b14), .val (.ref b32), .val (.ref b59), .val (.ref b95), .val (.ref b141), .val (.ref b158), .val (.int (1 : Int32))] [(.ref b141)])) _
            refine XS.aload X169.here hx rfl (hb hby at_374) rfl rfl ?_
            show Steps p.tables e below (T169.setTop (mkF m 376 #[.val (.int p1), .val (.int p2), .val (.long p3), .second, .val (.long p4), .second, .val (.long p5), .second, .val (.long p6), .second, .val (.long (1152921504606846975 : Int64)), .second, .val (.long q0), .second, .val (.long q1), .second, .val (.long q2), .second, .val (.long q3), .second, .val (.ref b2), .val (.int cc), .val (.int sd), .val (.int d1), .val (.int d2), .val (.ref b14), .val (.ref b32), .val (.ref b59), .val (.ref b95), .val (.ref b141), .val (.ref b158), .val (.int (1 : Int32))] [(.ref b158), (.ref b141)])) _
            refine st188.trans ?_
            show Steps p.tables e below (T188.setTop (mkF m 379 #[.val (.int p1), .val (.int p2), .val (.long p3), .second, .val (.long p4), .second, .val (.long p5), .second, .val (.long p6), .second, .val (.long (1152921504606846975 : Int64)), .second, .val (.long q0), .second, .val (.long q1), .second, .val (.long q2), .second, .val (.long q3), .second, .val (.ref b2), .val (.int cc), .val (.int sd), .val (.int d1), .val (.int d2), .val (.ref b14), .val (.ref b32), .val (.ref b59), .val (.ref b95), .val (.ref b141), .val (.ref b158), .val (.int (1 : Int32))] [(.int (fA d1 s1 u1 d2 s2 u2))])) _
            refine XS.iload X188.here hx rfl (hb hby at_379) rfl ?_
            show Steps p.tables e below (T188.setTop (mkF m 381 #[.val (.int p1), .val (.int p2), .val (.long p3), .second, .val (.long p4), .second, .val (.long p5), .second, .val (.long p6), .second, .val (.long (1152921504606846975 : Int64)), .second, .val (.long q0), .second, .val (.long q1), .second, .val (.long q2), .second, .val (.long q3), .second, .val (.ref b2), .val (.int cc), .val (.int sd), .val (.int d1), .val (.int d2), .val (.ref b14), .val (.ref b32), .val (.ref b59), .val (.ref b95), .val (.ref b141), .val (.ref b158), .val (.int (1 : Int32))] [(.int (1 : Int32)), (.int (fA d1 s1 u1 d2 s2 u2))])) _
            refine XS.icmpNo X188.here hx rfl (hb hby at_381) rfl (teq h381_189).2 ?_
            show Steps p.tables e below (T188.setTop (mkF m 384 #[.val (.int p1), .val (.int p2), .val (.long p3), .second, .val (.long p4), .second, .val (.long p5), .second, .val (.long p6), .second, .val (.long (1152921504606846975 : Int64)), .second, .val (.long q0), .second, .val (.long q1), .second, .val (.long q2), .second, .val (.long q3), .second, .val (.ref b2), .val (.int cc), .val (.int sd), .val (.int d1), .val (.int d2), .val (.ref b14), .val (.ref b32), .val (.ref b59), .val (.ref b95), .val (.ref b141), .val (.ref b158), .val (.int (1 : Int32))] [])) _
            refine XS.iconst X188.here hx rfl (hb hby at_384) ?_
            show Steps p.tables e below (T188.setTop (mkF m 385 #[.val (.int p1), .val (.int p2), .val (.long p3), .second, .val (.long p4), .second, .val (.long p5), .second, .val (.long p6), .second, .val (.long (1152921504606846975 : Int64)), .second, .val (.long q0), .second, .val (.long q1), .second, .val (.long q2), .second, .val (.long q3), .second, .val (.ref b2), .val (.int cc), .val (.int sd), .val (.int d1), .val (.int d2), .val (.ref b14), .val (.ref b32), .val (.ref b59), .val (.ref b95), .val (.ref b141), .val (.ref b158), .val (.int (1 : Int32))] [(.int (1 : Int32))])) _
            refine XS.goto X188.here hx rfl (pc0 := 385) (pc' := 389) rfl (hb hby at_385) (by decide) (by decide) ?_
            show Steps p.tables e below (T188.setTop (mkF m 389 #[.val (.int p1), .val (.int p2), .val (.long p3), .second, .val (.long p4), .second, .val (.long p5), .second, .val (.long p6), .second, .val (.long (1152921504606846975 : Int64)), .second, .val (.long q0), .second, .val (.long q1), .second, .val (.long q2), .second, .val (.long q3), .second, .val (.ref b2), .val (.int cc), .val (.int sd), .val (.int d1), .val (.int d2), .val (.ref b14), .val (.ref b32), .val (.ref b59), .val (.ref b95), .val (.ref b141), .val (.ref b158), .val (.int (1 : Int32))] [(.int (1 : Int32))])) _
            exact k
          obtain ⟨fs, hr, hrun, hended, hW, hsame⟩ := X188.leave (v := some (.int (1 : Int32))) (fun h => by rw [Bd.returns] at h; cases h)
          refine ⟨_, _, pre190 _ ?_, hrun, hended, _, _, rfl, ?_, ⟨_, rfl⟩, hW, hsame.mono (by decide) (by decide)⟩
          · exact retN X188 hx (t := .boolean) Bd.returns (by simp) (hb hby at_389) hr
          · exact ⟨rfl, N188⟩
        · obtain ⟨cq191, kq191, q191a, q191b, q191c⟩ := isOf hZ e169 Eb141_175
          obtain ⟨_, _, ⟨T191, L191, k191, n191⟩, -, X191, ⟨Lc191, hQ191, l191, y191, z191⟩, st191⟩ := X169.virtualBack hx (y := (⟨"com/example/twyg/twyg/node/NodePosition", "isAncestorOf", "(Lcom/example/twyg/twyg/node/NodePosition;)Z"⟩ : MethodName)) (z := (⟨"com/example/twyg/twyg/node/NodePosition", "isAncestorOf", "(Lcom/example/twyg/twyg/node/NodePosition;)Z"⟩ : MethodName)) hown (mvT hZ (hw _ (List.mem_of_getElem? (i := 26) rfl))) (mvT hZ (hw _ (List.mem_of_getElem? (i := 27) rfl))) (notFace_of_selects (args := #[]) (mvT hZ (hw _ (List.mem_of_getElem? (i := 29) rfl)))) (mvT hZ (hw _ (List.mem_of_getElem? (i := 29) rfl))) (mvT hZ (hw _ (List.mem_of_getElem? (i := 28) rfl))) (by decide) (backOf (W := 0) (rm4 l Z a0 hw [] b141 b158 T169.heap n0 Z169 d1 d2 s1 u1 s2 u2 Fb141_document_175 Fb141_start_175 Fb141_end_175 FF169_document FF169_start FF169_end) hZ (hw _ (List.mem_of_getElem? (i := 30) rfl)) (hw _ (List.mem_of_getElem? (i := 6) rfl)) (by decide) (by decide)) q191a q191c (g := (mkF m 376 #[.val (.int p1), .val (.int p2), .val (.long p3), .second, .val (.long p4), .second, .val (.long p5), .second, .val (.long p6), .second, .val (.long (1152921504606846975 : Int64)), .second, .val (.long q0), .second, .val (.long q1), .second, .val (.long q2), .second, .val (.long q3), .second, .val (.ref b2), .val (.int cc), .val (.int sd), .val (.int d1), .val (.int d2), .val (.ref b14), .val (.ref b32), .val (.ref b59), .val (.ref b95), .val (.ref b141), .val (.ref b158), .val (.int (0 : Int32))] [(.ref b158), (.ref b141)])) rfl (by rw [hml]; rfl) (Steps.refl _) (argsL := [(.ref b158)]) (rest := []) (lenOf pd_0_1 rfl) rfl (by show 2 * 0 + _ ≤ _; exact Nat.le_of_eq rfl) (hb hby at_376) (fun _ _ => ⟨rfl, e169, (by decide : 7 + 0 ≤ _), (by decide : 44 + 0 ≤ _)⟩)
          dsimp only [Pt.U, Pt.locs, Pt.cells, Pt.slots] at X191 l191 y191 z191 st191 hQ191
          subst l191 y191 z191
          obtain ⟨rfl, N191q, e191⟩ := hQ191
          have N191 := Fr.app N169 N191q
          have h381_192 : (fA d1 s1 u1 d2 s2 u2) = (0 : Int32) := own_fe (own_ge (by have := own_npos h362_186; have := own_first hcase h348_182; omega))
          have pre193 : ∀ t, Steps p.tables e below (T191.setTop (mkF m 389 #[.val (.int p1), .val (.int p2), .val (.long p3), .second, .val (.long p4), .second, .val (.long p5), .second, .val (.long p6), .second, .val (.long (1152921504606846975 : Int64)), .second, .val (.long q0), .second, .val (.long q1), .second, .val (.long q2), .second, .val (.long q3), .second, .val (.ref b2), .val (.int cc), .val (.int sd), .val (.int d1), .val (.int d2), .val (.ref b14), .val (.ref b32), .val (.ref b59), .val (.ref b95), .val (.ref b141), .val (.ref b158), .val (.int (0 : Int32))] [(.int (1 : Int32))])) t → Steps p.tables e below (s₁.setTop (entryFrame m #[(.int p1), (.int p2), (.long p3), (.long p4), (.long p5), (.long p6)] maxLocals)) t := by
            intro t k
            refine pre187 t ?_
            refine XS.ifYes X169.here hx rfl (pc0 := 362) (pc' := 369) rfl (hb hby at_362) rfl ((if0 _ _).trans (flt h362_186).2.2.2) (by decide) (by decide) ?_
            show Steps p.tables e below (T169.setTop (mkF m 369 #[.val (.int p1), .val (.int p2), .val (.long p3), .second, .val (.long p4), .second, .val (.long p5), .second, .val (.long p6), .second, .val (.long (1152921504606846975 : Int64)), .second, .val (.long q0), .second, .val (.long q1), .second, .val (.long q2), .second, .val (.long q3), .second, .val (.ref b2), .val (.int cc), .val (.int sd), .val (.int d1), .val (.int d2), .val (.ref b14), .val (.ref b32), .val (.ref b59), .val (.ref b95), .val (.ref b141), .val (.ref b158), .unset] [])) _
            refine XS.iconst X169.here hx rfl (hb hby at_369) ?_
            show Steps p.tables e below (T169.setTop (mkF m 370 #[.val (.int p1), .val (.int p2), .val (.long p3), .second, .val (.long p4), .second, .val (.long p5), .second, .val (.long p6), .second, .val (.long (1152921504606846975 : Int64)), .second, .val (.long q0), .second, .val (.long q1), .second, .val (.long q2), .second, .val (.long q3), .second, .val (.ref b2), .val (.int cc), .val (.int sd), .val (.int d1), .val (.int d2), .val (.ref b14), .val (.ref b32), .val (.ref b59), .val (.ref b95), .val (.ref b141), .val (.ref b158), .unset] [(.int (0 : Int32))])) _
            refine XS.istore X169.here hx rfl (hb hby at_370) rfl (l' := #[.val (.int p1), .val (.int p2), .val (.long p3), .second, .val (.long p4), .second, .val (.long p5), .second, .val (.long p6), .second, .val (.long (1152921504606846975 : Int64)), .second, .val (.long q0), .second, .val (.long q1), .second, .val (.long q2), .second, .val (.long q3), .second, .val (.ref b2), .val (.int cc), .val (.int sd), .val (.int d1), .val (.int d2), .val (.ref b14), .val (.ref b32), .val (.ref b59), .val (.ref b95), .val (.ref b141), .val (.ref b158), .val (.int (0 : Int32))]) rfl ?_
            show Steps p.tables e below (T169.setTop (mkF m 372 #[.val (.int p1), .val (.int p2), .val (.long p3), .second, .val (.long p4), .second, .val (.long p5), .second, .val (.long p6), .second, .val (.long (1152921504606846975 : Int64)), .second, .val (.long q0), .second, .val (.long q1), .second, .val (.long q2), .second, .val (.long q3), .second, .val (.ref b2), .val (.int cc), .val (.int sd), .val (.int d1), .val (.int d2), .val (.ref b14), .val (.ref b32), .val (.ref b59), .val (.ref b95), .val (.ref b141), .val (.ref b158), .val (.int (0 : Int32))] [])) _
            refine XS.aload X169.here hx rfl (hb hby at_372) rfl rfl ?_
            show Steps p.tables e below (T169.setTop (mkF m 374 #[.val (.int p1), .val (.int p2), .val (.long p3), .second, .val (.long p4), .second, .val (.long p5), .second, .val (.long p6), .second, .val (.long (1152921504606846975 : Int64)), .second, .val (.long q0), .second, .val (.long q1), .second, .val (.long q2), .second, .val (.long q3), .second, .val (.ref b2), .val (.int cc), .val (.int sd), .val (.int d1), .val (.int d2), .val (.ref b14), .val (.ref b32), .val (.ref b59), .val (.ref b95), .val (.ref b141), .val (.ref b158), .val (.int (0 : Int32))] [(.ref b141)])) _
            refine XS.aload X169.here hx rfl (hb hby at_374) rfl rfl ?_
            show Steps p.tables e below (T169.setTop (mkF m 376 #[.val (.int p1), .val (.int p2), .val (.long p3), .second, .val (.long p4), .second, .val (.long p5), .second, .val (.long p6), .second, .val (.long (1152921504606846975 : Int64)), .second, .val (.long q0), .second, .val (.long q1), .second, .val (.long q2), .second, .val (.long q3), .second, .val (.ref b2), .val (.int cc), .val (.int sd), .val (.int d1), .val (.int d2), .val (.ref b14), .val (.ref b32), .val (.ref b59), .val (.ref b95), .val (.ref b141), .val (.ref b158), .val (.int (0 : Int32))] [(.ref b158), (.ref b141)])) _
            refine st191.trans ?_
            show Steps p.tables e below (T191.setTop (mkF m 379 #[.val (.int p1), .val (.int p2), .val (.long p3), .second, .val (.long p4), .second, .val (.long p5), .second, .val (.long p6), .second, .val (.long (1152921504606846975 : Int64)), .second, .val (.long q0), .second, .val (.long q1), .second, .val (.long q2), .second, .val (.long q3), .second, .val (.ref b2), .val (.int cc), .val (.int sd), .val (.int d1), .val (.int d2), .val (.ref b14), .val (.ref b32), .val (.ref b59), .val (.ref b95), .val (.ref b141), .val (.ref b158), .val (.int (0 : Int32))] [(.int (fA d1 s1 u1 d2 s2 u2))])) _
            refine XS.iload X191.here hx rfl (hb hby at_379) rfl ?_
            show Steps p.tables e below (T191.setTop (mkF m 381 #[.val (.int p1), .val (.int p2), .val (.long p3), .second, .val (.long p4), .second, .val (.long p5), .second, .val (.long p6), .second, .val (.long (1152921504606846975 : Int64)), .second, .val (.long q0), .second, .val (.long q1), .second, .val (.long q2), .second, .val (.long q3), .second, .val (.ref b2), .val (.int cc), .val (.int sd), .val (.int d1), .val (.int d2), .val (.ref b14), .val (.ref b32), .val (.ref b59), .val (.ref b95), .val (.ref b141), .val (.ref b158), .val (.int (0 : Int32))] [(.int (0 : Int32)), (.int (fA d1 s1 u1 d2 s2 u2))])) _
            refine XS.icmpNo X191.here hx rfl (hb hby at_381) rfl (teq h381_192).2 ?_
            show Steps p.tables e below (T191.setTop (mkF m 384 #[.val (.int p1), .val (.int p2), .val (.long p3), .second, .val (.long p4), .second, .val (.long p5), .second, .val (.long p6), .second, .val (.long (1152921504606846975 : Int64)), .second, .val (.long q0), .second, .val (.long q1), .second, .val (.long q2), .second, .val (.long q3), .second, .val (.ref b2), .val (.int cc), .val (.int sd), .val (.int d1), .val (.int d2), .val (.ref b14), .val (.ref b32), .val (.ref b59), .val (.ref b95), .val (.ref b141), .val (.ref b158), .val (.int (0 : Int32))] [])) _
            refine XS.iconst X191.here hx rfl (hb hby at_384) ?_
            show Steps p.tables e below (T191.setTop (mkF m 385 #[.val (.int p1), .val (.int p2), .val (.long p3), .second, .val (.long p4), .second, .val (.long p5), .second, .val (.long p6), .second, .val (.long (1152921504606846975 : Int64)), .second, .val (.long q0), .second, .val (.long q1), .second, .val (.long q2), .second, .val (.long q3), .second, .val (.ref b2), .val (.int cc), .val (.int sd), .val (.int d1), .val (.int d2), .val (.ref b14), .val (.ref b32), .val (.ref b59), .val (.ref b95), .val (.ref b141), .val (.ref b158), .val (.int (0 : Int32))] [(.int (1 : Int32))])) _
            refine XS.goto X191.here hx rfl (pc0 := 385) (pc' := 389) rfl (hb hby at_385) (by decide) (by decide) ?_
            show Steps p.tables e below (T191.setTop (mkF m 389 #[.val (.int p1), .val (.int p2), .val (.long p3), .second, .val (.long p4), .second, .val (.long p5), .second, .val (.long p6), .second, .val (.long (1152921504606846975 : Int64)), .second, .val (.long q0), .second, .val (.long q1), .second, .val (.long q2), .second, .val (.long q3), .second, .val (.ref b2), .val (.int cc), .val (.int sd), .val (.int d1), .val (.int d2), .val (.ref b14), .val (.ref b32), .val (.ref b59), .val (.ref b95), .val (.ref b141), .val (.ref b158), .val (.int (0 : Int32))] [(.int (1 : Int32))])) _
            exact k
          obtain ⟨fs, hr, hrun, hended, hW, hsame⟩ := X191.leave (v := some (.int (1 : Int32))) (fun h => by rw [Bd.returns] at h; cases h)
          refine ⟨_, _, pre193 _ ?_, hrun, hended, _, _, rfl, ?_, ⟨_, rfl⟩, hW, hsame.mono (by decide) (by decide)⟩
          · exact retN X191 hx (t := .boolean) Bd.returns (by simp) (hb hby at_389) hr
          · exact ⟨rfl, N191⟩
      · obtain ⟨cq194, kq194, q194a, q194b, q194c⟩ := isOf hZ e169 Eb141_175
        obtain ⟨_, _, ⟨T194, L194, k194, n194⟩, -, X194, ⟨Lc194, hQ194, l194, y194, z194⟩, st194⟩ := X169.virtualBack hx (y := (⟨"com/example/twyg/twyg/node/NodePosition", "isAncestorOf", "(Lcom/example/twyg/twyg/node/NodePosition;)Z"⟩ : MethodName)) (z := (⟨"com/example/twyg/twyg/node/NodePosition", "isAncestorOf", "(Lcom/example/twyg/twyg/node/NodePosition;)Z"⟩ : MethodName)) hown (mvT hZ (hw _ (List.mem_of_getElem? (i := 26) rfl))) (mvT hZ (hw _ (List.mem_of_getElem? (i := 27) rfl))) (notFace_of_selects (args := #[]) (mvT hZ (hw _ (List.mem_of_getElem? (i := 29) rfl)))) (mvT hZ (hw _ (List.mem_of_getElem? (i := 29) rfl))) (mvT hZ (hw _ (List.mem_of_getElem? (i := 28) rfl))) (by decide) (backOf (W := 0) (rm4 l Z a0 hw [] b141 b158 T169.heap n0 Z169 d1 d2 s1 u1 s2 u2 Fb141_document_175 Fb141_start_175 Fb141_end_175 FF169_document FF169_start FF169_end) hZ (hw _ (List.mem_of_getElem? (i := 30) rfl)) (hw _ (List.mem_of_getElem? (i := 6) rfl)) (by decide) (by decide)) q194a q194c (g := (mkF m 376 #[.val (.int p1), .val (.int p2), .val (.long p3), .second, .val (.long p4), .second, .val (.long p5), .second, .val (.long p6), .second, .val (.long (1152921504606846975 : Int64)), .second, .val (.long q0), .second, .val (.long q1), .second, .val (.long q2), .second, .val (.long q3), .second, .val (.ref b2), .val (.int cc), .val (.int sd), .val (.int d1), .val (.int d2), .val (.ref b14), .val (.ref b32), .val (.ref b59), .val (.ref b95), .val (.ref b141), .val (.ref b158), .val (.int (0 : Int32))] [(.ref b158), (.ref b141)])) rfl (by rw [hml]; rfl) (Steps.refl _) (argsL := [(.ref b158)]) (rest := []) (lenOf pd_0_1 rfl) rfl (by show 2 * 0 + _ ≤ _; exact Nat.le_of_eq rfl) (hb hby at_376) (fun _ _ => ⟨rfl, e169, (by decide : 7 + 0 ≤ _), (by decide : 44 + 0 ≤ _)⟩)
        dsimp only [Pt.U, Pt.locs, Pt.cells, Pt.slots] at X194 l194 y194 z194 st194 hQ194
        subst l194 y194 z194
        obtain ⟨rfl, N194q, e194⟩ := hQ194
        have N194 := Fr.app N169 N194q
        have h381_195 : (fA d1 s1 u1 d2 s2 u2) = (0 : Int32) := own_fs (own_ge (by have := own_npos h355_184; have := own_first hcase h348_182; omega))
        have pre196 : ∀ t, Steps p.tables e below (T194.setTop (mkF m 389 #[.val (.int p1), .val (.int p2), .val (.long p3), .second, .val (.long p4), .second, .val (.long p5), .second, .val (.long p6), .second, .val (.long (1152921504606846975 : Int64)), .second, .val (.long q0), .second, .val (.long q1), .second, .val (.long q2), .second, .val (.long q3), .second, .val (.ref b2), .val (.int cc), .val (.int sd), .val (.int d1), .val (.int d2), .val (.ref b14), .val (.ref b32), .val (.ref b59), .val (.ref b95), .val (.ref b141), .val (.ref b158), .val (.int (0 : Int32))] [(.int (1 : Int32))])) t → Steps p.tables e below (s₁.setTop (entryFrame m #[(.int p1), (.int p2), (.long p3), (.long p4), (.long p5), (.long p6)] maxLocals)) t := by
          intro t k
          refine pre185 t ?_
          refine XS.ifYes X169.here hx rfl (pc0 := 355) (pc' := 369) rfl (hb hby at_355) rfl ((if0 _ _).trans (flt h355_184).2.2.2) (by decide) (by decide) ?_
          show Steps p.tables e below (T169.setTop (mkF m 369 #[.val (.int p1), .val (.int p2), .val (.long p3), .second, .val (.long p4), .second, .val (.long p5), .second, .val (.long p6), .second, .val (.long (1152921504606846975 : Int64)), .second, .val (.long q0), .second, .val (.long q1), .second, .val (.long q2), .second, .val (.long q3), .second, .val (.ref b2), .val (.int cc), .val (.int sd), .val (.int d1), .val (.int d2), .val (.ref b14), .val (.ref b32), .val (.ref b59), .val (.ref b95), .val (.ref b141), .val (.ref b158), .unset] [])) _
          refine XS.iconst X169.here hx rfl (hb hby at_369) ?_
          show Steps p.tables e below (T169.setTop (mkF m 370 #[.val (.int p1), .val (.int p2), .val (.long p3), .second, .val (.long p4), .second, .val (.long p5), .second, .val (.long p6), .second, .val (.long (1152921504606846975 : Int64)), .second, .val (.long q0), .second, .val (.long q1), .second, .val (.long q2), .second, .val (.long q3), .second, .val (.ref b2), .val (.int cc), .val (.int sd), .val (.int d1), .val (.int d2), .val (.ref b14), .val (.ref b32), .val (.ref b59), .val (.ref b95), .val (.ref b141), .val (.ref b158), .unset] [(.int (0 : Int32))])) _
          refine XS.istore X169.here hx rfl (hb hby at_370) rfl (l' := #[.val (.int p1), .val (.int p2), .val (.long p3), .second, .val (.long p4), .second, .val (.long p5), .second, .val (.long p6), .second, .val (.long (1152921504606846975 : Int64)), .second, .val (.long q0), .second, .val (.long q1), .second, .val (.long q2), .second, .val (.long q3), .second, .val (.ref b2), .val (.int cc), .val (.int sd), .val (.int d1), .val (.int d2), .val (.ref b14), .val (.ref b32), .val (.ref b59), .val (.ref b95), .val (.ref b141), .val (.ref b158), .val (.int (0 : Int32))]) rfl ?_
          show Steps p.tables e below (T169.setTop (mkF m 372 #[.val (.int p1), .val (.int p2), .val (.long p3), .second, .val (.long p4), .second, .val (.long p5), .second, .val (.long p6), .second, .val (.long (1152921504606846975 : Int64)), .second, .val (.long q0), .second, .val (.long q1), .second, .val (.long q2), .second, .val (.long q3), .second, .val (.ref b2), .val (.int cc), .val (.int sd), .val (.int d1), .val (.int d2), .val (.ref b14), .val (.ref b32), .val (.ref b59), .val (.ref b95), .val (.ref b141), .val (.ref b158), .val (.int (0 : Int32))] [])) _
          refine XS.aload X169.here hx rfl (hb hby at_372) rfl rfl ?_
          show Steps p.tables e below (T169.setTop (mkF m 374 #[.val (.int p1), .val (.int p2), .val (.long p3), .second, .val (.long p4), .second, .val (.long p5), .second, .val (.long p6), .second, .val (.long (1152921504606846975 : Int64)), .second, .val (.long q0), .second, .val (.long q1), .second, .val (.long q2), .second, .val (.long q3), .second, .val (.ref b2), .val (.int cc), .val (.int sd), .val (.int d1), .val (.int d2), .val (.ref b14), .val (.ref b32), .val (.ref b59), .val (.ref b95), .val (.ref b141), .val (.ref b158), .val (.int (0 : Int32))] [(.ref b141)])) _
          refine XS.aload X169.here hx rfl (hb hby at_374) rfl rfl ?_
          show Steps p.tables e below (T169.setTop (mkF m 376 #[.val (.int p1), .val (.int p2), .val (.long p3), .second, .val (.long p4), .second, .val (.long p5), .second, .val (.long p6), .second, .val (.long (1152921504606846975 : Int64)), .second, .val (.long q0), .second, .val (.long q1), .second, .val (.long q2), .second, .val (.long q3), .second, .val (.ref b2), .val (.int cc), .val (.int sd), .val (.int d1), .val (.int d2), .val (.ref b14), .val (.ref b32), .val (.ref b59), .val (.ref b95), .val (.ref b141), .val (.ref b158), .val (.int (0 : Int32))] [(.ref b158), (.ref b141)])) _
          refine st194.trans ?_
          show Steps p.tables e below (T194.setTop (mkF m 379 #[.val (.int p1), .val (.int p2), .val (.long p3), .second, .val (.long p4), .second, .val (.long p5), .second, .val (.long p6), .second, .val (.long (1152921504606846975 : Int64)), .second, .val (.long q0), .second, .val (.long q1), .second, .val (.long q2), .second, .val (.long q3), .second, .val (.ref b2), .val (.int cc), .val (.int sd), .val (.int d1), .val (.int d2), .val (.ref b14), .val (.ref b32), .val (.ref b59), .val (.ref b95), .val (.ref b141), .val (.ref b158), .val (.int (0 : Int32))] [(.int (fA d1 s1 u1 d2 s2 u2))])) _
          refine XS.iload X194.here hx rfl (hb hby at_379) rfl ?_
          show Steps p.tables e below (T194.setTop (mkF m 381 #[.val (.int p1), .val (.int p2), .val (.long p3), .second, .val (.long p4), .second, .val (.long p5), .second, .val (.long p6), .second, .val (.long (1152921504606846975 : Int64)), .second, .val (.long q0), .second, .val (.long q1), .second, .val (.long q2), .second, .val (.long q3), .second, .val (.ref b2), .val (.int cc), .val (.int sd), .val (.int d1), .val (.int d2), .val (.ref b14), .val (.ref b32), .val (.ref b59), .val (.ref b95), .val (.ref b141), .val (.ref b158), .val (.int (0 : Int32))] [(.int (0 : Int32)), (.int (fA d1 s1 u1 d2 s2 u2))])) _
          refine XS.icmpNo X194.here hx rfl (hb hby at_381) rfl (teq h381_195).2 ?_
          show Steps p.tables e below (T194.setTop (mkF m 384 #[.val (.int p1), .val (.int p2), .val (.long p3), .second, .val (.long p4), .second, .val (.long p5), .second, .val (.long p6), .second, .val (.long (1152921504606846975 : Int64)), .second, .val (.long q0), .second, .val (.long q1), .second, .val (.long q2), .second, .val (.long q3), .second, .val (.ref b2), .val (.int cc), .val (.int sd), .val (.int d1), .val (.int d2), .val (.ref b14), .val (.ref b32), .val (.ref b59), .val (.ref b95), .val (.ref b141), .val (.ref b158), .val (.int (0 : Int32))] [])) _
          refine XS.iconst X194.here hx rfl (hb hby at_384) ?_
          show Steps p.tables e below (T194.setTop (mkF m 385 #[.val (.int p1), .val (.int p2), .val (.long p3), .second, .val (.long p4), .second, .val (.long p5), .second, .val (.long p6), .second, .val (.long (1152921504606846975 : Int64)), .second, .val (.long q0), .second, .val (.long q1), .second, .val (.long q2), .second, .val (.long q3), .second, .val (.ref b2), .val (.int cc), .val (.int sd), .val (.int d1), .val (.int d2), .val (.ref b14), .val (.ref b32), .val (.ref b59), .val (.ref b95), .val (.ref b141), .val (.ref b158), .val (.int (0 : Int32))] [(.int (1 : Int32))])) _
          refine XS.goto X194.here hx rfl (pc0 := 385) (pc' := 389) rfl (hb hby at_385) (by decide) (by decide) ?_
          show Steps p.tables e below (T194.setTop (mkF m 389 #[.val (.int p1), .val (.int p2), .val (.long p3), .second, .val (.long p4), .second, .val (.long p5), .second, .val (.long p6), .second, .val (.long (1152921504606846975 : Int64)), .second, .val (.long q0), .second, .val (.long q1), .second, .val (.long q2), .second, .val (.long q3), .second, .val (.ref b2), .val (.int cc), .val (.int sd), .val (.int d1), .val (.int d2), .val (.ref b14), .val (.ref b32), .val (.ref b59), .val (.ref b95), .val (.ref b141), .val (.ref b158), .val (.int (0 : Int32))] [(.int (1 : Int32))])) _
          exact k
        obtain ⟨fs, hr, hrun, hended, hW, hsame⟩ := X194.leave (v := some (.int (1 : Int32))) (fun h => by rw [Bd.returns] at h; cases h)
        refine ⟨_, _, pre196 _ ?_, hrun, hended, _, _, rfl, ?_, ⟨_, rfl⟩, hW, hsame.mono (by decide) (by decide)⟩
        · exact retN X194 hx (t := .boolean) Bd.returns (by simp) (hb hby at_389) hr
        · exact ⟨rfl, N194⟩
    · obtain ⟨cq197, kq197, q197a, q197b, q197c⟩ := isOf hZ e169 Eb141_175
      obtain ⟨_, _, ⟨T197, L197, k197, n197⟩, -, X197, ⟨Lc197, hQ197, l197, y197, z197⟩, st197⟩ := X169.virtualBack hx (y := (⟨"com/example/twyg/twyg/node/NodePosition", "isAncestorOf", "(Lcom/example/twyg/twyg/node/NodePosition;)Z"⟩ : MethodName)) (z := (⟨"com/example/twyg/twyg/node/NodePosition", "isAncestorOf", "(Lcom/example/twyg/twyg/node/NodePosition;)Z"⟩ : MethodName)) hown (mvT hZ (hw _ (List.mem_of_getElem? (i := 26) rfl))) (mvT hZ (hw _ (List.mem_of_getElem? (i := 27) rfl))) (notFace_of_selects (args := #[]) (mvT hZ (hw _ (List.mem_of_getElem? (i := 29) rfl)))) (mvT hZ (hw _ (List.mem_of_getElem? (i := 29) rfl))) (mvT hZ (hw _ (List.mem_of_getElem? (i := 28) rfl))) (by decide) (backOf (W := 0) (rm4 l Z a0 hw [] b141 b158 T169.heap n0 Z169 d1 d2 s1 u1 s2 u2 Fb141_document_175 Fb141_start_175 Fb141_end_175 FF169_document FF169_start FF169_end) hZ (hw _ (List.mem_of_getElem? (i := 30) rfl)) (hw _ (List.mem_of_getElem? (i := 6) rfl)) (by decide) (by decide)) q197a q197c (g := (mkF m 376 #[.val (.int p1), .val (.int p2), .val (.long p3), .second, .val (.long p4), .second, .val (.long p5), .second, .val (.long p6), .second, .val (.long (1152921504606846975 : Int64)), .second, .val (.long q0), .second, .val (.long q1), .second, .val (.long q2), .second, .val (.long q3), .second, .val (.ref b2), .val (.int cc), .val (.int sd), .val (.int d1), .val (.int d2), .val (.ref b14), .val (.ref b32), .val (.ref b59), .val (.ref b95), .val (.ref b141), .val (.ref b158), .val (.int (0 : Int32))] [(.ref b158), (.ref b141)])) rfl (by rw [hml]; rfl) (Steps.refl _) (argsL := [(.ref b158)]) (rest := []) (lenOf pd_0_1 rfl) rfl (by show 2 * 0 + _ ≤ _; exact Nat.le_of_eq rfl) (hb hby at_376) (fun _ _ => ⟨rfl, e169, (by decide : 7 + 0 ≤ _), (by decide : 44 + 0 ≤ _)⟩)
      dsimp only [Pt.U, Pt.locs, Pt.cells, Pt.slots] at X197 l197 y197 z197 st197 hQ197
      subst l197 y197 z197
      obtain ⟨rfl, N197q, e197⟩ := hQ197
      have N197 := Fr.app N169 N197q
      have h381_198 : (fA d1 s1 u1 d2 s2 u2) = (0 : Int32) := own_fse (own_other hcase h348_182)
      have pre199 : ∀ t, Steps p.tables e below (T197.setTop (mkF m 389 #[.val (.int p1), .val (.int p2), .val (.long p3), .second, .val (.long p4), .second, .val (.long p5), .second, .val (.long p6), .second, .val (.long (1152921504606846975 : Int64)), .second, .val (.long q0), .second, .val (.long q1), .second, .val (.long q2), .second, .val (.long q3), .second, .val (.ref b2), .val (.int cc), .val (.int sd), .val (.int d1), .val (.int d2), .val (.ref b14), .val (.ref b32), .val (.ref b59), .val (.ref b95), .val (.ref b141), .val (.ref b158), .val (.int (0 : Int32))] [(.int (1 : Int32))])) t → Steps p.tables e below (s₁.setTop (entryFrame m #[(.int p1), (.int p2), (.long p3), (.long p4), (.long p5), (.long p6)] maxLocals)) t := by
        intro t k
        refine pre183 t ?_
        refine XS.ifYes X169.here hx rfl (pc0 := 348) (pc' := 369) rfl (hb hby at_348) rfl ((if0 _ _).trans (feq h348_182).2) (by decide) (by decide) ?_
        show Steps p.tables e below (T169.setTop (mkF m 369 #[.val (.int p1), .val (.int p2), .val (.long p3), .second, .val (.long p4), .second, .val (.long p5), .second, .val (.long p6), .second, .val (.long (1152921504606846975 : Int64)), .second, .val (.long q0), .second, .val (.long q1), .second, .val (.long q2), .second, .val (.long q3), .second, .val (.ref b2), .val (.int cc), .val (.int sd), .val (.int d1), .val (.int d2), .val (.ref b14), .val (.ref b32), .val (.ref b59), .val (.ref b95), .val (.ref b141), .val (.ref b158), .unset] [])) _
        refine XS.iconst X169.here hx rfl (hb hby at_369) ?_
        show Steps p.tables e below (T169.setTop (mkF m 370 #[.val (.int p1), .val (.int p2), .val (.long p3), .second, .val (.long p4), .second, .val (.long p5), .second, .val (.long p6), .second, .val (.long (1152921504606846975 : Int64)), .second, .val (.long q0), .second, .val (.long q1), .second, .val (.long q2), .second, .val (.long q3), .second, .val (.ref b2), .val (.int cc), .val (.int sd), .val (.int d1), .val (.int d2), .val (.ref b14), .val (.ref b32), .val (.ref b59), .val (.ref b95), .val (.ref b141), .val (.ref b158), .unset] [(.int (0 : Int32))])) _
        refine XS.istore X169.here hx rfl (hb hby at_370) rfl (l' := #[.val (.int p1), .val (.int p2), .val (.long p3), .second, .val (.long p4), .second, .val (.long p5), .second, .val (.long p6), .second, .val (.long (1152921504606846975 : Int64)), .second, .val (.long q0), .second, .val (.long q1), .second, .val (.long q2), .second, .val (.long q3), .second, .val (.ref b2), .val (.int cc), .val (.int sd), .val (.int d1), .val (.int d2), .val (.ref b14), .val (.ref b32), .val (.ref b59), .val (.ref b95), .val (.ref b141), .val (.ref b158), .val (.int (0 : Int32))]) rfl ?_
        show Steps p.tables e below (T169.setTop (mkF m 372 #[.val (.int p1), .val (.int p2), .val (.long p3), .second, .val (.long p4), .second, .val (.long p5), .second, .val (.long p6), .second, .val (.long (1152921504606846975 : Int64)), .second, .val (.long q0), .second, .val (.long q1), .second, .val (.long q2), .second, .val (.long q3), .second, .val (.ref b2), .val (.int cc), .val (.int sd), .val (.int d1), .val (.int d2), .val (.ref b14), .val (.ref b32), .val (.ref b59), .val (.ref b95), .val (.ref b141), .val (.ref b158), .val (.int (0 : Int32))] [])) _
        refine XS.aload X169.here hx rfl (hb hby at_372) rfl rfl ?_
        show Steps p.tables e below (T169.setTop (mkF m 374 #[.val (.int p1), .val (.int p2), .val (.long p3), .second, .val (.long p4), .second, .val (.long p5), .second, .val (.long p6), .second, .val (.long (1152921504606846975 : Int64)), .second, .val (.long q0), .second, .val (.long q1), .second, .val (.long q2), .second, .val (.long q3), .second, .val (.ref b2), .val (.int cc), .val (.int sd), .val (.int d1), .val (.int d2), .val (.ref b14), .val (.ref b32), .val (.ref b59), .val (.ref b95), .val (.ref b141), .val (.ref b158), .val (.int (0 : Int32))] [(.ref b141)])) _
        refine XS.aload X169.here hx rfl (hb hby at_374) rfl rfl ?_
        show Steps p.tables e below (T169.setTop (mkF m 376 #[.val (.int p1), .val (.int p2), .val (.long p3), .second, .val (.long p4), .second, .val (.long p5), .second, .val (.long p6), .second, .val (.long (1152921504606846975 : Int64)), .second, .val (.long q0), .second, .val (.long q1), .second, .val (.long q2), .second, .val (.long q3), .second, .val (.ref b2), .val (.int cc), .val (.int sd), .val (.int d1), .val (.int d2), .val (.ref b14), .val (.ref b32), .val (.ref b59), .val (.ref b95), .val (.ref b141), .val (.ref b158), .val (.int (0 : Int32))] [(.ref b158), (.ref b141)])) _
        refine st197.trans ?_
        show Steps p.tables e below (T197.setTop (mkF m 379 #[.val (.int p1), .val (.int p2), .val (.long p3), .second, .val (.long p4), .second, .val (.long p5), .second, .val (.long p6), .second, .val (.long (1152921504606846975 : Int64)), .second, .val (.long q0), .second, .val (.long q1), .second, .val (.long q2), .second, .val (.long q3), .second, .val (.ref b2), .val (.int cc), .val (.int sd), .val (.int d1), .val (.int d2), .val (.ref b14), .val (.ref b32), .val (.ref b59), .val (.ref b95), .val (.ref b141), .val (.ref b158), .val (.int (0 : Int32))] [(.int (fA d1 s1 u1 d2 s2 u2))])) _
        refine XS.iload X197.here hx rfl (hb hby at_379) rfl ?_
        show Steps p.tables e below (T197.setTop (mkF m 381 #[.val (.int p1), .val (.int p2), .val (.long p3), .second, .val (.long p4), .second, .val (.long p5), .second, .val (.long p6), .second, .val (.long (1152921504606846975 : Int64)), .second, .val (.long q0), .second, .val (.long q1), .second, .val (.long q2), .second, .val (.long q3), .second, .val (.ref b2), .val (.int cc), .val (.int sd), .val (.int d1), .val (.int d2), .val (.ref b14), .val (.ref b32), .val (.ref b59), .val (.ref b95), .val (.ref b141), .val (.ref b158), .val (.int (0 : Int32))] [(.int (0 : Int32)), (.int (fA d1 s1 u1 d2 s2 u2))])) _
        refine XS.icmpNo X197.here hx rfl (hb hby at_381) rfl (teq h381_198).2 ?_
        show Steps p.tables e below (T197.setTop (mkF m 384 #[.val (.int p1), .val (.int p2), .val (.long p3), .second, .val (.long p4), .second, .val (.long p5), .second, .val (.long p6), .second, .val (.long (1152921504606846975 : Int64)), .second, .val (.long q0), .second, .val (.long q1), .second, .val (.long q2), .second, .val (.long q3), .second, .val (.ref b2), .val (.int cc), .val (.int sd), .val (.int d1), .val (.int d2), .val (.ref b14), .val (.ref b32), .val (.ref b59), .val (.ref b95), .val (.ref b141), .val (.ref b158), .val (.int (0 : Int32))] [])) _
        refine XS.iconst X197.here hx rfl (hb hby at_384) ?_
        show Steps p.tables e below (T197.setTop (mkF m 385 #[.val (.int p1), .val (.int p2), .val (.long p3), .second, .val (.long p4), .second, .val (.long p5), .second, .val (.long p6), .second, .val (.long (1152921504606846975 : Int64)), .second, .val (.long q0), .second, .val (.long q1), .second, .val (.long q2), .second, .val (.long q3), .second, .val (.ref b2), .val (.int cc), .val (.int sd), .val (.int d1), .val (.int d2), .val (.ref b14), .val (.ref b32), .val (.ref b59), .val (.ref b95), .val (.ref b141), .val (.ref b158), .val (.int (0 : Int32))] [(.int (1 : Int32))])) _
        refine XS.goto X197.here hx rfl (pc0 := 385) (pc' := 389) rfl (hb hby at_385) (by decide) (by decide) ?_
        show Steps p.tables e below (T197.setTop (mkF m 389 #[.val (.int p1), .val (.int p2), .val (.long p3), .second, .val (.long p4), .second, .val (.long p5), .second, .val (.long p6), .second, .val (.long (1152921504606846975 : Int64)), .second, .val (.long q0), .second, .val (.long q1), .second, .val (.long q2), .second, .val (.long q3), .second, .val (.ref b2), .val (.int cc), .val (.int sd), .val (.int d1), .val (.int d2), .val (.ref b14), .val (.ref b32), .val (.ref b59), .val (.ref b95), .val (.ref b141), .val (.ref b158), .val (.int (0 : Int32))] [(.int (1 : Int32))])) _
        exact k
      obtain ⟨fs, hr, hrun, hended, hW, hsame⟩ := X197.leave (v := some (.int (1 : Int32))) (fun h => by rw [Bd.returns] at h; cases h)
      refine ⟨_, _, pre199 _ ?_, hrun, hended, _, _, rfl, ?_, ⟨_, rfl⟩, hW, hsame.mono (by decide) (by decide)⟩
      · exact retN X197 hx (t := .boolean) Bd.returns (by simp) (hb hby at_389) hr
      · exact ⟨rfl, N197⟩
set_option maxRecDepth 65536 in
set_option maxHeartbeats 40000000 in
theorem comes_1 {Post : Tables → Env → Array Value → State → Outcome → State → Prop} (hpost : ∀ tb e args s v u, (limb_1_1.after args s (.returned v) u = true ∧ limb_1_2.after args s (.returned v) u = true ∧ True) → FrameEnd s (.returned v) u (Jvm.fieldLocs frame_1_writes args s ++ Jvm.arrayLocs frame_1_arrays args s ++ Jvm.staticLocs frame_1_statics s) 24 192 → Post tb e args s (.returned v) u) :
    ArmFor flags0 classFile x code maxLocals ret World_1 tables_1 room_1 Calls_1 rest_1 Pre_1 Post := by
  intro l hfl _ _ p e ha hc hk s m args below hf hA hF happ hP
  obtain ⟨hcalls, hrest, hpre⟩ := hP
  obtain ⟨-, -, -, hnamed, -, -, -, hat⟩ := (Spec.applies_iff hf).mp happ
  obtain ⟨hg, hn⟩ := and_e (Cond.before_iff.mp (show (Jvm.Cond.and given_1 narrow_1).before args s = true from hpre))
  obtain ⟨hc0, hr1⟩ := and_e hg
  obtain ⟨ha0, hr2⟩ := and_e hr1
  obtain ⟨ha1, hr3⟩ := and_e hr2
  obtain ⟨ha2, hr4⟩ := and_e hr3
  obtain ⟨ha3, hr5⟩ := and_e hr4
  obtain ⟨ha4, hr6⟩ := and_e hr5
  obtain ⟨w0, w1, w2, w3, w4, w5, rfl⟩ : ∃ w0 w1 w2 w3 w4 w5 : Value, args = #[w0, w1, w2, w3, w4, w5] := by
    have hs : args.size = 6 := by simpa [Cond.value, given_1] using hc0
    obtain ⟨L⟩ := args
    match L, hs with
    | [w0, w1, w2, w3, w4, w5], _ => exact ⟨w0, w1, w2, w3, w4, w5, rfl⟩
  have hw := fun d (hd : d ∈ tables_1) => atoms_spec (ws := Jvm.Cond.code x code maxLocals ret :: tables_1) hat d (List.mem_cons_of_mem _ hd)
  have hfit : Fit s := fun {y c} hc i hi => by
    obtain ⟨ha, rfl⟩ := Array.getElem?_eq_some_iff.mp hc
    have q := List.all_eq_true.mp ((Array.all_eq_true_iff_forall_mem.mp hF) _ (Array.getElem_mem ha)) i (List.mem_range.mpr hi)
    simpa [Array.getElem?_eq_getElem hi] using q
  obtain ⟨i0, ei0⟩ := is_v ha0
  obtain rfl : w0 = (.int i0) := Option.some.inj ei0
  obtain ⟨i1, ei1⟩ := is_v ha1
  obtain rfl : w1 = (.int i1) := Option.some.inj ei1
  obtain ⟨i2, ei2⟩ := isL_v ha2
  obtain rfl : w2 = (.long i2) := Option.some.inj ei2
  obtain ⟨i3, ei3⟩ := isL_v ha3
  obtain rfl : w3 = (.long i3) := Option.some.inj ei3
  obtain ⟨i4, ei4⟩ := isL_v ha4
  obtain rfl : w4 = (.long i4) := Option.some.inj ei4
  obtain ⟨i5, ei5⟩ := isL_v hr6
  obtain rfl : w5 = (.long i5) := Option.some.inj ei5
  obtain ⟨n, o, h1, h2, h3, _, L, rfl, ⟨rfl, N⟩, hq⟩ := rm0 l s _ hw tables_1 i0 i1 i2 i3 i4 i5 s.heap s.heap.size (Nat.le_refl _) p e ha hc hk s m _ below hf ((Spec.applies_iff_loose hf).mp happ).1 ⟨rfl, State.Warmed39.refl s, rfl⟩ trivial
  refine ⟨n, _, h1, h2, h3, hpost _ _ _ _ _ _ ⟨Cond.after_iff.mpr rfl, Cond.after_iff.mpr (eq_i res_at (Term.int_eval (1)) rfl), trivial⟩ ⟨hq.1, hq.2.1, (hq.2.2.sift fun y hy => Or.inr (N y hy)).mono (by decide) (by decide)⟩⟩
theorem main_1_1 : Claimed_1_1 := comes_1 fun _ _ _ _ _ _ h hF => ⟨h.1, hF⟩
theorem main_1_2 : Claimed_1_2 := comes_1 fun _ _ _ _ _ _ h hF => ⟨h.2.1, hF⟩
end Jvm.Pilot.@@N@@
namespace Jvm.Pilot.@@N@@
open Jvm Jvm.ClassFile Sem Op Lib Jvm.Free Jvm.Stand Jvm.Pilot.@@N@@.Jvm.D
/-! MADE BY PROGRAM (witnessworld.py) out of the Statement's table words and the real class files: 13 classes; the members and pool entries that the words name. The judged class is class 1, her method 1. -/
namespace start1
open Jvm.ClassFile
def u (s : String) : CpInfo := .utf8 (stringToUtf16 s)
/-- a pool by its gaps: so many unusable entries, then the entry; so many at the end -/
def gap : Nat → List CpInfo → List CpInfo
  | 0, r => r
  | n + 1, r => .unusable :: gap n r
def poolList (es : List (Nat × CpInfo)) (last : Nat) : List CpInfo := es.foldr (fun e r => gap e.1 (e.2 :: r)) (gap last [])
def pool (es : List (Nat × CpInfo)) (last : Nat) : Array CpInfo := ⟨poolList es last⟩
def fileOf (pool : Array CpInfo) (this : Nat) (attrs : Array Attribute := #[]) (ms : Array MethodInfo := #[]) (fl : Nat := 33) (sup : Nat := 0) (ifs : Array Nat := #[]) (fds : Array FieldInfo := #[]) : ClassFile where
  minorVersion := 0
  majorVersion := 65
  constantPool := pool
  accessFlags := fl
  thisClass := this
  superClass := sup
  interfaces := ifs
  fields := fds
  methods := ms
  attributes := attrs
def plain (name : String) (sup : Option ClassId) : Class where
  name := name
  kind := .ordinary
  loader := none
  accessFlags := 33
  super := sup
  interfaces := #[]
  cf := none
  fields := #[]
  methods := #[]
  instanceTypes := #[]
  staticTypes := #[]
  resolved := #[]
  callSites := []
  init := .initialized
  statics := none
  mirror := none

def pool0 : Array CpInfo := pool [(5, u "<init>"), (0, u "()V"), (1, .class_ 10), (1, u "java/lang/Object")] 113

def k0c0 : Code := { maxStack := 0, maxLocals := 1, code := object_method_1_code, exceptionTable := #[], attributes := #[] }
def k0m0 : Method := { name := "<init>", desc := "()V", sig := { parameters := [], returnType := none }, accessFlags := 1, code := some k0c0 }
/-- java/lang/Object -/
def k0 : Class := { plain "java/lang/Object" none with
  accessFlags := 33
  interfaces := #[]
  cf := some (fileOf pool0 8 #[] #[{ accessFlags := 1, nameIndex := 5, descriptorIndex := 6, attributes := #[] }] 33 0 #[] #[])
  fields := #[]
  methods := #[k0m0]
  instanceTypes := #[]
  staticTypes := #[]
  resolved := Array.replicate 124 none
  statics := none }

def pool1 : Array CpInfo := pool [(2, .class_ 4), (1, u "java/lang/Object"), (0, u "<init>"), (0, u "()V"), (0, .long 1152921504606846975), (1, .integer 2147483647), (0, .class_ 11), (0, u "com/example/twyg/twyg/node/NodePosition"), (0, .methodref 10 13), (0, .nameAndType 5 14), (0, u "(IJJI)V"), (0, .methodref 10 16), (0, .nameAndType 17 18), (0, u "isAncestorOf"), (0, u "(Lcom/example/twyg/twyg/node/NodePosition;)Z"), (0, .class_ 20), (0, u "com/example/twyg/twyg/node/NodePositionIsAncestorOfPinLaw"), (2, u "law"), (0, u "(IIJJJJ)Z")] 7

def k1m0 : Method := { name := "<init>", desc := "()V", sig := { parameters := [], returnType := none }, accessFlags := 1, code := none }
def k1c1 : Code := { maxStack := 9, maxLocals := 32, code := code, exceptionTable := #[], attributes := #[] }
def k1m1 : Method := { name := "law", desc := "(IIJJJJ)Z", sig := { parameters := [.int, .int, .long, .long, .long, .long], returnType := some .boolean }, accessFlags := 9, code := some k1c1 }
/-- com/example/twyg/twyg/node/NodePositionIsAncestorOfPinLaw -/
def k1 : Class := { plain "com/example/twyg/twyg/node/NodePositionIsAncestorOfPinLaw" (some 0) with
  accessFlags := 49
  interfaces := #[]
  cf := some (fileOf pool1 19 #[] #[{ accessFlags := 1, nameIndex := 5, descriptorIndex := 6, attributes := #[] }, { accessFlags := 9, nameIndex := 23, descriptorIndex := 24, attributes := #[] }] 49 2 #[] #[])
  fields := #[]
  methods := #[k1m0, k1m1]
  instanceTypes := #[]
  staticTypes := #[]
  resolved := Array.replicate 32 none
  statics := none }

def pool2 : Array CpInfo := pool [(1, .methodref 2 3), (0, .class_ 4), (0, .nameAndType 5 6), (0, u "java/lang/Object"), (0, u "<init>"), (0, u "()V"), (0, .class_ 8), (0, u "java/lang/Record")] 13

def k2c0 : Code := { maxStack := 1, maxLocals := 1, code := jdk_30_method_1_code, exceptionTable := #[], attributes := #[] }
def k2m0 : Method := { name := "<init>", desc := "()V", sig := { parameters := [], returnType := none }, accessFlags := 4, code := some k2c0 }
/-- java/lang/Record -/
def k2 : Class := { plain "java/lang/Record" (some 0) with
  accessFlags := 1057
  interfaces := #[]
  cf := some (fileOf pool2 7 #[] #[{ accessFlags := 4, nameIndex := 5, descriptorIndex := 6, attributes := #[] }] 1057 2 #[] #[])
  fields := #[]
  methods := #[k2m0]
  instanceTypes := #[]
  staticTypes := #[]
  resolved := Array.replicate 22 none
  statics := none }

def pool3 : Array CpInfo := pool [(1, .class_ 2), (0, u "java/lang/Comparable"), (0, .class_ 4), (0, u "java/lang/Object")] 7

/-- java/lang/Comparable -/
def k3 : Class := { plain "java/lang/Comparable" (some 0) with
  accessFlags := 1537
  interfaces := #[]
  cf := some (fileOf pool3 1 #[] #[] 1537 3 #[] #[])
  fields := #[]
  methods := #[]
  instanceTypes := #[]
  staticTypes := #[]
  resolved := Array.replicate 12 none
  statics := none }

def pool4 : Array CpInfo := pool [(1, .methodref 2 3), (0, .class_ 4), (0, .nameAndType 5 6), (0, u "java/lang/Record"), (0, u "<init>"), (0, u "()V"), (26, .fieldref 34 35), (0, .class_ 36), (0, .nameAndType 37 38), (0, u "com/example/twyg/twyg/node/NodePosition"), (0, u "document"), (0, u "I"), (0, .fieldref 34 40), (0, .nameAndType 41 42), (0, u "start"), (0, u "J"), (0, .fieldref 34 44), (0, .nameAndType 45 42), (0, u "end"), (0, .fieldref 34 47), (0, .nameAndType 48 38), (0, u "depth"), (2, u "isAncestorOf"), (0, u "(Lcom/example/twyg/twyg/node/NodePosition;)Z"), (22, .class_ 76), (0, u "java/lang/Comparable"), (0, u "(IJJI)V")] 35

def k4c0 : Code := { maxStack := 8, maxLocals := 7, code := prog_154_method_1_code, exceptionTable := #[], attributes := #[] }
def k4m0 : Method := { name := "<init>", desc := "(IJJI)V", sig := { parameters := [.int, .long, .long, .int], returnType := none }, accessFlags := 1, code := some k4c0 }
def k4c1 : Code := { maxStack := 4, maxLocals := 2, code := prog_154_method_2_code, exceptionTable := #[], attributes := #[] }
def k4m1 : Method := { name := "isAncestorOf", desc := "(Lcom/example/twyg/twyg/node/NodePosition;)Z", sig := { parameters := [(.object "com/example/twyg/twyg/node/NodePosition")], returnType := some .boolean }, accessFlags := 1, code := some k4c1 }
/-- com/example/twyg/twyg/node/NodePosition -/
def k4 : Class := { plain "com/example/twyg/twyg/node/NodePosition" (some 2) with
  accessFlags := 49
  interfaces := #[3]
  cf := some (fileOf pool4 34 #[] #[{ accessFlags := 1, nameIndex := 5, descriptorIndex := 77, attributes := #[] }, { accessFlags := 1, nameIndex := 51, descriptorIndex := 52, attributes := #[] }] 49 2 #[75] #[{ accessFlags := 18, nameIndex := 37, descriptorIndex := 38, attributes := #[] }, { accessFlags := 18, nameIndex := 41, descriptorIndex := 42, attributes := #[] }, { accessFlags := 18, nameIndex := 45, descriptorIndex := 42, attributes := #[] }, { accessFlags := 18, nameIndex := 48, descriptorIndex := 38, attributes := #[] }])
  fields := #[{ name := "document", type := .int, accessFlags := 18, slot := 0, constantValue := 0 }, { name := "start", type := .long, accessFlags := 18, slot := 1, constantValue := 0 }, { name := "end", type := .long, accessFlags := 18, slot := 2, constantValue := 0 }, { name := "depth", type := .int, accessFlags := 18, slot := 3, constantValue := 0 }]
  methods := #[k4m0, k4m1]
  instanceTypes := #[.int, .long, .long, .int]
  staticTypes := #[]
  resolved := Array.replicate 113 none
  statics := none }

def pool5 : Array CpInfo := pool [(1, u "java/lang/Cloneable"), (0, .class_ 1), (0, u "java/lang/Object"), (0, .class_ 3)] 3

/-- java/lang/Cloneable -/
def k5 : Class := { plain "java/lang/Cloneable" (some 0) with
  accessFlags := 1537
  interfaces := #[]
  cf := some (fileOf pool5 2 #[] #[] 1537 4 #[] #[])
  fields := #[]
  methods := #[]
  instanceTypes := #[]
  staticTypes := #[]
  resolved := Array.replicate 8 none
  statics := none }

def pool6 : Array CpInfo := pool [(1, u "java/io/Serializable"), (0, .class_ 1), (0, u "java/lang/Object"), (0, .class_ 3)] 3

/-- java/io/Serializable -/
def k6 : Class := { plain "java/io/Serializable" (some 0) with
  accessFlags := 1537
  interfaces := #[]
  cf := some (fileOf pool6 2 #[] #[] 1537 4 #[] #[])
  fields := #[]
  methods := #[]
  instanceTypes := #[]
  staticTypes := #[]
  resolved := Array.replicate 8 none
  statics := none }

/-- the primitive byte -/
def k7 : Class := { plain "byte" none with kind := .primitive 'B', accessFlags := 0x411 }
/-- [B -/
def k8 : Class := { plain "[B" (some 0) with kind := .array 7 .byte, interfaces := #[5, 6], accessFlags := 1041 }

/-- the primitive int -/
def k9 : Class := { plain "int" none with kind := .primitive 'I', accessFlags := 0x411 }
/-- [I -/
def k10 : Class := { plain "[I" (some 0) with kind := .array 9 .int, interfaces := #[5, 6], accessFlags := 1041 }

/-- the primitive long -/
def k11 : Class := { plain "long" none with kind := .primitive 'J', accessFlags := 0x411 }
/-- [J -/
def k12 : Class := { plain "[J" (some 0) with kind := .array 11 .long, interfaces := #[5, 6], accessFlags := 1041 }

def heap : Heap := #[]
def classes : Array Class := #[k0, k1, k2, k3, k4, k5, k6, k7, k8, k9, k10, k11, k12]
def interned : List (Array UInt16 × Addr) := []
def slotsUsed : Nat := 0
def theMethod : MethodId := ⟨1, 1⟩
def args0 : Array Value := #[.int 5, .int 3, .long 5, .long 6, .long 7, .long 8]
def aboutOver (below : List Frame) : State where
  vm := { classes := classes, interned := interned.toArray }
  heap := heap
  slotsUsed := slotsUsed
  threads := #[{ frames := .invoking theMethod args0 :: below }]
def below0 : List Frame := [.native { method := ⟨0, 0⟩, args := #[] }]
def about1 : State := aboutOver below0
def p0 : Program := .bare "" "" ""
def e0 : Env := launch0.env 0 0 0
theorem w_frames : about1.frames = Frame.invoking theMethod args0 :: below0 := rfl
set_option maxRecDepth 65536 in
theorem w_args : argsFit about1.vm theMethod args0 = true := by decide +kernel
set_option maxRecDepth 65536 in
theorem w_heap : heapFits about1 = true := by decide +kernel
set_option maxRecDepth 65536 in
theorem w_runnable : about1.curStatus? = some .runnable := by decide +kernel
set_option maxRecDepth 65536 in
theorem w_alone : about1.alone = true := by decide +kernel
set_option maxRecDepth 65536 in
theorem w_named : about1.methodNamed? x = some theMethod := by decide +kernel
set_option maxRecDepth 65536 in
theorem w_hears : about1.hears theMethod below0 = true := by decide +kernel
set_option maxRecDepth 65536 in
theorem w_ripe : about1.ripe theMethod args0 below0 = true := by decide +kernel
theorem w_running : about1.status = .running := rfl
set_option maxRecDepth 65536 in
theorem w_room : about1.hasRoom e0.platform room_1 = true :=
  launch0.hasRoom_least _ room_1 (by decide +kernel) (by decide +kernel) (by decide +kernel) (by decide +kernel) (by decide +kernel) (by decide +kernel)
theorem allAtoms_all (ts : List Jvm.Cond) (a : Array Jvm.Value) (st : Jvm.State) : (allAtoms ts).before a st = ts.all (fun c => c.before a st) := by
  induction ts with
  | nil => rfl
  | cons c t ih =>
    show (Jvm.Cond.and c (allAtoms t)).before a st = _
    rw [Jvm.Cond.before_and, ih, List.all_cons]
def words1 : List Jvm.Cond := Jvm.Cond.code x code maxLocals ret :: tables_1
/-- a 'code' word, met by the world's own term for the bytes: nothing is compared byte by byte -/
theorem code_word {y : MethodName} {bytes : ByteArray} {mx : Nat} {rt : Option FieldType} {a : Array Value} {s : State} {m : MethodId} {meth : Method} {c : Code} (h1 : s.methodNamed? y = some m) (h2 : s.vm.method? m = some meth) (h3 : meth.code = some c) (h4 : c.code = bytes)
    (h5 : (c.maxLocals == mx && c.exceptionTable.isEmpty && decide (c.maxStack ≤ mostOperands) && decide (meth.sig.returnType = rt) && !meth.locks && decide (parseMethodDescriptor y.desc = some meth.sig)) = true) : (Jvm.Cond.code y bytes mx rt).before a s = true := by
  simp only [Bool.and_eq_true, beq_iff_eq, Bool.not_eq_true', decide_eq_true_eq] at h5
  obtain ⟨⟨⟨⟨⟨g1, g2⟩, g3⟩, g4⟩, g5⟩, g6⟩ := h5
  simp [Cond.before, Cond.holds, Cond.value, h1, h2, h3, h4, g1, g2, g3, g4, g5, g6]
def isCode : Jvm.Cond → Bool
  | .code _ _ _ _ => true
  | _ => false
theorem all_split {L : List Jvm.Cond} {P : Jvm.Cond → Bool} (h1 : L.all (fun c => isCode c || P c) = true) (h2 : ∀ c ∈ L.filter isCode, P c = true) : L.all P = true := by
  refine List.all_eq_true.mpr fun c hc => ?_
  have h := List.all_eq_true.mp h1 c hc
  rcases Bool.eq_false_or_eq_true (isCode c) with hi | hi
  · exact h2 c (List.mem_filter.mpr ⟨hc, hi⟩)
  · simpa [hi] using h
set_option maxRecDepth 65536 in
theorem w_c0 : (Jvm.Cond.code x code maxLocals ret).before args0 about1 = true := code_word (m := ⟨1, 1⟩) (meth := k1m1) (c := k1c1) (by decide +kernel) rfl rfl rfl (by decide +kernel)
set_option maxRecDepth 65536 in
theorem w_c1 : (Jvm.Cond.code ({ cls := "com/example/twyg/twyg/node/NodePosition", name := "<init>", desc := "(IJJI)V" } : Jvm.MethodName) prog_154_method_1_code (7 : Nat) (Option.none : Option Jvm.ClassFile.FieldType)).before args0 about1 = true := code_word (m := ⟨4, 0⟩) (meth := k4m0) (c := k4c0) (by decide +kernel) rfl rfl rfl (by decide +kernel)
set_option maxRecDepth 65536 in
theorem w_c2 : (Jvm.Cond.code ({ cls := "java/lang/Record", name := "<init>", desc := "()V" } : Jvm.MethodName) jdk_30_method_1_code (1 : Nat) (Option.none : Option Jvm.ClassFile.FieldType)).before args0 about1 = true := code_word (m := ⟨2, 0⟩) (meth := k2m0) (c := k2c0) (by decide +kernel) rfl rfl rfl (by decide +kernel)
set_option maxRecDepth 65536 in
theorem w_c3 : (Jvm.Cond.code ({ cls := "java/lang/Object", name := "<init>", desc := "()V" } : Jvm.MethodName) object_method_1_code (1 : Nat) (Option.none : Option Jvm.ClassFile.FieldType)).before args0 about1 = true := code_word (m := ⟨0, 0⟩) (meth := k0m0) (c := k0c0) (by decide +kernel) rfl rfl rfl (by decide +kernel)
set_option maxRecDepth 65536 in
theorem w_c4 : (Jvm.Cond.code ({ cls := "com/example/twyg/twyg/node/NodePosition", name := "isAncestorOf", desc := "(Lcom/example/twyg/twyg/node/NodePosition;)Z" } : Jvm.MethodName) prog_154_method_2_code (2 : Nat) (Option.some Jvm.ClassFile.FieldType.boolean)).before args0 about1 = true := code_word (m := ⟨4, 1⟩) (meth := k4m1) (c := k4c1) (by decide +kernel) rfl rfl rfl (by decide +kernel)
def codes1 : List Jvm.Cond := [Jvm.Cond.code x code maxLocals ret, Jvm.Cond.code ({ cls := "com/example/twyg/twyg/node/NodePosition", name := "<init>", desc := "(IJJI)V" } : Jvm.MethodName) prog_154_method_1_code (7 : Nat) (Option.none : Option Jvm.ClassFile.FieldType), Jvm.Cond.code ({ cls := "java/lang/Record", name := "<init>", desc := "()V" } : Jvm.MethodName) jdk_30_method_1_code (1 : Nat) (Option.none : Option Jvm.ClassFile.FieldType), Jvm.Cond.code ({ cls := "java/lang/Object", name := "<init>", desc := "()V" } : Jvm.MethodName) object_method_1_code (1 : Nat) (Option.none : Option Jvm.ClassFile.FieldType), Jvm.Cond.code ({ cls := "com/example/twyg/twyg/node/NodePosition", name := "isAncestorOf", desc := "(Lcom/example/twyg/twyg/node/NodePosition;)Z" } : Jvm.MethodName) prog_154_method_2_code (2 : Nat) (Option.some Jvm.ClassFile.FieldType.boolean)]
set_option maxRecDepth 65536 in
theorem codes_eq : words1.filter isCode = codes1 := rfl
theorem w_codes : ∀ c ∈ words1.filter isCode, c.before args0 about1 = true := by
  rw [codes_eq]
  intro c hc
  simp only [codes1, List.mem_cons, List.not_mem_nil, or_false] at hc
  rcases hc with rfl | rfl | rfl | rfl | rfl
  · exact w_c0
  · exact w_c1
  · exact w_c2
  · exact w_c3
  · exact w_c4
set_option maxRecDepth 65536 in
theorem w_t1 : (words1.take 24).all (fun c => isCode c || c.before args0 about1) = true := by decide +kernel
set_option maxRecDepth 65536 in
theorem w_t2 : (words1.drop 24).all (fun c => isCode c || c.before args0 about1) = true := by decide +kernel
theorem w_tables : (allAtoms (Jvm.Cond.code x code maxLocals ret :: tables_1)).before args0 about1 = true := by
  rw [allAtoms_all]
  show words1.all (fun c => c.before args0 about1) = true
  refine all_split ?_ w_codes
  rw [← List.take_append_drop 24 words1, List.all_append, w_t1, w_t2]
  rfl
set_option maxRecDepth 65536 in
theorem w_case : (Jvm.Cond.and given_1 narrow_1).before args0 about1 = true := by decide +kernel
theorem w_applies : (headSpec (Jvm.Cond.code x code maxLocals ret :: tables_1) room_1).applies x e0.platform about1 = true :=
  (Spec.applies_iff w_frames).mpr ⟨w_running, w_runnable, w_alone, w_named, w_hears, w_ripe, w_room, w_tables⟩
theorem atStart : AtStart classFile x code maxLocals ret World_1 tables_1 room_1 Calls_1 rest_1 Pre_1 launch0 p0 e0 about1 theMethod args0 below0 :=
  ⟨lists_1, trivial, launch0.admits_env _ _ _, launch0.least_env, fairChoices_fair.cas, fairChoices_fair.clock, w_frames, w_args, w_heap, w_applies, trivial, trivial, w_case⟩
end start1
theorem witness_1 : WitnessClaimed_1 := ⟨start1.p0, start1.e0, start1.about1, start1.theMethod, start1.args0, start1.below0, start1.atStart⟩
end Jvm.Pilot.@@N@@
