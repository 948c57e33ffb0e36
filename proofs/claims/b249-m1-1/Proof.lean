import JvmDerived
import JvmDerived.Pilot.@@N@@Statement
import JvmDerived.Pilot.@@N@@Code
set_option linter.unusedVariables false
set_option linter.unusedSimpArgs false
@@BLOCK:NumsL.lean.txt@@
@@BLOCK:Masks.lean.txt@@
namespace Jvm.RoadKit
open Sem ClassFile Op Lib Jvm.Stand Jvm.Free Jvm.LawKit
section New
variable {p : Program} {l : Launch} {e : Env} {R : Room} {s : State} {m : MethodId} {args : Array Value} {below : List Frame} {meth : Method} {c : Code} {T : State} {locs : List Loc} {cells slots : Nat}
theorem retI (X : Stand p l e R s m args below meth c T locs cells slots) (hx : p.tables.exec = Jvm.exec) {pc : Nat} {Ls : Array Slot} {z : Int32} {rest : List Value} (hret : meth.sig.returnType = some .int) (hd : decode c.code pc = .ok (.ireturn, 1)) {fs : List Frame}
    (hl : ∀ (f : JFrame) (acts : List Action), f.method = m → f.locked = none → f.entered = [] → (doReturn e (T.setTop f) acts (some (.int z))).1 = T.setFrames fs) : Steps p.tables e below (T.setTop (mkF m pc Ls (.int z :: rest))) (T.setFrames fs) := by
  have hm' : T.vm.method? m = some meth := X.method'
  have hn : narrow .int (.int z) = .int z := rfl
  show Steps p.tables e below (T.setTop { method := m, pc := pc, locals := Ls, stack := _ :: rest, locked := none }) _
  jvm_step X.here [X.here.top, hx, hd, hm', hret, hn]
  first | (intro acts; rw [hl _ acts rfl rfl rfl]) | rw [hl _ _ rfl rfl rfl]
  exact Steps.refl _
end New
end Jvm.RoadKit
namespace Jvm.Pilot.@@N@@
open Jvm Jvm.ClassFile Sem Op Lib Jvm.Free Jvm.Stand Jvm.LawKit Jvm.RoadKit Bundle Jvm.Pilot.@@N@@.Jvm.D
def own_VA (Z : State) (h : Heap) (a : Addr) (ty : FieldType) (vs : List Value) : Prop := ∃ cl : Cell, Arr Z h a cl ty ∧ cl.slots = vs.toArray
theorem own_VA_new {Z : State} {h : Heap} {a : Addr} {cA : ClassId} {ty : FieldType} {n : Int32} {k : Nat} (A : Arr Z h a (newA cA ty n) ty) (hk : n.toNatClampNeg = k) : own_VA Z h a ty (List.replicate k (defaultValue ty)) := ⟨_, A, by show Array.replicate n.toNatClampNeg (defaultValue ty) = _; rw [hk]; simp⟩
theorem own_VA_set {Z : State} {h h' : Heap} {a : Addr} {ty : FieldType} {vs : List Value} {k : Nat} {v : Value} (A : own_VA Z h a ty vs) (W : Wr h h' a k v) : own_VA Z h' a ty (vs.set k v) := by
  obtain ⟨cl, A, e⟩ := A
  exact ⟨_, A.same W, by show cl.slots.setIfInBounds k v = _; rw [e]; simp⟩
theorem own_VA_other {Z : State} {h h' : Heap} {a b : Addr} {ty : FieldType} {vs : List Value} {k : Nat} {v : Value} (A : own_VA Z h b ty vs) (W : Wr h h' a k v) (hne : b ≠ a) : own_VA Z h' b ty vs := by
  obtain ⟨cl, A, e⟩ := A
  exact ⟨_, A.other W hne, e⟩
theorem own_VA_ext {Z : State} {h h' : Heap} {a : Addr} {ty : FieldType} {vs : List Value} (A : own_VA Z h a ty vs) (E : Ext h h') : own_VA Z h' a ty vs := by
  obtain ⟨cl, A, e⟩ := A
  exact ⟨_, A.ext E, e⟩
theorem own_VA_keep {Z : State} {h h' : Heap} {a : Addr} {ty : FieldType} {vs : List Value} {ws : List Addr} (A : own_VA Z h a ty vs) (K : Keep h h' ws) (hn : a ∉ ws) : own_VA Z h' a ty vs := by
  obtain ⟨cl, A, e⟩ := A
  exact ⟨cl, ⟨K.2.1 _ _ A.1 hn, A.2⟩, e⟩
theorem own_VA_lt {Z : State} {h : Heap} {a : Addr} {ty : FieldType} {vs : List Value} (A : own_VA Z h a ty vs) : a < h.size := by
  obtain ⟨cl, A, e⟩ := A
  exact A.lt
section OwnArr
variable {p : Program} {l : Launch} {e : Env} {R : Room} {s : State} {m : MethodId} {args : Array Value} {below : List Frame} {meth : Method} {c : Code} {T : State} {locs : List Loc} {cells slots : Nat} {Z : State} {h : Heap}
theorem own_stI (X : Stand p l e R s m args below meth c T locs cells slots) (hx : p.tables.exec = Jvm.exec) (hZ : Z.Warmed39 s.vm) (eT : T.heap = h) {a : Addr} {vs : List Value} (A : own_VA Z h a .int vs) {j : Int32} {k n : Nat} {x : Int32} (hn : vs.length = n) (hj : ¬ (j < 0 ∨ n ≤ j.toNatClampNeg)) (hk : j.toNatClampNeg = k) {g : JFrame} (hg : g.method = m) {rest : List Value} (hs : g.stack = .int x :: .int j :: .ref a :: rest) (hd : decode c.code g.pc = .ok (.iastore, 1)) :
    ∃ T' h', Stand p l e R s m args below meth c T' (locs ++ [⟨a, k⟩]) cells slots ∧ T'.heap = h' ∧ own_VA Z h' a .int (vs.set k (.int x)) ∧ Wr h h' a k (.int x) ∧ ∀ target, Steps p.tables e below (T'.setTop { g with pc := g.pc + 1, stack := rest }) target → Steps p.tables e below (T.setTop g) target := by
  subst hk
  obtain ⟨cl, A1, ec⟩ := A
  obtain ⟨T', h', X', e', W, st⟩ := stI X hx hZ eT A1 (j := j) (x := x) (by rw [ec]; simpa [hn] using hj) hg hs hd
  exact ⟨T', h', X', e', own_VA_set ⟨cl, A1, ec⟩ W, W, st⟩
theorem own_stJ (X : Stand p l e R s m args below meth c T locs cells slots) (hx : p.tables.exec = Jvm.exec) (hZ : Z.Warmed39 s.vm) (eT : T.heap = h) {a : Addr} {vs : List Value} (A : own_VA Z h a .long vs) {j : Int32} {k n : Nat} {x : Int64} (hn : vs.length = n) (hj : ¬ (j < 0 ∨ n ≤ j.toNatClampNeg)) (hk : j.toNatClampNeg = k) {g : JFrame} (hg : g.method = m) {rest : List Value} (hs : g.stack = .long x :: .int j :: .ref a :: rest) (hd : decode c.code g.pc = .ok (.lastore, 1)) :
    ∃ T' h', Stand p l e R s m args below meth c T' (locs ++ [⟨a, k⟩]) cells slots ∧ T'.heap = h' ∧ own_VA Z h' a .long (vs.set k (.long x)) ∧ Wr h h' a k (.long x) ∧ ∀ target, Steps p.tables e below (T'.setTop { g with pc := g.pc + 1, stack := rest }) target → Steps p.tables e below (T.setTop g) target := by
  subst hk
  obtain ⟨cl, A1, ec⟩ := A
  obtain ⟨T', h', X', e', W, st⟩ := stJ X hx hZ eT A1 (j := j) (x := x) (by rw [ec]; simpa [hn] using hj) hg hs hd
  exact ⟨T', h', X', e', own_VA_set ⟨cl, A1, ec⟩ W, W, st⟩
theorem own_ldI (X : Stand p l e R s m args below meth c T locs cells slots) (hx : p.tables.exec = Jvm.exec) (hZ : Z.Warmed39 s.vm) (eT : T.heap = h) {a : Addr} {vs : List Value} (A : own_VA Z h a .int vs) {j : Int32} {n : Nat} {v : Value} (hn : vs.length = n) (hj : ¬ (j < 0 ∨ n ≤ j.toNatClampNeg)) (hv : vs[j.toNatClampNeg]? = some v) {g : JFrame} (hg : g.method = m) {rest : List Value} (hs : g.stack = .int j :: .ref a :: rest) (hd : decode c.code g.pc = .ok (.iaload, 1)) :
    ∀ target, Steps p.tables e below (T.setTop { g with pc := g.pc + 1, stack := v :: rest }) target → Steps p.tables e below (T.setTop g) target := by
  obtain ⟨cl, A1, ec⟩ := A
  intro target k
  exact X.iaload hx (by rw [eT]; exact A1.1) (State.isArrayOf_alike hZ.alike A1.2.1) A1.2.2 (by rw [ec]; simpa [hn] using hj) (by rw [ec]; simpa using hv) hg hs hd target k
theorem own_ldJ (X : Stand p l e R s m args below meth c T locs cells slots) (hx : p.tables.exec = Jvm.exec) (hZ : Z.Warmed39 s.vm) (eT : T.heap = h) {a : Addr} {vs : List Value} (A : own_VA Z h a .long vs) {j : Int32} {n : Nat} {v : Value} (hn : vs.length = n) (hj : ¬ (j < 0 ∨ n ≤ j.toNatClampNeg)) (hv : vs[j.toNatClampNeg]? = some v) {g : JFrame} (hg : g.method = m) {rest : List Value} (hs : g.stack = .int j :: .ref a :: rest) (hd : decode c.code g.pc = .ok (.laload, 1)) :
    ∀ target, Steps p.tables e below (T.setTop { g with pc := g.pc + 1, stack := v :: rest }) target → Steps p.tables e below (T.setTop g) target := by
  obtain ⟨cl, A1, ec⟩ := A
  intro target k
  exact X.laload hx (by rw [eT]; exact A1.1) (State.isArrayOf_alike hZ.alike A1.2.1) A1.2.2 (by rw [ec]; simpa [hn] using hj) (by rw [ec]; simpa using hv) hg hs hd target k
theorem own_len (X : Stand p l e R s m args below meth c T locs cells slots) (hx : p.tables.exec = Jvm.exec) (hZ : Z.Warmed39 s.vm) (eT : T.heap = h) {a : Addr} {vs : List Value} {ty : FieldType} (A : own_VA Z h a ty vs) {n : Nat} {k : Int32} (hn : vs.length = n) (hk : n.toInt32 = k) {g : JFrame} (hg : g.method = m) {rest : List Value} (hs : g.stack = .ref a :: rest) (hd : decode c.code g.pc = .ok (.arraylength, 1)) :
    ∀ target, Steps p.tables e below (T.setTop { g with pc := g.pc + 1, stack := .int k :: rest }) target → Steps p.tables e below (T.setTop g) target := by
  obtain ⟨cl, A1, ec⟩ := A
  intro target q
  have z : cl.slots.size.toInt32 = k := by rw [ec, ← hk, ← hn]; simp
  refine X.arraylength hx (by rw [eT]; exact A1.1) (State.isArrayOf_alike hZ.alike A1.2.1) hg hs hd target ?_
  rw [z]; exact q
end OwnArr
theorem own_some {us : List Int32} {vs : List Value} (e : vs = us.map Value.int) {n i : Nat} (hn : vs.length = n) (h : i < n) : ∃ w : Int32, vs[i]? = some (.int w) := by
  subst e hn
  have h' : i < us.length := by simpa using h
  exact ⟨us[i], by simp [h']⟩
theorem own_idx {j : Int32} {n : Nat} (h0 : 0 ≤ j.toInt) (h1 : j.toInt < n) : ¬ (j < 0 ∨ n ≤ j.toNatClampNeg) := by
  have z : (0 : Int32).toInt = 0 := by decide
  intro q
  rcases q with q | q
  · rw [Int32.lt_iff_toInt_lt] at q; omega
  · have : j.toNatClampNeg = j.toInt.toNat := rfl
    omega
theorem own_lt {j : Int32} {n : Nat} (h : ¬ (j < 0 ∨ n ≤ j.toNatClampNeg)) : j.toNatClampNeg < n := Nat.lt_of_not_le fun q => h (Or.inr q)
def fW (x1 y1 x2 y2 dd : Int64) : Int32 := if (0 : Int32) < XT.cmpL (((x2 - x1) * (x2 - x1)) + ((y2 - y1) * (y2 - y1))) (dd * dd) then 0 else 1
def own_R (K : Int) (a : Int64) : Prop := -K ≤ a.toInt ∧ a.toInt ≤ K
theorem own_b {K : Int} {a : Int64} (h : own_R K a) (hK : K < 9007199254740992) : B53 a := by
  have h1 := h.1
  have h2 := h.2
  exact ⟨by omega, by omega⟩
theorem own_sub {K M : Int} {a b : Int64} (ha : own_R K a) (hb : own_R K b) (hK : K < 9007199254740992) (hM : K + K = M) : own_R M (a - b) := by
  have e := sub64 (own_b ha hK) (own_b hb hK)
  have a1 := ha.1
  have a2 := ha.2
  have b1 := hb.1
  have b2 := hb.2
  exact ⟨by omega, by omega⟩
theorem own_add {K M : Int} {a b : Int64} (ha : own_R K a) (hb : own_R K b) (hK : K < 9007199254740992) (hM : K + K = M) : own_R M (a + b) := by
  have e := add64 (own_b ha hK) (own_b hb hK)
  have a1 := ha.1
  have a2 := ha.2
  have b1 := hb.1
  have b2 := hb.2
  exact ⟨by omega, by omega⟩
theorem own_sqb {K x : Int} (h1 : -K ≤ x) (h2 : x ≤ K) : 0 ≤ x * x ∧ x * x ≤ K * K := by
  have e : x * x = ((x.natAbs * x.natAbs : Nat) : Int) := by rw [Int.natAbs_mul_self]
  have k : x.natAbs * x.natAbs ≤ K.toNat * K.toNat := Nat.mul_le_mul (by omega) (by omega)
  have m : ((K.toNat * K.toNat : Nat) : Int) = K * K := by rw [Int.natCast_mul, Int.toNat_of_nonneg (by omega)]
  omega
theorem own_sqi {K : Int} {a : Int64} (ha : own_R K a) (hM : K * K < 9223372036854775808) : (a * a).toInt = a.toInt * a.toInt := by
  have s := own_sqb ha.1 ha.2
  exact Jvm.Kit.i64_mul (by omega) (by omega)
theorem own_sq {K M : Int} {a : Int64} (ha : own_R K a) (hM : K * K = M) (hB : M < 9223372036854775808) : own_R M (a * a) := by
  have s := own_sqb ha.1 ha.2
  have e := own_sqi ha (by omega)
  exact ⟨by omega, by omega⟩
theorem own_mul {K : Int} {a : Int64} (ha : own_R K a) (hK : K < 9007199254740992) (hM : K * K < 9223372036854775808) : FP.dmul (FP.l2d a) (FP.l2d a) = FP.l2d (a * a) := by
  have n : ¬ (a = 0 ∧ a < 0) := fun q => by
    have z := q.2
    rw [q.1] at z
    exact absurd z (by decide)
  exact dmul_k ha.1 ha.2 ha.1 ha.2 hK hK hM n n
theorem own_lcmp (a b : Int64) : lcmpW a b = XT.cmpL a b := rfl
theorem own_nar (x : Int32) : nar .boolean x = x &&& 1 := rfl
theorem own_nar1 : nar .boolean (1 : Int32) = 1 := by decide
theorem own_nar0 : nar .boolean (0 : Int32) = 0 := by decide
theorem own_10 : ((1 : Int32) = 0) = False := by decide
theorem own_00 : ((0 : Int32) = 0) = True := by decide
theorem d1_0 : decode jdk_29_method_61_code 0 = .ok (.lload_n 0, 1) := by decide +kernel
theorem d1_1 : decode jdk_29_method_61_code 1 = .ok (.lconst 0, 1) := by decide +kernel
theorem d1_2 : decode jdk_29_method_61_code 2 = .ok (.lcmp, 1) := by decide +kernel
theorem d1_3 : decode jdk_29_method_61_code 3 = .ok (.ifCond .ge 8, 3) := by decide +kernel
theorem d1_6 : decode jdk_29_method_61_code 6 = .ok (.lload_n 0, 1) := by decide +kernel
theorem d1_7 : decode jdk_29_method_61_code 7 = .ok (.lneg, 1) := by decide +kernel
theorem d1_8 : decode jdk_29_method_61_code 8 = .ok (.goto 4, 3) := by decide +kernel
theorem d1_11 : decode jdk_29_method_61_code 11 = .ok (.lload_n 0, 1) := by decide +kernel
theorem d1_12 : decode jdk_29_method_61_code 12 = .ok (.lreturn, 1) := by decide +kernel
def f1_12 (x0 : Int64) (y0 : Int64) : Int64 := y0
theorem b1_12 {p : Program} {l : Launch} {e : Env} {R : Room} {s : State} {m : MethodId} {args : Array Value} {below : List Frame} {meth : Method} {c : Code} {T : State} {locs : List Loc} {cells slots : Nat} (X : Stand p l e R s m args below meth c T locs cells slots) (hx : p.tables.exec = Jvm.exec) (hby : c.code = jdk_29_method_61_code) (hown : s.vm.findClass "java/lang/Math" = some m.cls) (hret : meth.sig.returnType = some .long) {fs : List Frame} {z : Int64} (hl : ∀ (f : JFrame) (acts : List Action), f.method = m → f.locked = none → f.entered = [] → (doReturn e (T.setTop f) acts (some (.long z))).1 = T.setFrames fs) (x0 : Int64) (y0 : Int64) (hz : f1_12 x0 y0 = z) :
    Steps p.tables e below (T.setTop (mkF m 12 #[.val (.long x0), .second] [(.long y0)])) (T.setFrames fs) := by
  unfold f1_12 at hz
  subst hz
  exact lreturnOut X hx hret (hb hby d1_12) hl
def f1_0 (x0 : Int64) : Int64 := if (XT.cmpL x0 (0 : Int64)) < (0 : Int32) then f1_12 x0 ((-x0)) else f1_12 x0 x0
theorem b1_0 {p : Program} {l : Launch} {e : Env} {R : Room} {s : State} {m : MethodId} {args : Array Value} {below : List Frame} {meth : Method} {c : Code} {T : State} {locs : List Loc} {cells slots : Nat} (X : Stand p l e R s m args below meth c T locs cells slots) (hx : p.tables.exec = Jvm.exec) (hby : c.code = jdk_29_method_61_code) (hown : s.vm.findClass "java/lang/Math" = some m.cls) (hret : meth.sig.returnType = some .long) {fs : List Frame} {z : Int64} (hl : ∀ (f : JFrame) (acts : List Action), f.method = m → f.locked = none → f.entered = [] → (doReturn e (T.setTop f) acts (some (.long z))).1 = T.setFrames fs) (x0 : Int64) (hz : f1_0 x0 = z) :
    Steps p.tables e below (T.setTop (mkF m 0 #[.val (.long x0), .second] [])) (T.setFrames fs) := by
  unfold f1_0 at hz
  refine XT.lloadN X.here hx rfl (hb hby d1_0) rfl ?_
  show Steps p.tables e below (T.setTop (mkF m 1 #[.val (.long x0), .second] [(.long x0)])) _
  refine XT.lconst X.here hx rfl (hb hby d1_1) ?_
  show Steps p.tables e below (T.setTop (mkF m 2 #[.val (.long x0), .second] [(.long (0 : Int64)), (.long x0)])) _
  refine XT.lcmp X.here hx rfl (hb hby d1_2) rfl ?_
  show Steps p.tables e below (T.setTop (mkF m 3 #[.val (.long x0), .second] [(.int (XT.cmpL x0 (0 : Int64)))])) _
  by_cases h3 : (XT.cmpL x0 (0 : Int64)) < (0 : Int32)
  · rw [if_pos h3] at hz
    refine XS.ifNo X.here hx rfl (hb hby d1_3) rfl ((if0 _ _).trans (tlt h3).2.1) ?_
    show Steps p.tables e below (T.setTop (mkF m 6 #[.val (.long x0), .second] [])) _
    refine XT.lloadN X.here hx rfl (hb hby d1_6) rfl ?_
    show Steps p.tables e below (T.setTop (mkF m 7 #[.val (.long x0), .second] [(.long x0)])) _
    refine XT.lneg X.here hx rfl (hb hby d1_7) rfl ?_
    show Steps p.tables e below (T.setTop (mkF m 8 #[.val (.long x0), .second] [(.long ((-x0)))])) _
    refine XS.goto X.here hx rfl (pc0 := 8) (pc' := 12) rfl (hb hby d1_8) (by decide) (by decide) ?_
    show Steps p.tables e below (T.setTop (mkF m 12 #[.val (.long x0), .second] [(.long ((-x0)))])) _
    exact b1_12 X hx hby hown hret hl x0 ((-x0))  hz
  · rw [if_neg h3] at hz
    refine XS.ifYes X.here hx rfl (pc0 := 3) (pc' := 11) rfl (hb hby d1_3) rfl ((if0 _ _).trans (flt h3).2.1) (by decide) (by decide) ?_
    show Steps p.tables e below (T.setTop (mkF m 11 #[.val (.long x0), .second] [])) _
    refine XT.lloadN X.here hx rfl (hb hby d1_11) rfl ?_
    show Steps p.tables e below (T.setTop (mkF m 12 #[.val (.long x0), .second] [(.long x0)])) _
    exact b1_12 X hx hby hown hret hl x0 x0  hz
theorem ef_1 (m : MethodId) (p1 : Int64) : entryFrame m #[(.long p1)] 2 = mkF m 0 #[.val (.long p1), .second] [] := by first | (simp [entryFrame, mkF, argsToLocals, Value.category]; done) | rfl
def Q1 (p1 : Int64) (h0 : Heap) (n0 : Nat) (v : Option Value) (h : Heap) (L : List Loc) : Prop := v = some (.long (f1_0 p1)) ∧ Fr n0 L ∧ h = h0
set_option maxRecDepth 65536 in
set_option maxHeartbeats 40000000 in
theorem rm1 (l : Launch) (Z : State) (a0 : Array Value) (hw : ∀ d ∈ tables_1, d.before a0 Z = true) (ws : List Jvm.Cond) (p1 : Int64) (h0 : Heap) (n0 : Nat) :
    MetFree l (⟨"java/lang/Math", "abs", "(J)J"⟩ : MethodName) (head1 (Jvm.Cond.code (⟨"java/lang/Math", "abs", "(J)J"⟩ : MethodName) jdk_29_method_61_code 2 (some .long) :: ws) ({ frames := 0, cells := 0, slots := 0, locals := 0 } : Room)) (fun a U => a = #[(.long p1)] ∧ Z.Warmed39 U.vm ∧ U.heap = h0) (fun _ _ _ _ _ => True) (fun _ U o U' => ∃ v L, o = .returned v ∧ Q1 p1 h0 n0 v U'.heap L ∧ FrameEnd U o U' L ({ frames := 0, cells := 0, slots := 0, locals := 0 } : Room).cells ({ frames := 0, cells := 0, slots := 0, locals := 0 } : Room).slots) := by
  refine MetFree.of_bodySF (Jvm.Free.JP.mathPlain rfl (by decide +kernel)) hisR ?_
  intro p e s m args below meth c s₁ Bd hml0 hP hK
  obtain ⟨rfl, hZ, hh⟩ := hP
  have hx := Bd.exec
  have hby := Bd.bytes
  have hml : c.maxLocals = 2 := hml0
  have hown : s.vm.findClass "java/lang/Math" = some m.cls := findClass_of_methodNamed Bd.named
  have hnm := (name_of_methodNamed Bd.named Bd.method).1
  have X0 : Stand p l e ({ frames := 0, cells := 0, slots := 0, locals := 0 } : Room) s m #[(.long p1)] below meth c s₁ [] 0 0 := Stand.of_body Bd
  have e0 : s₁.heap = h0 := by rw [← hh, Bd.state]; rfl
  have N0 := Fr.nil n0
  have pre0 : ∀ t, Steps p.tables e below (s₁.setTop (mkF m 0 #[.val (.long p1), .second] [])) t → Steps p.tables e below (s₁.setTop (entryFrame m #[(.long p1)] 2)) t := fun t k => castTop (ef_1 m p1) k
  obtain ⟨fs, hr, hrun, hended, hW, hsame⟩ := X0.leave (v := some (.long (f1_0 p1))) (fun h => by rw [Bd.returns] at h; cases h)
  refine ⟨_, _, pre0 _ ?_, hrun, hended, _, _, rfl, ?_, ⟨_, rfl⟩, hW, hsame.mono (by decide) (by decide)⟩
  · exact b1_0 X0 hx hby hown Bd.returns hr p1 rfl
  · show Q1 p1 h0 n0 _ s₁.heap _
    rw [e0]
    exact ⟨rfl, N0, rfl⟩
theorem own_sym {x1 y1 x2 y2 dd : Int64} (b1 : own_R 1048576 x1) (b2 : own_R 1048576 y1) (b3 : own_R 1048576 x2) (b4 : own_R 1048576 y2) : fW x2 y2 x1 y1 dd = fW x1 y1 x2 y2 dd := by
  have s : ∀ {a b : Int64}, own_R 1048576 a → own_R 1048576 b → (a - b) * (a - b) = (b - a) * (b - a) := fun {a b} ha hb => by
    apply Int64.toInt_inj.mp
    rw [own_sqi (own_sub ha hb (by decide) (show (1048576 : Int) + 1048576 = 2097152 by decide)) (by decide), own_sqi (own_sub hb ha (by decide) (show (1048576 : Int) + 1048576 = 2097152 by decide)) (by decide), sub64 (own_b ha (by decide)) (own_b hb (by decide)), sub64 (own_b hb (by decide)) (own_b ha (by decide))]
    have e : a.toInt - b.toInt = -(b.toInt - a.toInt) := by omega
    rw [e, Int.neg_mul_neg]
  unfold fW
  rw [s b1 b3, s b2 b4]
theorem own_w0 {x1 y1 x2 y2 dd : Int64} (h : (0 : Int32) < XT.cmpL (((x2 - x1) * (x2 - x1)) + ((y2 - y1) * (y2 - y1))) (dd * dd)) : fW x1 y1 x2 y2 dd = (0 : Int32) := if_pos h
theorem own_w1 {x1 y1 x2 y2 dd : Int64} (h : ¬ (0 : Int32) < XT.cmpL (((x2 - x1) * (x2 - x1)) + ((y2 - y1) * (y2 - y1))) (dd * dd)) : fW x1 y1 x2 y2 dd = (1 : Int32) := if_neg h
theorem own_sh (a : Int32) : own_R 1048576 (((a >>> ((11 : Int32) &&& 31))).toInt64) := by
  have h : (a >>> ((11 : Int32) &&& 31)).toInt = a.toInt / 2 ^ 11 := Jvm.Kit.i32_shr a _ (k := 11) (by decide)
  have e : ((a >>> ((11 : Int32) &&& 31))).toInt64.toInt = (a >>> ((11 : Int32) &&& 31)).toInt := Jvm.Kit.i64_of_i32 _
  have h1 := Int32.le_toInt a
  have h2 := Int32.toInt_lt a
  exact ⟨by omega, by omega⟩
theorem own_d0 (f : Int32) : own_R 2097153 (((f &&& (2097151 : Int32))).toInt64) := by
  have h : (f &&& (2097151 : Int32)).toInt = f.toInt % 2 ^ 21 := Jvm.Kit.i32_mask f 2097151 (k := 21) (by decide) (by decide)
  have e : ((f &&& (2097151 : Int32))).toInt64.toInt = (f &&& (2097151 : Int32)).toInt := Jvm.Kit.i64_of_i32 _
  exact ⟨by omega, by omega⟩
theorem own_z : own_R 2097153 (0 : Int64) := by
  have e : (0 : Int64).toInt = 0 := by decide
  exact ⟨by omega, by omega⟩
theorem own_cmpneg (x : Int64) : (XT.cmpL x (0 : Int64) < (0 : Int32)) ↔ x.toInt < 0 := by
  have z : (0 : Int64).toInt = 0 := by decide
  show ((if (0 : Int64) < x then (1 : Int32) else if x = 0 then 0 else -1) < 0) ↔ _
  by_cases a : (0 : Int64) < x
  · rw [if_pos a]
    rw [Int64.lt_iff_toInt_lt] at a
    exact ⟨fun h => absurd h (by decide), fun h => by omega⟩
  · rw [if_neg a]
    rw [Int64.lt_iff_toInt_lt] at a
    by_cases b : x = 0
    · rw [if_pos b]; subst b
      exact ⟨fun h => absurd h (by decide), fun h => by omega⟩
    · rw [if_neg b]
      have b' : ¬ x.toInt = (0 : Int64).toInt := fun q => b (Int64.toInt_inj.mp q)
      exact ⟨fun _ => by omega, fun _ => by decide⟩
theorem own_abs {K : Int} {x : Int64} (h : own_R K x) (hK : K < 9007199254740992) : 0 ≤ (f1_0 x).toInt ∧ (f1_0 x).toInt ≤ K := by
  have h1 := h.1
  have h2 := h.2
  have e : f1_0 x = if XT.cmpL x (0 : Int64) < (0 : Int32) then -x else x := rfl
  rw [e]
  by_cases a : XT.cmpL x (0 : Int64) < (0 : Int32)
  · rw [if_pos a]
    have := (own_cmpneg x).mp a
    rw [Jvm.Kit.i64_neg (by omega)]
    omega
  · rw [if_neg a]
    have : ¬ x.toInt < 0 := fun q => a ((own_cmpneg x).mpr q)
    omega
theorem own_rem3 (g : Int32) : 0 ≤ ((XT.ushr g (1 : Int32) - (XT.ushr g (1 : Int32) / (3 : Int32)) * (3 : Int32))).toInt64.toInt ∧ ((XT.ushr g (1 : Int32) - (XT.ushr g (1 : Int32) / (3 : Int32)) * (3 : Int32))).toInt64.toInt ≤ 2 := by
  have h : (0 : Int32) ≤ (g.toUInt32 >>> ((1 : Int32) &&& 31).toUInt32).toInt32 := Jvm.Kit.i32_iushr_nonneg g (k := 1) (by decide) (by decide) (by decide)
  have h' : (0 : Int32) ≤ XT.ushr g (1 : Int32) := h
  have z : (0 : Int32).toInt = 0 := by decide
  have z3 : (3 : Int32).toInt = 3 := by decide
  rw [Int32.le_iff_toInt_le, z] at h'
  generalize XT.ushr g (1 : Int32) = t at *
  have e : ((t - (t / (3 : Int32)) * (3 : Int32))).toInt64.toInt = (t - (t / (3 : Int32)) * (3 : Int32)).toInt := Jvm.Kit.i64_of_i32 _
  have r := rem_toInt t 3
  rw [z3, Int.tmod_eq_emod_of_nonneg h'] at r
  omega
theorem own_dB {x1 x2 : Int64} (b1 : own_R 1048576 x1) (b2 : own_R 1048576 x2) (g : Int32) : -1 ≤ (((f1_0 (x2 - x1)) - (1 : Int64)) + ((XT.ushr g (1 : Int32) - (XT.ushr g (1 : Int32) / (3 : Int32)) * (3 : Int32))).toInt64).toInt ∧ (((f1_0 (x2 - x1)) - (1 : Int64)) + ((XT.ushr g (1 : Int32) - (XT.ushr g (1 : Int32) / (3 : Int32)) * (3 : Int32))).toInt64).toInt ≤ 2097153 := by
  have a := own_abs (own_sub b2 b1 (by decide) (show (1048576 : Int) + 1048576 = 2097152 by decide)) (by decide)
  have r := own_rem3 g
  have o : (1 : Int64).toInt = 1 := by decide
  generalize f1_0 (x2 - x1) = u at *
  generalize ((XT.ushr g (1 : Int32) - (XT.ushr g (1 : Int32) / (3 : Int32)) * (3 : Int32))).toInt64 = v at *
  have e1 : (u - (1 : Int64)).toInt = u.toInt - (1 : Int64).toInt := Jvm.Kit.i64_sub (by omega) (by omega)
  have e2 : ((u - (1 : Int64)) + v).toInt = (u - (1 : Int64)).toInt + v.toInt := Jvm.Kit.i64_add (by omega) (by omega)
  omega
theorem own_dB1 {x1 x2 : Int64} (b1 : own_R 1048576 x1) (b2 : own_R 1048576 x2) (g : Int32) : own_R 2097153 (((f1_0 (x2 - x1)) - (1 : Int64)) + ((XT.ushr g (1 : Int32) - (XT.ushr g (1 : Int32) / (3 : Int32)) * (3 : Int32))).toInt64) := by
  have h := own_dB b1 b2 g
  exact ⟨by omega, by omega⟩
theorem d4_0 : decode prog_9_method_9_code 0 = .ok (.aload_n 0, 1) := by decide +kernel
theorem d4_1 : decode prog_9_method_9_code 1 = .ok (.dload_n 1, 1) := by decide +kernel
theorem d4_2 : decode prog_9_method_9_code 2 = .ok (.putfield 17, 3) := by decide +kernel
theorem d4_5 : decode prog_9_method_9_code 5 = .ok (.aload_n 0, 1) := by decide +kernel
theorem d4_6 : decode prog_9_method_9_code 6 = .ok (.dload_n 3, 1) := by decide +kernel
theorem d4_7 : decode prog_9_method_9_code 7 = .ok (.putfield 21, 3) := by decide +kernel
theorem d4_10 : decode prog_9_method_9_code 10 = .ok (.aload_n 0, 1) := by decide +kernel
theorem d4_11 : decode prog_9_method_9_code 11 = .ok (.aconst_null, 1) := by decide +kernel
theorem d4_12 : decode prog_9_method_9_code 12 = .ok (.putfield 24, 3) := by decide +kernel
theorem d4_15 : decode prog_9_method_9_code 15 = .ok (.return_, 1) := by decide +kernel
theorem pn_4 : plainName "com/example/rumblecourt/rumblecourt/games/hungergaming/Creature" = true := by first | (simp [plainName, overriddenIn]; done) | decide +kernel
theorem ef_4 (m : MethodId) (p0 : Addr) (p1 : UInt64) (p2 : UInt64) : entryFrame m #[(.ref p0), (.double p1), (.double p2)] 5 = mkF m 0 #[.val (.ref p0), .val (.double p1), .second, .val (.double p2), .second] [] := by first | (simp [entryFrame, mkF, argsToLocals, Value.category]; done) | rfl
def Q4 (Z : State) (p0 : Addr) (p1 p2 : Int64) (h0 : Heap) (n0 : Nat) (v : Option Value) (h : Heap) (L : List Loc) : Prop := v = none ∧ Fr n0 L ∧ Keep h0 h [p0] ∧ Exa Z h p0 "com/example/rumblecourt/rumblecourt/games/hungergaming/Creature" ∧ Fld Z h p0 "com/example/rumblecourt/rumblecourt/games/hungergaming/Creature" "x" "D" (.double (FP.l2d p1)) ∧ Fld Z h p0 "com/example/rumblecourt/rumblecourt/games/hungergaming/Creature" "y" "D" (.double (FP.l2d p2))
set_option maxRecDepth 65536 in
set_option maxHeartbeats 40000000 in
theorem rm4 (l : Launch) (Z : State) (a0 : Array Value) (hw : ∀ d ∈ tables_1, d.before a0 Z = true) (ws : List Jvm.Cond) (p0 : Addr) (p1 : Int64) (p2 : Int64) (h0 : Heap) (n0 : Nat) (Z0 : n0 ≤ h0.size) (E_p0 : Exa Z h0 p0 "com/example/rumblecourt/rumblecourt/games/hungergaming/Creature") (F_x : Fld Z h0 p0 "com/example/rumblecourt/rumblecourt/games/hungergaming/Creature" "x" "D" (.double 0)) (F_y : Fld Z h0 p0 "com/example/rumblecourt/rumblecourt/games/hungergaming/Creature" "y" "D" (.double 0)) (F_position : Fld Z h0 p0 "com/example/rumblecourt/rumblecourt/games/hungergaming/Creature" "position" "Ljava/lang/String;" .null) (gp0 : n0 ≤ p0) :
    MetFree l (⟨"com/example/rumblecourt/rumblecourt/games/hungergaming/Creature", "moveTo", "(DD)V"⟩ : MethodName) (head1 (Jvm.Cond.code (⟨"com/example/rumblecourt/rumblecourt/games/hungergaming/Creature", "moveTo", "(DD)V"⟩ : MethodName) prog_9_method_9_code 5 none :: ws) ({ frames := 0, cells := 0, slots := 0, locals := 0 } : Room)) (fun a U => a = #[(.ref p0), (.double (FP.l2d p1)), (.double (FP.l2d p2))] ∧ Z.Warmed39 U.vm ∧ U.heap = h0) (fun _ _ _ _ _ => True) (fun _ U o U' => ∃ v L, o = .returned v ∧ Q4 Z p0 p1 p2 h0 n0 v U'.heap L ∧ FrameEnd U o U' L ({ frames := 0, cells := 0, slots := 0, locals := 0 } : Room).cells ({ frames := 0, cells := 0, slots := 0, locals := 0 } : Room).slots) := by
  refine MetFree.of_bodySF (plainFor_of_name pn_4) hisR ?_
  intro p e s m args below meth c s₁ Bd hml0 hP hK
  obtain ⟨rfl, hZ, hh⟩ := hP
  have hx := Bd.exec
  have hby := Bd.bytes
  have hml : c.maxLocals = 5 := hml0
  have hown : s.vm.findClass "com/example/rumblecourt/rumblecourt/games/hungergaming/Creature" = some m.cls := findClass_of_methodNamed Bd.named
  have hnm := (name_of_methodNamed Bd.named Bd.method).1
  have X0 : Stand p l e ({ frames := 0, cells := 0, slots := 0, locals := 0 } : Room) s m #[(.ref p0), (.double (FP.l2d p1)), (.double (FP.l2d p2))] below meth c s₁ [] 0 0 := Stand.of_body Bd
  have e0 : s₁.heap = h0 := by rw [← hh, Bd.state]; rfl
  have N0 := Fr.nil n0
  have pre0 : ∀ t, Steps p.tables e below (s₁.setTop (mkF m 0 #[.val (.ref p0), .val (.double (FP.l2d p1)), .second, .val (.double (FP.l2d p2)), .second] [])) t → Steps p.tables e below (s₁.setTop (entryFrame m #[(.ref p0), (.double (FP.l2d p1)), (.double (FP.l2d p2))] 5)) t := fun t k => castTop (ef_4 m p0 (FP.l2d p1) (FP.l2d p2)) k
  have K0 : Keep h0 h0 [p0] := Keep.refl h0 [p0]
  obtain ⟨T1, H1, X1, e1, W1, st1⟩ := putF X0 hx hZ hown (host := "") (Or.inl (hw _ (List.mem_of_getElem? (i := 21) rfl))) Via.refl e0 F_x E_p0 (Or.inl (hw _ (List.mem_of_getElem? (i := 22) rfl))) (hw _ (List.mem_of_getElem? (i := 6) rfl)) (ty := .double) (by decide) rfl rfl (g := (mkF m 2 #[.val (.ref p0), .val (.double (FP.l2d p1)), .second, .val (.double (FP.l2d p2)), .second] [(.double (FP.l2d p1)), (.ref p0)])) rfl rfl (hb hby d4_2)
  have Fw1 := Fld.same W1 F_x
  have N1 := Fr.snoc X1 N0 gp0
  have Z1 : n0 ≤ H1.size := Nat.le_trans Z0 (Nat.le_of_eq W1.size.symm)
  have K1 : Keep h0 H1 [p0] := K0.wr W1 (Or.inl (List.mem_singleton.mpr rfl))
  have Ep0_2 := Exa.wr W1 E_p0
  have Fp0_y_2 := Fld.other W1 F_y (Or.inr (slot_ne (Or.inl (hw _ (List.mem_of_getElem? (i := 24) rfl))) (Or.inl (hw _ (List.mem_of_getElem? (i := 22) rfl))) (by decide) (t := .double) (t' := .double) (by decide) (by decide)))
  have Fp0_position_2 := Fld.other W1 F_position (Or.inr (slot_ne (Or.inl (hw _ (List.mem_of_getElem? (i := 26) rfl))) (Or.inl (hw _ (List.mem_of_getElem? (i := 22) rfl))) (by decide) (t := (.object "java/lang/String")) (t' := .double) (by decide) (by decide)))
  obtain ⟨T3, H3, X3, e3, W3, st3⟩ := putF X1 hx hZ hown (host := "") (Or.inl (hw _ (List.mem_of_getElem? (i := 23) rfl))) Via.refl e1 Fp0_y_2 Ep0_2 (Or.inl (hw _ (List.mem_of_getElem? (i := 24) rfl))) (hw _ (List.mem_of_getElem? (i := 6) rfl)) (ty := .double) (by decide) rfl rfl (g := (mkF m 7 #[.val (.ref p0), .val (.double (FP.l2d p1)), .second, .val (.double (FP.l2d p2)), .second] [(.double (FP.l2d p2)), (.ref p0)])) rfl rfl (hb hby d4_7)
  have Fw3 := Fld.same W3 Fp0_y_2
  have N3 := Fr.snoc X3 N1 gp0
  have Z3 : n0 ≤ H3.size := Nat.le_trans Z1 (Nat.le_of_eq W3.size.symm)
  have K3 : Keep h0 H3 [p0] := K1.wr W3 (Or.inl (List.mem_singleton.mpr rfl))
  have Ep0_4 := Exa.wr W3 Ep0_2
  have Fp0_position_4 := Fld.other W3 Fp0_position_2 (Or.inr (slot_ne (Or.inl (hw _ (List.mem_of_getElem? (i := 26) rfl))) (Or.inl (hw _ (List.mem_of_getElem? (i := 24) rfl))) (by decide) (t := (.object "java/lang/String")) (t' := .double) (by decide) (by decide)))
  have Fp0_x_4 := Fld.other W3 Fw1 (Or.inr (slot_ne (Or.inl (hw _ (List.mem_of_getElem? (i := 22) rfl))) (Or.inl (hw _ (List.mem_of_getElem? (i := 24) rfl))) (by decide) (t := .double) (t' := .double) (by decide) (by decide)))
  obtain ⟨T5, H5, X5, e5, W5, st5⟩ := putF X3 hx hZ hown (host := "") (Or.inl (hw _ (List.mem_of_getElem? (i := 25) rfl))) Via.refl e3 Fp0_position_4 Ep0_4 (Or.inl (hw _ (List.mem_of_getElem? (i := 26) rfl))) (hw _ (List.mem_of_getElem? (i := 6) rfl)) (ty := (.object "java/lang/String")) (by decide) rfl rfl (g := (mkF m 12 #[.val (.ref p0), .val (.double (FP.l2d p1)), .second, .val (.double (FP.l2d p2)), .second] [.null, (.ref p0)])) rfl rfl (hb hby d4_12)
  have Fw5 := Fld.same W5 Fp0_position_4
  have N5 := Fr.snoc X5 N3 gp0
  have Z5 : n0 ≤ H5.size := Nat.le_trans Z3 (Nat.le_of_eq W5.size.symm)
  have K5 : Keep h0 H5 [p0] := K3.wr W5 (Or.inl (List.mem_singleton.mpr rfl))
  have Ep0_6 := Exa.wr W5 Ep0_4
  have Fp0_x_6 := Fld.other W5 Fp0_x_4 (Or.inr (slot_ne (Or.inl (hw _ (List.mem_of_getElem? (i := 22) rfl))) (Or.inl (hw _ (List.mem_of_getElem? (i := 26) rfl))) (by decide) (t := .double) (t' := (.object "java/lang/String")) (by decide) (by decide)))
  have Fp0_y_6 := Fld.other W5 Fw3 (Or.inr (slot_ne (Or.inl (hw _ (List.mem_of_getElem? (i := 24) rfl))) (Or.inl (hw _ (List.mem_of_getElem? (i := 26) rfl))) (by decide) (t := .double) (t' := (.object "java/lang/String")) (by decide) (by decide)))
  have pre7 : ∀ t, Steps p.tables e below (T5.setTop (mkF m 15 #[.val (.ref p0), .val (.double (FP.l2d p1)), .second, .val (.double (FP.l2d p2)), .second] [])) t → Steps p.tables e below (s₁.setTop (entryFrame m #[(.ref p0), (.double (FP.l2d p1)), (.double (FP.l2d p2))] 5)) t := by
    intro t k
    refine pre0 t ?_
    show Steps p.tables e below (s₁.setTop (mkF m 0 #[.val (.ref p0), .val (.double (FP.l2d p1)), .second, .val (.double (FP.l2d p2)), .second] [])) _
    refine XS.aloadN X0.here hx rfl (hb hby d4_0) rfl rfl ?_
    show Steps p.tables e below (s₁.setTop (mkF m 1 #[.val (.ref p0), .val (.double (FP.l2d p1)), .second, .val (.double (FP.l2d p2)), .second] [(.ref p0)])) _
    refine XS.dloadN X0.here hx rfl (hb hby d4_1) rfl ?_
    show Steps p.tables e below (s₁.setTop (mkF m 2 #[.val (.ref p0), .val (.double (FP.l2d p1)), .second, .val (.double (FP.l2d p2)), .second] [(.double (FP.l2d p1)), (.ref p0)])) _
    refine st1 _ ?_
    show Steps p.tables e below (T1.setTop (mkF m 5 #[.val (.ref p0), .val (.double (FP.l2d p1)), .second, .val (.double (FP.l2d p2)), .second] [])) _
    refine XS.aloadN X1.here hx rfl (hb hby d4_5) rfl rfl ?_
    show Steps p.tables e below (T1.setTop (mkF m 6 #[.val (.ref p0), .val (.double (FP.l2d p1)), .second, .val (.double (FP.l2d p2)), .second] [(.ref p0)])) _
    refine XS.dloadN X1.here hx rfl (hb hby d4_6) rfl ?_
    show Steps p.tables e below (T1.setTop (mkF m 7 #[.val (.ref p0), .val (.double (FP.l2d p1)), .second, .val (.double (FP.l2d p2)), .second] [(.double (FP.l2d p2)), (.ref p0)])) _
    refine st3 _ ?_
    show Steps p.tables e below (T3.setTop (mkF m 10 #[.val (.ref p0), .val (.double (FP.l2d p1)), .second, .val (.double (FP.l2d p2)), .second] [])) _
    refine XS.aloadN X3.here hx rfl (hb hby d4_10) rfl rfl ?_
    show Steps p.tables e below (T3.setTop (mkF m 11 #[.val (.ref p0), .val (.double (FP.l2d p1)), .second, .val (.double (FP.l2d p2)), .second] [(.ref p0)])) _
    refine XS.aconstNull X3.here hx rfl (hb hby d4_11) ?_
    show Steps p.tables e below (T3.setTop (mkF m 12 #[.val (.ref p0), .val (.double (FP.l2d p1)), .second, .val (.double (FP.l2d p2)), .second] [.null, (.ref p0)])) _
    refine st5 _ ?_
    show Steps p.tables e below (T5.setTop (mkF m 15 #[.val (.ref p0), .val (.double (FP.l2d p1)), .second, .val (.double (FP.l2d p2)), .second] [])) _
    exact k
  obtain ⟨fs, hr, hrun, hended, hW, hsame⟩ := X5.leave (v := none) (fun _ => rfl)
  refine ⟨_, _, pre7 _ ?_, hrun, hended, _, _, rfl, ?_, ⟨_, rfl⟩, hW, hsame.mono (by decide) (by decide)⟩
  · exact X5.returnOut hx Bd.returns (hb hby d4_15) hr
  · show Q4 Z p0 p1 p2 h0 n0 _ T5.heap _
    rw [e5]
    exact ⟨rfl, N5, K5, Ep0_6, Fp0_x_6, Fp0_y_6⟩
theorem d2_0 : decode prog_9_method_1_code 0 = .ok (.aload_n 0, 1) := by decide +kernel
theorem d2_1 : decode prog_9_method_1_code 1 = .ok (.invokespecial 1, 3) := by decide +kernel
theorem d2_4 : decode prog_9_method_1_code 4 = .ok (.aload_n 0, 1) := by decide +kernel
theorem d2_5 : decode prog_9_method_1_code 5 = .ok (.iload_n 1, 1) := by decide +kernel
theorem d2_6 : decode prog_9_method_1_code 6 = .ok (.putfield 7, 3) := by decide +kernel
theorem d2_9 : decode prog_9_method_1_code 9 = .ok (.aload_n 0, 1) := by decide +kernel
theorem d2_10 : decode prog_9_method_1_code 10 = .ok (.dload_n 2, 1) := by decide +kernel
theorem d2_11 : decode prog_9_method_1_code 11 = .ok (.dload 4, 2) := by decide +kernel
theorem d2_13 : decode prog_9_method_1_code 13 = .ok (.invokevirtual 13, 3) := by decide +kernel
theorem d2_16 : decode prog_9_method_1_code 16 = .ok (.return_, 1) := by decide +kernel
theorem pn_2 : plainName "com/example/rumblecourt/rumblecourt/games/hungergaming/Creature" = true := by first | (simp [plainName, overriddenIn]; done) | decide +kernel
theorem ef_2 (m : MethodId) (p0 : Addr) (p1 : Int32) (p2 : UInt64) (p3 : UInt64) : entryFrame m #[(.ref p0), (.int p1), (.double p2), (.double p3)] 6 = mkF m 0 #[.val (.ref p0), .val (.int p1), .val (.double p2), .second, .val (.double p3), .second] [] := by first | (simp [entryFrame, mkF, argsToLocals, Value.category]; done) | rfl
theorem pd_2_0 : parseMethodDescriptor "(DD)V" = some ⟨[.double, .double], none⟩ := by decide +kernel
def Q2 (Z : State) (p0 : Addr) (p2 p3 : Int64) (h0 : Heap) (n0 : Nat) (v : Option Value) (h : Heap) (L : List Loc) : Prop := v = none ∧ Fr n0 L ∧ Keep h0 h [p0] ∧ Exa Z h p0 "com/example/rumblecourt/rumblecourt/games/hungergaming/Creature" ∧ Fld Z h p0 "com/example/rumblecourt/rumblecourt/games/hungergaming/Creature" "x" "D" (.double (FP.l2d p2)) ∧ Fld Z h p0 "com/example/rumblecourt/rumblecourt/games/hungergaming/Creature" "y" "D" (.double (FP.l2d p3))
set_option maxRecDepth 65536 in
set_option maxHeartbeats 40000000 in
theorem rm2 (l : Launch) (Z : State) (a0 : Array Value) (hw : ∀ d ∈ tables_1, d.before a0 Z = true) (ws : List Jvm.Cond) (p0 : Addr) (p1 : Int32) (p2 : Int64) (p3 : Int64) (h0 : Heap) (n0 : Nat) (Z0 : n0 ≤ h0.size) (E_p0 : Exa Z h0 p0 "com/example/rumblecourt/rumblecourt/games/hungergaming/Creature") (F_id : Fld Z h0 p0 "com/example/rumblecourt/rumblecourt/games/hungergaming/Creature" "id" "I" (.int 0)) (F_x : Fld Z h0 p0 "com/example/rumblecourt/rumblecourt/games/hungergaming/Creature" "x" "D" (.double 0)) (F_y : Fld Z h0 p0 "com/example/rumblecourt/rumblecourt/games/hungergaming/Creature" "y" "D" (.double 0)) (F_position : Fld Z h0 p0 "com/example/rumblecourt/rumblecourt/games/hungergaming/Creature" "position" "Ljava/lang/String;" .null) (gp0 : n0 ≤ p0) :
    MetFree l (⟨"com/example/rumblecourt/rumblecourt/games/hungergaming/Creature", "<init>", "(IDD)V"⟩ : MethodName) (head1 (Jvm.Cond.code (⟨"com/example/rumblecourt/rumblecourt/games/hungergaming/Creature", "<init>", "(IDD)V"⟩ : MethodName) prog_9_method_1_code 6 none :: ws) ({ frames := 1, cells := 0, slots := 0, locals := 16 } : Room)) (fun a U => a = #[(.ref p0), (.int p1), (.double (FP.l2d p2)), (.double (FP.l2d p3))] ∧ Z.Warmed39 U.vm ∧ U.heap = h0) (fun _ _ _ _ _ => True) (fun _ U o U' => ∃ v L, o = .returned v ∧ Q2 Z p0 p2 p3 h0 n0 v U'.heap L ∧ FrameEnd U o U' L ({ frames := 1, cells := 0, slots := 0, locals := 16 } : Room).cells ({ frames := 1, cells := 0, slots := 0, locals := 16 } : Room).slots) := by
  refine MetFree.of_bodySF (plainFor_of_name pn_2) hisR ?_
  intro p e s m args below meth c s₁ Bd hml0 hP hK
  obtain ⟨rfl, hZ, hh⟩ := hP
  have hx := Bd.exec
  have hby := Bd.bytes
  have hml : c.maxLocals = 6 := hml0
  have hown : s.vm.findClass "com/example/rumblecourt/rumblecourt/games/hungergaming/Creature" = some m.cls := findClass_of_methodNamed Bd.named
  have hnm := (name_of_methodNamed Bd.named Bd.method).1
  have X0 : Stand p l e ({ frames := 1, cells := 0, slots := 0, locals := 16 } : Room) s m #[(.ref p0), (.int p1), (.double (FP.l2d p2)), (.double (FP.l2d p3))] below meth c s₁ [] 0 0 := Stand.of_body Bd
  have e0 : s₁.heap = h0 := by rw [← hh, Bd.state]; rfl
  have N0 := Fr.nil n0
  have pre0 : ∀ t, Steps p.tables e below (s₁.setTop (mkF m 0 #[.val (.ref p0), .val (.int p1), .val (.double (FP.l2d p2)), .second, .val (.double (FP.l2d p3)), .second] [])) t → Steps p.tables e below (s₁.setTop (entryFrame m #[(.ref p0), (.int p1), (.double (FP.l2d p2)), (.double (FP.l2d p3))] 6)) t := fun t k => castTop (ef_2 m p0 p1 (FP.l2d p2) (FP.l2d p3)) k
  have K0 : Keep h0 h0 [p0] := Keep.refl h0 [p0]
  obtain ⟨T1, X1, e1, st1⟩ := initO X0 hx hZ hown (hw _ (List.mem_of_getElem? (i := 11) rfl)) (hw _ (List.mem_of_getElem? (i := 12) rfl)) (hw _ (List.mem_of_getElem? (i := 13) rfl)) e0 (g := (mkF m 1 #[.val (.ref p0), .val (.int p1), .val (.double (FP.l2d p2)), .second, .val (.double (FP.l2d p3)), .second] [(.ref p0)])) rfl (by rw [hml]; rfl) rfl (hb hby d2_1) (by decide) (W := 0) (by show 2 * 0 + _ ≤ _; exact Nat.le_of_eq rfl) (by decide)
  obtain ⟨T2, H2, X2, e2, W2, st2⟩ := putF X1 hx hZ hown (host := "") (Or.inl (hw _ (List.mem_of_getElem? (i := 14) rfl))) Via.refl e1 F_id E_p0 (Or.inr ⟨(hw _ (List.mem_of_getElem? (i := 15) rfl)), rfl, hnm⟩) (hw _ (List.mem_of_getElem? (i := 6) rfl)) (ty := .int) (by decide) rfl rfl (g := (mkF m 6 #[.val (.ref p0), .val (.int p1), .val (.double (FP.l2d p2)), .second, .val (.double (FP.l2d p3)), .second] [(.int p1), (.ref p0)])) rfl rfl (hb hby d2_6)
  have Fw2 := Fld.same W2 F_id
  have N2 := Fr.snoc X2 N0 gp0
  have Z2 : n0 ≤ H2.size := Nat.le_trans Z0 (Nat.le_of_eq W2.size.symm)
  have K2 : Keep h0 H2 [p0] := K0.wr W2 (Or.inl (List.mem_singleton.mpr rfl))
  have Ep0_3 := Exa.wr W2 E_p0
  have Fp0_x_3 := Fld.other W2 F_x (Or.inr (slot_ne (Or.inl (hw _ (List.mem_of_getElem? (i := 22) rfl))) (Or.inr (hw _ (List.mem_of_getElem? (i := 15) rfl))) (by decide) (t := .double) (t' := .int) (by decide) (by decide)))
  have Fp0_y_3 := Fld.other W2 F_y (Or.inr (slot_ne (Or.inl (hw _ (List.mem_of_getElem? (i := 24) rfl))) (Or.inr (hw _ (List.mem_of_getElem? (i := 15) rfl))) (by decide) (t := .double) (t' := .int) (by decide) (by decide)))
  have Fp0_position_3 := Fld.other W2 F_position (Or.inr (slot_ne (Or.inl (hw _ (List.mem_of_getElem? (i := 26) rfl))) (Or.inr (hw _ (List.mem_of_getElem? (i := 15) rfl))) (by decide) (t := (.object "java/lang/String")) (t' := .int) (by decide) (by decide)))
  obtain ⟨cq4, kq4, q4a, q4b, q4c⟩ := isOf hZ e2 Ep0_3
  obtain ⟨_, _, ⟨T4, L4, k4, n4⟩, -, X4, ⟨Lc4, hQ4, l4, y4, z4⟩, st4⟩ := X2.virtualBack hx (y := (⟨"com/example/rumblecourt/rumblecourt/games/hungergaming/Creature", "moveTo", "(DD)V"⟩ : MethodName)) (z := (⟨"com/example/rumblecourt/rumblecourt/games/hungergaming/Creature", "moveTo", "(DD)V"⟩ : MethodName)) hown (mvT hZ (hw _ (List.mem_of_getElem? (i := 16) rfl))) (mvT hZ (hw _ (List.mem_of_getElem? (i := 17) rfl))) (notFace_of_selects (args := #[]) (mvT hZ (hw _ (List.mem_of_getElem? (i := 19) rfl)))) (mvT hZ (hw _ (List.mem_of_getElem? (i := 19) rfl))) (mvT hZ (hw _ (List.mem_of_getElem? (i := 18) rfl))) (by decide) (backOf (W := 0) (rm4 l Z a0 hw [] p0 p2 p3 H2 n0 Z2 Ep0_3 Fp0_x_3 Fp0_y_3 Fp0_position_3 gp0) hZ (hw _ (List.mem_of_getElem? (i := 20) rfl)) (hw _ (List.mem_of_getElem? (i := 7) rfl)) (by decide) (by decide)) q4a q4c (g := (mkF m 13 #[.val (.ref p0), .val (.int p1), .val (.double (FP.l2d p2)), .second, .val (.double (FP.l2d p3)), .second] [(.double (FP.l2d p3)), (.double (FP.l2d p2)), (.ref p0)])) rfl (by rw [hml]; rfl) (Steps.refl _) (argsL := [(.double (FP.l2d p2)), (.double (FP.l2d p3))]) (rest := []) (lenOf pd_2_0 rfl) rfl (by show 2 * 0 + _ ≤ _; exact Nat.le_of_eq rfl) (hb hby d2_13) (fun _ _ => ⟨rfl, e2, (by decide : 0 + 0 ≤ _), (by decide : 0 + 0 ≤ _)⟩)
  dsimp only [Pt.U, Pt.locs, Pt.cells, Pt.slots] at X4 l4 y4 z4 st4 hQ4
  subst l4 y4 z4
  obtain ⟨rfl, N4q, KK4, EE4, Fx4, Fy4⟩ := hQ4
  have N4 := Fr.app N2 N4q
  have e4 : T4.heap = T4.heap := rfl
  have K4 : Keep h0 T4.heap [p0] := K2.trans KK4 fun x hx => Or.inl hx
  have pre5 : ∀ t, Steps p.tables e below (T4.setTop (mkF m 16 #[.val (.ref p0), .val (.int p1), .val (.double (FP.l2d p2)), .second, .val (.double (FP.l2d p3)), .second] [])) t → Steps p.tables e below (s₁.setTop (entryFrame m #[(.ref p0), (.int p1), (.double (FP.l2d p2)), (.double (FP.l2d p3))] 6)) t := by
    intro t k
    refine pre0 t ?_
    show Steps p.tables e below (s₁.setTop (mkF m 0 #[.val (.ref p0), .val (.int p1), .val (.double (FP.l2d p2)), .second, .val (.double (FP.l2d p3)), .second] [])) _
    refine XS.aloadN X0.here hx rfl (hb hby d2_0) rfl rfl ?_
    show Steps p.tables e below (s₁.setTop (mkF m 1 #[.val (.ref p0), .val (.int p1), .val (.double (FP.l2d p2)), .second, .val (.double (FP.l2d p3)), .second] [(.ref p0)])) _
    refine st1 _ ?_
    show Steps p.tables e below (T1.setTop (mkF m 4 #[.val (.ref p0), .val (.int p1), .val (.double (FP.l2d p2)), .second, .val (.double (FP.l2d p3)), .second] [])) _
    refine XS.aloadN X1.here hx rfl (hb hby d2_4) rfl rfl ?_
    show Steps p.tables e below (T1.setTop (mkF m 5 #[.val (.ref p0), .val (.int p1), .val (.double (FP.l2d p2)), .second, .val (.double (FP.l2d p3)), .second] [(.ref p0)])) _
    refine XS.iloadN X1.here hx rfl (hb hby d2_5) rfl ?_
    show Steps p.tables e below (T1.setTop (mkF m 6 #[.val (.ref p0), .val (.int p1), .val (.double (FP.l2d p2)), .second, .val (.double (FP.l2d p3)), .second] [(.int p1), (.ref p0)])) _
    refine st2 _ ?_
    show Steps p.tables e below (T2.setTop (mkF m 9 #[.val (.ref p0), .val (.int p1), .val (.double (FP.l2d p2)), .second, .val (.double (FP.l2d p3)), .second] [])) _
    refine XS.aloadN X2.here hx rfl (hb hby d2_9) rfl rfl ?_
    show Steps p.tables e below (T2.setTop (mkF m 10 #[.val (.ref p0), .val (.int p1), .val (.double (FP.l2d p2)), .second, .val (.double (FP.l2d p3)), .second] [(.ref p0)])) _
    refine XS.dloadN X2.here hx rfl (hb hby d2_10) rfl ?_
    show Steps p.tables e below (T2.setTop (mkF m 11 #[.val (.ref p0), .val (.int p1), .val (.double (FP.l2d p2)), .second, .val (.double (FP.l2d p3)), .second] [(.double (FP.l2d p2)), (.ref p0)])) _
    refine XS.dload X2.here hx rfl (hb hby d2_11) rfl ?_
    show Steps p.tables e below (T2.setTop (mkF m 13 #[.val (.ref p0), .val (.int p1), .val (.double (FP.l2d p2)), .second, .val (.double (FP.l2d p3)), .second] [(.double (FP.l2d p3)), (.double (FP.l2d p2)), (.ref p0)])) _
    refine st4.trans ?_
    show Steps p.tables e below (T4.setTop (mkF m 16 #[.val (.ref p0), .val (.int p1), .val (.double (FP.l2d p2)), .second, .val (.double (FP.l2d p3)), .second] [])) _
    exact k
  obtain ⟨fs, hr, hrun, hended, hW, hsame⟩ := X4.leave (v := none) (fun _ => rfl)
  refine ⟨_, _, pre5 _ ?_, hrun, hended, _, _, rfl, ?_, ⟨_, rfl⟩, hW, hsame.mono (by decide) (by decide)⟩
  · exact X4.returnOut hx Bd.returns (hb hby d2_16) hr
  · show Q2 Z p0 p2 p3 h0 n0 _ T4.heap _
    rw [e4]
    exact ⟨rfl, N4, K4, EE4, Fx4, Fy4⟩
theorem d5_0 : decode prog_9_method_10_code 0 = .ok (.aload_n 1, 1) := by decide +kernel
theorem d5_1 : decode prog_9_method_10_code 1 = .ok (.getfield 17, 3) := by decide +kernel
theorem d5_4 : decode prog_9_method_10_code 4 = .ok (.aload_n 0, 1) := by decide +kernel
theorem d5_5 : decode prog_9_method_10_code 5 = .ok (.getfield 17, 3) := by decide +kernel
theorem d5_8 : decode prog_9_method_10_code 8 = .ok (.dsub, 1) := by decide +kernel
theorem d5_9 : decode prog_9_method_10_code 9 = .ok (.dstore 4, 2) := by decide +kernel
theorem d5_11 : decode prog_9_method_10_code 11 = .ok (.aload_n 1, 1) := by decide +kernel
theorem d5_12 : decode prog_9_method_10_code 12 = .ok (.getfield 21, 3) := by decide +kernel
theorem d5_15 : decode prog_9_method_10_code 15 = .ok (.aload_n 0, 1) := by decide +kernel
theorem d5_16 : decode prog_9_method_10_code 16 = .ok (.getfield 21, 3) := by decide +kernel
theorem d5_19 : decode prog_9_method_10_code 19 = .ok (.dsub, 1) := by decide +kernel
theorem d5_20 : decode prog_9_method_10_code 20 = .ok (.dstore 6, 2) := by decide +kernel
theorem d5_22 : decode prog_9_method_10_code 22 = .ok (.dload 4, 2) := by decide +kernel
theorem d5_24 : decode prog_9_method_10_code 24 = .ok (.dload 4, 2) := by decide +kernel
theorem d5_26 : decode prog_9_method_10_code 26 = .ok (.dmul, 1) := by decide +kernel
theorem d5_27 : decode prog_9_method_10_code 27 = .ok (.dload 6, 2) := by decide +kernel
theorem d5_29 : decode prog_9_method_10_code 29 = .ok (.dload 6, 2) := by decide +kernel
theorem d5_31 : decode prog_9_method_10_code 31 = .ok (.dmul, 1) := by decide +kernel
theorem d5_32 : decode prog_9_method_10_code 32 = .ok (.dadd, 1) := by decide +kernel
theorem d5_33 : decode prog_9_method_10_code 33 = .ok (.dload_n 2, 1) := by decide +kernel
theorem d5_34 : decode prog_9_method_10_code 34 = .ok (.dload_n 2, 1) := by decide +kernel
theorem d5_35 : decode prog_9_method_10_code 35 = .ok (.dmul, 1) := by decide +kernel
theorem d5_36 : decode prog_9_method_10_code 36 = .ok (.dcmp .g, 1) := by decide +kernel
theorem d5_37 : decode prog_9_method_10_code 37 = .ok (.ifCond .gt 7, 3) := by decide +kernel
theorem d5_40 : decode prog_9_method_10_code 40 = .ok (.iconst 1, 1) := by decide +kernel
theorem d5_41 : decode prog_9_method_10_code 41 = .ok (.goto 4, 3) := by decide +kernel
theorem d5_44 : decode prog_9_method_10_code 44 = .ok (.iconst 0, 1) := by decide +kernel
theorem d5_45 : decode prog_9_method_10_code 45 = .ok (.ireturn, 1) := by decide +kernel
theorem pn_5 : plainName "com/example/rumblecourt/rumblecourt/games/hungergaming/Creature" = true := by first | (simp [plainName, overriddenIn]; done) | decide +kernel
theorem ef_5 (m : MethodId) (p0 : Addr) (p1 : Addr) (p2 : UInt64) : entryFrame m #[(.ref p0), (.ref p1), (.double p2)] 8 = mkF m 0 #[.val (.ref p0), .val (.ref p1), .val (.double p2), .second, .unset, .unset, .unset, .unset] [] := by first | (simp [entryFrame, mkF, argsToLocals, Value.category]; done) | rfl
def Q5 (x1 y1 x2 y2 p2 : Int64) (h0 : Heap) (n0 : Nat) (v : Option Value) (h : Heap) (L : List Loc) : Prop := v = some (.int (fW x1 y1 x2 y2 p2)) ∧ Fr n0 L ∧ h = h0
set_option maxRecDepth 65536 in
set_option maxHeartbeats 40000000 in
theorem rm5 (l : Launch) (Z : State) (a0 : Array Value) (hw : ∀ d ∈ tables_1, d.before a0 Z = true) (ws : List Jvm.Cond) (p0 : Addr) (p1 : Addr) (p2 : Int64) (h0 : Heap) (n0 : Nat) (Z0 : n0 ≤ h0.size) (x1 y1 x2 y2 : Int64) (F_x1 : Fld Z h0 p0 "com/example/rumblecourt/rumblecourt/games/hungergaming/Creature" "x" "D" (.double (FP.l2d x1))) (F_y1 : Fld Z h0 p0 "com/example/rumblecourt/rumblecourt/games/hungergaming/Creature" "y" "D" (.double (FP.l2d y1))) (F_x2 : Fld Z h0 p1 "com/example/rumblecourt/rumblecourt/games/hungergaming/Creature" "x" "D" (.double (FP.l2d x2))) (F_y2 : Fld Z h0 p1 "com/example/rumblecourt/rumblecourt/games/hungergaming/Creature" "y" "D" (.double (FP.l2d y2))) (bx1 : own_R 1048576 x1) (by1 : own_R 1048576 y1) (bx2 : own_R 1048576 x2) (by2 : own_R 1048576 y2) (bd : own_R 2097153 p2) :
    MetFree l (⟨"com/example/rumblecourt/rumblecourt/games/hungergaming/Creature", "within", "(Lcom/example/rumblecourt/rumblecourt/games/hungergaming/Creature;D)Z"⟩ : MethodName) (head1 (Jvm.Cond.code (⟨"com/example/rumblecourt/rumblecourt/games/hungergaming/Creature", "within", "(Lcom/example/rumblecourt/rumblecourt/games/hungergaming/Creature;D)Z"⟩ : MethodName) prog_9_method_10_code 8 (some .boolean) :: ws) ({ frames := 0, cells := 0, slots := 0, locals := 0 } : Room)) (fun a U => a = #[(.ref p0), (.ref p1), (.double (FP.l2d p2))] ∧ Z.Warmed39 U.vm ∧ U.heap = h0) (fun _ _ _ _ _ => True) (fun _ U o U' => ∃ v L, o = .returned v ∧ Q5 x1 y1 x2 y2 p2 h0 n0 v U'.heap L ∧ FrameEnd U o U' L ({ frames := 0, cells := 0, slots := 0, locals := 0 } : Room).cells ({ frames := 0, cells := 0, slots := 0, locals := 0 } : Room).slots) := by
  refine MetFree.of_bodySF (plainFor_of_name pn_5) hisR ?_
  intro p e s m args below meth c s₁ Bd hml0 hP hK
  obtain ⟨rfl, hZ, hh⟩ := hP
  have hx := Bd.exec
  have hby := Bd.bytes
  have hml : c.maxLocals = 8 := hml0
  have hown : s.vm.findClass "com/example/rumblecourt/rumblecourt/games/hungergaming/Creature" = some m.cls := findClass_of_methodNamed Bd.named
  have hnm := (name_of_methodNamed Bd.named Bd.method).1
  have X0 : Stand p l e ({ frames := 0, cells := 0, slots := 0, locals := 0 } : Room) s m #[(.ref p0), (.ref p1), (.double (FP.l2d p2))] below meth c s₁ [] 0 0 := Stand.of_body Bd
  have e0 : s₁.heap = h0 := by rw [← hh, Bd.state]; rfl
  have N0 := Fr.nil n0
  have pre0 : ∀ t, Steps p.tables e below (s₁.setTop (mkF m 0 #[.val (.ref p0), .val (.ref p1), .val (.double (FP.l2d p2)), .second, .unset, .unset, .unset, .unset] [])) t → Steps p.tables e below (s₁.setTop (entryFrame m #[(.ref p0), (.ref p1), (.double (FP.l2d p2))] 8)) t := fun t k => castTop (ef_5 m p0 p1 (FP.l2d p2)) k
  have dx : own_R 2097152 (x2 - x1) := own_sub bx2 bx1 (by decide) (by decide)
  have dy : own_R 2097152 (y2 - y1) := own_sub by2 by1 (by decide) (by decide)
  have qx := own_sq (M := 4398046511104) dx (by decide) (by decide)
  have qy := own_sq (M := 4398046511104) dy (by decide) (by decide)
  have qd := own_sq (M := 4398050705409) bd (by decide) (by decide)
  have qa : own_R 8796093022208 (((x2 - x1) * (x2 - x1)) + ((y2 - y1) * (y2 - y1))) := own_add qx qy (by decide) (by decide)
  obtain ⟨T1, X1, e1, st1⟩ := getF X0 hx hZ hown (host := "") (Or.inl (hw _ (List.mem_of_getElem? (i := 21) rfl))) Via.refl e0 F_x2 (g := (mkF m 1 #[.val (.ref p0), .val (.ref p1), .val (.double (FP.l2d p2)), .second, .unset, .unset, .unset, .unset] [(.ref p1)])) rfl rfl (hb hby d5_1)
  obtain ⟨T2, X2, e2, st2⟩ := getF X1 hx hZ hown (host := "") (Or.inl (hw _ (List.mem_of_getElem? (i := 21) rfl))) Via.refl e1 F_x1 (g := (mkF m 5 #[.val (.ref p0), .val (.ref p1), .val (.double (FP.l2d p2)), .second, .unset, .unset, .unset, .unset] [(.ref p0), (.double (FP.l2d x2))])) rfl rfl (hb hby d5_5)
  have fp3 : FP.dsub (FP.l2d x2) (FP.l2d x1) = (FP.l2d (x2 - x1)) := dsub_w (own_b bx2 (by decide)) (own_b bx1 (by decide))
  obtain ⟨T4, X4, e4, st4⟩ := getF X2 hx hZ hown (host := "") (Or.inl (hw _ (List.mem_of_getElem? (i := 23) rfl))) Via.refl e2 F_y2 (g := (mkF m 12 #[.val (.ref p0), .val (.ref p1), .val (.double (FP.l2d p2)), .second, .val (.double (FP.l2d (x2 - x1))), .second, .unset, .unset] [(.ref p1)])) rfl rfl (hb hby d5_12)
  obtain ⟨T5, X5, e5, st5⟩ := getF X4 hx hZ hown (host := "") (Or.inl (hw _ (List.mem_of_getElem? (i := 23) rfl))) Via.refl e4 F_y1 (g := (mkF m 16 #[.val (.ref p0), .val (.ref p1), .val (.double (FP.l2d p2)), .second, .val (.double (FP.l2d (x2 - x1))), .second, .unset, .unset] [(.ref p0), (.double (FP.l2d y2))])) rfl rfl (hb hby d5_16)
  have fp6 : FP.dsub (FP.l2d y2) (FP.l2d y1) = (FP.l2d (y2 - y1)) := dsub_w (own_b by2 (by decide)) (own_b by1 (by decide))
  have fp7 : FP.dmul (FP.l2d (x2 - x1)) (FP.l2d (x2 - x1)) = (FP.l2d ((x2 - x1) * (x2 - x1))) := own_mul dx (by decide) (by decide)
  have fp8 : FP.dmul (FP.l2d (y2 - y1)) (FP.l2d (y2 - y1)) = (FP.l2d ((y2 - y1) * (y2 - y1))) := own_mul dy (by decide) (by decide)
  have fp9 : FP.dadd (FP.l2d ((x2 - x1) * (x2 - x1))) (FP.l2d ((y2 - y1) * (y2 - y1))) = (FP.l2d (((x2 - x1) * (x2 - x1)) + ((y2 - y1) * (y2 - y1)))) := dadd_w (own_b qx (by decide)) (own_b qy (by decide))
  have fp10 : FP.dmul (FP.l2d p2) (FP.l2d p2) = (FP.l2d (p2 * p2)) := own_mul bd (by decide) (by decide)
  have fp11 : cmpValue (FP.dcmp (FP.l2d (((x2 - x1) * (x2 - x1)) + ((y2 - y1) * (y2 - y1)))) (FP.l2d (p2 * p2))) .g = (XT.cmpL (((x2 - x1) * (x2 - x1)) + ((y2 - y1) * (y2 - y1))) (p2 * p2)) := (dcmpV_w (own_b qa (by decide)) (own_b qd (by decide)) _).trans (own_lcmp _ _)
  have pre13 : ∀ t, Steps p.tables e below (T5.setTop (mkF m 37 #[.val (.ref p0), .val (.ref p1), .val (.double (FP.l2d p2)), .second, .val (.double (FP.l2d (x2 - x1))), .second, .val (.double (FP.l2d (y2 - y1))), .second] [(.int (XT.cmpL (((x2 - x1) * (x2 - x1)) + ((y2 - y1) * (y2 - y1))) (p2 * p2)))])) t → Steps p.tables e below (s₁.setTop (entryFrame m #[(.ref p0), (.ref p1), (.double (FP.l2d p2))] 8)) t := by
    intro t k
    refine pre0 t ?_
    show Steps p.tables e below (s₁.setTop (mkF m 0 #[.val (.ref p0), .val (.ref p1), .val (.double (FP.l2d p2)), .second, .unset, .unset, .unset, .unset] [])) _
    refine XS.aloadN X0.here hx rfl (hb hby d5_0) rfl rfl ?_
    show Steps p.tables e below (s₁.setTop (mkF m 1 #[.val (.ref p0), .val (.ref p1), .val (.double (FP.l2d p2)), .second, .unset, .unset, .unset, .unset] [(.ref p1)])) _
    refine st1 _ ?_
    show Steps p.tables e below (T1.setTop (mkF m 4 #[.val (.ref p0), .val (.ref p1), .val (.double (FP.l2d p2)), .second, .unset, .unset, .unset, .unset] [(.double (FP.l2d x2))])) _
    refine XS.aloadN X1.here hx rfl (hb hby d5_4) rfl rfl ?_
    show Steps p.tables e below (T1.setTop (mkF m 5 #[.val (.ref p0), .val (.ref p1), .val (.double (FP.l2d p2)), .second, .unset, .unset, .unset, .unset] [(.ref p0), (.double (FP.l2d x2))])) _
    refine st2 _ ?_
    show Steps p.tables e below (T2.setTop (mkF m 8 #[.val (.ref p0), .val (.ref p1), .val (.double (FP.l2d p2)), .second, .unset, .unset, .unset, .unset] [(.double (FP.l2d x1)), (.double (FP.l2d x2))])) _
    refine XS.dsubS X2.here hx rfl (hb hby d5_8) rfl (nn_w fp3) fp3 ?_
    show Steps p.tables e below (T2.setTop (mkF m 9 #[.val (.ref p0), .val (.ref p1), .val (.double (FP.l2d p2)), .second, .unset, .unset, .unset, .unset] [(.double (FP.l2d (x2 - x1)))])) _
    refine XS.dstore X2.here hx rfl (hb hby d5_9) rfl (l' := #[.val (.ref p0), .val (.ref p1), .val (.double (FP.l2d p2)), .second, .val (.double (FP.l2d (x2 - x1))), .second, .unset, .unset]) rfl ?_
    show Steps p.tables e below (T2.setTop (mkF m 11 #[.val (.ref p0), .val (.ref p1), .val (.double (FP.l2d p2)), .second, .val (.double (FP.l2d (x2 - x1))), .second, .unset, .unset] [])) _
    refine XS.aloadN X2.here hx rfl (hb hby d5_11) rfl rfl ?_
    show Steps p.tables e below (T2.setTop (mkF m 12 #[.val (.ref p0), .val (.ref p1), .val (.double (FP.l2d p2)), .second, .val (.double (FP.l2d (x2 - x1))), .second, .unset, .unset] [(.ref p1)])) _
    refine st4 _ ?_
    show Steps p.tables e below (T4.setTop (mkF m 15 #[.val (.ref p0), .val (.ref p1), .val (.double (FP.l2d p2)), .second, .val (.double (FP.l2d (x2 - x1))), .second, .unset, .unset] [(.double (FP.l2d y2))])) _
    refine XS.aloadN X4.here hx rfl (hb hby d5_15) rfl rfl ?_
    show Steps p.tables e below (T4.setTop (mkF m 16 #[.val (.ref p0), .val (.ref p1), .val (.double (FP.l2d p2)), .second, .val (.double (FP.l2d (x2 - x1))), .second, .unset, .unset] [(.ref p0), (.double (FP.l2d y2))])) _
    refine st5 _ ?_
    show Steps p.tables e below (T5.setTop (mkF m 19 #[.val (.ref p0), .val (.ref p1), .val (.double (FP.l2d p2)), .second, .val (.double (FP.l2d (x2 - x1))), .second, .unset, .unset] [(.double (FP.l2d y1)), (.double (FP.l2d y2))])) _
    refine XS.dsubS X5.here hx rfl (hb hby d5_19) rfl (nn_w fp6) fp6 ?_
    show Steps p.tables e below (T5.setTop (mkF m 20 #[.val (.ref p0), .val (.ref p1), .val (.double (FP.l2d p2)), .second, .val (.double (FP.l2d (x2 - x1))), .second, .unset, .unset] [(.double (FP.l2d (y2 - y1)))])) _
    refine XS.dstore X5.here hx rfl (hb hby d5_20) rfl (l' := #[.val (.ref p0), .val (.ref p1), .val (.double (FP.l2d p2)), .second, .val (.double (FP.l2d (x2 - x1))), .second, .val (.double (FP.l2d (y2 - y1))), .second]) rfl ?_
    show Steps p.tables e below (T5.setTop (mkF m 22 #[.val (.ref p0), .val (.ref p1), .val (.double (FP.l2d p2)), .second, .val (.double (FP.l2d (x2 - x1))), .second, .val (.double (FP.l2d (y2 - y1))), .second] [])) _
    refine XS.dload X5.here hx rfl (hb hby d5_22) rfl ?_
    show Steps p.tables e below (T5.setTop (mkF m 24 #[.val (.ref p0), .val (.ref p1), .val (.double (FP.l2d p2)), .second, .val (.double (FP.l2d (x2 - x1))), .second, .val (.double (FP.l2d (y2 - y1))), .second] [(.double (FP.l2d (x2 - x1)))])) _
    refine XS.dload X5.here hx rfl (hb hby d5_24) rfl ?_
    show Steps p.tables e below (T5.setTop (mkF m 26 #[.val (.ref p0), .val (.ref p1), .val (.double (FP.l2d p2)), .second, .val (.double (FP.l2d (x2 - x1))), .second, .val (.double (FP.l2d (y2 - y1))), .second] [(.double (FP.l2d (x2 - x1))), (.double (FP.l2d (x2 - x1)))])) _
    refine XS.dmulS X5.here hx rfl (hb hby d5_26) rfl (nn_w fp7) fp7 ?_
    show Steps p.tables e below (T5.setTop (mkF m 27 #[.val (.ref p0), .val (.ref p1), .val (.double (FP.l2d p2)), .second, .val (.double (FP.l2d (x2 - x1))), .second, .val (.double (FP.l2d (y2 - y1))), .second] [(.double (FP.l2d ((x2 - x1) * (x2 - x1))))])) _
    refine XS.dload X5.here hx rfl (hb hby d5_27) rfl ?_
    show Steps p.tables e below (T5.setTop (mkF m 29 #[.val (.ref p0), .val (.ref p1), .val (.double (FP.l2d p2)), .second, .val (.double (FP.l2d (x2 - x1))), .second, .val (.double (FP.l2d (y2 - y1))), .second] [(.double (FP.l2d (y2 - y1))), (.double (FP.l2d ((x2 - x1) * (x2 - x1))))])) _
    refine XS.dload X5.here hx rfl (hb hby d5_29) rfl ?_
    show Steps p.tables e below (T5.setTop (mkF m 31 #[.val (.ref p0), .val (.ref p1), .val (.double (FP.l2d p2)), .second, .val (.double (FP.l2d (x2 - x1))), .second, .val (.double (FP.l2d (y2 - y1))), .second] [(.double (FP.l2d (y2 - y1))), (.double (FP.l2d (y2 - y1))), (.double (FP.l2d ((x2 - x1) * (x2 - x1))))])) _
    refine XS.dmulS X5.here hx rfl (hb hby d5_31) rfl (nn_w fp8) fp8 ?_
    show Steps p.tables e below (T5.setTop (mkF m 32 #[.val (.ref p0), .val (.ref p1), .val (.double (FP.l2d p2)), .second, .val (.double (FP.l2d (x2 - x1))), .second, .val (.double (FP.l2d (y2 - y1))), .second] [(.double (FP.l2d ((y2 - y1) * (y2 - y1)))), (.double (FP.l2d ((x2 - x1) * (x2 - x1))))])) _
    refine XS.daddS X5.here hx rfl (hb hby d5_32) rfl (nn_w fp9) fp9 ?_
    show Steps p.tables e below (T5.setTop (mkF m 33 #[.val (.ref p0), .val (.ref p1), .val (.double (FP.l2d p2)), .second, .val (.double (FP.l2d (x2 - x1))), .second, .val (.double (FP.l2d (y2 - y1))), .second] [(.double (FP.l2d (((x2 - x1) * (x2 - x1)) + ((y2 - y1) * (y2 - y1)))))])) _
    refine XS.dloadN X5.here hx rfl (hb hby d5_33) rfl ?_
    show Steps p.tables e below (T5.setTop (mkF m 34 #[.val (.ref p0), .val (.ref p1), .val (.double (FP.l2d p2)), .second, .val (.double (FP.l2d (x2 - x1))), .second, .val (.double (FP.l2d (y2 - y1))), .second] [(.double (FP.l2d p2)), (.double (FP.l2d (((x2 - x1) * (x2 - x1)) + ((y2 - y1) * (y2 - y1)))))])) _
    refine XS.dloadN X5.here hx rfl (hb hby d5_34) rfl ?_
    show Steps p.tables e below (T5.setTop (mkF m 35 #[.val (.ref p0), .val (.ref p1), .val (.double (FP.l2d p2)), .second, .val (.double (FP.l2d (x2 - x1))), .second, .val (.double (FP.l2d (y2 - y1))), .second] [(.double (FP.l2d p2)), (.double (FP.l2d p2)), (.double (FP.l2d (((x2 - x1) * (x2 - x1)) + ((y2 - y1) * (y2 - y1)))))])) _
    refine XS.dmulS X5.here hx rfl (hb hby d5_35) rfl (nn_w fp10) fp10 ?_
    show Steps p.tables e below (T5.setTop (mkF m 36 #[.val (.ref p0), .val (.ref p1), .val (.double (FP.l2d p2)), .second, .val (.double (FP.l2d (x2 - x1))), .second, .val (.double (FP.l2d (y2 - y1))), .second] [(.double (FP.l2d (p2 * p2))), (.double (FP.l2d (((x2 - x1) * (x2 - x1)) + ((y2 - y1) * (y2 - y1)))))])) _
    refine XS.dcmpS X5.here hx rfl (hb hby d5_36) rfl fp11 ?_
    show Steps p.tables e below (T5.setTop (mkF m 37 #[.val (.ref p0), .val (.ref p1), .val (.double (FP.l2d p2)), .second, .val (.double (FP.l2d (x2 - x1))), .second, .val (.double (FP.l2d (y2 - y1))), .second] [(.int (XT.cmpL (((x2 - x1) * (x2 - x1)) + ((y2 - y1) * (y2 - y1))) (p2 * p2)))])) _
    exact k
  by_cases h37_12 : (0 : Int32) < (XT.cmpL (((x2 - x1) * (x2 - x1)) + ((y2 - y1) * (y2 - y1))) (p2 * p2))
  · have pre14 : ∀ t, Steps p.tables e below (T5.setTop (mkF m 45 #[.val (.ref p0), .val (.ref p1), .val (.double (FP.l2d p2)), .second, .val (.double (FP.l2d (x2 - x1))), .second, .val (.double (FP.l2d (y2 - y1))), .second] [(.int (0 : Int32))])) t → Steps p.tables e below (s₁.setTop (entryFrame m #[(.ref p0), (.ref p1), (.double (FP.l2d p2))] 8)) t := by
      intro t k
      refine pre13 t ?_
      refine XS.ifYes X5.here hx rfl (pc0 := 37) (pc' := 44) rfl (hb hby d5_37) rfl ((if0 _ _).trans (tlt h37_12).2.2.1) (by decide) (by decide) ?_
      show Steps p.tables e below (T5.setTop (mkF m 44 #[.val (.ref p0), .val (.ref p1), .val (.double (FP.l2d p2)), .second, .val (.double (FP.l2d (x2 - x1))), .second, .val (.double (FP.l2d (y2 - y1))), .second] [])) _
      refine XS.iconst X5.here hx rfl (hb hby d5_44) ?_
      show Steps p.tables e below (T5.setTop (mkF m 45 #[.val (.ref p0), .val (.ref p1), .val (.double (FP.l2d p2)), .second, .val (.double (FP.l2d (x2 - x1))), .second, .val (.double (FP.l2d (y2 - y1))), .second] [(.int (0 : Int32))])) _
      exact k
    obtain ⟨fs, hr, hrun, hended, hW, hsame⟩ := X5.leave (v := some (.int (nar .boolean (0 : Int32)))) (fun h => by rw [Bd.returns] at h; cases h)
    refine ⟨_, _, pre14 _ ?_, hrun, hended, _, _, rfl, ?_, ⟨_, rfl⟩, hW, hsame.mono (by decide) (by decide)⟩
    · exact retN X5 hx (t := .boolean) Bd.returns (by simp) (hb hby d5_45) hr
    · refine ⟨?_, N0, e5⟩
      rw [own_nar0]
      unfold fW
      rw [if_pos h37_12]
  · have pre15 : ∀ t, Steps p.tables e below (T5.setTop (mkF m 45 #[.val (.ref p0), .val (.ref p1), .val (.double (FP.l2d p2)), .second, .val (.double (FP.l2d (x2 - x1))), .second, .val (.double (FP.l2d (y2 - y1))), .second] [(.int (1 : Int32))])) t → Steps p.tables e below (s₁.setTop (entryFrame m #[(.ref p0), (.ref p1), (.double (FP.l2d p2))] 8)) t := by
      intro t k
      refine pre13 t ?_
      refine XS.ifNo X5.here hx rfl (hb hby d5_37) rfl ((if0 _ _).trans (flt h37_12).2.2.1) ?_
      show Steps p.tables e below (T5.setTop (mkF m 40 #[.val (.ref p0), .val (.ref p1), .val (.double (FP.l2d p2)), .second, .val (.double (FP.l2d (x2 - x1))), .second, .val (.double (FP.l2d (y2 - y1))), .second] [])) _
      refine XS.iconst X5.here hx rfl (hb hby d5_40) ?_
      show Steps p.tables e below (T5.setTop (mkF m 41 #[.val (.ref p0), .val (.ref p1), .val (.double (FP.l2d p2)), .second, .val (.double (FP.l2d (x2 - x1))), .second, .val (.double (FP.l2d (y2 - y1))), .second] [(.int (1 : Int32))])) _
      refine XS.goto X5.here hx rfl (pc0 := 41) (pc' := 45) rfl (hb hby d5_41) (by decide) (by decide) ?_
      show Steps p.tables e below (T5.setTop (mkF m 45 #[.val (.ref p0), .val (.ref p1), .val (.double (FP.l2d p2)), .second, .val (.double (FP.l2d (x2 - x1))), .second, .val (.double (FP.l2d (y2 - y1))), .second] [(.int (1 : Int32))])) _
      exact k
    obtain ⟨fs, hr, hrun, hended, hW, hsame⟩ := X5.leave (v := some (.int (nar .boolean (1 : Int32)))) (fun h => by rw [Bd.returns] at h; cases h)
    refine ⟨_, _, pre15 _ ?_, hrun, hended, _, _, rfl, ?_, ⟨_, rfl⟩, hW, hsame.mono (by decide) (by decide)⟩
    · exact retN X5 hx (t := .boolean) Bd.returns (by simp) (hb hby d5_45) hr
    · refine ⟨?_, N0, e5⟩
      rw [own_nar1]
      unfold fW
      rw [if_neg h37_12]
theorem pn_0 : plainName "com/example/rumblecourt/rumblecourt/games/hungergaming/CreatureWithinPinLaw" = true := by first | (simp [plainName, overriddenIn]; done) | decide +kernel
theorem ef_0 (m : MethodId) (p1 : Int32) (p2 : Int32) (p3 : Int32) (p4 : Int32) (p5 : Int32) (p6 : Int32) : entryFrame m #[(.int p1), (.int p2), (.int p3), (.int p4), (.int p5), (.int p6)] maxLocals = mkF m 0 #[.val (.int p1), .val (.int p2), .val (.int p3), .val (.int p4), .val (.int p5), .val (.int p6), .unset, .unset, .unset, .unset, .unset, .unset, .unset, .unset, .unset, .unset, .unset, .unset, .unset, .unset, .unset, .unset, .unset, .unset, .unset, .unset, .unset] [] := by first | (simp [entryFrame, mkF, argsToLocals, Value.category, maxLocals]; done) | rfl
theorem pd_0_0 : parseMethodDescriptor "(IDD)V" = some ⟨[.int, .double, .double], none⟩ := by decide +kernel
theorem pd_0_1 : parseMethodDescriptor "(Lcom/example/rumblecourt/rumblecourt/games/hungergaming/Creature;D)Z" = some ⟨[(.object "com/example/rumblecourt/rumblecourt/games/hungergaming/Creature"), .double], some .boolean⟩ := by decide +kernel
theorem pd_0_2 : parseMethodDescriptor "(J)J" = some ⟨[.long], some .long⟩ := by decide +kernel
def Q0 (n0 : Nat) (v : Option Value) (L : List Loc) : Prop := v = some (.int 1) ∧ Fr n0 L
set_option maxRecDepth 65536 in
set_option maxHeartbeats 40000000 in
theorem rm0 (l : Launch) (Z : State) (a0 : Array Value) (hw : ∀ d ∈ tables_1, d.before a0 Z = true) (ws : List Jvm.Cond) (p1 : Int32) (p2 : Int32) (p3 : Int32) (p4 : Int32) (p5 : Int32) (p6 : Int32) (h0 : Heap) (n0 : Nat) (Z0 : n0 ≤ h0.size) :
    MetFree l x (head1 (Jvm.Cond.code x code maxLocals ret :: ws) room_1) (fun a U => a = #[(.int p1), (.int p2), (.int p3), (.int p4), (.int p5), (.int p6)] ∧ Z.Warmed39 U.vm ∧ U.heap = h0) (fun _ _ _ _ _ => True) (fun _ U o U' => ∃ v L, o = .returned v ∧ Q0 n0 v L ∧ FrameEnd U o U' L room_1.cells room_1.slots) := by
  refine MetFree.of_bodySF (plainFor_of_name pn_0) hisR ?_
  intro p e s m args below meth c s₁ Bd hml0 hP hK
  obtain ⟨rfl, hZ, hh⟩ := hP
  have hx := Bd.exec
  have hby := Bd.bytes
  have hml : c.maxLocals = 27 := hml0
  have hown : s.vm.findClass "com/example/rumblecourt/rumblecourt/games/hungergaming/CreatureWithinPinLaw" = some m.cls := findClass_of_methodNamed Bd.named
  have hnm := (name_of_methodNamed Bd.named Bd.method).1
  have X0 : Stand p l e room_1 s m #[(.int p1), (.int p2), (.int p3), (.int p4), (.int p5), (.int p6)] below meth c s₁ [] 0 0 := Stand.of_body Bd
  have e0 : s₁.heap = h0 := by rw [← hh, Bd.state]; rfl
  have N0 := Fr.nil n0
  have pre0 : ∀ t, Steps p.tables e below (s₁.setTop (mkF m 0 #[.val (.int p1), .val (.int p2), .val (.int p3), .val (.int p4), .val (.int p5), .val (.int p6), .unset, .unset, .unset, .unset, .unset, .unset, .unset, .unset, .unset, .unset, .unset, .unset, .unset, .unset, .unset, .unset, .unset, .unset, .unset, .unset, .unset] [])) t → Steps p.tables e below (s₁.setTop (entryFrame m #[(.int p1), (.int p2), (.int p3), (.int p4), (.int p5), (.int p6)] maxLocals)) t := fun t k => castTop (ef_0 m p1 p2 p3 p4 p5 p6) k
  have pre1 : ∀ t, Steps p.tables e below (s₁.setTop (mkF m 28 #[.val (.int p1), .val (.int p2), .val (.int p3), .val (.int p4), .val (.int p5), .val (.int p6), .val (.long (((p1 >>> ((11 : Int32) &&& 31))).toInt64)), .second, .val (.long (((p2 >>> ((11 : Int32) &&& 31))).toInt64)), .second, .val (.long (((p3 >>> ((11 : Int32) &&& 31))).toInt64)), .second, .val (.long (((p4 >>> ((11 : Int32) &&& 31))).toInt64)), .second, .unset, .unset, .unset, .unset, .unset, .unset, .unset, .unset, .unset, .unset, .unset, .unset, .unset] [])) t → Steps p.tables e below (s₁.setTop (entryFrame m #[(.int p1), (.int p2), (.int p3), (.int p4), (.int p5), (.int p6)] maxLocals)) t := by
    intro t k
    refine pre0 t ?_
    show Steps p.tables e below (s₁.setTop (mkF m 0 #[.val (.int p1), .val (.int p2), .val (.int p3), .val (.int p4), .val (.int p5), .val (.int p6), .unset, .unset, .unset, .unset, .unset, .unset, .unset, .unset, .unset, .unset, .unset, .unset, .unset, .unset, .unset, .unset, .unset, .unset, .unset, .unset, .unset] [])) _
    refine XS.iloadN X0.here hx rfl (hb hby at_0) rfl ?_
    show Steps p.tables e below (s₁.setTop (mkF m 1 #[.val (.int p1), .val (.int p2), .val (.int p3), .val (.int p4), .val (.int p5), .val (.int p6), .unset, .unset, .unset, .unset, .unset, .unset, .unset, .unset, .unset, .unset, .unset, .unset, .unset, .unset, .unset, .unset, .unset, .unset, .unset, .unset, .unset] [(.int p1)])) _
    refine XS.bipush X0.here hx rfl (hb hby at_1) ?_
    show Steps p.tables e below (s₁.setTop (mkF m 3 #[.val (.int p1), .val (.int p2), .val (.int p3), .val (.int p4), .val (.int p5), .val (.int p6), .unset, .unset, .unset, .unset, .unset, .unset, .unset, .unset, .unset, .unset, .unset, .unset, .unset, .unset, .unset, .unset, .unset, .unset, .unset, .unset, .unset] [(.int (11 : Int32)), (.int p1)])) _
    refine XT.ishr X0.here hx rfl (hb hby at_3) rfl ?_
    show Steps p.tables e below (s₁.setTop (mkF m 4 #[.val (.int p1), .val (.int p2), .val (.int p3), .val (.int p4), .val (.int p5), .val (.int p6), .unset, .unset, .unset, .unset, .unset, .unset, .unset, .unset, .unset, .unset, .unset, .unset, .unset, .unset, .unset, .unset, .unset, .unset, .unset, .unset, .unset] [(.int (p1 >>> ((11 : Int32) &&& 31)))])) _
    refine XT.i2l X0.here hx rfl (hb hby at_4) rfl ?_
    show Steps p.tables e below (s₁.setTop (mkF m 5 #[.val (.int p1), .val (.int p2), .val (.int p3), .val (.int p4), .val (.int p5), .val (.int p6), .unset, .unset, .unset, .unset, .unset, .unset, .unset, .unset, .unset, .unset, .unset, .unset, .unset, .unset, .unset, .unset, .unset, .unset, .unset, .unset, .unset] [(.long (((p1 >>> ((11 : Int32) &&& 31))).toInt64))])) _
    refine XT.lstore X0.here hx rfl (hb hby at_5) rfl (l' := #[.val (.int p1), .val (.int p2), .val (.int p3), .val (.int p4), .val (.int p5), .val (.int p6), .val (.long (((p1 >>> ((11 : Int32) &&& 31))).toInt64)), .second, .unset, .unset, .unset, .unset, .unset, .unset, .unset, .unset, .unset, .unset, .unset, .unset, .unset, .unset, .unset, .unset, .unset, .unset, .unset]) rfl ?_
    show Steps p.tables e below (s₁.setTop (mkF m 7 #[.val (.int p1), .val (.int p2), .val (.int p3), .val (.int p4), .val (.int p5), .val (.int p6), .val (.long (((p1 >>> ((11 : Int32) &&& 31))).toInt64)), .second, .unset, .unset, .unset, .unset, .unset, .unset, .unset, .unset, .unset, .unset, .unset, .unset, .unset, .unset, .unset, .unset, .unset, .unset, .unset] [])) _
    refine XS.iloadN X0.here hx rfl (hb hby at_7) rfl ?_
    show Steps p.tables e below (s₁.setTop (mkF m 8 #[.val (.int p1), .val (.int p2), .val (.int p3), .val (.int p4), .val (.int p5), .val (.int p6), .val (.long (((p1 >>> ((11 : Int32) &&& 31))).toInt64)), .second, .unset, .unset, .unset, .unset, .unset, .unset, .unset, .unset, .unset, .unset, .unset, .unset, .unset, .unset, .unset, .unset, .unset, .unset, .unset] [(.int p2)])) _
    refine XS.bipush X0.here hx rfl (hb hby at_8) ?_
    show Steps p.tables e below (s₁.setTop (mkF m 10 #[.val (.int p1), .val (.int p2), .val (.int p3), .val (.int p4), .val (.int p5), .val (.int p6), .val (.long (((p1 >>> ((11 : Int32) &&& 31))).toInt64)), .second, .unset, .unset, .unset, .unset, .unset, .unset, .unset, .unset, .unset, .unset, .unset, .unset, .unset, .unset, .unset, .unset, .unset, .unset, .unset] [(.int (11 : Int32)), (.int p2)])) _
    refine XT.ishr X0.here hx rfl (hb hby at_10) rfl ?_
    show Steps p.tables e below (s₁.setTop (mkF m 11 #[.val (.int p1), .val (.int p2), .val (.int p3), .val (.int p4), .val (.int p5), .val (.int p6), .val (.long (((p1 >>> ((11 : Int32) &&& 31))).toInt64)), .second, .unset, .unset, .unset, .unset, .unset, .unset, .unset, .unset, .unset, .unset, .unset, .unset, .unset, .unset, .unset, .unset, .unset, .unset, .unset] [(.int (p2 >>> ((11 : Int32) &&& 31)))])) _
    refine XT.i2l X0.here hx rfl (hb hby at_11) rfl ?_
    show Steps p.tables e below (s₁.setTop (mkF m 12 #[.val (.int p1), .val (.int p2), .val (.int p3), .val (.int p4), .val (.int p5), .val (.int p6), .val (.long (((p1 >>> ((11 : Int32) &&& 31))).toInt64)), .second, .unset, .unset, .unset, .unset, .unset, .unset, .unset, .unset, .unset, .unset, .unset, .unset, .unset, .unset, .unset, .unset, .unset, .unset, .unset] [(.long (((p2 >>> ((11 : Int32) &&& 31))).toInt64))])) _
    refine XT.lstore X0.here hx rfl (hb hby at_12) rfl (l' := #[.val (.int p1), .val (.int p2), .val (.int p3), .val (.int p4), .val (.int p5), .val (.int p6), .val (.long (((p1 >>> ((11 : Int32) &&& 31))).toInt64)), .second, .val (.long (((p2 >>> ((11 : Int32) &&& 31))).toInt64)), .second, .unset, .unset, .unset, .unset, .unset, .unset, .unset, .unset, .unset, .unset, .unset, .unset, .unset, .unset, .unset, .unset, .unset]) rfl ?_
    show Steps p.tables e below (s₁.setTop (mkF m 14 #[.val (.int p1), .val (.int p2), .val (.int p3), .val (.int p4), .val (.int p5), .val (.int p6), .val (.long (((p1 >>> ((11 : Int32) &&& 31))).toInt64)), .second, .val (.long (((p2 >>> ((11 : Int32) &&& 31))).toInt64)), .second, .unset, .unset, .unset, .unset, .unset, .unset, .unset, .unset, .unset, .unset, .unset, .unset, .unset, .unset, .unset, .unset, .unset] [])) _
    refine XS.iloadN X0.here hx rfl (hb hby at_14) rfl ?_
    show Steps p.tables e below (s₁.setTop (mkF m 15 #[.val (.int p1), .val (.int p2), .val (.int p3), .val (.int p4), .val (.int p5), .val (.int p6), .val (.long (((p1 >>> ((11 : Int32) &&& 31))).toInt64)), .second, .val (.long (((p2 >>> ((11 : Int32) &&& 31))).toInt64)), .second, .unset, .unset, .unset, .unset, .unset, .unset, .unset, .unset, .unset, .unset, .unset, .unset, .unset, .unset, .unset, .unset, .unset] [(.int p3)])) _
    refine XS.bipush X0.here hx rfl (hb hby at_15) ?_
    show Steps p.tables e below (s₁.setTop (mkF m 17 #[.val (.int p1), .val (.int p2), .val (.int p3), .val (.int p4), .val (.int p5), .val (.int p6), .val (.long (((p1 >>> ((11 : Int32) &&& 31))).toInt64)), .second, .val (.long (((p2 >>> ((11 : Int32) &&& 31))).toInt64)), .second, .unset, .unset, .unset, .unset, .unset, .unset, .unset, .unset, .unset, .unset, .unset, .unset, .unset, .unset, .unset, .unset, .unset] [(.int (11 : Int32)), (.int p3)])) _
    refine XT.ishr X0.here hx rfl (hb hby at_17) rfl ?_
    show Steps p.tables e below (s₁.setTop (mkF m 18 #[.val (.int p1), .val (.int p2), .val (.int p3), .val (.int p4), .val (.int p5), .val (.int p6), .val (.long (((p1 >>> ((11 : Int32) &&& 31))).toInt64)), .second, .val (.long (((p2 >>> ((11 : Int32) &&& 31))).toInt64)), .second, .unset, .unset, .unset, .unset, .unset, .unset, .unset, .unset, .unset, .unset, .unset, .unset, .unset, .unset, .unset, .unset, .unset] [(.int (p3 >>> ((11 : Int32) &&& 31)))])) _
    refine XT.i2l X0.here hx rfl (hb hby at_18) rfl ?_
    show Steps p.tables e below (s₁.setTop (mkF m 19 #[.val (.int p1), .val (.int p2), .val (.int p3), .val (.int p4), .val (.int p5), .val (.int p6), .val (.long (((p1 >>> ((11 : Int32) &&& 31))).toInt64)), .second, .val (.long (((p2 >>> ((11 : Int32) &&& 31))).toInt64)), .second, .unset, .unset, .unset, .unset, .unset, .unset, .unset, .unset, .unset, .unset, .unset, .unset, .unset, .unset, .unset, .unset, .unset] [(.long (((p3 >>> ((11 : Int32) &&& 31))).toInt64))])) _
    refine XT.lstore X0.here hx rfl (hb hby at_19) rfl (l' := #[.val (.int p1), .val (.int p2), .val (.int p3), .val (.int p4), .val (.int p5), .val (.int p6), .val (.long (((p1 >>> ((11 : Int32) &&& 31))).toInt64)), .second, .val (.long (((p2 >>> ((11 : Int32) &&& 31))).toInt64)), .second, .val (.long (((p3 >>> ((11 : Int32) &&& 31))).toInt64)), .second, .unset, .unset, .unset, .unset, .unset, .unset, .unset, .unset, .unset, .unset, .unset, .unset, .unset, .unset, .unset]) rfl ?_
    show Steps p.tables e below (s₁.setTop (mkF m 21 #[.val (.int p1), .val (.int p2), .val (.int p3), .val (.int p4), .val (.int p5), .val (.int p6), .val (.long (((p1 >>> ((11 : Int32) &&& 31))).toInt64)), .second, .val (.long (((p2 >>> ((11 : Int32) &&& 31))).toInt64)), .second, .val (.long (((p3 >>> ((11 : Int32) &&& 31))).toInt64)), .second, .unset, .unset, .unset, .unset, .unset, .unset, .unset, .unset, .unset, .unset, .unset, .unset, .unset, .unset, .unset] [])) _
    refine XS.iloadN X0.here hx rfl (hb hby at_21) rfl ?_
    show Steps p.tables e below (s₁.setTop (mkF m 22 #[.val (.int p1), .val (.int p2), .val (.int p3), .val (.int p4), .val (.int p5), .val (.int p6), .val (.long (((p1 >>> ((11 : Int32) &&& 31))).toInt64)), .second, .val (.long (((p2 >>> ((11 : Int32) &&& 31))).toInt64)), .second, .val (.long (((p3 >>> ((11 : Int32) &&& 31))).toInt64)), .second, .unset, .unset, .unset, .unset, .unset, .unset, .unset, .unset, .unset, .unset, .unset, .unset, .unset, .unset, .unset] [(.int p4)])) _
    refine XS.bipush X0.here hx rfl (hb hby at_22) ?_
    show Steps p.tables e below (s₁.setTop (mkF m 24 #[.val (.int p1), .val (.int p2), .val (.int p3), .val (.int p4), .val (.int p5), .val (.int p6), .val (.long (((p1 >>> ((11 : Int32) &&& 31))).toInt64)), .second, .val (.long (((p2 >>> ((11 : Int32) &&& 31))).toInt64)), .second, .val (.long (((p3 >>> ((11 : Int32) &&& 31))).toInt64)), .second, .unset, .unset, .unset, .unset, .unset, .unset, .unset, .unset, .unset, .unset, .unset, .unset, .unset, .unset, .unset] [(.int (11 : Int32)), (.int p4)])) _
    refine XT.ishr X0.here hx rfl (hb hby at_24) rfl ?_
    show Steps p.tables e below (s₁.setTop (mkF m 25 #[.val (.int p1), .val (.int p2), .val (.int p3), .val (.int p4), .val (.int p5), .val (.int p6), .val (.long (((p1 >>> ((11 : Int32) &&& 31))).toInt64)), .second, .val (.long (((p2 >>> ((11 : Int32) &&& 31))).toInt64)), .second, .val (.long (((p3 >>> ((11 : Int32) &&& 31))).toInt64)), .second, .unset, .unset, .unset, .unset, .unset, .unset, .unset, .unset, .unset, .unset, .unset, .unset, .unset, .unset, .unset] [(.int (p4 >>> ((11 : Int32) &&& 31)))])) _
    refine XT.i2l X0.here hx rfl (hb hby at_25) rfl ?_
    show Steps p.tables e below (s₁.setTop (mkF m 26 #[.val (.int p1), .val (.int p2), .val (.int p3), .val (.int p4), .val (.int p5), .val (.int p6), .val (.long (((p1 >>> ((11 : Int32) &&& 31))).toInt64)), .second, .val (.long (((p2 >>> ((11 : Int32) &&& 31))).toInt64)), .second, .val (.long (((p3 >>> ((11 : Int32) &&& 31))).toInt64)), .second, .unset, .unset, .unset, .unset, .unset, .unset, .unset, .unset, .unset, .unset, .unset, .unset, .unset, .unset, .unset] [(.long (((p4 >>> ((11 : Int32) &&& 31))).toInt64))])) _
    refine XT.lstore X0.here hx rfl (hb hby at_26) rfl (l' := #[.val (.int p1), .val (.int p2), .val (.int p3), .val (.int p4), .val (.int p5), .val (.int p6), .val (.long (((p1 >>> ((11 : Int32) &&& 31))).toInt64)), .second, .val (.long (((p2 >>> ((11 : Int32) &&& 31))).toInt64)), .second, .val (.long (((p3 >>> ((11 : Int32) &&& 31))).toInt64)), .second, .val (.long (((p4 >>> ((11 : Int32) &&& 31))).toInt64)), .second, .unset, .unset, .unset, .unset, .unset, .unset, .unset, .unset, .unset, .unset, .unset, .unset, .unset]) rfl ?_
    show Steps p.tables e below (s₁.setTop (mkF m 28 #[.val (.int p1), .val (.int p2), .val (.int p3), .val (.int p4), .val (.int p5), .val (.int p6), .val (.long (((p1 >>> ((11 : Int32) &&& 31))).toInt64)), .second, .val (.long (((p2 >>> ((11 : Int32) &&& 31))).toInt64)), .second, .val (.long (((p3 >>> ((11 : Int32) &&& 31))).toInt64)), .second, .val (.long (((p4 >>> ((11 : Int32) &&& 31))).toInt64)), .second, .unset, .unset, .unset, .unset, .unset, .unset, .unset, .unset, .unset, .unset, .unset, .unset, .unset] [])) _
    exact k
  obtain ⟨x1, hx1⟩ : ∃ z, z = (((p1 >>> ((11 : Int32) &&& 31))).toInt64) := ⟨_, rfl⟩
  have bx1 : own_R 1048576 x1 := by rw [hx1]; exact own_sh _
  rw [← hx1] at pre1
  obtain ⟨y1, hy1⟩ : ∃ z, z = (((p2 >>> ((11 : Int32) &&& 31))).toInt64) := ⟨_, rfl⟩
  have by1 : own_R 1048576 y1 := by rw [hy1]; exact own_sh _
  rw [← hy1] at pre1
  obtain ⟨x2, hx2⟩ : ∃ z, z = (((p3 >>> ((11 : Int32) &&& 31))).toInt64) := ⟨_, rfl⟩
  have bx2 : own_R 1048576 x2 := by rw [hx2]; exact own_sh _
  rw [← hx2] at pre1
  obtain ⟨y2, hy2⟩ : ∃ z, z = (((p4 >>> ((11 : Int32) &&& 31))).toInt64) := ⟨_, rfl⟩
  have by2 : own_R 1048576 y2 := by rw [hy2]; exact own_sh _
  rw [← hy2] at pre1
  have pre3 : ∀ t, Steps p.tables e below (s₁.setTop (mkF m 40 #[.val (.int p1), .val (.int p2), .val (.int p3), .val (.int p4), .val (.int p5), .val (.int p6), .val (.long x1), .second, .val (.long y1), .second, .val (.long x2), .second, .val (.long y2), .second, .val (.long (((p5 &&& (2097151 : Int32))).toInt64)), .second, .unset, .unset, .unset, .unset, .unset, .unset, .unset, .unset, .unset, .unset, .unset] [(.int (p6 &&& (1 : Int32)))])) t → Steps p.tables e below (s₁.setTop (entryFrame m #[(.int p1), (.int p2), (.int p3), (.int p4), (.int p5), (.int p6)] maxLocals)) t := by
    intro t k
    refine pre1 t ?_
    show Steps p.tables e below (s₁.setTop (mkF m 28 #[.val (.int p1), .val (.int p2), .val (.int p3), .val (.int p4), .val (.int p5), .val (.int p6), .val (.long x1), .second, .val (.long y1), .second, .val (.long x2), .second, .val (.long y2), .second, .unset, .unset, .unset, .unset, .unset, .unset, .unset, .unset, .unset, .unset, .unset, .unset, .unset] [])) _
    refine XS.iload X0.here hx rfl (hb hby at_28) rfl ?_
    show Steps p.tables e below (s₁.setTop (mkF m 30 #[.val (.int p1), .val (.int p2), .val (.int p3), .val (.int p4), .val (.int p5), .val (.int p6), .val (.long x1), .second, .val (.long y1), .second, .val (.long x2), .second, .val (.long y2), .second, .unset, .unset, .unset, .unset, .unset, .unset, .unset, .unset, .unset, .unset, .unset, .unset, .unset] [(.int p5)])) _
    refine X0.ldcInt hx hown (mvT hZ (hw _ (List.mem_of_getElem? (i := 0) rfl))) (g := (mkF m 30 #[.val (.int p1), .val (.int p2), .val (.int p3), .val (.int p4), .val (.int p5), .val (.int p6), .val (.long x1), .second, .val (.long y1), .second, .val (.long x2), .second, .val (.long y2), .second, .unset, .unset, .unset, .unset, .unset, .unset, .unset, .unset, .unset, .unset, .unset, .unset, .unset] [(.int p5)])) rfl (hb hby at_30) _ ?_
    show Steps p.tables e below (s₁.setTop (mkF m 32 #[.val (.int p1), .val (.int p2), .val (.int p3), .val (.int p4), .val (.int p5), .val (.int p6), .val (.long x1), .second, .val (.long y1), .second, .val (.long x2), .second, .val (.long y2), .second, .unset, .unset, .unset, .unset, .unset, .unset, .unset, .unset, .unset, .unset, .unset, .unset, .unset] [(.int (2097151 : Int32)), (.int p5)])) _
    refine XS.iand X0.here hx rfl (hb hby at_32) rfl ?_
    show Steps p.tables e below (s₁.setTop (mkF m 33 #[.val (.int p1), .val (.int p2), .val (.int p3), .val (.int p4), .val (.int p5), .val (.int p6), .val (.long x1), .second, .val (.long y1), .second, .val (.long x2), .second, .val (.long y2), .second, .unset, .unset, .unset, .unset, .unset, .unset, .unset, .unset, .unset, .unset, .unset, .unset, .unset] [(.int (p5 &&& (2097151 : Int32)))])) _
    refine XT.i2l X0.here hx rfl (hb hby at_33) rfl ?_
    show Steps p.tables e below (s₁.setTop (mkF m 34 #[.val (.int p1), .val (.int p2), .val (.int p3), .val (.int p4), .val (.int p5), .val (.int p6), .val (.long x1), .second, .val (.long y1), .second, .val (.long x2), .second, .val (.long y2), .second, .unset, .unset, .unset, .unset, .unset, .unset, .unset, .unset, .unset, .unset, .unset, .unset, .unset] [(.long (((p5 &&& (2097151 : Int32))).toInt64))])) _
    refine XT.lstore X0.here hx rfl (hb hby at_34) rfl (l' := #[.val (.int p1), .val (.int p2), .val (.int p3), .val (.int p4), .val (.int p5), .val (.int p6), .val (.long x1), .second, .val (.long y1), .second, .val (.long x2), .second, .val (.long y2), .second, .val (.long (((p5 &&& (2097151 : Int32))).toInt64)), .second, .unset, .unset, .unset, .unset, .unset, .unset, .unset, .unset, .unset, .unset, .unset]) rfl ?_
    show Steps p.tables e below (s₁.setTop (mkF m 36 #[.val (.int p1), .val (.int p2), .val (.int p3), .val (.int p4), .val (.int p5), .val (.int p6), .val (.long x1), .second, .val (.long y1), .second, .val (.long x2), .second, .val (.long y2), .second, .val (.long (((p5 &&& (2097151 : Int32))).toInt64)), .second, .unset, .unset, .unset, .unset, .unset, .unset, .unset, .unset, .unset, .unset, .unset] [])) _
    refine XS.iload X0.here hx rfl (hb hby at_36) rfl ?_
    show Steps p.tables e below (s₁.setTop (mkF m 38 #[.val (.int p1), .val (.int p2), .val (.int p3), .val (.int p4), .val (.int p5), .val (.int p6), .val (.long x1), .second, .val (.long y1), .second, .val (.long x2), .second, .val (.long y2), .second, .val (.long (((p5 &&& (2097151 : Int32))).toInt64)), .second, .unset, .unset, .unset, .unset, .unset, .unset, .unset, .unset, .unset, .unset, .unset] [(.int p6)])) _
    refine XS.iconst X0.here hx rfl (hb hby at_38) ?_
    show Steps p.tables e below (s₁.setTop (mkF m 39 #[.val (.int p1), .val (.int p2), .val (.int p3), .val (.int p4), .val (.int p5), .val (.int p6), .val (.long x1), .second, .val (.long y1), .second, .val (.long x2), .second, .val (.long y2), .second, .val (.long (((p5 &&& (2097151 : Int32))).toInt64)), .second, .unset, .unset, .unset, .unset, .unset, .unset, .unset, .unset, .unset, .unset, .unset] [(.int (1 : Int32)), (.int p6)])) _
    refine XS.iand X0.here hx rfl (hb hby at_39) rfl ?_
    show Steps p.tables e below (s₁.setTop (mkF m 40 #[.val (.int p1), .val (.int p2), .val (.int p3), .val (.int p4), .val (.int p5), .val (.int p6), .val (.long x1), .second, .val (.long y1), .second, .val (.long x2), .second, .val (.long y2), .second, .val (.long (((p5 &&& (2097151 : Int32))).toInt64)), .second, .unset, .unset, .unset, .unset, .unset, .unset, .unset, .unset, .unset, .unset, .unset] [(.int (p6 &&& (1 : Int32)))])) _
    exact k
  by_cases h40_2 : (p6 &&& (1 : Int32)) = (0 : Int32)
  · have pre4 : ∀ t, Steps p.tables e below (s₁.setTop (mkF m 81 #[.val (.int p1), .val (.int p2), .val (.int p3), .val (.int p4), .val (.int p5), .val (.int p6), .val (.long x1), .second, .val (.long y1), .second, .val (.long x2), .second, .val (.long y2), .second, .val (.long (((p5 &&& (2097151 : Int32))).toInt64)), .second, .unset, .unset, .unset, .unset, .unset, .unset, .unset, .unset, .unset, .unset, .unset] [])) t → Steps p.tables e below (s₁.setTop (entryFrame m #[(.int p1), (.int p2), (.int p3), (.int p4), (.int p5), (.int p6)] maxLocals)) t := by
      intro t k
      refine pre3 t ?_
      refine XS.ifYes X0.here hx rfl (pc0 := 40) (pc' := 81) rfl (hb hby at_40) rfl ((if0 _ _).trans (teq h40_2).1) (by decide) (by decide) ?_
      show Steps p.tables e below (s₁.setTop (mkF m 81 #[.val (.int p1), .val (.int p2), .val (.int p3), .val (.int p4), .val (.int p5), .val (.int p6), .val (.long x1), .second, .val (.long y1), .second, .val (.long x2), .second, .val (.long y2), .second, .val (.long (((p5 &&& (2097151 : Int32))).toInt64)), .second, .unset, .unset, .unset, .unset, .unset, .unset, .unset, .unset, .unset, .unset, .unset] [])) _
      exact k
    obtain ⟨dd, hdd⟩ : ∃ z, z = (((p5 &&& (2097151 : Int32))).toInt64) := ⟨_, rfl⟩
    have bdd : own_R 2097153 dd := by rw [hdd]; exact own_d0 _
    rw [← hdd] at pre4
    have pre6 : ∀ t, Steps p.tables e below (s₁.setTop (mkF m 112 #[.val (.int p1), .val (.int p2), .val (.int p3), .val (.int p4), .val (.int p5), .val (.int p6), .val (.long x1), .second, .val (.long y1), .second, .val (.long x2), .second, .val (.long y2), .second, .val (.long dd), .second, .val (.long (x2 - x1)), .second, .val (.long (y2 - y1)), .second, .unset, .unset, .unset, .unset, .unset, .unset, .unset] [(.int (XT.cmpL (((x2 - x1) * (x2 - x1)) + ((y2 - y1) * (y2 - y1))) (dd * dd)))])) t → Steps p.tables e below (s₁.setTop (entryFrame m #[(.int p1), (.int p2), (.int p3), (.int p4), (.int p5), (.int p6)] maxLocals)) t := by
      intro t k
      refine pre4 t ?_
      show Steps p.tables e below (s₁.setTop (mkF m 81 #[.val (.int p1), .val (.int p2), .val (.int p3), .val (.int p4), .val (.int p5), .val (.int p6), .val (.long x1), .second, .val (.long y1), .second, .val (.long x2), .second, .val (.long y2), .second, .val (.long dd), .second, .unset, .unset, .unset, .unset, .unset, .unset, .unset, .unset, .unset, .unset, .unset] [])) _
      refine XT.lload X0.here hx rfl (hb hby at_81) rfl ?_
      show Steps p.tables e below (s₁.setTop (mkF m 83 #[.val (.int p1), .val (.int p2), .val (.int p3), .val (.int p4), .val (.int p5), .val (.int p6), .val (.long x1), .second, .val (.long y1), .second, .val (.long x2), .second, .val (.long y2), .second, .val (.long dd), .second, .unset, .unset, .unset, .unset, .unset, .unset, .unset, .unset, .unset, .unset, .unset] [(.long x2)])) _
      refine XT.lload X0.here hx rfl (hb hby at_83) rfl ?_
      show Steps p.tables e below (s₁.setTop (mkF m 85 #[.val (.int p1), .val (.int p2), .val (.int p3), .val (.int p4), .val (.int p5), .val (.int p6), .val (.long x1), .second, .val (.long y1), .second, .val (.long x2), .second, .val (.long y2), .second, .val (.long dd), .second, .unset, .unset, .unset, .unset, .unset, .unset, .unset, .unset, .unset, .unset, .unset] [(.long x1), (.long x2)])) _
      refine XT.lsub X0.here hx rfl (hb hby at_85) rfl ?_
      show Steps p.tables e below (s₁.setTop (mkF m 86 #[.val (.int p1), .val (.int p2), .val (.int p3), .val (.int p4), .val (.int p5), .val (.int p6), .val (.long x1), .second, .val (.long y1), .second, .val (.long x2), .second, .val (.long y2), .second, .val (.long dd), .second, .unset, .unset, .unset, .unset, .unset, .unset, .unset, .unset, .unset, .unset, .unset] [(.long (x2 - x1))])) _
      refine XT.lstore X0.here hx rfl (hb hby at_86) rfl (l' := #[.val (.int p1), .val (.int p2), .val (.int p3), .val (.int p4), .val (.int p5), .val (.int p6), .val (.long x1), .second, .val (.long y1), .second, .val (.long x2), .second, .val (.long y2), .second, .val (.long dd), .second, .val (.long (x2 - x1)), .second, .unset, .unset, .unset, .unset, .unset, .unset, .unset, .unset, .unset]) rfl ?_
      show Steps p.tables e below (s₁.setTop (mkF m 88 #[.val (.int p1), .val (.int p2), .val (.int p3), .val (.int p4), .val (.int p5), .val (.int p6), .val (.long x1), .second, .val (.long y1), .second, .val (.long x2), .second, .val (.long y2), .second, .val (.long dd), .second, .val (.long (x2 - x1)), .second, .unset, .unset, .unset, .unset, .unset, .unset, .unset, .unset, .unset] [])) _
      refine XT.lload X0.here hx rfl (hb hby at_88) rfl ?_
      show Steps p.tables e below (s₁.setTop (mkF m 90 #[.val (.int p1), .val (.int p2), .val (.int p3), .val (.int p4), .val (.int p5), .val (.int p6), .val (.long x1), .second, .val (.long y1), .second, .val (.long x2), .second, .val (.long y2), .second, .val (.long dd), .second, .val (.long (x2 - x1)), .second, .unset, .unset, .unset, .unset, .unset, .unset, .unset, .unset, .unset] [(.long y2)])) _
      refine XT.lload X0.here hx rfl (hb hby at_90) rfl ?_
      show Steps p.tables e below (s₁.setTop (mkF m 92 #[.val (.int p1), .val (.int p2), .val (.int p3), .val (.int p4), .val (.int p5), .val (.int p6), .val (.long x1), .second, .val (.long y1), .second, .val (.long x2), .second, .val (.long y2), .second, .val (.long dd), .second, .val (.long (x2 - x1)), .second, .unset, .unset, .unset, .unset, .unset, .unset, .unset, .unset, .unset] [(.long y1), (.long y2)])) _
      refine XT.lsub X0.here hx rfl (hb hby at_92) rfl ?_
      show Steps p.tables e below (s₁.setTop (mkF m 93 #[.val (.int p1), .val (.int p2), .val (.int p3), .val (.int p4), .val (.int p5), .val (.int p6), .val (.long x1), .second, .val (.long y1), .second, .val (.long x2), .second, .val (.long y2), .second, .val (.long dd), .second, .val (.long (x2 - x1)), .second, .unset, .unset, .unset, .unset, .unset, .unset, .unset, .unset, .unset] [(.long (y2 - y1))])) _
      refine XT.lstore X0.here hx rfl (hb hby at_93) rfl (l' := #[.val (.int p1), .val (.int p2), .val (.int p3), .val (.int p4), .val (.int p5), .val (.int p6), .val (.long x1), .second, .val (.long y1), .second, .val (.long x2), .second, .val (.long y2), .second, .val (.long dd), .second, .val (.long (x2 - x1)), .second, .val (.long (y2 - y1)), .second, .unset, .unset, .unset, .unset, .unset, .unset, .unset]) rfl ?_
      show Steps p.tables e below (s₁.setTop (mkF m 95 #[.val (.int p1), .val (.int p2), .val (.int p3), .val (.int p4), .val (.int p5), .val (.int p6), .val (.long x1), .second, .val (.long y1), .second, .val (.long x2), .second, .val (.long y2), .second, .val (.long dd), .second, .val (.long (x2 - x1)), .second, .val (.long (y2 - y1)), .second, .unset, .unset, .unset, .unset, .unset, .unset, .unset] [])) _
      refine XT.lload X0.here hx rfl (hb hby at_95) rfl ?_
      show Steps p.tables e below (s₁.setTop (mkF m 97 #[.val (.int p1), .val (.int p2), .val (.int p3), .val (.int p4), .val (.int p5), .val (.int p6), .val (.long x1), .second, .val (.long y1), .second, .val (.long x2), .second, .val (.long y2), .second, .val (.long dd), .second, .val (.long (x2 - x1)), .second, .val (.long (y2 - y1)), .second, .unset, .unset, .unset, .unset, .unset, .unset, .unset] [(.long (x2 - x1))])) _
      refine XT.lload X0.here hx rfl (hb hby at_97) rfl ?_
      show Steps p.tables e below (s₁.setTop (mkF m 99 #[.val (.int p1), .val (.int p2), .val (.int p3), .val (.int p4), .val (.int p5), .val (.int p6), .val (.long x1), .second, .val (.long y1), .second, .val (.long x2), .second, .val (.long y2), .second, .val (.long dd), .second, .val (.long (x2 - x1)), .second, .val (.long (y2 - y1)), .second, .unset, .unset, .unset, .unset, .unset, .unset, .unset] [(.long (x2 - x1)), (.long (x2 - x1))])) _
      refine XT.lmul X0.here hx rfl (hb hby at_99) rfl ?_
      show Steps p.tables e below (s₁.setTop (mkF m 100 #[.val (.int p1), .val (.int p2), .val (.int p3), .val (.int p4), .val (.int p5), .val (.int p6), .val (.long x1), .second, .val (.long y1), .second, .val (.long x2), .second, .val (.long y2), .second, .val (.long dd), .second, .val (.long (x2 - x1)), .second, .val (.long (y2 - y1)), .second, .unset, .unset, .unset, .unset, .unset, .unset, .unset] [(.long ((x2 - x1) * (x2 - x1)))])) _
      refine XT.lload X0.here hx rfl (hb hby at_100) rfl ?_
      show Steps p.tables e below (s₁.setTop (mkF m 102 #[.val (.int p1), .val (.int p2), .val (.int p3), .val (.int p4), .val (.int p5), .val (.int p6), .val (.long x1), .second, .val (.long y1), .second, .val (.long x2), .second, .val (.long y2), .second, .val (.long dd), .second, .val (.long (x2 - x1)), .second, .val (.long (y2 - y1)), .second, .unset, .unset, .unset, .unset, .unset, .unset, .unset] [(.long (y2 - y1)), (.long ((x2 - x1) * (x2 - x1)))])) _
      refine XT.lload X0.here hx rfl (hb hby at_102) rfl ?_
      show Steps p.tables e below (s₁.setTop (mkF m 104 #[.val (.int p1), .val (.int p2), .val (.int p3), .val (.int p4), .val (.int p5), .val (.int p6), .val (.long x1), .second, .val (.long y1), .second, .val (.long x2), .second, .val (.long y2), .second, .val (.long dd), .second, .val (.long (x2 - x1)), .second, .val (.long (y2 - y1)), .second, .unset, .unset, .unset, .unset, .unset, .unset, .unset] [(.long (y2 - y1)), (.long (y2 - y1)), (.long ((x2 - x1) * (x2 - x1)))])) _
      refine XT.lmul X0.here hx rfl (hb hby at_104) rfl ?_
      show Steps p.tables e below (s₁.setTop (mkF m 105 #[.val (.int p1), .val (.int p2), .val (.int p3), .val (.int p4), .val (.int p5), .val (.int p6), .val (.long x1), .second, .val (.long y1), .second, .val (.long x2), .second, .val (.long y2), .second, .val (.long dd), .second, .val (.long (x2 - x1)), .second, .val (.long (y2 - y1)), .second, .unset, .unset, .unset, .unset, .unset, .unset, .unset] [(.long ((y2 - y1) * (y2 - y1))), (.long ((x2 - x1) * (x2 - x1)))])) _
      refine XT.ladd X0.here hx rfl (hb hby at_105) rfl ?_
      show Steps p.tables e below (s₁.setTop (mkF m 106 #[.val (.int p1), .val (.int p2), .val (.int p3), .val (.int p4), .val (.int p5), .val (.int p6), .val (.long x1), .second, .val (.long y1), .second, .val (.long x2), .second, .val (.long y2), .second, .val (.long dd), .second, .val (.long (x2 - x1)), .second, .val (.long (y2 - y1)), .second, .unset, .unset, .unset, .unset, .unset, .unset, .unset] [(.long (((x2 - x1) * (x2 - x1)) + ((y2 - y1) * (y2 - y1))))])) _
      refine XT.lload X0.here hx rfl (hb hby at_106) rfl ?_
      show Steps p.tables e below (s₁.setTop (mkF m 108 #[.val (.int p1), .val (.int p2), .val (.int p3), .val (.int p4), .val (.int p5), .val (.int p6), .val (.long x1), .second, .val (.long y1), .second, .val (.long x2), .second, .val (.long y2), .second, .val (.long dd), .second, .val (.long (x2 - x1)), .second, .val (.long (y2 - y1)), .second, .unset, .unset, .unset, .unset, .unset, .unset, .unset] [(.long dd), (.long (((x2 - x1) * (x2 - x1)) + ((y2 - y1) * (y2 - y1))))])) _
      refine XT.lload X0.here hx rfl (hb hby at_108) rfl ?_
      show Steps p.tables e below (s₁.setTop (mkF m 110 #[.val (.int p1), .val (.int p2), .val (.int p3), .val (.int p4), .val (.int p5), .val (.int p6), .val (.long x1), .second, .val (.long y1), .second, .val (.long x2), .second, .val (.long y2), .second, .val (.long dd), .second, .val (.long (x2 - x1)), .second, .val (.long (y2 - y1)), .second, .unset, .unset, .unset, .unset, .unset, .unset, .unset] [(.long dd), (.long dd), (.long (((x2 - x1) * (x2 - x1)) + ((y2 - y1) * (y2 - y1))))])) _
      refine XT.lmul X0.here hx rfl (hb hby at_110) rfl ?_
      show Steps p.tables e below (s₁.setTop (mkF m 111 #[.val (.int p1), .val (.int p2), .val (.int p3), .val (.int p4), .val (.int p5), .val (.int p6), .val (.long x1), .second, .val (.long y1), .second, .val (.long x2), .second, .val (.long y2), .second, .val (.long dd), .second, .val (.long (x2 - x1)), .second, .val (.long (y2 - y1)), .second, .unset, .unset, .unset, .unset, .unset, .unset, .unset] [(.long (dd * dd)), (.long (((x2 - x1) * (x2 - x1)) + ((y2 - y1) * (y2 - y1))))])) _
      refine XT.lcmp X0.here hx rfl (hb hby at_111) rfl ?_
      show Steps p.tables e below (s₁.setTop (mkF m 112 #[.val (.int p1), .val (.int p2), .val (.int p3), .val (.int p4), .val (.int p5), .val (.int p6), .val (.long x1), .second, .val (.long y1), .second, .val (.long x2), .second, .val (.long y2), .second, .val (.long dd), .second, .val (.long (x2 - x1)), .second, .val (.long (y2 - y1)), .second, .unset, .unset, .unset, .unset, .unset, .unset, .unset] [(.int (XT.cmpL (((x2 - x1) * (x2 - x1)) + ((y2 - y1) * (y2 - y1))) (dd * dd)))])) _
      exact k
    by_cases h112_5 : (0 : Int32) < (XT.cmpL (((x2 - x1) * (x2 - x1)) + ((y2 - y1) * (y2 - y1))) (dd * dd))
    · obtain ⟨T7, H7, X7, e7, E7, Q7, D7, -, st7⟩ := newO X0 hx hZ hown (hw _ (List.mem_of_getElem? (i := 5) rfl)) (hw _ (List.mem_of_getElem? (i := 6) rfl)) (hw _ (List.mem_of_getElem? (i := 7) rfl)) e0 (g := (mkF m 122 #[.val (.int p1), .val (.int p2), .val (.int p3), .val (.int p4), .val (.int p5), .val (.int p6), .val (.long x1), .second, .val (.long y1), .second, .val (.long x2), .second, .val (.long y2), .second, .val (.long dd), .second, .val (.long (x2 - x1)), .second, .val (.long (y2 - y1)), .second, .val (.int (0 : Int32)), .unset, .unset, .unset, .unset, .unset, .unset] [])) rfl (hb hby at_122) (by decide) (by decide)
      obtain ⟨b7, g7⟩ : ∃ z, z = h0.size := ⟨_, rfl⟩
      rw [← g7] at Q7 D7 st7
      have Fb7_id : Fld Z H7 b7 "com/example/rumblecourt/rumblecourt/games/hungergaming/Creature" "id" "I" (.int (0 : Int32)) := D7 (Or.inr (hw _ (List.mem_of_getElem? (i := 15) rfl))) (ty := .int) (by decide)
      have Fb7_x : Fld Z H7 b7 "com/example/rumblecourt/rumblecourt/games/hungergaming/Creature" "x" "D" (.double (0 : UInt64)) := D7 (Or.inl (hw _ (List.mem_of_getElem? (i := 22) rfl))) (ty := .double) (by decide)
      have Fb7_y : Fld Z H7 b7 "com/example/rumblecourt/rumblecourt/games/hungergaming/Creature" "y" "D" (.double (0 : UInt64)) := D7 (Or.inl (hw _ (List.mem_of_getElem? (i := 24) rfl))) (ty := .double) (by decide)
      have Fb7_position : Fld Z H7 b7 "com/example/rumblecourt/rumblecourt/games/hungergaming/Creature" "position" "Ljava/lang/String;" .null := D7 (Or.inl (hw _ (List.mem_of_getElem? (i := 26) rfl))) (ty := (.object "java/lang/String")) (by decide)
      have Z7 : n0 ≤ H7.size := Nat.le_trans Z0 E7.1
      have gb7 : n0 ≤ b7 := Nat.le_trans Z0 (Nat.le_of_eq g7.symm)
      obtain ⟨_, _, ⟨T8, L8, k8, n8⟩, -, X8, ⟨Lc8, hQ8, l8, y8, z8⟩, st8⟩ := X7.specialBack hx (y := (⟨"com/example/rumblecourt/rumblecourt/games/hungergaming/Creature", "<init>", "(IDD)V"⟩ : MethodName)) rfl hown (mvT hZ (hw _ (List.mem_of_getElem? (i := 8) rfl))) (mvT hZ (hw _ (List.mem_of_getElem? (i := 9) rfl))) (mvT hZ (hw _ (List.mem_of_getElem? (i := 10) rfl))) (by decide) (backOf (W := 1) (rm2 l Z a0 hw [] b7 (0 : Int32) x1 y1 H7 n0 Z7 Q7 Fb7_id Fb7_x Fb7_y Fb7_position gb7) hZ (hw _ (List.mem_of_getElem? (i := 10) rfl)) (hw _ (List.mem_of_getElem? (i := 7) rfl)) (by decide) (by decide)) (g := (mkF m 133 #[.val (.int p1), .val (.int p2), .val (.int p3), .val (.int p4), .val (.int p5), .val (.int p6), .val (.long x1), .second, .val (.long y1), .second, .val (.long x2), .second, .val (.long y2), .second, .val (.long dd), .second, .val (.long (x2 - x1)), .second, .val (.long (y2 - y1)), .second, .val (.int (0 : Int32)), .unset, .unset, .unset, .unset, .unset, .unset] [(.double (FP.l2d y1)), (.double (FP.l2d x1)), (.int (0 : Int32)), (.ref b7), (.ref b7)])) rfl (by rw [hml]; rfl) (Steps.refl _) (a := b7) (argsL := [(.int (0 : Int32)), (.double (FP.l2d x1)), (.double (FP.l2d y1))]) (rest := [(.ref b7)]) (lenOf pd_0_0 rfl) rfl (by show 2 * 0 + _ ≤ _; exact Nat.le_of_eq rfl) (hb hby at_133) (fun _ _ => ⟨rfl, e7, (by decide : 1 + 0 ≤ _), (by decide : 6 + 0 ≤ _)⟩)
      dsimp only [Pt.U, Pt.locs, Pt.cells, Pt.slots] at X8 l8 y8 z8 st8 hQ8
      subst l8 y8 z8
      obtain ⟨rfl, N8q, K8, EE8, Fx8, Fy8⟩ := hQ8
      have N8 := Fr.app N0 N8q
      have e8 : T8.heap = T8.heap := rfl
      have Z8 : n0 ≤ T8.heap.size := Nat.le_trans Z7 K8.1
      have Eb7_9 := Exa.keep Q7 K8
      obtain ⟨T10, H10, X10, e10, E10, Q10, D10, -, st10⟩ := newO X8 hx hZ hown (hw _ (List.mem_of_getElem? (i := 5) rfl)) (hw _ (List.mem_of_getElem? (i := 6) rfl)) (hw _ (List.mem_of_getElem? (i := 7) rfl)) e8 (g := (mkF m 138 #[.val (.int p1), .val (.int p2), .val (.int p3), .val (.int p4), .val (.int p5), .val (.int p6), .val (.long x1), .second, .val (.long y1), .second, .val (.long x2), .second, .val (.long y2), .second, .val (.long dd), .second, .val (.long (x2 - x1)), .second, .val (.long (y2 - y1)), .second, .val (.int (0 : Int32)), .val (.ref b7), .unset, .unset, .unset, .unset, .unset] [])) rfl (hb hby at_138) (by decide) (by decide)
      obtain ⟨b10, g10⟩ : ∃ z, z = T8.heap.size := ⟨_, rfl⟩
      rw [← g10] at Q10 D10 st10
      have lt_b7_b10 : b7 < b10 := Nat.lt_of_lt_of_le (Exa.lt EE8) (Nat.le_of_eq g10.symm)
      have Fb10_id : Fld Z H10 b10 "com/example/rumblecourt/rumblecourt/games/hungergaming/Creature" "id" "I" (.int (0 : Int32)) := D10 (Or.inr (hw _ (List.mem_of_getElem? (i := 15) rfl))) (ty := .int) (by decide)
      have Fb10_x : Fld Z H10 b10 "com/example/rumblecourt/rumblecourt/games/hungergaming/Creature" "x" "D" (.double (0 : UInt64)) := D10 (Or.inl (hw _ (List.mem_of_getElem? (i := 22) rfl))) (ty := .double) (by decide)
      have Fb10_y : Fld Z H10 b10 "com/example/rumblecourt/rumblecourt/games/hungergaming/Creature" "y" "D" (.double (0 : UInt64)) := D10 (Or.inl (hw _ (List.mem_of_getElem? (i := 24) rfl))) (ty := .double) (by decide)
      have Fb10_position : Fld Z H10 b10 "com/example/rumblecourt/rumblecourt/games/hungergaming/Creature" "position" "Ljava/lang/String;" .null := D10 (Or.inl (hw _ (List.mem_of_getElem? (i := 26) rfl))) (ty := (.object "java/lang/String")) (by decide)
      have Z10 : n0 ≤ H10.size := Nat.le_trans Z8 E10.1
      have gb10 : n0 ≤ b10 := Nat.le_trans Z8 (Nat.le_of_eq g10.symm)
      have Eb7_11 := Exa.ext E10 EE8
      have Fb7_x_11 := Fld.ext E10 Fx8
      have Fb7_y_11 := Fld.ext E10 Fy8
      obtain ⟨_, _, ⟨T12, L12, k12, n12⟩, -, X12, ⟨Lc12, hQ12, l12, y12, z12⟩, st12⟩ := X10.specialBack hx (y := (⟨"com/example/rumblecourt/rumblecourt/games/hungergaming/Creature", "<init>", "(IDD)V"⟩ : MethodName)) rfl hown (mvT hZ (hw _ (List.mem_of_getElem? (i := 8) rfl))) (mvT hZ (hw _ (List.mem_of_getElem? (i := 9) rfl))) (mvT hZ (hw _ (List.mem_of_getElem? (i := 10) rfl))) (by decide) (backOf (W := 1) (rm2 l Z a0 hw [] b10 (1 : Int32) x2 y2 H10 n0 Z10 Q10 Fb10_id Fb10_x Fb10_y Fb10_position gb10) hZ (hw _ (List.mem_of_getElem? (i := 10) rfl)) (hw _ (List.mem_of_getElem? (i := 7) rfl)) (by decide) (by decide)) (g := (mkF m 149 #[.val (.int p1), .val (.int p2), .val (.int p3), .val (.int p4), .val (.int p5), .val (.int p6), .val (.long x1), .second, .val (.long y1), .second, .val (.long x2), .second, .val (.long y2), .second, .val (.long dd), .second, .val (.long (x2 - x1)), .second, .val (.long (y2 - y1)), .second, .val (.int (0 : Int32)), .val (.ref b7), .unset, .unset, .unset, .unset, .unset] [(.double (FP.l2d y2)), (.double (FP.l2d x2)), (.int (1 : Int32)), (.ref b10), (.ref b10)])) rfl (by rw [hml]; rfl) (Steps.refl _) (a := b10) (argsL := [(.int (1 : Int32)), (.double (FP.l2d x2)), (.double (FP.l2d y2))]) (rest := [(.ref b10)]) (lenOf pd_0_0 rfl) rfl (by show 2 * 0 + _ ≤ _; exact Nat.le_of_eq rfl) (hb hby at_149) (fun _ _ => ⟨rfl, e10, (by decide : 2 + 0 ≤ _), (by decide : 12 + 0 ≤ _)⟩)
      dsimp only [Pt.U, Pt.locs, Pt.cells, Pt.slots] at X12 l12 y12 z12 st12 hQ12
      subst l12 y12 z12
      obtain ⟨rfl, N12q, K12, EE12, Fx12, Fy12⟩ := hQ12
      have N12 := Fr.app N8 N12q
      have e12 : T12.heap = T12.heap := rfl
      have Z12 : n0 ≤ T12.heap.size := Nat.le_trans Z10 K12.1
      have Eb7_13 := Exa.keep Eb7_11 K12
      have Fb7_x_13 := Fld.keep Fb7_x_11 K12 (fun q => (Nat.ne_of_lt lt_b7_b10) (List.mem_singleton.mp q))
      have Fb7_y_13 := Fld.keep Fb7_y_11 K12 (fun q => (Nat.ne_of_lt lt_b7_b10) (List.mem_singleton.mp q))
      have Eb10_14 := Exa.keep Q10 K12
      obtain ⟨cq15, kq15, q15a, q15b, q15c⟩ := isOf hZ e12 Eb7_13
      obtain ⟨_, _, ⟨T15, L15, k15, n15⟩, -, X15, ⟨Lc15, hQ15, l15, y15, z15⟩, st15⟩ := X12.virtualBack hx (y := (⟨"com/example/rumblecourt/rumblecourt/games/hungergaming/Creature", "within", "(Lcom/example/rumblecourt/rumblecourt/games/hungergaming/Creature;D)Z"⟩ : MethodName)) (z := (⟨"com/example/rumblecourt/rumblecourt/games/hungergaming/Creature", "within", "(Lcom/example/rumblecourt/rumblecourt/games/hungergaming/Creature;D)Z"⟩ : MethodName)) hown (mvT hZ (hw _ (List.mem_of_getElem? (i := 27) rfl))) (mvT hZ (hw _ (List.mem_of_getElem? (i := 28) rfl))) (notFace_of_selects (args := #[]) (mvT hZ (hw _ (List.mem_of_getElem? (i := 30) rfl)))) (mvT hZ (hw _ (List.mem_of_getElem? (i := 30) rfl))) (mvT hZ (hw _ (List.mem_of_getElem? (i := 29) rfl))) (by decide) (backOf (W := 0) (rm5 l Z a0 hw [] b7 b10 dd T12.heap n0 Z12 x1 y1 x2 y2 Fb7_x_13 Fb7_y_13 Fx12 Fy12 bx1 by1 bx2 by2 bdd) hZ (hw _ (List.mem_of_getElem? (i := 31) rfl)) (hw _ (List.mem_of_getElem? (i := 7) rfl)) (by decide) (by decide)) q15a q15c (g := (mkF m 165 #[.val (.int p1), .val (.int p2), .val (.int p3), .val (.int p4), .val (.int p5), .val (.int p6), .val (.long x1), .second, .val (.long y1), .second, .val (.long x2), .second, .val (.long y2), .second, .val (.long dd), .second, .val (.long (x2 - x1)), .second, .val (.long (y2 - y1)), .second, .val (.int (0 : Int32)), .val (.ref b7), .val (.ref b10), .val (.double (FP.l2d dd)), .second, .unset, .unset] [(.double (FP.l2d dd)), (.ref b10), (.ref b7)])) rfl (by rw [hml]; rfl) (Steps.refl _) (argsL := [(.ref b10), (.double (FP.l2d dd))]) (rest := []) (lenOf pd_0_1 rfl) rfl (by show 2 * 0 + _ ≤ _; exact Nat.le_of_eq rfl) (hb hby at_165) (fun _ _ => ⟨rfl, e12, (by decide : 2 + 0 ≤ _), (by decide : 12 + 0 ≤ _)⟩)
      dsimp only [Pt.U, Pt.locs, Pt.cells, Pt.slots] at X15 l15 y15 z15 st15 hQ15
      subst l15 y15 z15
      obtain ⟨rfl, N15q, e15⟩ := hQ15
      have N15 := Fr.app N12 N15q
      obtain ⟨cq16, kq16, q16a, q16b, q16c⟩ := isOf hZ e15 EE12
      obtain ⟨_, _, ⟨T16, L16, k16, n16⟩, -, X16, ⟨Lc16, hQ16, l16, y16, z16⟩, st16⟩ := X15.virtualBack hx (y := (⟨"com/example/rumblecourt/rumblecourt/games/hungergaming/Creature", "within", "(Lcom/example/rumblecourt/rumblecourt/games/hungergaming/Creature;D)Z"⟩ : MethodName)) (z := (⟨"com/example/rumblecourt/rumblecourt/games/hungergaming/Creature", "within", "(Lcom/example/rumblecourt/rumblecourt/games/hungergaming/Creature;D)Z"⟩ : MethodName)) hown (mvT hZ (hw _ (List.mem_of_getElem? (i := 27) rfl))) (mvT hZ (hw _ (List.mem_of_getElem? (i := 28) rfl))) (notFace_of_selects (args := #[]) (mvT hZ (hw _ (List.mem_of_getElem? (i := 30) rfl)))) (mvT hZ (hw _ (List.mem_of_getElem? (i := 30) rfl))) (mvT hZ (hw _ (List.mem_of_getElem? (i := 29) rfl))) (by decide) (backOf (W := 0) (rm5 l Z a0 hw [] b10 b7 dd T12.heap n0 Z12 x2 y2 x1 y1 Fx12 Fy12 Fb7_x_13 Fb7_y_13 bx2 by2 bx1 by1 bdd) hZ (hw _ (List.mem_of_getElem? (i := 31) rfl)) (hw _ (List.mem_of_getElem? (i := 7) rfl)) (by decide) (by decide)) q16a q16c (g := (mkF m 176 #[.val (.int p1), .val (.int p2), .val (.int p3), .val (.int p4), .val (.int p5), .val (.int p6), .val (.long x1), .second, .val (.long y1), .second, .val (.long x2), .second, .val (.long y2), .second, .val (.long dd), .second, .val (.long (x2 - x1)), .second, .val (.long (y2 - y1)), .second, .val (.int (0 : Int32)), .val (.ref b7), .val (.ref b10), .val (.double (FP.l2d dd)), .second, .val (.int (fW x1 y1 x2 y2 dd)), .unset] [(.double (FP.l2d dd)), (.ref b7), (.ref b10)])) rfl (by rw [hml]; rfl) (Steps.refl _) (argsL := [(.ref b7), (.double (FP.l2d dd))]) (rest := []) (lenOf pd_0_1 rfl) rfl (by show 2 * 0 + _ ≤ _; exact Nat.le_of_eq rfl) (hb hby at_176) (fun _ _ => ⟨rfl, e15, (by decide : 2 + 0 ≤ _), (by decide : 12 + 0 ≤ _)⟩)
      dsimp only [Pt.U, Pt.locs, Pt.cells, Pt.slots] at X16 l16 y16 z16 st16 hQ16
      subst l16 y16 z16
      obtain ⟨rfl, N16q, e16⟩ := hQ16
      have N16 := Fr.app N15 N16q
      have h185_17 : (fW x1 y1 x2 y2 dd) = (0 : Int32) := own_w0 h112_5
      have h192_18 : (fW x2 y2 x1 y1 dd) = (0 : Int32) := (own_sym bx1 by1 bx2 by2).trans (own_w0 h112_5)
      have pre19 : ∀ t, Steps p.tables e below (T16.setTop (mkF m 200 #[.val (.int p1), .val (.int p2), .val (.int p3), .val (.int p4), .val (.int p5), .val (.int p6), .val (.long x1), .second, .val (.long y1), .second, .val (.long x2), .second, .val (.long y2), .second, .val (.long dd), .second, .val (.long (x2 - x1)), .second, .val (.long (y2 - y1)), .second, .val (.int (0 : Int32)), .val (.ref b7), .val (.ref b10), .val (.double (FP.l2d dd)), .second, .val (.int (fW x1 y1 x2 y2 dd)), .val (.int (fW x2 y2 x1 y1 dd))] [(.int (1 : Int32))])) t → Steps p.tables e below (s₁.setTop (entryFrame m #[(.int p1), (.int p2), (.int p3), (.int p4), (.int p5), (.int p6)] maxLocals)) t := by
        intro t k
        refine pre6 t ?_
        refine XS.ifYes X0.here hx rfl (pc0 := 112) (pc' := 119) rfl (hb hby at_112) rfl ((if0 _ _).trans (tlt h112_5).2.2.1) (by decide) (by decide) ?_
        show Steps p.tables e below (s₁.setTop (mkF m 119 #[.val (.int p1), .val (.int p2), .val (.int p3), .val (.int p4), .val (.int p5), .val (.int p6), .val (.long x1), .second, .val (.long y1), .second, .val (.long x2), .second, .val (.long y2), .second, .val (.long dd), .second, .val (.long (x2 - x1)), .second, .val (.long (y2 - y1)), .second, .unset, .unset, .unset, .unset, .unset, .unset, .unset] [])) _
        refine XS.iconst X0.here hx rfl (hb hby at_119) ?_
        show Steps p.tables e below (s₁.setTop (mkF m 120 #[.val (.int p1), .val (.int p2), .val (.int p3), .val (.int p4), .val (.int p5), .val (.int p6), .val (.long x1), .second, .val (.long y1), .second, .val (.long x2), .second, .val (.long y2), .second, .val (.long dd), .second, .val (.long (x2 - x1)), .second, .val (.long (y2 - y1)), .second, .unset, .unset, .unset, .unset, .unset, .unset, .unset] [(.int (0 : Int32))])) _
        refine XS.istore X0.here hx rfl (hb hby at_120) rfl (l' := #[.val (.int p1), .val (.int p2), .val (.int p3), .val (.int p4), .val (.int p5), .val (.int p6), .val (.long x1), .second, .val (.long y1), .second, .val (.long x2), .second, .val (.long y2), .second, .val (.long dd), .second, .val (.long (x2 - x1)), .second, .val (.long (y2 - y1)), .second, .val (.int (0 : Int32)), .unset, .unset, .unset, .unset, .unset, .unset]) rfl ?_
        show Steps p.tables e below (s₁.setTop (mkF m 122 #[.val (.int p1), .val (.int p2), .val (.int p3), .val (.int p4), .val (.int p5), .val (.int p6), .val (.long x1), .second, .val (.long y1), .second, .val (.long x2), .second, .val (.long y2), .second, .val (.long dd), .second, .val (.long (x2 - x1)), .second, .val (.long (y2 - y1)), .second, .val (.int (0 : Int32)), .unset, .unset, .unset, .unset, .unset, .unset] [])) _
        refine st7 _ ?_
        show Steps p.tables e below (T7.setTop (mkF m 125 #[.val (.int p1), .val (.int p2), .val (.int p3), .val (.int p4), .val (.int p5), .val (.int p6), .val (.long x1), .second, .val (.long y1), .second, .val (.long x2), .second, .val (.long y2), .second, .val (.long dd), .second, .val (.long (x2 - x1)), .second, .val (.long (y2 - y1)), .second, .val (.int (0 : Int32)), .unset, .unset, .unset, .unset, .unset, .unset] [(.ref b7)])) _
        refine XS.dup X7.here hx rfl (hb hby at_125) rfl rfl ?_
        show Steps p.tables e below (T7.setTop (mkF m 126 #[.val (.int p1), .val (.int p2), .val (.int p3), .val (.int p4), .val (.int p5), .val (.int p6), .val (.long x1), .second, .val (.long y1), .second, .val (.long x2), .second, .val (.long y2), .second, .val (.long dd), .second, .val (.long (x2 - x1)), .second, .val (.long (y2 - y1)), .second, .val (.int (0 : Int32)), .unset, .unset, .unset, .unset, .unset, .unset] [(.ref b7), (.ref b7)])) _
        refine XS.iconst X7.here hx rfl (hb hby at_126) ?_
        show Steps p.tables e below (T7.setTop (mkF m 127 #[.val (.int p1), .val (.int p2), .val (.int p3), .val (.int p4), .val (.int p5), .val (.int p6), .val (.long x1), .second, .val (.long y1), .second, .val (.long x2), .second, .val (.long y2), .second, .val (.long dd), .second, .val (.long (x2 - x1)), .second, .val (.long (y2 - y1)), .second, .val (.int (0 : Int32)), .unset, .unset, .unset, .unset, .unset, .unset] [(.int (0 : Int32)), (.ref b7), (.ref b7)])) _
        refine XT.lload X7.here hx rfl (hb hby at_127) rfl ?_
        show Steps p.tables e below (T7.setTop (mkF m 129 #[.val (.int p1), .val (.int p2), .val (.int p3), .val (.int p4), .val (.int p5), .val (.int p6), .val (.long x1), .second, .val (.long y1), .second, .val (.long x2), .second, .val (.long y2), .second, .val (.long dd), .second, .val (.long (x2 - x1)), .second, .val (.long (y2 - y1)), .second, .val (.int (0 : Int32)), .unset, .unset, .unset, .unset, .unset, .unset] [(.long x1), (.int (0 : Int32)), (.ref b7), (.ref b7)])) _
        refine XS.l2dS X7.here hx rfl (hb hby at_129) rfl (v := FP.l2d x1) rfl ?_
        show Steps p.tables e below (T7.setTop (mkF m 130 #[.val (.int p1), .val (.int p2), .val (.int p3), .val (.int p4), .val (.int p5), .val (.int p6), .val (.long x1), .second, .val (.long y1), .second, .val (.long x2), .second, .val (.long y2), .second, .val (.long dd), .second, .val (.long (x2 - x1)), .second, .val (.long (y2 - y1)), .second, .val (.int (0 : Int32)), .unset, .unset, .unset, .unset, .unset, .unset] [(.double (FP.l2d x1)), (.int (0 : Int32)), (.ref b7), (.ref b7)])) _
        refine XT.lload X7.here hx rfl (hb hby at_130) rfl ?_
        show Steps p.tables e below (T7.setTop (mkF m 132 #[.val (.int p1), .val (.int p2), .val (.int p3), .val (.int p4), .val (.int p5), .val (.int p6), .val (.long x1), .second, .val (.long y1), .second, .val (.long x2), .second, .val (.long y2), .second, .val (.long dd), .second, .val (.long (x2 - x1)), .second, .val (.long (y2 - y1)), .second, .val (.int (0 : Int32)), .unset, .unset, .unset, .unset, .unset, .unset] [(.long y1), (.double (FP.l2d x1)), (.int (0 : Int32)), (.ref b7), (.ref b7)])) _
        refine XS.l2dS X7.here hx rfl (hb hby at_132) rfl (v := FP.l2d y1) rfl ?_
        show Steps p.tables e below (T7.setTop (mkF m 133 #[.val (.int p1), .val (.int p2), .val (.int p3), .val (.int p4), .val (.int p5), .val (.int p6), .val (.long x1), .second, .val (.long y1), .second, .val (.long x2), .second, .val (.long y2), .second, .val (.long dd), .second, .val (.long (x2 - x1)), .second, .val (.long (y2 - y1)), .second, .val (.int (0 : Int32)), .unset, .unset, .unset, .unset, .unset, .unset] [(.double (FP.l2d y1)), (.double (FP.l2d x1)), (.int (0 : Int32)), (.ref b7), (.ref b7)])) _
        refine st8.trans ?_
        show Steps p.tables e below (T8.setTop (mkF m 136 #[.val (.int p1), .val (.int p2), .val (.int p3), .val (.int p4), .val (.int p5), .val (.int p6), .val (.long x1), .second, .val (.long y1), .second, .val (.long x2), .second, .val (.long y2), .second, .val (.long dd), .second, .val (.long (x2 - x1)), .second, .val (.long (y2 - y1)), .second, .val (.int (0 : Int32)), .unset, .unset, .unset, .unset, .unset, .unset] [(.ref b7)])) _
        refine XS.astore X8.here hx rfl (hb hby at_136) rfl rfl (l' := #[.val (.int p1), .val (.int p2), .val (.int p3), .val (.int p4), .val (.int p5), .val (.int p6), .val (.long x1), .second, .val (.long y1), .second, .val (.long x2), .second, .val (.long y2), .second, .val (.long dd), .second, .val (.long (x2 - x1)), .second, .val (.long (y2 - y1)), .second, .val (.int (0 : Int32)), .val (.ref b7), .unset, .unset, .unset, .unset, .unset]) rfl ?_
        show Steps p.tables e below (T8.setTop (mkF m 138 #[.val (.int p1), .val (.int p2), .val (.int p3), .val (.int p4), .val (.int p5), .val (.int p6), .val (.long x1), .second, .val (.long y1), .second, .val (.long x2), .second, .val (.long y2), .second, .val (.long dd), .second, .val (.long (x2 - x1)), .second, .val (.long (y2 - y1)), .second, .val (.int (0 : Int32)), .val (.ref b7), .unset, .unset, .unset, .unset, .unset] [])) _
        refine st10 _ ?_
        show Steps p.tables e below (T10.setTop (mkF m 141 #[.val (.int p1), .val (.int p2), .val (.int p3), .val (.int p4), .val (.int p5), .val (.int p6), .val (.long x1), .second, .val (.long y1), .second, .val (.long x2), .second, .val (.long y2), .second, .val (.long dd), .second, .val (.long (x2 - x1)), .second, .val (.long (y2 - y1)), .second, .val (.int (0 : Int32)), .val (.ref b7), .unset, .unset, .unset, .unset, .unset] [(.ref b10)])) _
        refine XS.dup X10.here hx rfl (hb hby at_141) rfl rfl ?_
        show Steps p.tables e below (T10.setTop (mkF m 142 #[.val (.int p1), .val (.int p2), .val (.int p3), .val (.int p4), .val (.int p5), .val (.int p6), .val (.long x1), .second, .val (.long y1), .second, .val (.long x2), .second, .val (.long y2), .second, .val (.long dd), .second, .val (.long (x2 - x1)), .second, .val (.long (y2 - y1)), .second, .val (.int (0 : Int32)), .val (.ref b7), .unset, .unset, .unset, .unset, .unset] [(.ref b10), (.ref b10)])) _
        refine XS.iconst X10.here hx rfl (hb hby at_142) ?_
        show Steps p.tables e below (T10.setTop (mkF m 143 #[.val (.int p1), .val (.int p2), .val (.int p3), .val (.int p4), .val (.int p5), .val (.int p6), .val (.long x1), .second, .val (.long y1), .second, .val (.long x2), .second, .val (.long y2), .second, .val (.long dd), .second, .val (.long (x2 - x1)), .second, .val (.long (y2 - y1)), .second, .val (.int (0 : Int32)), .val (.ref b7), .unset, .unset, .unset, .unset, .unset] [(.int (1 : Int32)), (.ref b10), (.ref b10)])) _
        refine XT.lload X10.here hx rfl (hb hby at_143) rfl ?_
        show Steps p.tables e below (T10.setTop (mkF m 145 #[.val (.int p1), .val (.int p2), .val (.int p3), .val (.int p4), .val (.int p5), .val (.int p6), .val (.long x1), .second, .val (.long y1), .second, .val (.long x2), .second, .val (.long y2), .second, .val (.long dd), .second, .val (.long (x2 - x1)), .second, .val (.long (y2 - y1)), .second, .val (.int (0 : Int32)), .val (.ref b7), .unset, .unset, .unset, .unset, .unset] [(.long x2), (.int (1 : Int32)), (.ref b10), (.ref b10)])) _
        refine XS.l2dS X10.here hx rfl (hb hby at_145) rfl (v := FP.l2d x2) rfl ?_
        show Steps p.tables e below (T10.setTop (mkF m 146 #[.val (.int p1), .val (.int p2), .val (.int p3), .val (.int p4), .val (.int p5), .val (.int p6), .val (.long x1), .second, .val (.long y1), .second, .val (.long x2), .second, .val (.long y2), .second, .val (.long dd), .second, .val (.long (x2 - x1)), .second, .val (.long (y2 - y1)), .second, .val (.int (0 : Int32)), .val (.ref b7), .unset, .unset, .unset, .unset, .unset] [(.double (FP.l2d x2)), (.int (1 : Int32)), (.ref b10), (.ref b10)])) _
        refine XT.lload X10.here hx rfl (hb hby at_146) rfl ?_
        show Steps p.tables e below (T10.setTop (mkF m 148 #[.val (.int p1), .val (.int p2), .val (.int p3), .val (.int p4), .val (.int p5), .val (.int p6), .val (.long x1), .second, .val (.long y1), .second, .val (.long x2), .second, .val (.long y2), .second, .val (.long dd), .second, .val (.long (x2 - x1)), .second, .val (.long (y2 - y1)), .second, .val (.int (0 : Int32)), .val (.ref b7), .unset, .unset, .unset, .unset, .unset] [(.long y2), (.double (FP.l2d x2)), (.int (1 : Int32)), (.ref b10), (.ref b10)])) _
        refine XS.l2dS X10.here hx rfl (hb hby at_148) rfl (v := FP.l2d y2) rfl ?_
        show Steps p.tables e below (T10.setTop (mkF m 149 #[.val (.int p1), .val (.int p2), .val (.int p3), .val (.int p4), .val (.int p5), .val (.int p6), .val (.long x1), .second, .val (.long y1), .second, .val (.long x2), .second, .val (.long y2), .second, .val (.long dd), .second, .val (.long (x2 - x1)), .second, .val (.long (y2 - y1)), .second, .val (.int (0 : Int32)), .val (.ref b7), .unset, .unset, .unset, .unset, .unset] [(.double (FP.l2d y2)), (.double (FP.l2d x2)), (.int (1 : Int32)), (.ref b10), (.ref b10)])) _
        refine st12.trans ?_
        show Steps p.tables e below (T12.setTop (mkF m 152 #[.val (.int p1), .val (.int p2), .val (.int p3), .val (.int p4), .val (.int p5), .val (.int p6), .val (.long x1), .second, .val (.long y1), .second, .val (.long x2), .second, .val (.long y2), .second, .val (.long dd), .second, .val (.long (x2 - x1)), .second, .val (.long (y2 - y1)), .second, .val (.int (0 : Int32)), .val (.ref b7), .unset, .unset, .unset, .unset, .unset] [(.ref b10)])) _
        refine XS.astore X12.here hx rfl (hb hby at_152) rfl rfl (l' := #[.val (.int p1), .val (.int p2), .val (.int p3), .val (.int p4), .val (.int p5), .val (.int p6), .val (.long x1), .second, .val (.long y1), .second, .val (.long x2), .second, .val (.long y2), .second, .val (.long dd), .second, .val (.long (x2 - x1)), .second, .val (.long (y2 - y1)), .second, .val (.int (0 : Int32)), .val (.ref b7), .val (.ref b10), .unset, .unset, .unset, .unset]) rfl ?_
        show Steps p.tables e below (T12.setTop (mkF m 154 #[.val (.int p1), .val (.int p2), .val (.int p3), .val (.int p4), .val (.int p5), .val (.int p6), .val (.long x1), .second, .val (.long y1), .second, .val (.long x2), .second, .val (.long y2), .second, .val (.long dd), .second, .val (.long (x2 - x1)), .second, .val (.long (y2 - y1)), .second, .val (.int (0 : Int32)), .val (.ref b7), .val (.ref b10), .unset, .unset, .unset, .unset] [])) _
        refine XT.lload X12.here hx rfl (hb hby at_154) rfl ?_
        show Steps p.tables e below (T12.setTop (mkF m 156 #[.val (.int p1), .val (.int p2), .val (.int p3), .val (.int p4), .val (.int p5), .val (.int p6), .val (.long x1), .second, .val (.long y1), .second, .val (.long x2), .second, .val (.long y2), .second, .val (.long dd), .second, .val (.long (x2 - x1)), .second, .val (.long (y2 - y1)), .second, .val (.int (0 : Int32)), .val (.ref b7), .val (.ref b10), .unset, .unset, .unset, .unset] [(.long dd)])) _
        refine XS.l2dS X12.here hx rfl (hb hby at_156) rfl (v := FP.l2d dd) rfl ?_
        show Steps p.tables e below (T12.setTop (mkF m 157 #[.val (.int p1), .val (.int p2), .val (.int p3), .val (.int p4), .val (.int p5), .val (.int p6), .val (.long x1), .second, .val (.long y1), .second, .val (.long x2), .second, .val (.long y2), .second, .val (.long dd), .second, .val (.long (x2 - x1)), .second, .val (.long (y2 - y1)), .second, .val (.int (0 : Int32)), .val (.ref b7), .val (.ref b10), .unset, .unset, .unset, .unset] [(.double (FP.l2d dd))])) _
        refine XS.dstore X12.here hx rfl (hb hby at_157) rfl (l' := #[.val (.int p1), .val (.int p2), .val (.int p3), .val (.int p4), .val (.int p5), .val (.int p6), .val (.long x1), .second, .val (.long y1), .second, .val (.long x2), .second, .val (.long y2), .second, .val (.long dd), .second, .val (.long (x2 - x1)), .second, .val (.long (y2 - y1)), .second, .val (.int (0 : Int32)), .val (.ref b7), .val (.ref b10), .val (.double (FP.l2d dd)), .second, .unset, .unset]) rfl ?_
        show Steps p.tables e below (T12.setTop (mkF m 159 #[.val (.int p1), .val (.int p2), .val (.int p3), .val (.int p4), .val (.int p5), .val (.int p6), .val (.long x1), .second, .val (.long y1), .second, .val (.long x2), .second, .val (.long y2), .second, .val (.long dd), .second, .val (.long (x2 - x1)), .second, .val (.long (y2 - y1)), .second, .val (.int (0 : Int32)), .val (.ref b7), .val (.ref b10), .val (.double (FP.l2d dd)), .second, .unset, .unset] [])) _
        refine XS.aload X12.here hx rfl (hb hby at_159) rfl rfl ?_
        show Steps p.tables e below (T12.setTop (mkF m 161 #[.val (.int p1), .val (.int p2), .val (.int p3), .val (.int p4), .val (.int p5), .val (.int p6), .val (.long x1), .second, .val (.long y1), .second, .val (.long x2), .second, .val (.long y2), .second, .val (.long dd), .second, .val (.long (x2 - x1)), .second, .val (.long (y2 - y1)), .second, .val (.int (0 : Int32)), .val (.ref b7), .val (.ref b10), .val (.double (FP.l2d dd)), .second, .unset, .unset] [(.ref b7)])) _
        refine XS.aload X12.here hx rfl (hb hby at_161) rfl rfl ?_
        show Steps p.tables e below (T12.setTop (mkF m 163 #[.val (.int p1), .val (.int p2), .val (.int p3), .val (.int p4), .val (.int p5), .val (.int p6), .val (.long x1), .second, .val (.long y1), .second, .val (.long x2), .second, .val (.long y2), .second, .val (.long dd), .second, .val (.long (x2 - x1)), .second, .val (.long (y2 - y1)), .second, .val (.int (0 : Int32)), .val (.ref b7), .val (.ref b10), .val (.double (FP.l2d dd)), .second, .unset, .unset] [(.ref b10), (.ref b7)])) _
        refine XS.dload X12.here hx rfl (hb hby at_163) rfl ?_
        show Steps p.tables e below (T12.setTop (mkF m 165 #[.val (.int p1), .val (.int p2), .val (.int p3), .val (.int p4), .val (.int p5), .val (.int p6), .val (.long x1), .second, .val (.long y1), .second, .val (.long x2), .second, .val (.long y2), .second, .val (.long dd), .second, .val (.long (x2 - x1)), .second, .val (.long (y2 - y1)), .second, .val (.int (0 : Int32)), .val (.ref b7), .val (.ref b10), .val (.double (FP.l2d dd)), .second, .unset, .unset] [(.double (FP.l2d dd)), (.ref b10), (.ref b7)])) _
        refine st15.trans ?_
        show Steps p.tables e below (T15.setTop (mkF m 168 #[.val (.int p1), .val (.int p2), .val (.int p3), .val (.int p4), .val (.int p5), .val (.int p6), .val (.long x1), .second, .val (.long y1), .second, .val (.long x2), .second, .val (.long y2), .second, .val (.long dd), .second, .val (.long (x2 - x1)), .second, .val (.long (y2 - y1)), .second, .val (.int (0 : Int32)), .val (.ref b7), .val (.ref b10), .val (.double (FP.l2d dd)), .second, .unset, .unset] [(.int (fW x1 y1 x2 y2 dd))])) _
        refine XS.istore X15.here hx rfl (hb hby at_168) rfl (l' := #[.val (.int p1), .val (.int p2), .val (.int p3), .val (.int p4), .val (.int p5), .val (.int p6), .val (.long x1), .second, .val (.long y1), .second, .val (.long x2), .second, .val (.long y2), .second, .val (.long dd), .second, .val (.long (x2 - x1)), .second, .val (.long (y2 - y1)), .second, .val (.int (0 : Int32)), .val (.ref b7), .val (.ref b10), .val (.double (FP.l2d dd)), .second, .val (.int (fW x1 y1 x2 y2 dd)), .unset]) rfl ?_
        show Steps p.tables e below (T15.setTop (mkF m 170 #[.val (.int p1), .val (.int p2), .val (.int p3), .val (.int p4), .val (.int p5), .val (.int p6), .val (.long x1), .second, .val (.long y1), .second, .val (.long x2), .second, .val (.long y2), .second, .val (.long dd), .second, .val (.long (x2 - x1)), .second, .val (.long (y2 - y1)), .second, .val (.int (0 : Int32)), .val (.ref b7), .val (.ref b10), .val (.double (FP.l2d dd)), .second, .val (.int (fW x1 y1 x2 y2 dd)), .unset] [])) _
        refine XS.aload X15.here hx rfl (hb hby at_170) rfl rfl ?_
        show Steps p.tables e below (T15.setTop (mkF m 172 #[.val (.int p1), .val (.int p2), .val (.int p3), .val (.int p4), .val (.int p5), .val (.int p6), .val (.long x1), .second, .val (.long y1), .second, .val (.long x2), .second, .val (.long y2), .second, .val (.long dd), .second, .val (.long (x2 - x1)), .second, .val (.long (y2 - y1)), .second, .val (.int (0 : Int32)), .val (.ref b7), .val (.ref b10), .val (.double (FP.l2d dd)), .second, .val (.int (fW x1 y1 x2 y2 dd)), .unset] [(.ref b10)])) _
        refine XS.aload X15.here hx rfl (hb hby at_172) rfl rfl ?_
        show Steps p.tables e below (T15.setTop (mkF m 174 #[.val (.int p1), .val (.int p2), .val (.int p3), .val (.int p4), .val (.int p5), .val (.int p6), .val (.long x1), .second, .val (.long y1), .second, .val (.long x2), .second, .val (.long y2), .second, .val (.long dd), .second, .val (.long (x2 - x1)), .second, .val (.long (y2 - y1)), .second, .val (.int (0 : Int32)), .val (.ref b7), .val (.ref b10), .val (.double (FP.l2d dd)), .second, .val (.int (fW x1 y1 x2 y2 dd)), .unset] [(.ref b7), (.ref b10)])) _
        refine XS.dload X15.here hx rfl (hb hby at_174) rfl ?_
        show Steps p.tables e below (T15.setTop (mkF m 176 #[.val (.int p1), .val (.int p2), .val (.int p3), .val (.int p4), .val (.int p5), .val (.int p6), .val (.long x1), .second, .val (.long y1), .second, .val (.long x2), .second, .val (.long y2), .second, .val (.long dd), .second, .val (.long (x2 - x1)), .second, .val (.long (y2 - y1)), .second, .val (.int (0 : Int32)), .val (.ref b7), .val (.ref b10), .val (.double (FP.l2d dd)), .second, .val (.int (fW x1 y1 x2 y2 dd)), .unset] [(.double (FP.l2d dd)), (.ref b7), (.ref b10)])) _
        refine st16.trans ?_
        show Steps p.tables e below (T16.setTop (mkF m 179 #[.val (.int p1), .val (.int p2), .val (.int p3), .val (.int p4), .val (.int p5), .val (.int p6), .val (.long x1), .second, .val (.long y1), .second, .val (.long x2), .second, .val (.long y2), .second, .val (.long dd), .second, .val (.long (x2 - x1)), .second, .val (.long (y2 - y1)), .second, .val (.int (0 : Int32)), .val (.ref b7), .val (.ref b10), .val (.double (FP.l2d dd)), .second, .val (.int (fW x1 y1 x2 y2 dd)), .unset] [(.int (fW x2 y2 x1 y1 dd))])) _
        refine XS.istore X16.here hx rfl (hb hby at_179) rfl (l' := #[.val (.int p1), .val (.int p2), .val (.int p3), .val (.int p4), .val (.int p5), .val (.int p6), .val (.long x1), .second, .val (.long y1), .second, .val (.long x2), .second, .val (.long y2), .second, .val (.long dd), .second, .val (.long (x2 - x1)), .second, .val (.long (y2 - y1)), .second, .val (.int (0 : Int32)), .val (.ref b7), .val (.ref b10), .val (.double (FP.l2d dd)), .second, .val (.int (fW x1 y1 x2 y2 dd)), .val (.int (fW x2 y2 x1 y1 dd))]) rfl ?_
        show Steps p.tables e below (T16.setTop (mkF m 181 #[.val (.int p1), .val (.int p2), .val (.int p3), .val (.int p4), .val (.int p5), .val (.int p6), .val (.long x1), .second, .val (.long y1), .second, .val (.long x2), .second, .val (.long y2), .second, .val (.long dd), .second, .val (.long (x2 - x1)), .second, .val (.long (y2 - y1)), .second, .val (.int (0 : Int32)), .val (.ref b7), .val (.ref b10), .val (.double (FP.l2d dd)), .second, .val (.int (fW x1 y1 x2 y2 dd)), .val (.int (fW x2 y2 x1 y1 dd))] [])) _
        refine XS.iload X16.here hx rfl (hb hby at_181) rfl ?_
        show Steps p.tables e below (T16.setTop (mkF m 183 #[.val (.int p1), .val (.int p2), .val (.int p3), .val (.int p4), .val (.int p5), .val (.int p6), .val (.long x1), .second, .val (.long y1), .second, .val (.long x2), .second, .val (.long y2), .second, .val (.long dd), .second, .val (.long (x2 - x1)), .second, .val (.long (y2 - y1)), .second, .val (.int (0 : Int32)), .val (.ref b7), .val (.ref b10), .val (.double (FP.l2d dd)), .second, .val (.int (fW x1 y1 x2 y2 dd)), .val (.int (fW x2 y2 x1 y1 dd))] [(.int (fW x1 y1 x2 y2 dd))])) _
        refine XS.iload X16.here hx rfl (hb hby at_183) rfl ?_
        show Steps p.tables e below (T16.setTop (mkF m 185 #[.val (.int p1), .val (.int p2), .val (.int p3), .val (.int p4), .val (.int p5), .val (.int p6), .val (.long x1), .second, .val (.long y1), .second, .val (.long x2), .second, .val (.long y2), .second, .val (.long dd), .second, .val (.long (x2 - x1)), .second, .val (.long (y2 - y1)), .second, .val (.int (0 : Int32)), .val (.ref b7), .val (.ref b10), .val (.double (FP.l2d dd)), .second, .val (.int (fW x1 y1 x2 y2 dd)), .val (.int (fW x2 y2 x1 y1 dd))] [(.int (0 : Int32)), (.int (fW x1 y1 x2 y2 dd))])) _
        refine XS.icmpNo X16.here hx rfl (hb hby at_185) rfl (teq h185_17).2 ?_
        show Steps p.tables e below (T16.setTop (mkF m 188 #[.val (.int p1), .val (.int p2), .val (.int p3), .val (.int p4), .val (.int p5), .val (.int p6), .val (.long x1), .second, .val (.long y1), .second, .val (.long x2), .second, .val (.long y2), .second, .val (.long dd), .second, .val (.long (x2 - x1)), .second, .val (.long (y2 - y1)), .second, .val (.int (0 : Int32)), .val (.ref b7), .val (.ref b10), .val (.double (FP.l2d dd)), .second, .val (.int (fW x1 y1 x2 y2 dd)), .val (.int (fW x2 y2 x1 y1 dd))] [])) _
        refine XS.iload X16.here hx rfl (hb hby at_188) rfl ?_
        show Steps p.tables e below (T16.setTop (mkF m 190 #[.val (.int p1), .val (.int p2), .val (.int p3), .val (.int p4), .val (.int p5), .val (.int p6), .val (.long x1), .second, .val (.long y1), .second, .val (.long x2), .second, .val (.long y2), .second, .val (.long dd), .second, .val (.long (x2 - x1)), .second, .val (.long (y2 - y1)), .second, .val (.int (0 : Int32)), .val (.ref b7), .val (.ref b10), .val (.double (FP.l2d dd)), .second, .val (.int (fW x1 y1 x2 y2 dd)), .val (.int (fW x2 y2 x1 y1 dd))] [(.int (fW x2 y2 x1 y1 dd))])) _
        refine XS.iload X16.here hx rfl (hb hby at_190) rfl ?_
        show Steps p.tables e below (T16.setTop (mkF m 192 #[.val (.int p1), .val (.int p2), .val (.int p3), .val (.int p4), .val (.int p5), .val (.int p6), .val (.long x1), .second, .val (.long y1), .second, .val (.long x2), .second, .val (.long y2), .second, .val (.long dd), .second, .val (.long (x2 - x1)), .second, .val (.long (y2 - y1)), .second, .val (.int (0 : Int32)), .val (.ref b7), .val (.ref b10), .val (.double (FP.l2d dd)), .second, .val (.int (fW x1 y1 x2 y2 dd)), .val (.int (fW x2 y2 x1 y1 dd))] [(.int (0 : Int32)), (.int (fW x2 y2 x1 y1 dd))])) _
        refine XS.icmpNo X16.here hx rfl (hb hby at_192) rfl (teq h192_18).2 ?_
        show Steps p.tables e below (T16.setTop (mkF m 195 #[.val (.int p1), .val (.int p2), .val (.int p3), .val (.int p4), .val (.int p5), .val (.int p6), .val (.long x1), .second, .val (.long y1), .second, .val (.long x2), .second, .val (.long y2), .second, .val (.long dd), .second, .val (.long (x2 - x1)), .second, .val (.long (y2 - y1)), .second, .val (.int (0 : Int32)), .val (.ref b7), .val (.ref b10), .val (.double (FP.l2d dd)), .second, .val (.int (fW x1 y1 x2 y2 dd)), .val (.int (fW x2 y2 x1 y1 dd))] [])) _
        refine XS.iconst X16.here hx rfl (hb hby at_195) ?_
        show Steps p.tables e below (T16.setTop (mkF m 196 #[.val (.int p1), .val (.int p2), .val (.int p3), .val (.int p4), .val (.int p5), .val (.int p6), .val (.long x1), .second, .val (.long y1), .second, .val (.long x2), .second, .val (.long y2), .second, .val (.long dd), .second, .val (.long (x2 - x1)), .second, .val (.long (y2 - y1)), .second, .val (.int (0 : Int32)), .val (.ref b7), .val (.ref b10), .val (.double (FP.l2d dd)), .second, .val (.int (fW x1 y1 x2 y2 dd)), .val (.int (fW x2 y2 x1 y1 dd))] [(.int (1 : Int32))])) _
        refine XS.goto X16.here hx rfl (pc0 := 196) (pc' := 200) rfl (hb hby at_196) (by decide) (by decide) ?_
        show Steps p.tables e below (T16.setTop (mkF m 200 #[.val (.int p1), .val (.int p2), .val (.int p3), .val (.int p4), .val (.int p5), .val (.int p6), .val (.long x1), .second, .val (.long y1), .second, .val (.long x2), .second, .val (.long y2), .second, .val (.long dd), .second, .val (.long (x2 - x1)), .second, .val (.long (y2 - y1)), .second, .val (.int (0 : Int32)), .val (.ref b7), .val (.ref b10), .val (.double (FP.l2d dd)), .second, .val (.int (fW x1 y1 x2 y2 dd)), .val (.int (fW x2 y2 x1 y1 dd))] [(.int (1 : Int32))])) _
        exact k
      obtain ⟨fs, hr, hrun, hended, hW, hsame⟩ := X16.leave (v := some (.int (1 : Int32))) (fun h => by rw [Bd.returns] at h; cases h)
      refine ⟨_, _, pre19 _ ?_, hrun, hended, _, _, rfl, ?_, ⟨_, rfl⟩, hW, hsame.mono (by decide) (by decide)⟩
      · exact retN X16 hx (t := .boolean) Bd.returns (by simp) (hb hby at_200) hr
      · exact ⟨rfl, N16⟩
    · obtain ⟨T20, H20, X20, e20, E20, Q20, D20, -, st20⟩ := newO X0 hx hZ hown (hw _ (List.mem_of_getElem? (i := 5) rfl)) (hw _ (List.mem_of_getElem? (i := 6) rfl)) (hw _ (List.mem_of_getElem? (i := 7) rfl)) e0 (g := (mkF m 122 #[.val (.int p1), .val (.int p2), .val (.int p3), .val (.int p4), .val (.int p5), .val (.int p6), .val (.long x1), .second, .val (.long y1), .second, .val (.long x2), .second, .val (.long y2), .second, .val (.long dd), .second, .val (.long (x2 - x1)), .second, .val (.long (y2 - y1)), .second, .val (.int (1 : Int32)), .unset, .unset, .unset, .unset, .unset, .unset] [])) rfl (hb hby at_122) (by decide) (by decide)
      obtain ⟨b20, g20⟩ : ∃ z, z = h0.size := ⟨_, rfl⟩
      rw [← g20] at Q20 D20 st20
      have Fb20_id : Fld Z H20 b20 "com/example/rumblecourt/rumblecourt/games/hungergaming/Creature" "id" "I" (.int (0 : Int32)) := D20 (Or.inr (hw _ (List.mem_of_getElem? (i := 15) rfl))) (ty := .int) (by decide)
      have Fb20_x : Fld Z H20 b20 "com/example/rumblecourt/rumblecourt/games/hungergaming/Creature" "x" "D" (.double (0 : UInt64)) := D20 (Or.inl (hw _ (List.mem_of_getElem? (i := 22) rfl))) (ty := .double) (by decide)
      have Fb20_y : Fld Z H20 b20 "com/example/rumblecourt/rumblecourt/games/hungergaming/Creature" "y" "D" (.double (0 : UInt64)) := D20 (Or.inl (hw _ (List.mem_of_getElem? (i := 24) rfl))) (ty := .double) (by decide)
      have Fb20_position : Fld Z H20 b20 "com/example/rumblecourt/rumblecourt/games/hungergaming/Creature" "position" "Ljava/lang/String;" .null := D20 (Or.inl (hw _ (List.mem_of_getElem? (i := 26) rfl))) (ty := (.object "java/lang/String")) (by decide)
      have Z20 : n0 ≤ H20.size := Nat.le_trans Z0 E20.1
      have gb20 : n0 ≤ b20 := Nat.le_trans Z0 (Nat.le_of_eq g20.symm)
      obtain ⟨_, _, ⟨T21, L21, k21, n21⟩, -, X21, ⟨Lc21, hQ21, l21, y21, z21⟩, st21⟩ := X20.specialBack hx (y := (⟨"com/example/rumblecourt/rumblecourt/games/hungergaming/Creature", "<init>", "(IDD)V"⟩ : MethodName)) rfl hown (mvT hZ (hw _ (List.mem_of_getElem? (i := 8) rfl))) (mvT hZ (hw _ (List.mem_of_getElem? (i := 9) rfl))) (mvT hZ (hw _ (List.mem_of_getElem? (i := 10) rfl))) (by decide) (backOf (W := 1) (rm2 l Z a0 hw [] b20 (0 : Int32) x1 y1 H20 n0 Z20 Q20 Fb20_id Fb20_x Fb20_y Fb20_position gb20) hZ (hw _ (List.mem_of_getElem? (i := 10) rfl)) (hw _ (List.mem_of_getElem? (i := 7) rfl)) (by decide) (by decide)) (g := (mkF m 133 #[.val (.int p1), .val (.int p2), .val (.int p3), .val (.int p4), .val (.int p5), .val (.int p6), .val (.long x1), .second, .val (.long y1), .second, .val (.long x2), .second, .val (.long y2), .second, .val (.long dd), .second, .val (.long (x2 - x1)), .second, .val (.long (y2 - y1)), .second, .val (.int (1 : Int32)), .unset, .unset, .unset, .unset, .unset, .unset] [(.double (FP.l2d y1)), (.double (FP.l2d x1)), (.int (0 : Int32)), (.ref b20), (.ref b20)])) rfl (by rw [hml]; rfl) (Steps.refl _) (a := b20) (argsL := [(.int (0 : Int32)), (.double (FP.l2d x1)), (.double (FP.l2d y1))]) (rest := [(.ref b20)]) (lenOf pd_0_0 rfl) rfl (by show 2 * 0 + _ ≤ _; exact Nat.le_of_eq rfl) (hb hby at_133) (fun _ _ => ⟨rfl, e20, (by decide : 1 + 0 ≤ _), (by decide : 6 + 0 ≤ _)⟩)
      dsimp only [Pt.U, Pt.locs, Pt.cells, Pt.slots] at X21 l21 y21 z21 st21 hQ21
      subst l21 y21 z21
      obtain ⟨rfl, N21q, K21, EE21, Fx21, Fy21⟩ := hQ21
      have N21 := Fr.app N0 N21q
      have e21 : T21.heap = T21.heap := rfl
      have Z21 : n0 ≤ T21.heap.size := Nat.le_trans Z20 K21.1
      have Eb20_22 := Exa.keep Q20 K21
      obtain ⟨T23, H23, X23, e23, E23, Q23, D23, -, st23⟩ := newO X21 hx hZ hown (hw _ (List.mem_of_getElem? (i := 5) rfl)) (hw _ (List.mem_of_getElem? (i := 6) rfl)) (hw _ (List.mem_of_getElem? (i := 7) rfl)) e21 (g := (mkF m 138 #[.val (.int p1), .val (.int p2), .val (.int p3), .val (.int p4), .val (.int p5), .val (.int p6), .val (.long x1), .second, .val (.long y1), .second, .val (.long x2), .second, .val (.long y2), .second, .val (.long dd), .second, .val (.long (x2 - x1)), .second, .val (.long (y2 - y1)), .second, .val (.int (1 : Int32)), .val (.ref b20), .unset, .unset, .unset, .unset, .unset] [])) rfl (hb hby at_138) (by decide) (by decide)
      obtain ⟨b23, g23⟩ : ∃ z, z = T21.heap.size := ⟨_, rfl⟩
      rw [← g23] at Q23 D23 st23
      have lt_b20_b23 : b20 < b23 := Nat.lt_of_lt_of_le (Exa.lt EE21) (Nat.le_of_eq g23.symm)
      have Fb23_id : Fld Z H23 b23 "com/example/rumblecourt/rumblecourt/games/hungergaming/Creature" "id" "I" (.int (0 : Int32)) := D23 (Or.inr (hw _ (List.mem_of_getElem? (i := 15) rfl))) (ty := .int) (by decide)
      have Fb23_x : Fld Z H23 b23 "com/example/rumblecourt/rumblecourt/games/hungergaming/Creature" "x" "D" (.double (0 : UInt64)) := D23 (Or.inl (hw _ (List.mem_of_getElem? (i := 22) rfl))) (ty := .double) (by decide)
      have Fb23_y : Fld Z H23 b23 "com/example/rumblecourt/rumblecourt/games/hungergaming/Creature" "y" "D" (.double (0 : UInt64)) := D23 (Or.inl (hw _ (List.mem_of_getElem? (i := 24) rfl))) (ty := .double) (by decide)
      have Fb23_position : Fld Z H23 b23 "com/example/rumblecourt/rumblecourt/games/hungergaming/Creature" "position" "Ljava/lang/String;" .null := D23 (Or.inl (hw _ (List.mem_of_getElem? (i := 26) rfl))) (ty := (.object "java/lang/String")) (by decide)
      have Z23 : n0 ≤ H23.size := Nat.le_trans Z21 E23.1
      have gb23 : n0 ≤ b23 := Nat.le_trans Z21 (Nat.le_of_eq g23.symm)
      have Eb20_24 := Exa.ext E23 EE21
      have Fb20_x_24 := Fld.ext E23 Fx21
      have Fb20_y_24 := Fld.ext E23 Fy21
      obtain ⟨_, _, ⟨T25, L25, k25, n25⟩, -, X25, ⟨Lc25, hQ25, l25, y25, z25⟩, st25⟩ := X23.specialBack hx (y := (⟨"com/example/rumblecourt/rumblecourt/games/hungergaming/Creature", "<init>", "(IDD)V"⟩ : MethodName)) rfl hown (mvT hZ (hw _ (List.mem_of_getElem? (i := 8) rfl))) (mvT hZ (hw _ (List.mem_of_getElem? (i := 9) rfl))) (mvT hZ (hw _ (List.mem_of_getElem? (i := 10) rfl))) (by decide) (backOf (W := 1) (rm2 l Z a0 hw [] b23 (1 : Int32) x2 y2 H23 n0 Z23 Q23 Fb23_id Fb23_x Fb23_y Fb23_position gb23) hZ (hw _ (List.mem_of_getElem? (i := 10) rfl)) (hw _ (List.mem_of_getElem? (i := 7) rfl)) (by decide) (by decide)) (g := (mkF m 149 #[.val (.int p1), .val (.int p2), .val (.int p3), .val (.int p4), .val (.int p5), .val (.int p6), .val (.long x1), .second, .val (.long y1), .second, .val (.long x2), .second, .val (.long y2), .second, .val (.long dd), .second, .val (.long (x2 - x1)), .second, .val (.long (y2 - y1)), .second, .val (.int (1 : Int32)), .val (.ref b20), .unset, .unset, .unset, .unset, .unset] [(.double (FP.l2d y2)), (.double (FP.l2d x2)), (.int (1 : Int32)), (.ref b23), (.ref b23)])) rfl (by rw [hml]; rfl) (Steps.refl _) (a := b23) (argsL := [(.int (1 : Int32)), (.double (FP.l2d x2)), (.double (FP.l2d y2))]) (rest := [(.ref b23)]) (lenOf pd_0_0 rfl) rfl (by show 2 * 0 + _ ≤ _; exact Nat.le_of_eq rfl) (hb hby at_149) (fun _ _ => ⟨rfl, e23, (by decide : 2 + 0 ≤ _), (by decide : 12 + 0 ≤ _)⟩)
      dsimp only [Pt.U, Pt.locs, Pt.cells, Pt.slots] at X25 l25 y25 z25 st25 hQ25
      subst l25 y25 z25
      obtain ⟨rfl, N25q, K25, EE25, Fx25, Fy25⟩ := hQ25
      have N25 := Fr.app N21 N25q
      have e25 : T25.heap = T25.heap := rfl
      have Z25 : n0 ≤ T25.heap.size := Nat.le_trans Z23 K25.1
      have Eb20_26 := Exa.keep Eb20_24 K25
      have Fb20_x_26 := Fld.keep Fb20_x_24 K25 (fun q => (Nat.ne_of_lt lt_b20_b23) (List.mem_singleton.mp q))
      have Fb20_y_26 := Fld.keep Fb20_y_24 K25 (fun q => (Nat.ne_of_lt lt_b20_b23) (List.mem_singleton.mp q))
      have Eb23_27 := Exa.keep Q23 K25
      obtain ⟨cq28, kq28, q28a, q28b, q28c⟩ := isOf hZ e25 Eb20_26
      obtain ⟨_, _, ⟨T28, L28, k28, n28⟩, -, X28, ⟨Lc28, hQ28, l28, y28, z28⟩, st28⟩ := X25.virtualBack hx (y := (⟨"com/example/rumblecourt/rumblecourt/games/hungergaming/Creature", "within", "(Lcom/example/rumblecourt/rumblecourt/games/hungergaming/Creature;D)Z"⟩ : MethodName)) (z := (⟨"com/example/rumblecourt/rumblecourt/games/hungergaming/Creature", "within", "(Lcom/example/rumblecourt/rumblecourt/games/hungergaming/Creature;D)Z"⟩ : MethodName)) hown (mvT hZ (hw _ (List.mem_of_getElem? (i := 27) rfl))) (mvT hZ (hw _ (List.mem_of_getElem? (i := 28) rfl))) (notFace_of_selects (args := #[]) (mvT hZ (hw _ (List.mem_of_getElem? (i := 30) rfl)))) (mvT hZ (hw _ (List.mem_of_getElem? (i := 30) rfl))) (mvT hZ (hw _ (List.mem_of_getElem? (i := 29) rfl))) (by decide) (backOf (W := 0) (rm5 l Z a0 hw [] b20 b23 dd T25.heap n0 Z25 x1 y1 x2 y2 Fb20_x_26 Fb20_y_26 Fx25 Fy25 bx1 by1 bx2 by2 bdd) hZ (hw _ (List.mem_of_getElem? (i := 31) rfl)) (hw _ (List.mem_of_getElem? (i := 7) rfl)) (by decide) (by decide)) q28a q28c (g := (mkF m 165 #[.val (.int p1), .val (.int p2), .val (.int p3), .val (.int p4), .val (.int p5), .val (.int p6), .val (.long x1), .second, .val (.long y1), .second, .val (.long x2), .second, .val (.long y2), .second, .val (.long dd), .second, .val (.long (x2 - x1)), .second, .val (.long (y2 - y1)), .second, .val (.int (1 : Int32)), .val (.ref b20), .val (.ref b23), .val (.double (FP.l2d dd)), .second, .unset, .unset] [(.double (FP.l2d dd)), (.ref b23), (.ref b20)])) rfl (by rw [hml]; rfl) (Steps.refl _) (argsL := [(.ref b23), (.double (FP.l2d dd))]) (rest := []) (lenOf pd_0_1 rfl) rfl (by show 2 * 0 + _ ≤ _; exact Nat.le_of_eq rfl) (hb hby at_165) (fun _ _ => ⟨rfl, e25, (by decide : 2 + 0 ≤ _), (by decide : 12 + 0 ≤ _)⟩)
      dsimp only [Pt.U, Pt.locs, Pt.cells, Pt.slots] at X28 l28 y28 z28 st28 hQ28
      subst l28 y28 z28
      obtain ⟨rfl, N28q, e28⟩ := hQ28
      have N28 := Fr.app N25 N28q
      obtain ⟨cq29, kq29, q29a, q29b, q29c⟩ := isOf hZ e28 EE25
      obtain ⟨_, _, ⟨T29, L29, k29, n29⟩, -, X29, ⟨Lc29, hQ29, l29, y29, z29⟩, st29⟩ := X28.virtualBack hx (y := (⟨"com/example/rumblecourt/rumblecourt/games/hungergaming/Creature", "within", "(Lcom/example/rumblecourt/rumblecourt/games/hungergaming/Creature;D)Z"⟩ : MethodName)) (z := (⟨"com/example/rumblecourt/rumblecourt/games/hungergaming/Creature", "within", "(Lcom/example/rumblecourt/rumblecourt/games/hungergaming/Creature;D)Z"⟩ : MethodName)) hown (mvT hZ (hw _ (List.mem_of_getElem? (i := 27) rfl))) (mvT hZ (hw _ (List.mem_of_getElem? (i := 28) rfl))) (notFace_of_selects (args := #[]) (mvT hZ (hw _ (List.mem_of_getElem? (i := 30) rfl)))) (mvT hZ (hw _ (List.mem_of_getElem? (i := 30) rfl))) (mvT hZ (hw _ (List.mem_of_getElem? (i := 29) rfl))) (by decide) (backOf (W := 0) (rm5 l Z a0 hw [] b23 b20 dd T25.heap n0 Z25 x2 y2 x1 y1 Fx25 Fy25 Fb20_x_26 Fb20_y_26 bx2 by2 bx1 by1 bdd) hZ (hw _ (List.mem_of_getElem? (i := 31) rfl)) (hw _ (List.mem_of_getElem? (i := 7) rfl)) (by decide) (by decide)) q29a q29c (g := (mkF m 176 #[.val (.int p1), .val (.int p2), .val (.int p3), .val (.int p4), .val (.int p5), .val (.int p6), .val (.long x1), .second, .val (.long y1), .second, .val (.long x2), .second, .val (.long y2), .second, .val (.long dd), .second, .val (.long (x2 - x1)), .second, .val (.long (y2 - y1)), .second, .val (.int (1 : Int32)), .val (.ref b20), .val (.ref b23), .val (.double (FP.l2d dd)), .second, .val (.int (fW x1 y1 x2 y2 dd)), .unset] [(.double (FP.l2d dd)), (.ref b20), (.ref b23)])) rfl (by rw [hml]; rfl) (Steps.refl _) (argsL := [(.ref b20), (.double (FP.l2d dd))]) (rest := []) (lenOf pd_0_1 rfl) rfl (by show 2 * 0 + _ ≤ _; exact Nat.le_of_eq rfl) (hb hby at_176) (fun _ _ => ⟨rfl, e28, (by decide : 2 + 0 ≤ _), (by decide : 12 + 0 ≤ _)⟩)
      dsimp only [Pt.U, Pt.locs, Pt.cells, Pt.slots] at X29 l29 y29 z29 st29 hQ29
      subst l29 y29 z29
      obtain ⟨rfl, N29q, e29⟩ := hQ29
      have N29 := Fr.app N28 N29q
      have h185_30 : (fW x1 y1 x2 y2 dd) = (1 : Int32) := own_w1 h112_5
      have h192_31 : (fW x2 y2 x1 y1 dd) = (1 : Int32) := (own_sym bx1 by1 bx2 by2).trans (own_w1 h112_5)
      have pre32 : ∀ t, Steps p.tables e below (T29.setTop (mkF m 200 #[.val (.int p1), .val (.int p2), .val (.int p3), .val (.int p4), .val (.int p5), .val (.int p6), .val (.long x1), .second, .val (.long y1), .second, .val (.long x2), .second, .val (.long y2), .second, .val (.long dd), .second, .val (.long (x2 - x1)), .second, .val (.long (y2 - y1)), .second, .val (.int (1 : Int32)), .val (.ref b20), .val (.ref b23), .val (.double (FP.l2d dd)), .second, .val (.int (fW x1 y1 x2 y2 dd)), .val (.int (fW x2 y2 x1 y1 dd))] [(.int (1 : Int32))])) t → Steps p.tables e below (s₁.setTop (entryFrame m #[(.int p1), (.int p2), (.int p3), (.int p4), (.int p5), (.int p6)] maxLocals)) t := by
        intro t k
        refine pre6 t ?_
        refine XS.ifNo X0.here hx rfl (hb hby at_112) rfl ((if0 _ _).trans (flt h112_5).2.2.1) ?_
        show Steps p.tables e below (s₁.setTop (mkF m 115 #[.val (.int p1), .val (.int p2), .val (.int p3), .val (.int p4), .val (.int p5), .val (.int p6), .val (.long x1), .second, .val (.long y1), .second, .val (.long x2), .second, .val (.long y2), .second, .val (.long dd), .second, .val (.long (x2 - x1)), .second, .val (.long (y2 - y1)), .second, .unset, .unset, .unset, .unset, .unset, .unset, .unset] [])) _
        refine XS.iconst X0.here hx rfl (hb hby at_115) ?_
        show Steps p.tables e below (s₁.setTop (mkF m 116 #[.val (.int p1), .val (.int p2), .val (.int p3), .val (.int p4), .val (.int p5), .val (.int p6), .val (.long x1), .second, .val (.long y1), .second, .val (.long x2), .second, .val (.long y2), .second, .val (.long dd), .second, .val (.long (x2 - x1)), .second, .val (.long (y2 - y1)), .second, .unset, .unset, .unset, .unset, .unset, .unset, .unset] [(.int (1 : Int32))])) _
        refine XS.goto X0.here hx rfl (pc0 := 116) (pc' := 120) rfl (hb hby at_116) (by decide) (by decide) ?_
        show Steps p.tables e below (s₁.setTop (mkF m 120 #[.val (.int p1), .val (.int p2), .val (.int p3), .val (.int p4), .val (.int p5), .val (.int p6), .val (.long x1), .second, .val (.long y1), .second, .val (.long x2), .second, .val (.long y2), .second, .val (.long dd), .second, .val (.long (x2 - x1)), .second, .val (.long (y2 - y1)), .second, .unset, .unset, .unset, .unset, .unset, .unset, .unset] [(.int (1 : Int32))])) _
        refine XS.istore X0.here hx rfl (hb hby at_120) rfl (l' := #[.val (.int p1), .val (.int p2), .val (.int p3), .val (.int p4), .val (.int p5), .val (.int p6), .val (.long x1), .second, .val (.long y1), .second, .val (.long x2), .second, .val (.long y2), .second, .val (.long dd), .second, .val (.long (x2 - x1)), .second, .val (.long (y2 - y1)), .second, .val (.int (1 : Int32)), .unset, .unset, .unset, .unset, .unset, .unset]) rfl ?_
        show Steps p.tables e below (s₁.setTop (mkF m 122 #[.val (.int p1), .val (.int p2), .val (.int p3), .val (.int p4), .val (.int p5), .val (.int p6), .val (.long x1), .second, .val (.long y1), .second, .val (.long x2), .second, .val (.long y2), .second, .val (.long dd), .second, .val (.long (x2 - x1)), .second, .val (.long (y2 - y1)), .second, .val (.int (1 : Int32)), .unset, .unset, .unset, .unset, .unset, .unset] [])) _
        refine st20 _ ?_
        show Steps p.tables e below (T20.setTop (mkF m 125 #[.val (.int p1), .val (.int p2), .val (.int p3), .val (.int p4), .val (.int p5), .val (.int p6), .val (.long x1), .second, .val (.long y1), .second, .val (.long x2), .second, .val (.long y2), .second, .val (.long dd), .second, .val (.long (x2 - x1)), .second, .val (.long (y2 - y1)), .second, .val (.int (1 : Int32)), .unset, .unset, .unset, .unset, .unset, .unset] [(.ref b20)])) _
        refine XS.dup X20.here hx rfl (hb hby at_125) rfl rfl ?_
        show Steps p.tables e below (T20.setTop (mkF m 126 #[.val (.int p1), .val (.int p2), .val (.int p3), .val (.int p4), .val (.int p5), .val (.int p6), .val (.long x1), .second, .val (.long y1), .second, .val (.long x2), .second, .val (.long y2), .second, .val (.long dd), .second, .val (.long (x2 - x1)), .second, .val (.long (y2 - y1)), .second, .val (.int (1 : Int32)), .unset, .unset, .unset, .unset, .unset, .unset] [(.ref b20), (.ref b20)])) _
        refine XS.iconst X20.here hx rfl (hb hby at_126) ?_
        show Steps p.tables e below (T20.setTop (mkF m 127 #[.val (.int p1), .val (.int p2), .val (.int p3), .val (.int p4), .val (.int p5), .val (.int p6), .val (.long x1), .second, .val (.long y1), .second, .val (.long x2), .second, .val (.long y2), .second, .val (.long dd), .second, .val (.long (x2 - x1)), .second, .val (.long (y2 - y1)), .second, .val (.int (1 : Int32)), .unset, .unset, .unset, .unset, .unset, .unset] [(.int (0 : Int32)), (.ref b20), (.ref b20)])) _
        refine XT.lload X20.here hx rfl (hb hby at_127) rfl ?_
        show Steps p.tables e below (T20.setTop (mkF m 129 #[.val (.int p1), .val (.int p2), .val (.int p3), .val (.int p4), .val (.int p5), .val (.int p6), .val (.long x1), .second, .val (.long y1), .second, .val (.long x2), .second, .val (.long y2), .second, .val (.long dd), .second, .val (.long (x2 - x1)), .second, .val (.long (y2 - y1)), .second, .val (.int (1 : Int32)), .unset, .unset, .unset, .unset, .unset, .unset] [(.long x1), (.int (0 : Int32)), (.ref b20), (.ref b20)])) _
        refine XS.l2dS X20.here hx rfl (hb hby at_129) rfl (v := FP.l2d x1) rfl ?_
        show Steps p.tables e below (T20.setTop (mkF m 130 #[.val (.int p1), .val (.int p2), .val (.int p3), .val (.int p4), .val (.int p5), .val (.int p6), .val (.long x1), .second, .val (.long y1), .second, .val (.long x2), .second, .val (.long y2), .second, .val (.long dd), .second, .val (.long (x2 - x1)), .second, .val (.long (y2 - y1)), .second, .val (.int (1 : Int32)), .unset, .unset, .unset, .unset, .unset, .unset] [(.double (FP.l2d x1)), (.int (0 : Int32)), (.ref b20), (.ref b20)])) _
        refine XT.lload X20.here hx rfl (hb hby at_130) rfl ?_
        show Steps p.tables e below (T20.setTop (mkF m 132 #[.val (.int p1), .val (.int p2), .val (.int p3), .val (.int p4), .val (.int p5), .val (.int p6), .val (.long x1), .second, .val (.long y1), .second, .val (.long x2), .second, .val (.long y2), .second, .val (.long dd), .second, .val (.long (x2 - x1)), .second, .val (.long (y2 - y1)), .second, .val (.int (1 : Int32)), .unset, .unset, .unset, .unset, .unset, .unset] [(.long y1), (.double (FP.l2d x1)), (.int (0 : Int32)), (.ref b20), (.ref b20)])) _
        refine XS.l2dS X20.here hx rfl (hb hby at_132) rfl (v := FP.l2d y1) rfl ?_
        show Steps p.tables e below (T20.setTop (mkF m 133 #[.val (.int p1), .val (.int p2), .val (.int p3), .val (.int p4), .val (.int p5), .val (.int p6), .val (.long x1), .second, .val (.long y1), .second, .val (.long x2), .second, .val (.long y2), .second, .val (.long dd), .second, .val (.long (x2 - x1)), .second, .val (.long (y2 - y1)), .second, .val (.int (1 : Int32)), .unset, .unset, .unset, .unset, .unset, .unset] [(.double (FP.l2d y1)), (.double (FP.l2d x1)), (.int (0 : Int32)), (.ref b20), (.ref b20)])) _
        refine st21.trans ?_
        show Steps p.tables e below (T21.setTop (mkF m 136 #[.val (.int p1), .val (.int p2), .val (.int p3), .val (.int p4), .val (.int p5), .val (.int p6), .val (.long x1), .second, .val (.long y1), .second, .val (.long x2), .second, .val (.long y2), .second, .val (.long dd), .second, .val (.long (x2 - x1)), .second, .val (.long (y2 - y1)), .second, .val (.int (1 : Int32)), .unset, .unset, .unset, .unset, .unset, .unset] [(.ref b20)])) _
        refine XS.astore X21.here hx rfl (hb hby at_136) rfl rfl (l' := #[.val (.int p1), .val (.int p2), .val (.int p3), .val (.int p4), .val (.int p5), .val (.int p6), .val (.long x1), .second, .val (.long y1), .second, .val (.long x2), .second, .val (.long y2), .second, .val (.long dd), .second, .val (.long (x2 - x1)), .second, .val (.long (y2 - y1)), .second, .val (.int (1 : Int32)), .val (.ref b20), .unset, .unset, .unset, .unset, .unset]) rfl ?_
        show Steps p.tables e below (T21.setTop (mkF m 138 #[.val (.int p1), .val (.int p2), .val (.int p3), .val (.int p4), .val (.int p5), .val (.int p6), .val (.long x1), .second, .val (.long y1), .second, .val (.long x2), .second, .val (.long y2), .second, .val (.long dd), .second, .val (.long (x2 - x1)), .second, .val (.long (y2 - y1)), .second, .val (.int (1 : Int32)), .val (.ref b20), .unset, .unset, .unset, .unset, .unset] [])) _
        refine st23 _ ?_
        show Steps p.tables e below (T23.setTop (mkF m 141 #[.val (.int p1), .val (.int p2), .val (.int p3), .val (.int p4), .val (.int p5), .val (.int p6), .val (.long x1), .second, .val (.long y1), .second, .val (.long x2), .second, .val (.long y2), .second, .val (.long dd), .second, .val (.long (x2 - x1)), .second, .val (.long (y2 - y1)), .second, .val (.int (1 : Int32)), .val (.ref b20), .unset, .unset, .unset, .unset, .unset] [(.ref b23)])) _
        refine XS.dup X23.here hx rfl (hb hby at_141) rfl rfl ?_
        show Steps p.tables e below (T23.setTop (mkF m 142 #[.val (.int p1), .val (.int p2), .val (.int p3), .val (.int p4), .val (.int p5), .val (.int p6), .val (.long x1), .second, .val (.long y1), .second, .val (.long x2), .second, .val (.long y2), .second, .val (.long dd), .second, .val (.long (x2 - x1)), .second, .val (.long (y2 - y1)), .second, .val (.int (1 : Int32)), .val (.ref b20), .unset, .unset, .unset, .unset, .unset] [(.ref b23), (.ref b23)])) _
        refine XS.iconst X23.here hx rfl (hb hby at_142) ?_
        show Steps p.tables e below (T23.setTop (mkF m 143 #[.val (.int p1), .val (.int p2), .val (.int p3), .val (.int p4), .val (.int p5), .val (.int p6), .val (.long x1), .second, .val (.long y1), .second, .val (.long x2), .second, .val (.long y2), .second, .val (.long dd), .second, .val (.long (x2 - x1)), .second, .val (.long (y2 - y1)), .second, .val (.int (1 : Int32)), .val (.ref b20), .unset, .unset, .unset, .unset, .unset] [(.int (1 : Int32)), (.ref b23), (.ref b23)])) _
        refine XT.lload X23.here hx rfl (hb hby at_143) rfl ?_
        show Steps p.tables e below (T23.setTop (mkF m 145 #[.val (.int p1), .val (.int p2), .val (.int p3), .val (.int p4), .val (.int p5), .val (.int p6), .val (.long x1), .second, .val (.long y1), .second, .val (.long x2), .second, .val (.long y2), .second, .val (.long dd), .second, .val (.long (x2 - x1)), .second, .val (.long (y2 - y1)), .second, .val (.int (1 : Int32)), .val (.ref b20), .unset, .unset, .unset, .unset, .unset] [(.long x2), (.int (1 : Int32)), (.ref b23), (.ref b23)])) _
        refine XS.l2dS X23.here hx rfl (hb hby at_145) rfl (v := FP.l2d x2) rfl ?_
        show Steps p.tables e below (T23.setTop (mkF m 146 #[.val (.int p1), .val (.int p2), .val (.int p3), .val (.int p4), .val (.int p5), .val (.int p6), .val (.long x1), .second, .val (.long y1), .second, .val (.long x2), .second, .val (.long y2), .second, .val (.long dd), .second, .val (.long (x2 - x1)), .second, .val (.long (y2 - y1)), .second, .val (.int (1 : Int32)), .val (.ref b20), .unset, .unset, .unset, .unset, .unset] [(.double (FP.l2d x2)), (.int (1 : Int32)), (.ref b23), (.ref b23)])) _
        refine XT.lload X23.here hx rfl (hb hby at_146) rfl ?_
        show Steps p.tables e below (T23.setTop (mkF m 148 #[.val (.int p1), .val (.int p2), .val (.int p3), .val (.int p4), .val (.int p5), .val (.int p6), .val (.long x1), .second, .val (.long y1), .second, .val (.long x2), .second, .val (.long y2), .second, .val (.long dd), .second, .val (.long (x2 - x1)), .second, .val (.long (y2 - y1)), .second, .val (.int (1 : Int32)), .val (.ref b20), .unset, .unset, .unset, .unset, .unset] [(.long y2), (.double (FP.l2d x2)), (.int (1 : Int32)), (.ref b23), (.ref b23)])) _
        refine XS.l2dS X23.here hx rfl (hb hby at_148) rfl (v := FP.l2d y2) rfl ?_
        show Steps p.tables e below (T23.setTop (mkF m 149 #[.val (.int p1), .val (.int p2), .val (.int p3), .val (.int p4), .val (.int p5), .val (.int p6), .val (.long x1), .second, .val (.long y1), .second, .val (.long x2), .second, .val (.long y2), .second, .val (.long dd), .second, .val (.long (x2 - x1)), .second, .val (.long (y2 - y1)), .second, .val (.int (1 : Int32)), .val (.ref b20), .unset, .unset, .unset, .unset, .unset] [(.double (FP.l2d y2)), (.double (FP.l2d x2)), (.int (1 : Int32)), (.ref b23), (.ref b23)])) _
        refine st25.trans ?_
        show Steps p.tables e below (T25.setTop (mkF m 152 #[.val (.int p1), .val (.int p2), .val (.int p3), .val (.int p4), .val (.int p5), .val (.int p6), .val (.long x1), .second, .val (.long y1), .second, .val (.long x2), .second, .val (.long y2), .second, .val (.long dd), .second, .val (.long (x2 - x1)), .second, .val (.long (y2 - y1)), .second, .val (.int (1 : Int32)), .val (.ref b20), .unset, .unset, .unset, .unset, .unset] [(.ref b23)])) _
        refine XS.astore X25.here hx rfl (hb hby at_152) rfl rfl (l' := #[.val (.int p1), .val (.int p2), .val (.int p3), .val (.int p4), .val (.int p5), .val (.int p6), .val (.long x1), .second, .val (.long y1), .second, .val (.long x2), .second, .val (.long y2), .second, .val (.long dd), .second, .val (.long (x2 - x1)), .second, .val (.long (y2 - y1)), .second, .val (.int (1 : Int32)), .val (.ref b20), .val (.ref b23), .unset, .unset, .unset, .unset]) rfl ?_
        show Steps p.tables e below (T25.setTop (mkF m 154 #[.val (.int p1), .val (.int p2), .val (.int p3), .val (.int p4), .val (.int p5), .val (.int p6), .val (.long x1), .second, .val (.long y1), .second, .val (.long x2), .second, .val (.long y2), .second, .val (.long dd), .second, .val (.long (x2 - x1)), .second, .val (.long (y2 - y1)), .second, .val (.int (1 : Int32)), .val (.ref b20), .val (.ref b23), .unset, .unset, .unset, .unset] [])) _
        refine XT.lload X25.here hx rfl (hb hby at_154) rfl ?_
        show Steps p.tables e below (T25.setTop (mkF m 156 #[.val (.int p1), .val (.int p2), .val (.int p3), .val (.int p4), .val (.int p5), .val (.int p6), .val (.long x1), .second, .val (.long y1), .second, .val (.long x2), .second, .val (.long y2), .second, .val (.long dd), .second, .val (.long (x2 - x1)), .second, .val (.long (y2 - y1)), .second, .val (.int (1 : Int32)), .val (.ref b20), .val (.ref b23), .unset, .unset, .unset, .unset] [(.long dd)])) _
        refine XS.l2dS X25.here hx rfl (hb hby at_156) rfl (v := FP.l2d dd) rfl ?_
        show Steps p.tables e below (T25.setTop (mkF m 157 #[.val (.int p1), .val (.int p2), .val (.int p3), .val (.int p4), .val (.int p5), .val (.int p6), .val (.long x1), .second, .val (.long y1), .second, .val (.long x2), .second, .val (.long y2), .second, .val (.long dd), .second, .val (.long (x2 - x1)), .second, .val (.long (y2 - y1)), .second, .val (.int (1 : Int32)), .val (.ref b20), .val (.ref b23), .unset, .unset, .unset, .unset] [(.double (FP.l2d dd))])) _
        refine XS.dstore X25.here hx rfl (hb hby at_157) rfl (l' := #[.val (.int p1), .val (.int p2), .val (.int p3), .val (.int p4), .val (.int p5), .val (.int p6), .val (.long x1), .second, .val (.long y1), .second, .val (.long x2), .second, .val (.long y2), .second, .val (.long dd), .second, .val (.long (x2 - x1)), .second, .val (.long (y2 - y1)), .second, .val (.int (1 : Int32)), .val (.ref b20), .val (.ref b23), .val (.double (FP.l2d dd)), .second, .unset, .unset]) rfl ?_
        show Steps p.tables e below (T25.setTop (mkF m 159 #[.val (.int p1), .val (.int p2), .val (.int p3), .val (.int p4), .val (.int p5), .val (.int p6), .val (.long x1), .second, .val (.long y1), .second, .val (.long x2), .second, .val (.long y2), .second, .val (.long dd), .second, .val (.long (x2 - x1)), .second, .val (.long (y2 - y1)), .second, .val (.int (1 : Int32)), .val (.ref b20), .val (.ref b23), .val (.double (FP.l2d dd)), .second, .unset, .unset] [])) _
        refine XS.aload X25.here hx rfl (hb hby at_159) rfl rfl ?_
        show Steps p.tables e below (T25.setTop (mkF m 161 #[.val (.int p1), .val (.int p2), .val (.int p3), .val (.int p4), .val (.int p5), .val (.int p6), .val (.long x1), .second, .val (.long y1), .second, .val (.long x2), .second, .val (.long y2), .second, .val (.long dd), .second, .val (.long (x2 - x1)), .second, .val (.long (y2 - y1)), .second, .val (.int (1 : Int32)), .val (.ref b20), .val (.ref b23), .val (.double (FP.l2d dd)), .second, .unset, .unset] [(.ref b20)])) _
        refine XS.aload X25.here hx rfl (hb hby at_161) rfl rfl ?_
        show Steps p.tables e below (T25.setTop (mkF m 163 #[.val (.int p1), .val (.int p2), .val (.int p3), .val (.int p4), .val (.int p5), .val (.int p6), .val (.long x1), .second, .val (.long y1), .second, .val (.long x2), .second, .val (.long y2), .second, .val (.long dd), .second, .val (.long (x2 - x1)), .second, .val (.long (y2 - y1)), .second, .val (.int (1 : Int32)), .val (.ref b20), .val (.ref b23), .val (.double (FP.l2d dd)), .second, .unset, .unset] [(.ref b23), (.ref b20)])) _
        refine XS.dload X25.here hx rfl (hb hby at_163) rfl ?_
        show Steps p.tables e below (T25.setTop (mkF m 165 #[.val (.int p1), .val (.int p2), .val (.int p3), .val (.int p4), .val (.int p5), .val (.int p6), .val (.long x1), .second, .val (.long y1), .second, .val (.long x2), .second, .val (.long y2), .second, .val (.long dd), .second, .val (.long (x2 - x1)), .second, .val (.long (y2 - y1)), .second, .val (.int (1 : Int32)), .val (.ref b20), .val (.ref b23), .val (.double (FP.l2d dd)), .second, .unset, .unset] [(.double (FP.l2d dd)), (.ref b23), (.ref b20)])) _
        refine st28.trans ?_
        show Steps p.tables e below (T28.setTop (mkF m 168 #[.val (.int p1), .val (.int p2), .val (.int p3), .val (.int p4), .val (.int p5), .val (.int p6), .val (.long x1), .second, .val (.long y1), .second, .val (.long x2), .second, .val (.long y2), .second, .val (.long dd), .second, .val (.long (x2 - x1)), .second, .val (.long (y2 - y1)), .second, .val (.int (1 : Int32)), .val (.ref b20), .val (.ref b23), .val (.double (FP.l2d dd)), .second, .unset, .unset] [(.int (fW x1 y1 x2 y2 dd))])) _
        refine XS.istore X28.here hx rfl (hb hby at_168) rfl (l' := #[.val (.int p1), .val (.int p2), .val (.int p3), .val (.int p4), .val (.int p5), .val (.int p6), .val (.long x1), .second, .val (.long y1), .second, .val (.long x2), .second, .val (.long y2), .second, .val (.long dd), .second, .val (.long (x2 - x1)), .second, .val (.long (y2 - y1)), .second, .val (.int (1 : Int32)), .val (.ref b20), .val (.ref b23), .val (.double (FP.l2d dd)), .second, .val (.int (fW x1 y1 x2 y2 dd)), .unset]) rfl ?_
        show Steps p.tables e below (T28.setTop (mkF m 170 #[.val (.int p1), .val (.int p2), .val (.int p3), .val (.int p4), .val (.int p5), .val (.int p6), .val (.long x1), .second, .val (.long y1), .second, .val (.long x2), .second, .val (.long y2), .second, .val (.long dd), .second, .val (.long (x2 - x1)), .second, .val (.long (y2 - y1)), .second, .val (.int (1 : Int32)), .val (.ref b20), .val (.ref b23), .val (.double (FP.l2d dd)), .second, .val (.int (fW x1 y1 x2 y2 dd)), .unset] [])) _
        refine XS.aload X28.here hx rfl (hb hby at_170) rfl rfl ?_
        show Steps p.tables e below (T28.setTop (mkF m 172 #[.val (.int p1), .val (.int p2), .val (.int p3), .val (.int p4), .val (.int p5), .val (.int p6), .val (.long x1), .second, .val (.long y1), .second, .val (.long x2), .second, .val (.long y2), .second, .val (.long dd), .second, .val (.long (x2 - x1)), .second, .val (.long (y2 - y1)), .second, .val (.int (1 : Int32)), .val (.ref b20), .val (.ref b23), .val (.double (FP.l2d dd)), .second, .val (.int (fW x1 y1 x2 y2 dd)), .unset] [(.ref b23)])) _
        refine XS.aload X28.here hx rfl (hb hby at_172) rfl rfl ?_
        show Steps p.tables e below (T28.setTop (mkF m 174 #[.val (.int p1), .val (.int p2), .val (.int p3), .val (.int p4), .val (.int p5), .val (.int p6), .val (.long x1), .second, .val (.long y1), .second, .val (.long x2), .second, .val (.long y2), .second, .val (.long dd), .second, .val (.long (x2 - x1)), .second, .val (.long (y2 - y1)), .second, .val (.int (1 : Int32)), .val (.ref b20), .val (.ref b23), .val (.double (FP.l2d dd)), .second, .val (.int (fW x1 y1 x2 y2 dd)), .unset] [(.ref b20), (.ref b23)])) _
        refine XS.dload X28.here hx rfl (hb hby at_174) rfl ?_
        show Steps p.tables e below (T28.setTop (mkF m 176 #[.val (.int p1), .val (.int p2), .val (.int p3), .val (.int p4), .val (.int p5), .val (.int p6), .val (.long x1), .second, .val (.long y1), .second, .val (.long x2), .second, .val (.long y2), .second, .val (.long dd), .second, .val (.long (x2 - x1)), .second, .val (.long (y2 - y1)), .second, .val (.int (1 : Int32)), .val (.ref b20), .val (.ref b23), .val (.double (FP.l2d dd)), .second, .val (.int (fW x1 y1 x2 y2 dd)), .unset] [(.double (FP.l2d dd)), (.ref b20), (.ref b23)])) _
        refine st29.trans ?_
        show Steps p.tables e below (T29.setTop (mkF m 179 #[.val (.int p1), .val (.int p2), .val (.int p3), .val (.int p4), .val (.int p5), .val (.int p6), .val (.long x1), .second, .val (.long y1), .second, .val (.long x2), .second, .val (.long y2), .second, .val (.long dd), .second, .val (.long (x2 - x1)), .second, .val (.long (y2 - y1)), .second, .val (.int (1 : Int32)), .val (.ref b20), .val (.ref b23), .val (.double (FP.l2d dd)), .second, .val (.int (fW x1 y1 x2 y2 dd)), .unset] [(.int (fW x2 y2 x1 y1 dd))])) _
        refine XS.istore X29.here hx rfl (hb hby at_179) rfl (l' := #[.val (.int p1), .val (.int p2), .val (.int p3), .val (.int p4), .val (.int p5), .val (.int p6), .val (.long x1), .second, .val (.long y1), .second, .val (.long x2), .second, .val (.long y2), .second, .val (.long dd), .second, .val (.long (x2 - x1)), .second, .val (.long (y2 - y1)), .second, .val (.int (1 : Int32)), .val (.ref b20), .val (.ref b23), .val (.double (FP.l2d dd)), .second, .val (.int (fW x1 y1 x2 y2 dd)), .val (.int (fW x2 y2 x1 y1 dd))]) rfl ?_
        show Steps p.tables e below (T29.setTop (mkF m 181 #[.val (.int p1), .val (.int p2), .val (.int p3), .val (.int p4), .val (.int p5), .val (.int p6), .val (.long x1), .second, .val (.long y1), .second, .val (.long x2), .second, .val (.long y2), .second, .val (.long dd), .second, .val (.long (x2 - x1)), .second, .val (.long (y2 - y1)), .second, .val (.int (1 : Int32)), .val (.ref b20), .val (.ref b23), .val (.double (FP.l2d dd)), .second, .val (.int (fW x1 y1 x2 y2 dd)), .val (.int (fW x2 y2 x1 y1 dd))] [])) _
        refine XS.iload X29.here hx rfl (hb hby at_181) rfl ?_
        show Steps p.tables e below (T29.setTop (mkF m 183 #[.val (.int p1), .val (.int p2), .val (.int p3), .val (.int p4), .val (.int p5), .val (.int p6), .val (.long x1), .second, .val (.long y1), .second, .val (.long x2), .second, .val (.long y2), .second, .val (.long dd), .second, .val (.long (x2 - x1)), .second, .val (.long (y2 - y1)), .second, .val (.int (1 : Int32)), .val (.ref b20), .val (.ref b23), .val (.double (FP.l2d dd)), .second, .val (.int (fW x1 y1 x2 y2 dd)), .val (.int (fW x2 y2 x1 y1 dd))] [(.int (fW x1 y1 x2 y2 dd))])) _
        refine XS.iload X29.here hx rfl (hb hby at_183) rfl ?_
        show Steps p.tables e below (T29.setTop (mkF m 185 #[.val (.int p1), .val (.int p2), .val (.int p3), .val (.int p4), .val (.int p5), .val (.int p6), .val (.long x1), .second, .val (.long y1), .second, .val (.long x2), .second, .val (.long y2), .second, .val (.long dd), .second, .val (.long (x2 - x1)), .second, .val (.long (y2 - y1)), .second, .val (.int (1 : Int32)), .val (.ref b20), .val (.ref b23), .val (.double (FP.l2d dd)), .second, .val (.int (fW x1 y1 x2 y2 dd)), .val (.int (fW x2 y2 x1 y1 dd))] [(.int (1 : Int32)), (.int (fW x1 y1 x2 y2 dd))])) _
        refine XS.icmpNo X29.here hx rfl (hb hby at_185) rfl (teq h185_30).2 ?_
        show Steps p.tables e below (T29.setTop (mkF m 188 #[.val (.int p1), .val (.int p2), .val (.int p3), .val (.int p4), .val (.int p5), .val (.int p6), .val (.long x1), .second, .val (.long y1), .second, .val (.long x2), .second, .val (.long y2), .second, .val (.long dd), .second, .val (.long (x2 - x1)), .second, .val (.long (y2 - y1)), .second, .val (.int (1 : Int32)), .val (.ref b20), .val (.ref b23), .val (.double (FP.l2d dd)), .second, .val (.int (fW x1 y1 x2 y2 dd)), .val (.int (fW x2 y2 x1 y1 dd))] [])) _
        refine XS.iload X29.here hx rfl (hb hby at_188) rfl ?_
        show Steps p.tables e below (T29.setTop (mkF m 190 #[.val (.int p1), .val (.int p2), .val (.int p3), .val (.int p4), .val (.int p5), .val (.int p6), .val (.long x1), .second, .val (.long y1), .second, .val (.long x2), .second, .val (.long y2), .second, .val (.long dd), .second, .val (.long (x2 - x1)), .second, .val (.long (y2 - y1)), .second, .val (.int (1 : Int32)), .val (.ref b20), .val (.ref b23), .val (.double (FP.l2d dd)), .second, .val (.int (fW x1 y1 x2 y2 dd)), .val (.int (fW x2 y2 x1 y1 dd))] [(.int (fW x2 y2 x1 y1 dd))])) _
        refine XS.iload X29.here hx rfl (hb hby at_190) rfl ?_
        show Steps p.tables e below (T29.setTop (mkF m 192 #[.val (.int p1), .val (.int p2), .val (.int p3), .val (.int p4), .val (.int p5), .val (.int p6), .val (.long x1), .second, .val (.long y1), .second, .val (.long x2), .second, .val (.long y2), .second, .val (.long dd), .second, .val (.long (x2 - x1)), .second, .val (.long (y2 - y1)), .second, .val (.int (1 : Int32)), .val (.ref b20), .val (.ref b23), .val (.double (FP.l2d dd)), .second, .val (.int (fW x1 y1 x2 y2 dd)), .val (.int (fW x2 y2 x1 y1 dd))] [(.int (1 : Int32)), (.int (fW x2 y2 x1 y1 dd))])) _
        refine XS.icmpNo X29.here hx rfl (hb hby at_192) rfl (teq h192_31).2 ?_
        show Steps p.tables e below (T29.setTop (mkF m 195 #[.val (.int p1), .val (.int p2), .val (.int p3), .val (.int p4), .val (.int p5), .val (.int p6), .val (.long x1), .second, .val (.long y1), .second, .val (.long x2), .second, .val (.long y2), .second, .val (.long dd), .second, .val (.long (x2 - x1)), .second, .val (.long (y2 - y1)), .second, .val (.int (1 : Int32)), .val (.ref b20), .val (.ref b23), .val (.double (FP.l2d dd)), .second, .val (.int (fW x1 y1 x2 y2 dd)), .val (.int (fW x2 y2 x1 y1 dd))] [])) _
        refine XS.iconst X29.here hx rfl (hb hby at_195) ?_
        show Steps p.tables e below (T29.setTop (mkF m 196 #[.val (.int p1), .val (.int p2), .val (.int p3), .val (.int p4), .val (.int p5), .val (.int p6), .val (.long x1), .second, .val (.long y1), .second, .val (.long x2), .second, .val (.long y2), .second, .val (.long dd), .second, .val (.long (x2 - x1)), .second, .val (.long (y2 - y1)), .second, .val (.int (1 : Int32)), .val (.ref b20), .val (.ref b23), .val (.double (FP.l2d dd)), .second, .val (.int (fW x1 y1 x2 y2 dd)), .val (.int (fW x2 y2 x1 y1 dd))] [(.int (1 : Int32))])) _
        refine XS.goto X29.here hx rfl (pc0 := 196) (pc' := 200) rfl (hb hby at_196) (by decide) (by decide) ?_
        show Steps p.tables e below (T29.setTop (mkF m 200 #[.val (.int p1), .val (.int p2), .val (.int p3), .val (.int p4), .val (.int p5), .val (.int p6), .val (.long x1), .second, .val (.long y1), .second, .val (.long x2), .second, .val (.long y2), .second, .val (.long dd), .second, .val (.long (x2 - x1)), .second, .val (.long (y2 - y1)), .second, .val (.int (1 : Int32)), .val (.ref b20), .val (.ref b23), .val (.double (FP.l2d dd)), .second, .val (.int (fW x1 y1 x2 y2 dd)), .val (.int (fW x2 y2 x1 y1 dd))] [(.int (1 : Int32))])) _
        exact k
      obtain ⟨fs, hr, hrun, hended, hW, hsame⟩ := X29.leave (v := some (.int (1 : Int32))) (fun h => by rw [Bd.returns] at h; cases h)
      refine ⟨_, _, pre32 _ ?_, hrun, hended, _, _, rfl, ?_, ⟨_, rfl⟩, hW, hsame.mono (by decide) (by decide)⟩
      · exact retN X29 hx (t := .boolean) Bd.returns (by simp) (hb hby at_200) hr
      · exact ⟨rfl, N29⟩
  · obtain ⟨_, _, ⟨T33, L33, k33, n33⟩, -, X33, ⟨Lc33, hQ33, l33, y33, z33⟩, st33⟩ := Jvm.LawKit.callS X0 hx (y := (⟨"java/lang/Math", "abs", "(J)J"⟩ : MethodName)) hown (mvT hZ (hw _ (List.mem_of_getElem? (i := 1) rfl))) (mvT hZ (hw _ (List.mem_of_getElem? (i := 2) rfl))) (mvT hZ (hw _ (List.mem_of_getElem? (i := 3) rfl))) (mvT hZ (hw _ (List.mem_of_getElem? (i := 4) rfl))) (by decide) (backOf (W := 0) (rm1 l Z a0 hw [] (x2 - x1) h0 n0) hZ (hw _ (List.mem_of_getElem? (i := 4) rfl)) (hw _ (List.mem_of_getElem? (i := 3) rfl)) (by decide) (by decide)) (g := (mkF m 52 #[.val (.int p1), .val (.int p2), .val (.int p3), .val (.int p4), .val (.int p5), .val (.int p6), .val (.long x1), .second, .val (.long y1), .second, .val (.long x2), .second, .val (.long y1), .second, .val (.long (((p5 &&& (2097151 : Int32))).toInt64)), .second, .unset, .unset, .unset, .unset, .unset, .unset, .unset, .unset, .unset, .unset, .unset] [(.long (x2 - x1))])) rfl (by rw [hml]; rfl) (argsL := [(.long (x2 - x1))]) (rest := []) (lenOf pd_0_2 rfl) rfl (by show 2 * 0 + _ ≤ _; exact Nat.le_of_eq rfl) (hb hby at_52) (fun _ _ => ⟨rfl, e0, (by decide : 0 + 0 ≤ _), (by decide : 0 + 0 ≤ _)⟩)
    dsimp only [Pt.U, Pt.locs, Pt.cells, Pt.slots] at X33 l33 y33 z33 st33 hQ33
    subst l33 y33 z33
    obtain ⟨rfl, N33q, e33⟩ := hQ33
    have N33 := Fr.app N0 N33q
    have pre35 : ∀ t, Steps p.tables e below (T33.setTop (mkF m 75 #[.val (.int p1), .val (.int p2), .val (.int p3), .val (.int p4), .val (.int p5), .val (.int p6), .val (.long x1), .second, .val (.long y1), .second, .val (.long x2), .second, .val (.long y1), .second, .val (.long (((f1_0 (x2 - x1)) - (1 : Int64)) + ((((XT.ushr p6 (1 : Int32)) - ((XT.ushr p6 (1 : Int32)) / (3 : Int32)) * (3 : Int32))).toInt64))), .second, .val (.long (f1_0 (x2 - x1))), .second, .unset, .unset, .unset, .unset, .unset, .unset, .unset, .unset, .unset] [(.int (XT.cmpL (((f1_0 (x2 - x1)) - (1 : Int64)) + ((((XT.ushr p6 (1 : Int32)) - ((XT.ushr p6 (1 : Int32)) / (3 : Int32)) * (3 : Int32))).toInt64)) (0 : Int64)))])) t → Steps p.tables e below (s₁.setTop (entryFrame m #[(.int p1), (.int p2), (.int p3), (.int p4), (.int p5), (.int p6)] maxLocals)) t := by
      intro t k
      refine pre3 t ?_
      refine XS.ifNo X0.here hx rfl (hb hby at_40) rfl ((if0 _ _).trans (feq h40_2).1) ?_
      show Steps p.tables e below (s₁.setTop (mkF m 43 #[.val (.int p1), .val (.int p2), .val (.int p3), .val (.int p4), .val (.int p5), .val (.int p6), .val (.long x1), .second, .val (.long y1), .second, .val (.long x2), .second, .val (.long y2), .second, .val (.long (((p5 &&& (2097151 : Int32))).toInt64)), .second, .unset, .unset, .unset, .unset, .unset, .unset, .unset, .unset, .unset, .unset, .unset] [])) _
      refine XT.lload X0.here hx rfl (hb hby at_43) rfl ?_
      show Steps p.tables e below (s₁.setTop (mkF m 45 #[.val (.int p1), .val (.int p2), .val (.int p3), .val (.int p4), .val (.int p5), .val (.int p6), .val (.long x1), .second, .val (.long y1), .second, .val (.long x2), .second, .val (.long y2), .second, .val (.long (((p5 &&& (2097151 : Int32))).toInt64)), .second, .unset, .unset, .unset, .unset, .unset, .unset, .unset, .unset, .unset, .unset, .unset] [(.long y1)])) _
      refine XT.lstore X0.here hx rfl (hb hby at_45) rfl (l' := #[.val (.int p1), .val (.int p2), .val (.int p3), .val (.int p4), .val (.int p5), .val (.int p6), .val (.long x1), .second, .val (.long y1), .second, .val (.long x2), .second, .val (.long y1), .second, .val (.long (((p5 &&& (2097151 : Int32))).toInt64)), .second, .unset, .unset, .unset, .unset, .unset, .unset, .unset, .unset, .unset, .unset, .unset]) rfl ?_
      show Steps p.tables e below (s₁.setTop (mkF m 47 #[.val (.int p1), .val (.int p2), .val (.int p3), .val (.int p4), .val (.int p5), .val (.int p6), .val (.long x1), .second, .val (.long y1), .second, .val (.long x2), .second, .val (.long y1), .second, .val (.long (((p5 &&& (2097151 : Int32))).toInt64)), .second, .unset, .unset, .unset, .unset, .unset, .unset, .unset, .unset, .unset, .unset, .unset] [])) _
      refine XT.lload X0.here hx rfl (hb hby at_47) rfl ?_
      show Steps p.tables e below (s₁.setTop (mkF m 49 #[.val (.int p1), .val (.int p2), .val (.int p3), .val (.int p4), .val (.int p5), .val (.int p6), .val (.long x1), .second, .val (.long y1), .second, .val (.long x2), .second, .val (.long y1), .second, .val (.long (((p5 &&& (2097151 : Int32))).toInt64)), .second, .unset, .unset, .unset, .unset, .unset, .unset, .unset, .unset, .unset, .unset, .unset] [(.long x2)])) _
      refine XT.lload X0.here hx rfl (hb hby at_49) rfl ?_
      show Steps p.tables e below (s₁.setTop (mkF m 51 #[.val (.int p1), .val (.int p2), .val (.int p3), .val (.int p4), .val (.int p5), .val (.int p6), .val (.long x1), .second, .val (.long y1), .second, .val (.long x2), .second, .val (.long y1), .second, .val (.long (((p5 &&& (2097151 : Int32))).toInt64)), .second, .unset, .unset, .unset, .unset, .unset, .unset, .unset, .unset, .unset, .unset, .unset] [(.long x1), (.long x2)])) _
      refine XT.lsub X0.here hx rfl (hb hby at_51) rfl ?_
      show Steps p.tables e below (s₁.setTop (mkF m 52 #[.val (.int p1), .val (.int p2), .val (.int p3), .val (.int p4), .val (.int p5), .val (.int p6), .val (.long x1), .second, .val (.long y1), .second, .val (.long x2), .second, .val (.long y1), .second, .val (.long (((p5 &&& (2097151 : Int32))).toInt64)), .second, .unset, .unset, .unset, .unset, .unset, .unset, .unset, .unset, .unset, .unset, .unset] [(.long (x2 - x1))])) _
      refine st33 _ ?_
      show Steps p.tables e below (T33.setTop (mkF m 55 #[.val (.int p1), .val (.int p2), .val (.int p3), .val (.int p4), .val (.int p5), .val (.int p6), .val (.long x1), .second, .val (.long y1), .second, .val (.long x2), .second, .val (.long y1), .second, .val (.long (((p5 &&& (2097151 : Int32))).toInt64)), .second, .unset, .unset, .unset, .unset, .unset, .unset, .unset, .unset, .unset, .unset, .unset] [(.long (f1_0 (x2 - x1)))])) _
      refine XT.lstore X33.here hx rfl (hb hby at_55) rfl (l' := #[.val (.int p1), .val (.int p2), .val (.int p3), .val (.int p4), .val (.int p5), .val (.int p6), .val (.long x1), .second, .val (.long y1), .second, .val (.long x2), .second, .val (.long y1), .second, .val (.long (((p5 &&& (2097151 : Int32))).toInt64)), .second, .val (.long (f1_0 (x2 - x1))), .second, .unset, .unset, .unset, .unset, .unset, .unset, .unset, .unset, .unset]) rfl ?_
      show Steps p.tables e below (T33.setTop (mkF m 57 #[.val (.int p1), .val (.int p2), .val (.int p3), .val (.int p4), .val (.int p5), .val (.int p6), .val (.long x1), .second, .val (.long y1), .second, .val (.long x2), .second, .val (.long y1), .second, .val (.long (((p5 &&& (2097151 : Int32))).toInt64)), .second, .val (.long (f1_0 (x2 - x1))), .second, .unset, .unset, .unset, .unset, .unset, .unset, .unset, .unset, .unset] [])) _
      refine XT.lload X33.here hx rfl (hb hby at_57) rfl ?_
      show Steps p.tables e below (T33.setTop (mkF m 59 #[.val (.int p1), .val (.int p2), .val (.int p3), .val (.int p4), .val (.int p5), .val (.int p6), .val (.long x1), .second, .val (.long y1), .second, .val (.long x2), .second, .val (.long y1), .second, .val (.long (((p5 &&& (2097151 : Int32))).toInt64)), .second, .val (.long (f1_0 (x2 - x1))), .second, .unset, .unset, .unset, .unset, .unset, .unset, .unset, .unset, .unset] [(.long (f1_0 (x2 - x1)))])) _
      refine XT.lconst X33.here hx rfl (hb hby at_59) ?_
      show Steps p.tables e below (T33.setTop (mkF m 60 #[.val (.int p1), .val (.int p2), .val (.int p3), .val (.int p4), .val (.int p5), .val (.int p6), .val (.long x1), .second, .val (.long y1), .second, .val (.long x2), .second, .val (.long y1), .second, .val (.long (((p5 &&& (2097151 : Int32))).toInt64)), .second, .val (.long (f1_0 (x2 - x1))), .second, .unset, .unset, .unset, .unset, .unset, .unset, .unset, .unset, .unset] [(.long (1 : Int64)), (.long (f1_0 (x2 - x1)))])) _
      refine XT.lsub X33.here hx rfl (hb hby at_60) rfl ?_
      show Steps p.tables e below (T33.setTop (mkF m 61 #[.val (.int p1), .val (.int p2), .val (.int p3), .val (.int p4), .val (.int p5), .val (.int p6), .val (.long x1), .second, .val (.long y1), .second, .val (.long x2), .second, .val (.long y1), .second, .val (.long (((p5 &&& (2097151 : Int32))).toInt64)), .second, .val (.long (f1_0 (x2 - x1))), .second, .unset, .unset, .unset, .unset, .unset, .unset, .unset, .unset, .unset] [(.long ((f1_0 (x2 - x1)) - (1 : Int64)))])) _
      refine XS.iload X33.here hx rfl (hb hby at_61) rfl ?_
      show Steps p.tables e below (T33.setTop (mkF m 63 #[.val (.int p1), .val (.int p2), .val (.int p3), .val (.int p4), .val (.int p5), .val (.int p6), .val (.long x1), .second, .val (.long y1), .second, .val (.long x2), .second, .val (.long y1), .second, .val (.long (((p5 &&& (2097151 : Int32))).toInt64)), .second, .val (.long (f1_0 (x2 - x1))), .second, .unset, .unset, .unset, .unset, .unset, .unset, .unset, .unset, .unset] [(.int p6), (.long ((f1_0 (x2 - x1)) - (1 : Int64)))])) _
      refine XS.iconst X33.here hx rfl (hb hby at_63) ?_
      show Steps p.tables e below (T33.setTop (mkF m 64 #[.val (.int p1), .val (.int p2), .val (.int p3), .val (.int p4), .val (.int p5), .val (.int p6), .val (.long x1), .second, .val (.long y1), .second, .val (.long x2), .second, .val (.long y1), .second, .val (.long (((p5 &&& (2097151 : Int32))).toInt64)), .second, .val (.long (f1_0 (x2 - x1))), .second, .unset, .unset, .unset, .unset, .unset, .unset, .unset, .unset, .unset] [(.int (1 : Int32)), (.int p6), (.long ((f1_0 (x2 - x1)) - (1 : Int64)))])) _
      refine XT.iushr X33.here hx rfl (hb hby at_64) rfl ?_
      show Steps p.tables e below (T33.setTop (mkF m 65 #[.val (.int p1), .val (.int p2), .val (.int p3), .val (.int p4), .val (.int p5), .val (.int p6), .val (.long x1), .second, .val (.long y1), .second, .val (.long x2), .second, .val (.long y1), .second, .val (.long (((p5 &&& (2097151 : Int32))).toInt64)), .second, .val (.long (f1_0 (x2 - x1))), .second, .unset, .unset, .unset, .unset, .unset, .unset, .unset, .unset, .unset] [(.int (XT.ushr p6 (1 : Int32))), (.long ((f1_0 (x2 - x1)) - (1 : Int64)))])) _
      refine XS.iconst X33.here hx rfl (hb hby at_65) ?_
      show Steps p.tables e below (T33.setTop (mkF m 66 #[.val (.int p1), .val (.int p2), .val (.int p3), .val (.int p4), .val (.int p5), .val (.int p6), .val (.long x1), .second, .val (.long y1), .second, .val (.long x2), .second, .val (.long y1), .second, .val (.long (((p5 &&& (2097151 : Int32))).toInt64)), .second, .val (.long (f1_0 (x2 - x1))), .second, .unset, .unset, .unset, .unset, .unset, .unset, .unset, .unset, .unset] [(.int (3 : Int32)), (.int (XT.ushr p6 (1 : Int32))), (.long ((f1_0 (x2 - x1)) - (1 : Int64)))])) _
      refine XS.irem X33.here hx rfl (hb hby at_66) rfl (by decide) ?_
      show Steps p.tables e below (T33.setTop (mkF m 67 #[.val (.int p1), .val (.int p2), .val (.int p3), .val (.int p4), .val (.int p5), .val (.int p6), .val (.long x1), .second, .val (.long y1), .second, .val (.long x2), .second, .val (.long y1), .second, .val (.long (((p5 &&& (2097151 : Int32))).toInt64)), .second, .val (.long (f1_0 (x2 - x1))), .second, .unset, .unset, .unset, .unset, .unset, .unset, .unset, .unset, .unset] [(.int ((XT.ushr p6 (1 : Int32)) - ((XT.ushr p6 (1 : Int32)) / (3 : Int32)) * (3 : Int32))), (.long ((f1_0 (x2 - x1)) - (1 : Int64)))])) _
      refine XT.i2l X33.here hx rfl (hb hby at_67) rfl ?_
      show Steps p.tables e below (T33.setTop (mkF m 68 #[.val (.int p1), .val (.int p2), .val (.int p3), .val (.int p4), .val (.int p5), .val (.int p6), .val (.long x1), .second, .val (.long y1), .second, .val (.long x2), .second, .val (.long y1), .second, .val (.long (((p5 &&& (2097151 : Int32))).toInt64)), .second, .val (.long (f1_0 (x2 - x1))), .second, .unset, .unset, .unset, .unset, .unset, .unset, .unset, .unset, .unset] [(.long ((((XT.ushr p6 (1 : Int32)) - ((XT.ushr p6 (1 : Int32)) / (3 : Int32)) * (3 : Int32))).toInt64)), (.long ((f1_0 (x2 - x1)) - (1 : Int64)))])) _
      refine XT.ladd X33.here hx rfl (hb hby at_68) rfl ?_
      show Steps p.tables e below (T33.setTop (mkF m 69 #[.val (.int p1), .val (.int p2), .val (.int p3), .val (.int p4), .val (.int p5), .val (.int p6), .val (.long x1), .second, .val (.long y1), .second, .val (.long x2), .second, .val (.long y1), .second, .val (.long (((p5 &&& (2097151 : Int32))).toInt64)), .second, .val (.long (f1_0 (x2 - x1))), .second, .unset, .unset, .unset, .unset, .unset, .unset, .unset, .unset, .unset] [(.long (((f1_0 (x2 - x1)) - (1 : Int64)) + ((((XT.ushr p6 (1 : Int32)) - ((XT.ushr p6 (1 : Int32)) / (3 : Int32)) * (3 : Int32))).toInt64)))])) _
      refine XT.lstore X33.here hx rfl (hb hby at_69) rfl (l' := #[.val (.int p1), .val (.int p2), .val (.int p3), .val (.int p4), .val (.int p5), .val (.int p6), .val (.long x1), .second, .val (.long y1), .second, .val (.long x2), .second, .val (.long y1), .second, .val (.long (((f1_0 (x2 - x1)) - (1 : Int64)) + ((((XT.ushr p6 (1 : Int32)) - ((XT.ushr p6 (1 : Int32)) / (3 : Int32)) * (3 : Int32))).toInt64))), .second, .val (.long (f1_0 (x2 - x1))), .second, .unset, .unset, .unset, .unset, .unset, .unset, .unset, .unset, .unset]) rfl ?_
      show Steps p.tables e below (T33.setTop (mkF m 71 #[.val (.int p1), .val (.int p2), .val (.int p3), .val (.int p4), .val (.int p5), .val (.int p6), .val (.long x1), .second, .val (.long y1), .second, .val (.long x2), .second, .val (.long y1), .second, .val (.long (((f1_0 (x2 - x1)) - (1 : Int64)) + ((((XT.ushr p6 (1 : Int32)) - ((XT.ushr p6 (1 : Int32)) / (3 : Int32)) * (3 : Int32))).toInt64))), .second, .val (.long (f1_0 (x2 - x1))), .second, .unset, .unset, .unset, .unset, .unset, .unset, .unset, .unset, .unset] [])) _
      refine XT.lload X33.here hx rfl (hb hby at_71) rfl ?_
      show Steps p.tables e below (T33.setTop (mkF m 73 #[.val (.int p1), .val (.int p2), .val (.int p3), .val (.int p4), .val (.int p5), .val (.int p6), .val (.long x1), .second, .val (.long y1), .second, .val (.long x2), .second, .val (.long y1), .second, .val (.long (((f1_0 (x2 - x1)) - (1 : Int64)) + ((((XT.ushr p6 (1 : Int32)) - ((XT.ushr p6 (1 : Int32)) / (3 : Int32)) * (3 : Int32))).toInt64))), .second, .val (.long (f1_0 (x2 - x1))), .second, .unset, .unset, .unset, .unset, .unset, .unset, .unset, .unset, .unset] [(.long (((f1_0 (x2 - x1)) - (1 : Int64)) + ((((XT.ushr p6 (1 : Int32)) - ((XT.ushr p6 (1 : Int32)) / (3 : Int32)) * (3 : Int32))).toInt64)))])) _
      refine XT.lconst X33.here hx rfl (hb hby at_73) ?_
      show Steps p.tables e below (T33.setTop (mkF m 74 #[.val (.int p1), .val (.int p2), .val (.int p3), .val (.int p4), .val (.int p5), .val (.int p6), .val (.long x1), .second, .val (.long y1), .second, .val (.long x2), .second, .val (.long y1), .second, .val (.long (((f1_0 (x2 - x1)) - (1 : Int64)) + ((((XT.ushr p6 (1 : Int32)) - ((XT.ushr p6 (1 : Int32)) / (3 : Int32)) * (3 : Int32))).toInt64))), .second, .val (.long (f1_0 (x2 - x1))), .second, .unset, .unset, .unset, .unset, .unset, .unset, .unset, .unset, .unset] [(.long (0 : Int64)), (.long (((f1_0 (x2 - x1)) - (1 : Int64)) + ((((XT.ushr p6 (1 : Int32)) - ((XT.ushr p6 (1 : Int32)) / (3 : Int32)) * (3 : Int32))).toInt64)))])) _
      refine XT.lcmp X33.here hx rfl (hb hby at_74) rfl ?_
      show Steps p.tables e below (T33.setTop (mkF m 75 #[.val (.int p1), .val (.int p2), .val (.int p3), .val (.int p4), .val (.int p5), .val (.int p6), .val (.long x1), .second, .val (.long y1), .second, .val (.long x2), .second, .val (.long y1), .second, .val (.long (((f1_0 (x2 - x1)) - (1 : Int64)) + ((((XT.ushr p6 (1 : Int32)) - ((XT.ushr p6 (1 : Int32)) / (3 : Int32)) * (3 : Int32))).toInt64))), .second, .val (.long (f1_0 (x2 - x1))), .second, .unset, .unset, .unset, .unset, .unset, .unset, .unset, .unset, .unset] [(.int (XT.cmpL (((f1_0 (x2 - x1)) - (1 : Int64)) + ((((XT.ushr p6 (1 : Int32)) - ((XT.ushr p6 (1 : Int32)) / (3 : Int32)) * (3 : Int32))).toInt64)) (0 : Int64)))])) _
      exact k
    by_cases h75_34 : (XT.cmpL (((f1_0 (x2 - x1)) - (1 : Int64)) + ((((XT.ushr p6 (1 : Int32)) - ((XT.ushr p6 (1 : Int32)) / (3 : Int32)) * (3 : Int32))).toInt64)) (0 : Int64)) < (0 : Int32)
    · have pre36 : ∀ t, Steps p.tables e below (T33.setTop (mkF m 81 #[.val (.int p1), .val (.int p2), .val (.int p3), .val (.int p4), .val (.int p5), .val (.int p6), .val (.long x1), .second, .val (.long y1), .second, .val (.long x2), .second, .val (.long y1), .second, .val (.long (0 : Int64)), .second, .val (.long (f1_0 (x2 - x1))), .second, .unset, .unset, .unset, .unset, .unset, .unset, .unset, .unset, .unset] [])) t → Steps p.tables e below (s₁.setTop (entryFrame m #[(.int p1), (.int p2), (.int p3), (.int p4), (.int p5), (.int p6)] maxLocals)) t := by
        intro t k
        refine pre35 t ?_
        refine XS.ifNo X33.here hx rfl (hb hby at_75) rfl ((if0 _ _).trans (tlt h75_34).2.1) ?_
        show Steps p.tables e below (T33.setTop (mkF m 78 #[.val (.int p1), .val (.int p2), .val (.int p3), .val (.int p4), .val (.int p5), .val (.int p6), .val (.long x1), .second, .val (.long y1), .second, .val (.long x2), .second, .val (.long y1), .second, .val (.long (((f1_0 (x2 - x1)) - (1 : Int64)) + ((((XT.ushr p6 (1 : Int32)) - ((XT.ushr p6 (1 : Int32)) / (3 : Int32)) * (3 : Int32))).toInt64))), .second, .val (.long (f1_0 (x2 - x1))), .second, .unset, .unset, .unset, .unset, .unset, .unset, .unset, .unset, .unset] [])) _
        refine XT.lconst X33.here hx rfl (hb hby at_78) ?_
        show Steps p.tables e below (T33.setTop (mkF m 79 #[.val (.int p1), .val (.int p2), .val (.int p3), .val (.int p4), .val (.int p5), .val (.int p6), .val (.long x1), .second, .val (.long y1), .second, .val (.long x2), .second, .val (.long y1), .second, .val (.long (((f1_0 (x2 - x1)) - (1 : Int64)) + ((((XT.ushr p6 (1 : Int32)) - ((XT.ushr p6 (1 : Int32)) / (3 : Int32)) * (3 : Int32))).toInt64))), .second, .val (.long (f1_0 (x2 - x1))), .second, .unset, .unset, .unset, .unset, .unset, .unset, .unset, .unset, .unset] [(.long (0 : Int64))])) _
        refine XT.lstore X33.here hx rfl (hb hby at_79) rfl (l' := #[.val (.int p1), .val (.int p2), .val (.int p3), .val (.int p4), .val (.int p5), .val (.int p6), .val (.long x1), .second, .val (.long y1), .second, .val (.long x2), .second, .val (.long y1), .second, .val (.long (0 : Int64)), .second, .val (.long (f1_0 (x2 - x1))), .second, .unset, .unset, .unset, .unset, .unset, .unset, .unset, .unset, .unset]) rfl ?_
        show Steps p.tables e below (T33.setTop (mkF m 81 #[.val (.int p1), .val (.int p2), .val (.int p3), .val (.int p4), .val (.int p5), .val (.int p6), .val (.long x1), .second, .val (.long y1), .second, .val (.long x2), .second, .val (.long y1), .second, .val (.long (0 : Int64)), .second, .val (.long (f1_0 (x2 - x1))), .second, .unset, .unset, .unset, .unset, .unset, .unset, .unset, .unset, .unset] [])) _
        exact k
      obtain ⟨dd, hdd⟩ : ∃ z, z = (0 : Int64) := ⟨_, rfl⟩
      have bdd : own_R 2097153 dd := by rw [hdd]; exact own_z
      have pre37 : ∀ t, Steps p.tables e below (T33.setTop (mkF m 81 #[.val (.int p1), .val (.int p2), .val (.int p3), .val (.int p4), .val (.int p5), .val (.int p6), .val (.long x1), .second, .val (.long y1), .second, .val (.long x2), .second, .val (.long y1), .second, .val (.long dd), .second, .val (.long (f1_0 (x2 - x1))), .second, .unset, .unset, .unset, .unset, .unset, .unset, .unset, .unset, .unset] [])) t → Steps p.tables e below (s₁.setTop (entryFrame m #[(.int p1), (.int p2), (.int p3), (.int p4), (.int p5), (.int p6)] maxLocals)) t := by rw [hdd]; exact pre36
      have pre39 : ∀ t, Steps p.tables e below (T33.setTop (mkF m 112 #[.val (.int p1), .val (.int p2), .val (.int p3), .val (.int p4), .val (.int p5), .val (.int p6), .val (.long x1), .second, .val (.long y1), .second, .val (.long x2), .second, .val (.long y1), .second, .val (.long dd), .second, .val (.long (x2 - x1)), .second, .val (.long (y1 - y1)), .second, .unset, .unset, .unset, .unset, .unset, .unset, .unset] [(.int (XT.cmpL (((x2 - x1) * (x2 - x1)) + ((y1 - y1) * (y1 - y1))) (dd * dd)))])) t → Steps p.tables e below (s₁.setTop (entryFrame m #[(.int p1), (.int p2), (.int p3), (.int p4), (.int p5), (.int p6)] maxLocals)) t := by
        intro t k
        refine pre37 t ?_
        show Steps p.tables e below (T33.setTop (mkF m 81 #[.val (.int p1), .val (.int p2), .val (.int p3), .val (.int p4), .val (.int p5), .val (.int p6), .val (.long x1), .second, .val (.long y1), .second, .val (.long x2), .second, .val (.long y1), .second, .val (.long dd), .second, .val (.long (f1_0 (x2 - x1))), .second, .unset, .unset, .unset, .unset, .unset, .unset, .unset, .unset, .unset] [])) _
        refine XT.lload X33.here hx rfl (hb hby at_81) rfl ?_
        show Steps p.tables e below (T33.setTop (mkF m 83 #[.val (.int p1), .val (.int p2), .val (.int p3), .val (.int p4), .val (.int p5), .val (.int p6), .val (.long x1), .second, .val (.long y1), .second, .val (.long x2), .second, .val (.long y1), .second, .val (.long dd), .second, .val (.long (f1_0 (x2 - x1))), .second, .unset, .unset, .unset, .unset, .unset, .unset, .unset, .unset, .unset] [(.long x2)])) _
        refine XT.lload X33.here hx rfl (hb hby at_83) rfl ?_
        show Steps p.tables e below (T33.setTop (mkF m 85 #[.val (.int p1), .val (.int p2), .val (.int p3), .val (.int p4), .val (.int p5), .val (.int p6), .val (.long x1), .second, .val (.long y1), .second, .val (.long x2), .second, .val (.long y1), .second, .val (.long dd), .second, .val (.long (f1_0 (x2 - x1))), .second, .unset, .unset, .unset, .unset, .unset, .unset, .unset, .unset, .unset] [(.long x1), (.long x2)])) _
        refine XT.lsub X33.here hx rfl (hb hby at_85) rfl ?_
        show Steps p.tables e below (T33.setTop (mkF m 86 #[.val (.int p1), .val (.int p2), .val (.int p3), .val (.int p4), .val (.int p5), .val (.int p6), .val (.long x1), .second, .val (.long y1), .second, .val (.long x2), .second, .val (.long y1), .second, .val (.long dd), .second, .val (.long (f1_0 (x2 - x1))), .second, .unset, .unset, .unset, .unset, .unset, .unset, .unset, .unset, .unset] [(.long (x2 - x1))])) _
        refine XT.lstore X33.here hx rfl (hb hby at_86) rfl (l' := #[.val (.int p1), .val (.int p2), .val (.int p3), .val (.int p4), .val (.int p5), .val (.int p6), .val (.long x1), .second, .val (.long y1), .second, .val (.long x2), .second, .val (.long y1), .second, .val (.long dd), .second, .val (.long (x2 - x1)), .second, .unset, .unset, .unset, .unset, .unset, .unset, .unset, .unset, .unset]) rfl ?_
        show Steps p.tables e below (T33.setTop (mkF m 88 #[.val (.int p1), .val (.int p2), .val (.int p3), .val (.int p4), .val (.int p5), .val (.int p6), .val (.long x1), .second, .val (.long y1), .second, .val (.long x2), .second, .val (.long y1), .second, .val (.long dd), .second, .val (.long (x2 - x1)), .second, .unset, .unset, .unset, .unset, .unset, .unset, .unset, .unset, .unset] [])) _
        refine XT.lload X33.here hx rfl (hb hby at_88) rfl ?_
        show Steps p.tables e below (T33.setTop (mkF m 90 #[.val (.int p1), .val (.int p2), .val (.int p3), .val (.int p4), .val (.int p5), .val (.int p6), .val (.long x1), .second, .val (.long y1), .second, .val (.long x2), .second, .val (.long y1), .second, .val (.long dd), .second, .val (.long (x2 - x1)), .second, .unset, .unset, .unset, .unset, .unset, .unset, .unset, .unset, .unset] [(.long y1)])) _
        refine XT.lload X33.here hx rfl (hb hby at_90) rfl ?_
        show Steps p.tables e below (T33.setTop (mkF m 92 #[.val (.int p1), .val (.int p2), .val (.int p3), .val (.int p4), .val (.int p5), .val (.int p6), .val (.long x1), .second, .val (.long y1), .second, .val (.long x2), .second, .val (.long y1), .second, .val (.long dd), .second, .val (.long (x2 - x1)), .second, .unset, .unset, .unset, .unset, .unset, .unset, .unset, .unset, .unset] [(.long y1), (.long y1)])) _
        refine XT.lsub X33.here hx rfl (hb hby at_92) rfl ?_
        show Steps p.tables e below (T33.setTop (mkF m 93 #[.val (.int p1), .val (.int p2), .val (.int p3), .val (.int p4), .val (.int p5), .val (.int p6), .val (.long x1), .second, .val (.long y1), .second, .val (.long x2), .second, .val (.long y1), .second, .val (.long dd), .second, .val (.long (x2 - x1)), .second, .unset, .unset, .unset, .unset, .unset, .unset, .unset, .unset, .unset] [(.long (y1 - y1))])) _
        refine XT.lstore X33.here hx rfl (hb hby at_93) rfl (l' := #[.val (.int p1), .val (.int p2), .val (.int p3), .val (.int p4), .val (.int p5), .val (.int p6), .val (.long x1), .second, .val (.long y1), .second, .val (.long x2), .second, .val (.long y1), .second, .val (.long dd), .second, .val (.long (x2 - x1)), .second, .val (.long (y1 - y1)), .second, .unset, .unset, .unset, .unset, .unset, .unset, .unset]) rfl ?_
        show Steps p.tables e below (T33.setTop (mkF m 95 #[.val (.int p1), .val (.int p2), .val (.int p3), .val (.int p4), .val (.int p5), .val (.int p6), .val (.long x1), .second, .val (.long y1), .second, .val (.long x2), .second, .val (.long y1), .second, .val (.long dd), .second, .val (.long (x2 - x1)), .second, .val (.long (y1 - y1)), .second, .unset, .unset, .unset, .unset, .unset, .unset, .unset] [])) _
        refine XT.lload X33.here hx rfl (hb hby at_95) rfl ?_
        show Steps p.tables e below (T33.setTop (mkF m 97 #[.val (.int p1), .val (.int p2), .val (.int p3), .val (.int p4), .val (.int p5), .val (.int p6), .val (.long x1), .second, .val (.long y1), .second, .val (.long x2), .second, .val (.long y1), .second, .val (.long dd), .second, .val (.long (x2 - x1)), .second, .val (.long (y1 - y1)), .second, .unset, .unset, .unset, .unset, .unset, .unset, .unset] [(.long (x2 - x1))])) _
        refine XT.lload X33.here hx rfl (hb hby at_97) rfl ?_
        show Steps p.tables e below (T33.setTop (mkF m 99 #[.val (.int p1), .val (.int p2), .val (.int p3), .val (.int p4), .val (.int p5), .val (.int p6), .val (.long x1), .second, .val (.long y1), .second, .val (.long x2), .second, .val (.long y1), .second, .val (.long dd), .second, .val (.long (x2 - x1)), .second, .val (.long (y1 - y1)), .second, .unset, .unset, .unset, .unset, .unset, .unset, .unset] [(.long (x2 - x1)), (.long (x2 - x1))])) _
        refine XT.lmul X33.here hx rfl (hb hby at_99) rfl ?_
        show Steps p.tables e below (T33.setTop (mkF m 100 #[.val (.int p1), .val (.int p2), .val (.int p3), .val (.int p4), .val (.int p5), .val (.int p6), .val (.long x1), .second, .val (.long y1), .second, .val (.long x2), .second, .val (.long y1), .second, .val (.long dd), .second, .val (.long (x2 - x1)), .second, .val (.long (y1 - y1)), .second, .unset, .unset, .unset, .unset, .unset, .unset, .unset] [(.long ((x2 - x1) * (x2 - x1)))])) _
        refine XT.lload X33.here hx rfl (hb hby at_100) rfl ?_
        show Steps p.tables e below (T33.setTop (mkF m 102 #[.val (.int p1), .val (.int p2), .val (.int p3), .val (.int p4), .val (.int p5), .val (.int p6), .val (.long x1), .second, .val (.long y1), .second, .val (.long x2), .second, .val (.long y1), .second, .val (.long dd), .second, .val (.long (x2 - x1)), .second, .val (.long (y1 - y1)), .second, .unset, .unset, .unset, .unset, .unset, .unset, .unset] [(.long (y1 - y1)), (.long ((x2 - x1) * (x2 - x1)))])) _
        refine XT.lload X33.here hx rfl (hb hby at_102) rfl ?_
        show Steps p.tables e below (T33.setTop (mkF m 104 #[.val (.int p1), .val (.int p2), .val (.int p3), .val (.int p4), .val (.int p5), .val (.int p6), .val (.long x1), .second, .val (.long y1), .second, .val (.long x2), .second, .val (.long y1), .second, .val (.long dd), .second, .val (.long (x2 - x1)), .second, .val (.long (y1 - y1)), .second, .unset, .unset, .unset, .unset, .unset, .unset, .unset] [(.long (y1 - y1)), (.long (y1 - y1)), (.long ((x2 - x1) * (x2 - x1)))])) _
        refine XT.lmul X33.here hx rfl (hb hby at_104) rfl ?_
        show Steps p.tables e below (T33.setTop (mkF m 105 #[.val (.int p1), .val (.int p2), .val (.int p3), .val (.int p4), .val (.int p5), .val (.int p6), .val (.long x1), .second, .val (.long y1), .second, .val (.long x2), .second, .val (.long y1), .second, .val (.long dd), .second, .val (.long (x2 - x1)), .second, .val (.long (y1 - y1)), .second, .unset, .unset, .unset, .unset, .unset, .unset, .unset] [(.long ((y1 - y1) * (y1 - y1))), (.long ((x2 - x1) * (x2 - x1)))])) _
        refine XT.ladd X33.here hx rfl (hb hby at_105) rfl ?_
        show Steps p.tables e below (T33.setTop (mkF m 106 #[.val (.int p1), .val (.int p2), .val (.int p3), .val (.int p4), .val (.int p5), .val (.int p6), .val (.long x1), .second, .val (.long y1), .second, .val (.long x2), .second, .val (.long y1), .second, .val (.long dd), .second, .val (.long (x2 - x1)), .second, .val (.long (y1 - y1)), .second, .unset, .unset, .unset, .unset, .unset, .unset, .unset] [(.long (((x2 - x1) * (x2 - x1)) + ((y1 - y1) * (y1 - y1))))])) _
        refine XT.lload X33.here hx rfl (hb hby at_106) rfl ?_
        show Steps p.tables e below (T33.setTop (mkF m 108 #[.val (.int p1), .val (.int p2), .val (.int p3), .val (.int p4), .val (.int p5), .val (.int p6), .val (.long x1), .second, .val (.long y1), .second, .val (.long x2), .second, .val (.long y1), .second, .val (.long dd), .second, .val (.long (x2 - x1)), .second, .val (.long (y1 - y1)), .second, .unset, .unset, .unset, .unset, .unset, .unset, .unset] [(.long dd), (.long (((x2 - x1) * (x2 - x1)) + ((y1 - y1) * (y1 - y1))))])) _
        refine XT.lload X33.here hx rfl (hb hby at_108) rfl ?_
        show Steps p.tables e below (T33.setTop (mkF m 110 #[.val (.int p1), .val (.int p2), .val (.int p3), .val (.int p4), .val (.int p5), .val (.int p6), .val (.long x1), .second, .val (.long y1), .second, .val (.long x2), .second, .val (.long y1), .second, .val (.long dd), .second, .val (.long (x2 - x1)), .second, .val (.long (y1 - y1)), .second, .unset, .unset, .unset, .unset, .unset, .unset, .unset] [(.long dd), (.long dd), (.long (((x2 - x1) * (x2 - x1)) + ((y1 - y1) * (y1 - y1))))])) _
        refine XT.lmul X33.here hx rfl (hb hby at_110) rfl ?_
        show Steps p.tables e below (T33.setTop (mkF m 111 #[.val (.int p1), .val (.int p2), .val (.int p3), .val (.int p4), .val (.int p5), .val (.int p6), .val (.long x1), .second, .val (.long y1), .second, .val (.long x2), .second, .val (.long y1), .second, .val (.long dd), .second, .val (.long (x2 - x1)), .second, .val (.long (y1 - y1)), .second, .unset, .unset, .unset, .unset, .unset, .unset, .unset] [(.long (dd * dd)), (.long (((x2 - x1) * (x2 - x1)) + ((y1 - y1) * (y1 - y1))))])) _
        refine XT.lcmp X33.here hx rfl (hb hby at_111) rfl ?_
        show Steps p.tables e below (T33.setTop (mkF m 112 #[.val (.int p1), .val (.int p2), .val (.int p3), .val (.int p4), .val (.int p5), .val (.int p6), .val (.long x1), .second, .val (.long y1), .second, .val (.long x2), .second, .val (.long y1), .second, .val (.long dd), .second, .val (.long (x2 - x1)), .second, .val (.long (y1 - y1)), .second, .unset, .unset, .unset, .unset, .unset, .unset, .unset] [(.int (XT.cmpL (((x2 - x1) * (x2 - x1)) + ((y1 - y1) * (y1 - y1))) (dd * dd)))])) _
        exact k
      by_cases h112_38 : (0 : Int32) < (XT.cmpL (((x2 - x1) * (x2 - x1)) + ((y1 - y1) * (y1 - y1))) (dd * dd))
      · obtain ⟨T40, H40, X40, e40, E40, Q40, D40, -, st40⟩ := newO X33 hx hZ hown (hw _ (List.mem_of_getElem? (i := 5) rfl)) (hw _ (List.mem_of_getElem? (i := 6) rfl)) (hw _ (List.mem_of_getElem? (i := 7) rfl)) e33 (g := (mkF m 122 #[.val (.int p1), .val (.int p2), .val (.int p3), .val (.int p4), .val (.int p5), .val (.int p6), .val (.long x1), .second, .val (.long y1), .second, .val (.long x2), .second, .val (.long y1), .second, .val (.long dd), .second, .val (.long (x2 - x1)), .second, .val (.long (y1 - y1)), .second, .val (.int (0 : Int32)), .unset, .unset, .unset, .unset, .unset, .unset] [])) rfl (hb hby at_122) (by decide) (by decide)
        obtain ⟨b40, g40⟩ : ∃ z, z = h0.size := ⟨_, rfl⟩
        rw [← g40] at Q40 D40 st40
        have Fb40_id : Fld Z H40 b40 "com/example/rumblecourt/rumblecourt/games/hungergaming/Creature" "id" "I" (.int (0 : Int32)) := D40 (Or.inr (hw _ (List.mem_of_getElem? (i := 15) rfl))) (ty := .int) (by decide)
        have Fb40_x : Fld Z H40 b40 "com/example/rumblecourt/rumblecourt/games/hungergaming/Creature" "x" "D" (.double (0 : UInt64)) := D40 (Or.inl (hw _ (List.mem_of_getElem? (i := 22) rfl))) (ty := .double) (by decide)
        have Fb40_y : Fld Z H40 b40 "com/example/rumblecourt/rumblecourt/games/hungergaming/Creature" "y" "D" (.double (0 : UInt64)) := D40 (Or.inl (hw _ (List.mem_of_getElem? (i := 24) rfl))) (ty := .double) (by decide)
        have Fb40_position : Fld Z H40 b40 "com/example/rumblecourt/rumblecourt/games/hungergaming/Creature" "position" "Ljava/lang/String;" .null := D40 (Or.inl (hw _ (List.mem_of_getElem? (i := 26) rfl))) (ty := (.object "java/lang/String")) (by decide)
        have Z40 : n0 ≤ H40.size := Nat.le_trans Z0 E40.1
        have gb40 : n0 ≤ b40 := Nat.le_trans Z0 (Nat.le_of_eq g40.symm)
        obtain ⟨_, _, ⟨T41, L41, k41, n41⟩, -, X41, ⟨Lc41, hQ41, l41, y41, z41⟩, st41⟩ := X40.specialBack hx (y := (⟨"com/example/rumblecourt/rumblecourt/games/hungergaming/Creature", "<init>", "(IDD)V"⟩ : MethodName)) rfl hown (mvT hZ (hw _ (List.mem_of_getElem? (i := 8) rfl))) (mvT hZ (hw _ (List.mem_of_getElem? (i := 9) rfl))) (mvT hZ (hw _ (List.mem_of_getElem? (i := 10) rfl))) (by decide) (backOf (W := 1) (rm2 l Z a0 hw [] b40 (0 : Int32) x1 y1 H40 n0 Z40 Q40 Fb40_id Fb40_x Fb40_y Fb40_position gb40) hZ (hw _ (List.mem_of_getElem? (i := 10) rfl)) (hw _ (List.mem_of_getElem? (i := 7) rfl)) (by decide) (by decide)) (g := (mkF m 133 #[.val (.int p1), .val (.int p2), .val (.int p3), .val (.int p4), .val (.int p5), .val (.int p6), .val (.long x1), .second, .val (.long y1), .second, .val (.long x2), .second, .val (.long y1), .second, .val (.long dd), .second, .val (.long (x2 - x1)), .second, .val (.long (y1 - y1)), .second, .val (.int (0 : Int32)), .unset, .unset, .unset, .unset, .unset, .unset] [(.double (FP.l2d y1)), (.double (FP.l2d x1)), (.int (0 : Int32)), (.ref b40), (.ref b40)])) rfl (by rw [hml]; rfl) (Steps.refl _) (a := b40) (argsL := [(.int (0 : Int32)), (.double (FP.l2d x1)), (.double (FP.l2d y1))]) (rest := [(.ref b40)]) (lenOf pd_0_0 rfl) rfl (by show 2 * 0 + _ ≤ _; exact Nat.le_of_eq rfl) (hb hby at_133) (fun _ _ => ⟨rfl, e40, (by decide : 1 + 0 ≤ _), (by decide : 6 + 0 ≤ _)⟩)
        dsimp only [Pt.U, Pt.locs, Pt.cells, Pt.slots] at X41 l41 y41 z41 st41 hQ41
        subst l41 y41 z41
        obtain ⟨rfl, N41q, K41, EE41, Fx41, Fy41⟩ := hQ41
        have N41 := Fr.app N33 N41q
        have e41 : T41.heap = T41.heap := rfl
        have Z41 : n0 ≤ T41.heap.size := Nat.le_trans Z40 K41.1
        have Eb40_42 := Exa.keep Q40 K41
        obtain ⟨T43, H43, X43, e43, E43, Q43, D43, -, st43⟩ := newO X41 hx hZ hown (hw _ (List.mem_of_getElem? (i := 5) rfl)) (hw _ (List.mem_of_getElem? (i := 6) rfl)) (hw _ (List.mem_of_getElem? (i := 7) rfl)) e41 (g := (mkF m 138 #[.val (.int p1), .val (.int p2), .val (.int p3), .val (.int p4), .val (.int p5), .val (.int p6), .val (.long x1), .second, .val (.long y1), .second, .val (.long x2), .second, .val (.long y1), .second, .val (.long dd), .second, .val (.long (x2 - x1)), .second, .val (.long (y1 - y1)), .second, .val (.int (0 : Int32)), .val (.ref b40), .unset, .unset, .unset, .unset, .unset] [])) rfl (hb hby at_138) (by decide) (by decide)
        obtain ⟨b43, g43⟩ : ∃ z, z = T41.heap.size := ⟨_, rfl⟩
        rw [← g43] at Q43 D43 st43
        have lt_b40_b43 : b40 < b43 := Nat.lt_of_lt_of_le (Exa.lt EE41) (Nat.le_of_eq g43.symm)
        have Fb43_id : Fld Z H43 b43 "com/example/rumblecourt/rumblecourt/games/hungergaming/Creature" "id" "I" (.int (0 : Int32)) := D43 (Or.inr (hw _ (List.mem_of_getElem? (i := 15) rfl))) (ty := .int) (by decide)
        have Fb43_x : Fld Z H43 b43 "com/example/rumblecourt/rumblecourt/games/hungergaming/Creature" "x" "D" (.double (0 : UInt64)) := D43 (Or.inl (hw _ (List.mem_of_getElem? (i := 22) rfl))) (ty := .double) (by decide)
        have Fb43_y : Fld Z H43 b43 "com/example/rumblecourt/rumblecourt/games/hungergaming/Creature" "y" "D" (.double (0 : UInt64)) := D43 (Or.inl (hw _ (List.mem_of_getElem? (i := 24) rfl))) (ty := .double) (by decide)
        have Fb43_position : Fld Z H43 b43 "com/example/rumblecourt/rumblecourt/games/hungergaming/Creature" "position" "Ljava/lang/String;" .null := D43 (Or.inl (hw _ (List.mem_of_getElem? (i := 26) rfl))) (ty := (.object "java/lang/String")) (by decide)
        have Z43 : n0 ≤ H43.size := Nat.le_trans Z41 E43.1
        have gb43 : n0 ≤ b43 := Nat.le_trans Z41 (Nat.le_of_eq g43.symm)
        have Eb40_44 := Exa.ext E43 EE41
        have Fb40_x_44 := Fld.ext E43 Fx41
        have Fb40_y_44 := Fld.ext E43 Fy41
        obtain ⟨_, _, ⟨T45, L45, k45, n45⟩, -, X45, ⟨Lc45, hQ45, l45, y45, z45⟩, st45⟩ := X43.specialBack hx (y := (⟨"com/example/rumblecourt/rumblecourt/games/hungergaming/Creature", "<init>", "(IDD)V"⟩ : MethodName)) rfl hown (mvT hZ (hw _ (List.mem_of_getElem? (i := 8) rfl))) (mvT hZ (hw _ (List.mem_of_getElem? (i := 9) rfl))) (mvT hZ (hw _ (List.mem_of_getElem? (i := 10) rfl))) (by decide) (backOf (W := 1) (rm2 l Z a0 hw [] b43 (1 : Int32) x2 y1 H43 n0 Z43 Q43 Fb43_id Fb43_x Fb43_y Fb43_position gb43) hZ (hw _ (List.mem_of_getElem? (i := 10) rfl)) (hw _ (List.mem_of_getElem? (i := 7) rfl)) (by decide) (by decide)) (g := (mkF m 149 #[.val (.int p1), .val (.int p2), .val (.int p3), .val (.int p4), .val (.int p5), .val (.int p6), .val (.long x1), .second, .val (.long y1), .second, .val (.long x2), .second, .val (.long y1), .second, .val (.long dd), .second, .val (.long (x2 - x1)), .second, .val (.long (y1 - y1)), .second, .val (.int (0 : Int32)), .val (.ref b40), .unset, .unset, .unset, .unset, .unset] [(.double (FP.l2d y1)), (.double (FP.l2d x2)), (.int (1 : Int32)), (.ref b43), (.ref b43)])) rfl (by rw [hml]; rfl) (Steps.refl _) (a := b43) (argsL := [(.int (1 : Int32)), (.double (FP.l2d x2)), (.double (FP.l2d y1))]) (rest := [(.ref b43)]) (lenOf pd_0_0 rfl) rfl (by show 2 * 0 + _ ≤ _; exact Nat.le_of_eq rfl) (hb hby at_149) (fun _ _ => ⟨rfl, e43, (by decide : 2 + 0 ≤ _), (by decide : 12 + 0 ≤ _)⟩)
        dsimp only [Pt.U, Pt.locs, Pt.cells, Pt.slots] at X45 l45 y45 z45 st45 hQ45
        subst l45 y45 z45
        obtain ⟨rfl, N45q, K45, EE45, Fx45, Fy45⟩ := hQ45
        have N45 := Fr.app N41 N45q
        have e45 : T45.heap = T45.heap := rfl
        have Z45 : n0 ≤ T45.heap.size := Nat.le_trans Z43 K45.1
        have Eb40_46 := Exa.keep Eb40_44 K45
        have Fb40_x_46 := Fld.keep Fb40_x_44 K45 (fun q => (Nat.ne_of_lt lt_b40_b43) (List.mem_singleton.mp q))
        have Fb40_y_46 := Fld.keep Fb40_y_44 K45 (fun q => (Nat.ne_of_lt lt_b40_b43) (List.mem_singleton.mp q))
        have Eb43_47 := Exa.keep Q43 K45
        obtain ⟨cq48, kq48, q48a, q48b, q48c⟩ := isOf hZ e45 Eb40_46
        obtain ⟨_, _, ⟨T48, L48, k48, n48⟩, -, X48, ⟨Lc48, hQ48, l48, y48, z48⟩, st48⟩ := X45.virtualBack hx (y := (⟨"com/example/rumblecourt/rumblecourt/games/hungergaming/Creature", "within", "(Lcom/example/rumblecourt/rumblecourt/games/hungergaming/Creature;D)Z"⟩ : MethodName)) (z := (⟨"com/example/rumblecourt/rumblecourt/games/hungergaming/Creature", "within", "(Lcom/example/rumblecourt/rumblecourt/games/hungergaming/Creature;D)Z"⟩ : MethodName)) hown (mvT hZ (hw _ (List.mem_of_getElem? (i := 27) rfl))) (mvT hZ (hw _ (List.mem_of_getElem? (i := 28) rfl))) (notFace_of_selects (args := #[]) (mvT hZ (hw _ (List.mem_of_getElem? (i := 30) rfl)))) (mvT hZ (hw _ (List.mem_of_getElem? (i := 30) rfl))) (mvT hZ (hw _ (List.mem_of_getElem? (i := 29) rfl))) (by decide) (backOf (W := 0) (rm5 l Z a0 hw [] b40 b43 dd T45.heap n0 Z45 x1 y1 x2 y1 Fb40_x_46 Fb40_y_46 Fx45 Fy45 bx1 by1 bx2 by1 bdd) hZ (hw _ (List.mem_of_getElem? (i := 31) rfl)) (hw _ (List.mem_of_getElem? (i := 7) rfl)) (by decide) (by decide)) q48a q48c (g := (mkF m 165 #[.val (.int p1), .val (.int p2), .val (.int p3), .val (.int p4), .val (.int p5), .val (.int p6), .val (.long x1), .second, .val (.long y1), .second, .val (.long x2), .second, .val (.long y1), .second, .val (.long dd), .second, .val (.long (x2 - x1)), .second, .val (.long (y1 - y1)), .second, .val (.int (0 : Int32)), .val (.ref b40), .val (.ref b43), .val (.double (FP.l2d dd)), .second, .unset, .unset] [(.double (FP.l2d dd)), (.ref b43), (.ref b40)])) rfl (by rw [hml]; rfl) (Steps.refl _) (argsL := [(.ref b43), (.double (FP.l2d dd))]) (rest := []) (lenOf pd_0_1 rfl) rfl (by show 2 * 0 + _ ≤ _; exact Nat.le_of_eq rfl) (hb hby at_165) (fun _ _ => ⟨rfl, e45, (by decide : 2 + 0 ≤ _), (by decide : 12 + 0 ≤ _)⟩)
        dsimp only [Pt.U, Pt.locs, Pt.cells, Pt.slots] at X48 l48 y48 z48 st48 hQ48
        subst l48 y48 z48
        obtain ⟨rfl, N48q, e48⟩ := hQ48
        have N48 := Fr.app N45 N48q
        obtain ⟨cq49, kq49, q49a, q49b, q49c⟩ := isOf hZ e48 EE45
        obtain ⟨_, _, ⟨T49, L49, k49, n49⟩, -, X49, ⟨Lc49, hQ49, l49, y49, z49⟩, st49⟩ := X48.virtualBack hx (y := (⟨"com/example/rumblecourt/rumblecourt/games/hungergaming/Creature", "within", "(Lcom/example/rumblecourt/rumblecourt/games/hungergaming/Creature;D)Z"⟩ : MethodName)) (z := (⟨"com/example/rumblecourt/rumblecourt/games/hungergaming/Creature", "within", "(Lcom/example/rumblecourt/rumblecourt/games/hungergaming/Creature;D)Z"⟩ : MethodName)) hown (mvT hZ (hw _ (List.mem_of_getElem? (i := 27) rfl))) (mvT hZ (hw _ (List.mem_of_getElem? (i := 28) rfl))) (notFace_of_selects (args := #[]) (mvT hZ (hw _ (List.mem_of_getElem? (i := 30) rfl)))) (mvT hZ (hw _ (List.mem_of_getElem? (i := 30) rfl))) (mvT hZ (hw _ (List.mem_of_getElem? (i := 29) rfl))) (by decide) (backOf (W := 0) (rm5 l Z a0 hw [] b43 b40 dd T45.heap n0 Z45 x2 y1 x1 y1 Fx45 Fy45 Fb40_x_46 Fb40_y_46 bx2 by1 bx1 by1 bdd) hZ (hw _ (List.mem_of_getElem? (i := 31) rfl)) (hw _ (List.mem_of_getElem? (i := 7) rfl)) (by decide) (by decide)) q49a q49c (g := (mkF m 176 #[.val (.int p1), .val (.int p2), .val (.int p3), .val (.int p4), .val (.int p5), .val (.int p6), .val (.long x1), .second, .val (.long y1), .second, .val (.long x2), .second, .val (.long y1), .second, .val (.long dd), .second, .val (.long (x2 - x1)), .second, .val (.long (y1 - y1)), .second, .val (.int (0 : Int32)), .val (.ref b40), .val (.ref b43), .val (.double (FP.l2d dd)), .second, .val (.int (fW x1 y1 x2 y1 dd)), .unset] [(.double (FP.l2d dd)), (.ref b40), (.ref b43)])) rfl (by rw [hml]; rfl) (Steps.refl _) (argsL := [(.ref b40), (.double (FP.l2d dd))]) (rest := []) (lenOf pd_0_1 rfl) rfl (by show 2 * 0 + _ ≤ _; exact Nat.le_of_eq rfl) (hb hby at_176) (fun _ _ => ⟨rfl, e48, (by decide : 2 + 0 ≤ _), (by decide : 12 + 0 ≤ _)⟩)
        dsimp only [Pt.U, Pt.locs, Pt.cells, Pt.slots] at X49 l49 y49 z49 st49 hQ49
        subst l49 y49 z49
        obtain ⟨rfl, N49q, e49⟩ := hQ49
        have N49 := Fr.app N48 N49q
        have h185_50 : (fW x1 y1 x2 y1 dd) = (0 : Int32) := own_w0 h112_38
        have h192_51 : (fW x2 y1 x1 y1 dd) = (0 : Int32) := (own_sym bx1 by1 bx2 by1).trans (own_w0 h112_38)
        have pre52 : ∀ t, Steps p.tables e below (T49.setTop (mkF m 200 #[.val (.int p1), .val (.int p2), .val (.int p3), .val (.int p4), .val (.int p5), .val (.int p6), .val (.long x1), .second, .val (.long y1), .second, .val (.long x2), .second, .val (.long y1), .second, .val (.long dd), .second, .val (.long (x2 - x1)), .second, .val (.long (y1 - y1)), .second, .val (.int (0 : Int32)), .val (.ref b40), .val (.ref b43), .val (.double (FP.l2d dd)), .second, .val (.int (fW x1 y1 x2 y1 dd)), .val (.int (fW x2 y1 x1 y1 dd))] [(.int (1 : Int32))])) t → Steps p.tables e below (s₁.setTop (entryFrame m #[(.int p1), (.int p2), (.int p3), (.int p4), (.int p5), (.int p6)] maxLocals)) t := by
          intro t k
          refine pre39 t ?_
          refine XS.ifYes X33.here hx rfl (pc0 := 112) (pc' := 119) rfl (hb hby at_112) rfl ((if0 _ _).trans (tlt h112_38).2.2.1) (by decide) (by decide) ?_
          show Steps p.tables e below (T33.setTop (mkF m 119 #[.val (.int p1), .val (.int p2), .val (.int p3), .val (.int p4), .val (.int p5), .val (.int p6), .val (.long x1), .second, .val (.long y1), .second, .val (.long x2), .second, .val (.long y1), .second, .val (.long dd), .second, .val (.long (x2 - x1)), .second, .val (.long (y1 - y1)), .second, .unset, .unset, .unset, .unset, .unset, .unset, .unset] [])) _
          refine XS.iconst X33.here hx rfl (hb hby at_119) ?_
          show Steps p.tables e below (T33.setTop (mkF m 120 #[.val (.int p1), .val (.int p2), .val (.int p3), .val (.int p4), .val (.int p5), .val (.int p6), .val (.long x1), .second, .val (.long y1), .second, .val (.long x2), .second, .val (.long y1), .second, .val (.long dd), .second, .val (.long (x2 - x1)), .second, .val (.long (y1 - y1)), .second, .unset, .unset, .unset, .unset, .unset, .unset, .unset] [(.int (0 : Int32))])) _
          refine XS.istore X33.here hx rfl (hb hby at_120) rfl (l' := #[.val (.int p1), .val (.int p2), .val (.int p3), .val (.int p4), .val (.int p5), .val (.int p6), .val (.long x1), .second, .val (.long y1), .second, .val (.long x2), .second, .val (.long y1), .second, .val (.long dd), .second, .val (.long (x2 - x1)), .second, .val (.long (y1 - y1)), .second, .val (.int (0 : Int32)), .unset, .unset, .unset, .unset, .unset, .unset]) rfl ?_
          show Steps p.tables e below (T33.setTop (mkF m 122 #[.val (.int p1), .val (.int p2), .val (.int p3), .val (.int p4), .val (.int p5), .val (.int p6), .val (.long x1), .second, .val (.long y1), .second, .val (.long x2), .second, .val (.long y1), .second, .val (.long dd), .second, .val (.long (x2 - x1)), .second, .val (.long (y1 - y1)), .second, .val (.int (0 : Int32)), .unset, .unset, .unset, .unset, .unset, .unset] [])) _
          refine st40 _ ?_
          show Steps p.tables e below (T40.setTop (mkF m 125 #[.val (.int p1), .val (.int p2), .val (.int p3), .val (.int p4), .val (.int p5), .val (.int p6), .val (.long x1), .second, .val (.long y1), .second, .val (.long x2), .second, .val (.long y1), .second, .val (.long dd), .second, .val (.long (x2 - x1)), .second, .val (.long (y1 - y1)), .second, .val (.int (0 : Int32)), .unset, .unset, .unset, .unset, .unset, .unset] [(.ref b40)])) _
          refine XS.dup X40.here hx rfl (hb hby at_125) rfl rfl ?_
          show Steps p.tables e below (T40.setTop (mkF m 126 #[.val (.int p1), .val (.int p2), .val (.int p3), .val (.int p4), .val (.int p5), .val (.int p6), .val (.long x1), .second, .val (.long y1), .second, .val (.long x2), .second, .val (.long y1), .second, .val (.long dd), .second, .val (.long (x2 - x1)), .second, .val (.long (y1 - y1)), .second, .val (.int (0 : Int32)), .unset, .unset, .unset, .unset, .unset, .unset] [(.ref b40), (.ref b40)])) _
          refine XS.iconst X40.here hx rfl (hb hby at_126) ?_
          show Steps p.tables e below (T40.setTop (mkF m 127 #[.val (.int p1), .val (.int p2), .val (.int p3), .val (.int p4), .val (.int p5), .val (.int p6), .val (.long x1), .second, .val (.long y1), .second, .val (.long x2), .second, .val (.long y1), .second, .val (.long dd), .second, .val (.long (x2 - x1)), .second, .val (.long (y1 - y1)), .second, .val (.int (0 : Int32)), .unset, .unset, .unset, .unset, .unset, .unset] [(.int (0 : Int32)), (.ref b40), (.ref b40)])) _
          refine XT.lload X40.here hx rfl (hb hby at_127) rfl ?_
          show Steps p.tables e below (T40.setTop (mkF m 129 #[.val (.int p1), .val (.int p2), .val (.int p3), .val (.int p4), .val (.int p5), .val (.int p6), .val (.long x1), .second, .val (.long y1), .second, .val (.long x2), .second, .val (.long y1), .second, .val (.long dd), .second, .val (.long (x2 - x1)), .second, .val (.long (y1 - y1)), .second, .val (.int (0 : Int32)), .unset, .unset, .unset, .unset, .unset, .unset] [(.long x1), (.int (0 : Int32)), (.ref b40), (.ref b40)])) _
          refine XS.l2dS X40.here hx rfl (hb hby at_129) rfl (v := FP.l2d x1) rfl ?_
          show Steps p.tables e below (T40.setTop (mkF m 130 #[.val (.int p1), .val (.int p2), .val (.int p3), .val (.int p4), .val (.int p5), .val (.int p6), .val (.long x1), .second, .val (.long y1), .second, .val (.long x2), .second, .val (.long y1), .second, .val (.long dd), .second, .val (.long (x2 - x1)), .second, .val (.long (y1 - y1)), .second, .val (.int (0 : Int32)), .unset, .unset, .unset, .unset, .unset, .unset] [(.double (FP.l2d x1)), (.int (0 : Int32)), (.ref b40), (.ref b40)])) _
          refine XT.lload X40.here hx rfl (hb hby at_130) rfl ?_
          show Steps p.tables e below (T40.setTop (mkF m 132 #[.val (.int p1), .val (.int p2), .val (.int p3), .val (.int p4), .val (.int p5), .val (.int p6), .val (.long x1), .second, .val (.long y1), .second, .val (.long x2), .second, .val (.long y1), .second, .val (.long dd), .second, .val (.long (x2 - x1)), .second, .val (.long (y1 - y1)), .second, .val (.int (0 : Int32)), .unset, .unset, .unset, .unset, .unset, .unset] [(.long y1), (.double (FP.l2d x1)), (.int (0 : Int32)), (.ref b40), (.ref b40)])) _
          refine XS.l2dS X40.here hx rfl (hb hby at_132) rfl (v := FP.l2d y1) rfl ?_
          show Steps p.tables e below (T40.setTop (mkF m 133 #[.val (.int p1), .val (.int p2), .val (.int p3), .val (.int p4), .val (.int p5), .val (.int p6), .val (.long x1), .second, .val (.long y1), .second, .val (.long x2), .second, .val (.long y1), .second, .val (.long dd), .second, .val (.long (x2 - x1)), .second, .val (.long (y1 - y1)), .second, .val (.int (0 : Int32)), .unset, .unset, .unset, .unset, .unset, .unset] [(.double (FP.l2d y1)), (.double (FP.l2d x1)), (.int (0 : Int32)), (.ref b40), (.ref b40)])) _
          refine st41.trans ?_
          show Steps p.tables e below (T41.setTop (mkF m 136 #[.val (.int p1), .val (.int p2), .val (.int p3), .val (.int p4), .val (.int p5), .val (.int p6), .val (.long x1), .second, .val (.long y1), .second, .val (.long x2), .second, .val (.long y1), .second, .val (.long dd), .second, .val (.long (x2 - x1)), .second, .val (.long (y1 - y1)), .second, .val (.int (0 : Int32)), .unset, .unset, .unset, .unset, .unset, .unset] [(.ref b40)])) _
          refine XS.astore X41.here hx rfl (hb hby at_136) rfl rfl (l' := #[.val (.int p1), .val (.int p2), .val (.int p3), .val (.int p4), .val (.int p5), .val (.int p6), .val (.long x1), .second, .val (.long y1), .second, .val (.long x2), .second, .val (.long y1), .second, .val (.long dd), .second, .val (.long (x2 - x1)), .second, .val (.long (y1 - y1)), .second, .val (.int (0 : Int32)), .val (.ref b40), .unset, .unset, .unset, .unset, .unset]) rfl ?_
          show Steps p.tables e below (T41.setTop (mkF m 138 #[.val (.int p1), .val (.int p2), .val (.int p3), .val (.int p4), .val (.int p5), .val (.int p6), .val (.long x1), .second, .val (.long y1), .second, .val (.long x2), .second, .val (.long y1), .second, .val (.long dd), .second, .val (.long (x2 - x1)), .second, .val (.long (y1 - y1)), .second, .val (.int (0 : Int32)), .val (.ref b40), .unset, .unset, .unset, .unset, .unset] [])) _
          refine st43 _ ?_
          show Steps p.tables e below (T43.setTop (mkF m 141 #[.val (.int p1), .val (.int p2), .val (.int p3), .val (.int p4), .val (.int p5), .val (.int p6), .val (.long x1), .second, .val (.long y1), .second, .val (.long x2), .second, .val (.long y1), .second, .val (.long dd), .second, .val (.long (x2 - x1)), .second, .val (.long (y1 - y1)), .second, .val (.int (0 : Int32)), .val (.ref b40), .unset, .unset, .unset, .unset, .unset] [(.ref b43)])) _
          refine XS.dup X43.here hx rfl (hb hby at_141) rfl rfl ?_
          show Steps p.tables e below (T43.setTop (mkF m 142 #[.val (.int p1), .val (.int p2), .val (.int p3), .val (.int p4), .val (.int p5), .val (.int p6), .val (.long x1), .second, .val (.long y1), .second, .val (.long x2), .second, .val (.long y1), .second, .val (.long dd), .second, .val (.long (x2 - x1)), .second, .val (.long (y1 - y1)), .second, .val (.int (0 : Int32)), .val (.ref b40), .unset, .unset, .unset, .unset, .unset] [(.ref b43), (.ref b43)])) _
          refine XS.iconst X43.here hx rfl (hb hby at_142) ?_
          show Steps p.tables e below (T43.setTop (mkF m 143 #[.val (.int p1), .val (.int p2), .val (.int p3), .val (.int p4), .val (.int p5), .val (.int p6), .val (.long x1), .second, .val (.long y1), .second, .val (.long x2), .second, .val (.long y1), .second, .val (.long dd), .second, .val (.long (x2 - x1)), .second, .val (.long (y1 - y1)), .second, .val (.int (0 : Int32)), .val (.ref b40), .unset, .unset, .unset, .unset, .unset] [(.int (1 : Int32)), (.ref b43), (.ref b43)])) _
          refine XT.lload X43.here hx rfl (hb hby at_143) rfl ?_
          show Steps p.tables e below (T43.setTop (mkF m 145 #[.val (.int p1), .val (.int p2), .val (.int p3), .val (.int p4), .val (.int p5), .val (.int p6), .val (.long x1), .second, .val (.long y1), .second, .val (.long x2), .second, .val (.long y1), .second, .val (.long dd), .second, .val (.long (x2 - x1)), .second, .val (.long (y1 - y1)), .second, .val (.int (0 : Int32)), .val (.ref b40), .unset, .unset, .unset, .unset, .unset] [(.long x2), (.int (1 : Int32)), (.ref b43), (.ref b43)])) _
          refine XS.l2dS X43.here hx rfl (hb hby at_145) rfl (v := FP.l2d x2) rfl ?_
          show Steps p.tables e below (T43.setTop (mkF m 146 #[.val (.int p1), .val (.int p2), .val (.int p3), .val (.int p4), .val (.int p5), .val (.int p6), .val (.long x1), .second, .val (.long y1), .second, .val (.long x2), .second, .val (.long y1), .second, .val (.long dd), .second, .val (.long (x2 - x1)), .second, .val (.long (y1 - y1)), .second, .val (.int (0 : Int32)), .val (.ref b40), .unset, .unset, .unset, .unset, .unset] [(.double (FP.l2d x2)), (.int (1 : Int32)), (.ref b43), (.ref b43)])) _
          refine XT.lload X43.here hx rfl (hb hby at_146) rfl ?_
          show Steps p.tables e below (T43.setTop (mkF m 148 #[.val (.int p1), .val (.int p2), .val (.int p3), .val (.int p4), .val (.int p5), .val (.int p6), .val (.long x1), .second, .val (.long y1), .second, .val (.long x2), .second, .val (.long y1), .second, .val (.long dd), .second, .val (.long (x2 - x1)), .second, .val (.long (y1 - y1)), .second, .val (.int (0 : Int32)), .val (.ref b40), .unset, .unset, .unset, .unset, .unset] [(.long y1), (.double (FP.l2d x2)), (.int (1 : Int32)), (.ref b43), (.ref b43)])) _
          refine XS.l2dS X43.here hx rfl (hb hby at_148) rfl (v := FP.l2d y1) rfl ?_
          show Steps p.tables e below (T43.setTop (mkF m 149 #[.val (.int p1), .val (.int p2), .val (.int p3), .val (.int p4), .val (.int p5), .val (.int p6), .val (.long x1), .second, .val (.long y1), .second, .val (.long x2), .second, .val (.long y1), .second, .val (.long dd), .second, .val (.long (x2 - x1)), .second, .val (.long (y1 - y1)), .second, .val (.int (0 : Int32)), .val (.ref b40), .unset, .unset, .unset, .unset, .unset] [(.double (FP.l2d y1)), (.double (FP.l2d x2)), (.int (1 : Int32)), (.ref b43), (.ref b43)])) _
          refine st45.trans ?_
          show Steps p.tables e below (T45.setTop (mkF m 152 #[.val (.int p1), .val (.int p2), .val (.int p3), .val (.int p4), .val (.int p5), .val (.int p6), .val (.long x1), .second, .val (.long y1), .second, .val (.long x2), .second, .val (.long y1), .second, .val (.long dd), .second, .val (.long (x2 - x1)), .second, .val (.long (y1 - y1)), .second, .val (.int (0 : Int32)), .val (.ref b40), .unset, .unset, .unset, .unset, .unset] [(.ref b43)])) _
          refine XS.astore X45.here hx rfl (hb hby at_152) rfl rfl (l' := #[.val (.int p1), .val (.int p2), .val (.int p3), .val (.int p4), .val (.int p5), .val (.int p6), .val (.long x1), .second, .val (.long y1), .second, .val (.long x2), .second, .val (.long y1), .second, .val (.long dd), .second, .val (.long (x2 - x1)), .second, .val (.long (y1 - y1)), .second, .val (.int (0 : Int32)), .val (.ref b40), .val (.ref b43), .unset, .unset, .unset, .unset]) rfl ?_
          show Steps p.tables e below (T45.setTop (mkF m 154 #[.val (.int p1), .val (.int p2), .val (.int p3), .val (.int p4), .val (.int p5), .val (.int p6), .val (.long x1), .second, .val (.long y1), .second, .val (.long x2), .second, .val (.long y1), .second, .val (.long dd), .second, .val (.long (x2 - x1)), .second, .val (.long (y1 - y1)), .second, .val (.int (0 : Int32)), .val (.ref b40), .val (.ref b43), .unset, .unset, .unset, .unset] [])) _
          refine XT.lload X45.here hx rfl (hb hby at_154) rfl ?_
          show Steps p.tables e below (T45.setTop (mkF m 156 #[.val (.int p1), .val (.int p2), .val (.int p3), .val (.int p4), .val (.int p5), .val (.int p6), .val (.long x1), .second, .val (.long y1), .second, .val (.long x2), .second, .val (.long y1), .second, .val (.long dd), .second, .val (.long (x2 - x1)), .second, .val (.long (y1 - y1)), .second, .val (.int (0 : Int32)), .val (.ref b40), .val (.ref b43), .unset, .unset, .unset, .unset] [(.long dd)])) _
          refine XS.l2dS X45.here hx rfl (hb hby at_156) rfl (v := FP.l2d dd) rfl ?_
          show Steps p.tables e below (T45.setTop (mkF m 157 #[.val (.int p1), .val (.int p2), .val (.int p3), .val (.int p4), .val (.int p5), .val (.int p6), .val (.long x1), .second, .val (.long y1), .second, .val (.long x2), .second, .val (.long y1), .second, .val (.long dd), .second, .val (.long (x2 - x1)), .second, .val (.long (y1 - y1)), .second, .val (.int (0 : Int32)), .val (.ref b40), .val (.ref b43), .unset, .unset, .unset, .unset] [(.double (FP.l2d dd))])) _
          refine XS.dstore X45.here hx rfl (hb hby at_157) rfl (l' := #[.val (.int p1), .val (.int p2), .val (.int p3), .val (.int p4), .val (.int p5), .val (.int p6), .val (.long x1), .second, .val (.long y1), .second, .val (.long x2), .second, .val (.long y1), .second, .val (.long dd), .second, .val (.long (x2 - x1)), .second, .val (.long (y1 - y1)), .second, .val (.int (0 : Int32)), .val (.ref b40), .val (.ref b43), .val (.double (FP.l2d dd)), .second, .unset, .unset]) rfl ?_
          show Steps p.tables e below (T45.setTop (mkF m 159 #[.val (.int p1), .val (.int p2), .val (.int p3), .val (.int p4), .val (.int p5), .val (.int p6), .val (.long x1), .second, .val (.long y1), .second, .val (.long x2), .second, .val (.long y1), .second, .val (.long dd), .second, .val (.long (x2 - x1)), .second, .val (.long (y1 - y1)), .second, .val (.int (0 : Int32)), .val (.ref b40), .val (.ref b43), .val (.double (FP.l2d dd)), .second, .unset, .unset] [])) _
          refine XS.aload X45.here hx rfl (hb hby at_159) rfl rfl ?_
          show Steps p.tables e below (T45.setTop (mkF m 161 #[.val (.int p1), .val (.int p2), .val (.int p3), .val (.int p4), .val (.int p5), .val (.int p6), .val (.long x1), .second, .val (.long y1), .second, .val (.long x2), .second, .val (.long y1), .second, .val (.long dd), .second, .val (.long (x2 - x1)), .second, .val (.long (y1 - y1)), .second, .val (.int (0 : Int32)), .val (.ref b40), .val (.ref b43), .val (.double (FP.l2d dd)), .second, .unset, .unset] [(.ref b40)])) _
          refine XS.aload X45.here hx rfl (hb hby at_161) rfl rfl ?_
          show Steps p.tables e below (T45.setTop (mkF m 163 #[.val (.int p1), .val (.int p2), .val (.int p3), .val (.int p4), .val (.int p5), .val (.int p6), .val (.long x1), .second, .val (.long y1), .second, .val (.long x2), .second, .val (.long y1), .second, .val (.long dd), .second, .val (.long (x2 - x1)), .second, .val (.long (y1 - y1)), .second, .val (.int (0 : Int32)), .val (.ref b40), .val (.ref b43), .val (.double (FP.l2d dd)), .second, .unset, .unset] [(.ref b43), (.ref b40)])) _
          refine XS.dload X45.here hx rfl (hb hby at_163) rfl ?_
          show Steps p.tables e below (T45.setTop (mkF m 165 #[.val (.int p1), .val (.int p2), .val (.int p3), .val (.int p4), .val (.int p5), .val (.int p6), .val (.long x1), .second, .val (.long y1), .second, .val (.long x2), .second, .val (.long y1), .second, .val (.long dd), .second, .val (.long (x2 - x1)), .second, .val (.long (y1 - y1)), .second, .val (.int (0 : Int32)), .val (.ref b40), .val (.ref b43), .val (.double (FP.l2d dd)), .second, .unset, .unset] [(.double (FP.l2d dd)), (.ref b43), (.ref b40)])) _
          refine st48.trans ?_
          show Steps p.tables e below (T48.setTop (mkF m 168 #[.val (.int p1), .val (.int p2), .val (.int p3), .val (.int p4), .val (.int p5), .val (.int p6), .val (.long x1), .second, .val (.long y1), .second, .val (.long x2), .second, .val (.long y1), .second, .val (.long dd), .second, .val (.long (x2 - x1)), .second, .val (.long (y1 - y1)), .second, .val (.int (0 : Int32)), .val (.ref b40), .val (.ref b43), .val (.double (FP.l2d dd)), .second, .unset, .unset] [(.int (fW x1 y1 x2 y1 dd))])) _
          refine XS.istore X48.here hx rfl (hb hby at_168) rfl (l' := #[.val (.int p1), .val (.int p2), .val (.int p3), .val (.int p4), .val (.int p5), .val (.int p6), .val (.long x1), .second, .val (.long y1), .second, .val (.long x2), .second, .val (.long y1), .second, .val (.long dd), .second, .val (.long (x2 - x1)), .second, .val (.long (y1 - y1)), .second, .val (.int (0 : Int32)), .val (.ref b40), .val (.ref b43), .val (.double (FP.l2d dd)), .second, .val (.int (fW x1 y1 x2 y1 dd)), .unset]) rfl ?_
          show Steps p.tables e below (T48.setTop (mkF m 170 #[.val (.int p1), .val (.int p2), .val (.int p3), .val (.int p4), .val (.int p5), .val (.int p6), .val (.long x1), .second, .val (.long y1), .second, .val (.long x2), .second, .val (.long y1), .second, .val (.long dd), .second, .val (.long (x2 - x1)), .second, .val (.long (y1 - y1)), .second, .val (.int (0 : Int32)), .val (.ref b40), .val (.ref b43), .val (.double (FP.l2d dd)), .second, .val (.int (fW x1 y1 x2 y1 dd)), .unset] [])) _
          refine XS.aload X48.here hx rfl (hb hby at_170) rfl rfl ?_
          show Steps p.tables e below (T48.setTop (mkF m 172 #[.val (.int p1), .val (.int p2), .val (.int p3), .val (.int p4), .val (.int p5), .val (.int p6), .val (.long x1), .second, .val (.long y1), .second, .val (.long x2), .second, .val (.long y1), .second, .val (.long dd), .second, .val (.long (x2 - x1)), .second, .val (.long (y1 - y1)), .second, .val (.int (0 : Int32)), .val (.ref b40), .val (.ref b43), .val (.double (FP.l2d dd)), .second, .val (.int (fW x1 y1 x2 y1 dd)), .unset] [(.ref b43)])) _
          refine XS.aload X48.here hx rfl (hb hby at_172) rfl rfl ?_
          show Steps p.tables e below (T48.setTop (mkF m 174 #[.val (.int p1), .val (.int p2), .val (.int p3), .val (.int p4), .val (.int p5), .val (.int p6), .val (.long x1), .second, .val (.long y1), .second, .val (.long x2), .second, .val (.long y1), .second, .val (.long dd), .second, .val (.long (x2 - x1)), .second, .val (.long (y1 - y1)), .second, .val (.int (0 : Int32)), .val (.ref b40), .val (.ref b43), .val (.double (FP.l2d dd)), .second, .val (.int (fW x1 y1 x2 y1 dd)), .unset] [(.ref b40), (.ref b43)])) _
          refine XS.dload X48.here hx rfl (hb hby at_174) rfl ?_
          show Steps p.tables e below (T48.setTop (mkF m 176 #[.val (.int p1), .val (.int p2), .val (.int p3), .val (.int p4), .val (.int p5), .val (.int p6), .val (.long x1), .second, .val (.long y1), .second, .val (.long x2), .second, .val (.long y1), .second, .val (.long dd), .second, .val (.long (x2 - x1)), .second, .val (.long (y1 - y1)), .second, .val (.int (0 : Int32)), .val (.ref b40), .val (.ref b43), .val (.double (FP.l2d dd)), .second, .val (.int (fW x1 y1 x2 y1 dd)), .unset] [(.double (FP.l2d dd)), (.ref b40), (.ref b43)])) _
          refine st49.trans ?_
          show Steps p.tables e below (T49.setTop (mkF m 179 #[.val (.int p1), .val (.int p2), .val (.int p3), .val (.int p4), .val (.int p5), .val (.int p6), .val (.long x1), .second, .val (.long y1), .second, .val (.long x2), .second, .val (.long y1), .second, .val (.long dd), .second, .val (.long (x2 - x1)), .second, .val (.long (y1 - y1)), .second, .val (.int (0 : Int32)), .val (.ref b40), .val (.ref b43), .val (.double (FP.l2d dd)), .second, .val (.int (fW x1 y1 x2 y1 dd)), .unset] [(.int (fW x2 y1 x1 y1 dd))])) _
          refine XS.istore X49.here hx rfl (hb hby at_179) rfl (l' := #[.val (.int p1), .val (.int p2), .val (.int p3), .val (.int p4), .val (.int p5), .val (.int p6), .val (.long x1), .second, .val (.long y1), .second, .val (.long x2), .second, .val (.long y1), .second, .val (.long dd), .second, .val (.long (x2 - x1)), .second, .val (.long (y1 - y1)), .second, .val (.int (0 : Int32)), .val (.ref b40), .val (.ref b43), .val (.double (FP.l2d dd)), .second, .val (.int (fW x1 y1 x2 y1 dd)), .val (.int (fW x2 y1 x1 y1 dd))]) rfl ?_
          show Steps p.tables e below (T49.setTop (mkF m 181 #[.val (.int p1), .val (.int p2), .val (.int p3), .val (.int p4), .val (.int p5), .val (.int p6), .val (.long x1), .second, .val (.long y1), .second, .val (.long x2), .second, .val (.long y1), .second, .val (.long dd), .second, .val (.long (x2 - x1)), .second, .val (.long (y1 - y1)), .second, .val (.int (0 : Int32)), .val (.ref b40), .val (.ref b43), .val (.double (FP.l2d dd)), .second, .val (.int (fW x1 y1 x2 y1 dd)), .val (.int (fW x2 y1 x1 y1 dd))] [])) _
          refine XS.iload X49.here hx rfl (hb hby at_181) rfl ?_
          show Steps p.tables e below (T49.setTop (mkF m 183 #[.val (.int p1), .val (.int p2), .val (.int p3), .val (.int p4), .val (.int p5), .val (.int p6), .val (.long x1), .second, .val (.long y1), .second, .val (.long x2), .second, .val (.long y1), .second, .val (.long dd), .second, .val (.long (x2 - x1)), .second, .val (.long (y1 - y1)), .second, .val (.int (0 : Int32)), .val (.ref b40), .val (.ref b43), .val (.double (FP.l2d dd)), .second, .val (.int (fW x1 y1 x2 y1 dd)), .val (.int (fW x2 y1 x1 y1 dd))] [(.int (fW x1 y1 x2 y1 dd))])) _
          refine XS.iload X49.here hx rfl (hb hby at_183) rfl ?_
          show Steps p.tables e below (T49.setTop (mkF m 185 #[.val (.int p1), .val (.int p2), .val (.int p3), .val (.int p4), .val (.int p5), .val (.int p6), .val (.long x1), .second, .val (.long y1), .second, .val (.long x2), .second, .val (.long y1), .second, .val (.long dd), .second, .val (.long (x2 - x1)), .second, .val (.long (y1 - y1)), .second, .val (.int (0 : Int32)), .val (.ref b40), .val (.ref b43), .val (.double (FP.l2d dd)), .second, .val (.int (fW x1 y1 x2 y1 dd)), .val (.int (fW x2 y1 x1 y1 dd))] [(.int (0 : Int32)), (.int (fW x1 y1 x2 y1 dd))])) _
          refine XS.icmpNo X49.here hx rfl (hb hby at_185) rfl (teq h185_50).2 ?_
          show Steps p.tables e below (T49.setTop (mkF m 188 #[.val (.int p1), .val (.int p2), .val (.int p3), .val (.int p4), .val (.int p5), .val (.int p6), .val (.long x1), .second, .val (.long y1), .second, .val (.long x2), .second, .val (.long y1), .second, .val (.long dd), .second, .val (.long (x2 - x1)), .second, .val (.long (y1 - y1)), .second, .val (.int (0 : Int32)), .val (.ref b40), .val (.ref b43), .val (.double (FP.l2d dd)), .second, .val (.int (fW x1 y1 x2 y1 dd)), .val (.int (fW x2 y1 x1 y1 dd))] [])) _
          refine XS.iload X49.here hx rfl (hb hby at_188) rfl ?_
          show Steps p.tables e below (T49.setTop (mkF m 190 #[.val (.int p1), .val (.int p2), .val (.int p3), .val (.int p4), .val (.int p5), .val (.int p6), .val (.long x1), .second, .val (.long y1), .second, .val (.long x2), .second, .val (.long y1), .second, .val (.long dd), .second, .val (.long (x2 - x1)), .second, .val (.long (y1 - y1)), .second, .val (.int (0 : Int32)), .val (.ref b40), .val (.ref b43), .val (.double (FP.l2d dd)), .second, .val (.int (fW x1 y1 x2 y1 dd)), .val (.int (fW x2 y1 x1 y1 dd))] [(.int (fW x2 y1 x1 y1 dd))])) _
          refine XS.iload X49.here hx rfl (hb hby at_190) rfl ?_
          show Steps p.tables e below (T49.setTop (mkF m 192 #[.val (.int p1), .val (.int p2), .val (.int p3), .val (.int p4), .val (.int p5), .val (.int p6), .val (.long x1), .second, .val (.long y1), .second, .val (.long x2), .second, .val (.long y1), .second, .val (.long dd), .second, .val (.long (x2 - x1)), .second, .val (.long (y1 - y1)), .second, .val (.int (0 : Int32)), .val (.ref b40), .val (.ref b43), .val (.double (FP.l2d dd)), .second, .val (.int (fW x1 y1 x2 y1 dd)), .val (.int (fW x2 y1 x1 y1 dd))] [(.int (0 : Int32)), (.int (fW x2 y1 x1 y1 dd))])) _
          refine XS.icmpNo X49.here hx rfl (hb hby at_192) rfl (teq h192_51).2 ?_
          show Steps p.tables e below (T49.setTop (mkF m 195 #[.val (.int p1), .val (.int p2), .val (.int p3), .val (.int p4), .val (.int p5), .val (.int p6), .val (.long x1), .second, .val (.long y1), .second, .val (.long x2), .second, .val (.long y1), .second, .val (.long dd), .second, .val (.long (x2 - x1)), .second, .val (.long (y1 - y1)), .second, .val (.int (0 : Int32)), .val (.ref b40), .val (.ref b43), .val (.double (FP.l2d dd)), .second, .val (.int (fW x1 y1 x2 y1 dd)), .val (.int (fW x2 y1 x1 y1 dd))] [])) _
          refine XS.iconst X49.here hx rfl (hb hby at_195) ?_
          show Steps p.tables e below (T49.setTop (mkF m 196 #[.val (.int p1), .val (.int p2), .val (.int p3), .val (.int p4), .val (.int p5), .val (.int p6), .val (.long x1), .second, .val (.long y1), .second, .val (.long x2), .second, .val (.long y1), .second, .val (.long dd), .second, .val (.long (x2 - x1)), .second, .val (.long (y1 - y1)), .second, .val (.int (0 : Int32)), .val (.ref b40), .val (.ref b43), .val (.double (FP.l2d dd)), .second, .val (.int (fW x1 y1 x2 y1 dd)), .val (.int (fW x2 y1 x1 y1 dd))] [(.int (1 : Int32))])) _
          refine XS.goto X49.here hx rfl (pc0 := 196) (pc' := 200) rfl (hb hby at_196) (by decide) (by decide) ?_
          show Steps p.tables e below (T49.setTop (mkF m 200 #[.val (.int p1), .val (.int p2), .val (.int p3), .val (.int p4), .val (.int p5), .val (.int p6), .val (.long x1), .second, .val (.long y1), .second, .val (.long x2), .second, .val (.long y1), .second, .val (.long dd), .second, .val (.long (x2 - x1)), .second, .val (.long (y1 - y1)), .second, .val (.int (0 : Int32)), .val (.ref b40), .val (.ref b43), .val (.double (FP.l2d dd)), .second, .val (.int (fW x1 y1 x2 y1 dd)), .val (.int (fW x2 y1 x1 y1 dd))] [(.int (1 : Int32))])) _
          exact k
        obtain ⟨fs, hr, hrun, hended, hW, hsame⟩ := X49.leave (v := some (.int (1 : Int32))) (fun h => by rw [Bd.returns] at h; cases h)
        refine ⟨_, _, pre52 _ ?_, hrun, hended, _, _, rfl, ?_, ⟨_, rfl⟩, hW, hsame.mono (by decide) (by decide)⟩
        · exact retN X49 hx (t := .boolean) Bd.returns (by simp) (hb hby at_200) hr
        · exact ⟨rfl, N49⟩
      · obtain ⟨T53, H53, X53, e53, E53, Q53, D53, -, st53⟩ := newO X33 hx hZ hown (hw _ (List.mem_of_getElem? (i := 5) rfl)) (hw _ (List.mem_of_getElem? (i := 6) rfl)) (hw _ (List.mem_of_getElem? (i := 7) rfl)) e33 (g := (mkF m 122 #[.val (.int p1), .val (.int p2), .val (.int p3), .val (.int p4), .val (.int p5), .val (.int p6), .val (.long x1), .second, .val (.long y1), .second, .val (.long x2), .second, .val (.long y1), .second, .val (.long dd), .second, .val (.long (x2 - x1)), .second, .val (.long (y1 - y1)), .second, .val (.int (1 : Int32)), .unset, .unset, .unset, .unset, .unset, .unset] [])) rfl (hb hby at_122) (by decide) (by decide)
        obtain ⟨b53, g53⟩ : ∃ z, z = h0.size := ⟨_, rfl⟩
        rw [← g53] at Q53 D53 st53
        have Fb53_id : Fld Z H53 b53 "com/example/rumblecourt/rumblecourt/games/hungergaming/Creature" "id" "I" (.int (0 : Int32)) := D53 (Or.inr (hw _ (List.mem_of_getElem? (i := 15) rfl))) (ty := .int) (by decide)
        have Fb53_x : Fld Z H53 b53 "com/example/rumblecourt/rumblecourt/games/hungergaming/Creature" "x" "D" (.double (0 : UInt64)) := D53 (Or.inl (hw _ (List.mem_of_getElem? (i := 22) rfl))) (ty := .double) (by decide)
        have Fb53_y : Fld Z H53 b53 "com/example/rumblecourt/rumblecourt/games/hungergaming/Creature" "y" "D" (.double (0 : UInt64)) := D53 (Or.inl (hw _ (List.mem_of_getElem? (i := 24) rfl))) (ty := .double) (by decide)
        have Fb53_position : Fld Z H53 b53 "com/example/rumblecourt/rumblecourt/games/hungergaming/Creature" "position" "Ljava/lang/String;" .null := D53 (Or.inl (hw _ (List.mem_of_getElem? (i := 26) rfl))) (ty := (.object "java/lang/String")) (by decide)
        have Z53 : n0 ≤ H53.size := Nat.le_trans Z0 E53.1
        have gb53 : n0 ≤ b53 := Nat.le_trans Z0 (Nat.le_of_eq g53.symm)
        obtain ⟨_, _, ⟨T54, L54, k54, n54⟩, -, X54, ⟨Lc54, hQ54, l54, y54, z54⟩, st54⟩ := X53.specialBack hx (y := (⟨"com/example/rumblecourt/rumblecourt/games/hungergaming/Creature", "<init>", "(IDD)V"⟩ : MethodName)) rfl hown (mvT hZ (hw _ (List.mem_of_getElem? (i := 8) rfl))) (mvT hZ (hw _ (List.mem_of_getElem? (i := 9) rfl))) (mvT hZ (hw _ (List.mem_of_getElem? (i := 10) rfl))) (by decide) (backOf (W := 1) (rm2 l Z a0 hw [] b53 (0 : Int32) x1 y1 H53 n0 Z53 Q53 Fb53_id Fb53_x Fb53_y Fb53_position gb53) hZ (hw _ (List.mem_of_getElem? (i := 10) rfl)) (hw _ (List.mem_of_getElem? (i := 7) rfl)) (by decide) (by decide)) (g := (mkF m 133 #[.val (.int p1), .val (.int p2), .val (.int p3), .val (.int p4), .val (.int p5), .val (.int p6), .val (.long x1), .second, .val (.long y1), .second, .val (.long x2), .second, .val (.long y1), .second, .val (.long dd), .second, .val (.long (x2 - x1)), .second, .val (.long (y1 - y1)), .second, .val (.int (1 : Int32)), .unset, .unset, .unset, .unset, .unset, .unset] [(.double (FP.l2d y1)), (.double (FP.l2d x1)), (.int (0 : Int32)), (.ref b53), (.ref b53)])) rfl (by rw [hml]; rfl) (Steps.refl _) (a := b53) (argsL := [(.int (0 : Int32)), (.double (FP.l2d x1)), (.double (FP.l2d y1))]) (rest := [(.ref b53)]) (lenOf pd_0_0 rfl) rfl (by show 2 * 0 + _ ≤ _; exact Nat.le_of_eq rfl) (hb hby at_133) (fun _ _ => ⟨rfl, e53, (by decide : 1 + 0 ≤ _), (by decide : 6 + 0 ≤ _)⟩)
        dsimp only [Pt.U, Pt.locs, Pt.cells, Pt.slots] at X54 l54 y54 z54 st54 hQ54
        subst l54 y54 z54
        obtain ⟨rfl, N54q, K54, EE54, Fx54, Fy54⟩ := hQ54
        have N54 := Fr.app N33 N54q
        have e54 : T54.heap = T54.heap := rfl
        have Z54 : n0 ≤ T54.heap.size := Nat.le_trans Z53 K54.1
        have Eb53_55 := Exa.keep Q53 K54
        obtain ⟨T56, H56, X56, e56, E56, Q56, D56, -, st56⟩ := newO X54 hx hZ hown (hw _ (List.mem_of_getElem? (i := 5) rfl)) (hw _ (List.mem_of_getElem? (i := 6) rfl)) (hw _ (List.mem_of_getElem? (i := 7) rfl)) e54 (g := (mkF m 138 #[.val (.int p1), .val (.int p2), .val (.int p3), .val (.int p4), .val (.int p5), .val (.int p6), .val (.long x1), .second, .val (.long y1), .second, .val (.long x2), .second, .val (.long y1), .second, .val (.long dd), .second, .val (.long (x2 - x1)), .second, .val (.long (y1 - y1)), .second, .val (.int (1 : Int32)), .val (.ref b53), .unset, .unset, .unset, .unset, .unset] [])) rfl (hb hby at_138) (by decide) (by decide)
        obtain ⟨b56, g56⟩ : ∃ z, z = T54.heap.size := ⟨_, rfl⟩
        rw [← g56] at Q56 D56 st56
        have lt_b53_b56 : b53 < b56 := Nat.lt_of_lt_of_le (Exa.lt EE54) (Nat.le_of_eq g56.symm)
        have Fb56_id : Fld Z H56 b56 "com/example/rumblecourt/rumblecourt/games/hungergaming/Creature" "id" "I" (.int (0 : Int32)) := D56 (Or.inr (hw _ (List.mem_of_getElem? (i := 15) rfl))) (ty := .int) (by decide)
        have Fb56_x : Fld Z H56 b56 "com/example/rumblecourt/rumblecourt/games/hungergaming/Creature" "x" "D" (.double (0 : UInt64)) := D56 (Or.inl (hw _ (List.mem_of_getElem? (i := 22) rfl))) (ty := .double) (by decide)
        have Fb56_y : Fld Z H56 b56 "com/example/rumblecourt/rumblecourt/games/hungergaming/Creature" "y" "D" (.double (0 : UInt64)) := D56 (Or.inl (hw _ (List.mem_of_getElem? (i := 24) rfl))) (ty := .double) (by decide)
        have Fb56_position : Fld Z H56 b56 "com/example/rumblecourt/rumblecourt/games/hungergaming/Creature" "position" "Ljava/lang/String;" .null := D56 (Or.inl (hw _ (List.mem_of_getElem? (i := 26) rfl))) (ty := (.object "java/lang/String")) (by decide)
        have Z56 : n0 ≤ H56.size := Nat.le_trans Z54 E56.1
        have gb56 : n0 ≤ b56 := Nat.le_trans Z54 (Nat.le_of_eq g56.symm)
        have Eb53_57 := Exa.ext E56 EE54
        have Fb53_x_57 := Fld.ext E56 Fx54
        have Fb53_y_57 := Fld.ext E56 Fy54
        obtain ⟨_, _, ⟨T58, L58, k58, n58⟩, -, X58, ⟨Lc58, hQ58, l58, y58, z58⟩, st58⟩ := X56.specialBack hx (y := (⟨"com/example/rumblecourt/rumblecourt/games/hungergaming/Creature", "<init>", "(IDD)V"⟩ : MethodName)) rfl hown (mvT hZ (hw _ (List.mem_of_getElem? (i := 8) rfl))) (mvT hZ (hw _ (List.mem_of_getElem? (i := 9) rfl))) (mvT hZ (hw _ (List.mem_of_getElem? (i := 10) rfl))) (by decide) (backOf (W := 1) (rm2 l Z a0 hw [] b56 (1 : Int32) x2 y1 H56 n0 Z56 Q56 Fb56_id Fb56_x Fb56_y Fb56_position gb56) hZ (hw _ (List.mem_of_getElem? (i := 10) rfl)) (hw _ (List.mem_of_getElem? (i := 7) rfl)) (by decide) (by decide)) (g := (mkF m 149 #[.val (.int p1), .val (.int p2), .val (.int p3), .val (.int p4), .val (.int p5), .val (.int p6), .val (.long x1), .second, .val (.long y1), .second, .val (.long x2), .second, .val (.long y1), .second, .val (.long dd), .second, .val (.long (x2 - x1)), .second, .val (.long (y1 - y1)), .second, .val (.int (1 : Int32)), .val (.ref b53), .unset, .unset, .unset, .unset, .unset] [(.double (FP.l2d y1)), (.double (FP.l2d x2)), (.int (1 : Int32)), (.ref b56), (.ref b56)])) rfl (by rw [hml]; rfl) (Steps.refl _) (a := b56) (argsL := [(.int (1 : Int32)), (.double (FP.l2d x2)), (.double (FP.l2d y1))]) (rest := [(.ref b56)]) (lenOf pd_0_0 rfl) rfl (by show 2 * 0 + _ ≤ _; exact Nat.le_of_eq rfl) (hb hby at_149) (fun _ _ => ⟨rfl, e56, (by decide : 2 + 0 ≤ _), (by decide : 12 + 0 ≤ _)⟩)
        dsimp only [Pt.U, Pt.locs, Pt.cells, Pt.slots] at X58 l58 y58 z58 st58 hQ58
        subst l58 y58 z58
        obtain ⟨rfl, N58q, K58, EE58, Fx58, Fy58⟩ := hQ58
        have N58 := Fr.app N54 N58q
        have e58 : T58.heap = T58.heap := rfl
        have Z58 : n0 ≤ T58.heap.size := Nat.le_trans Z56 K58.1
        have Eb53_59 := Exa.keep Eb53_57 K58
        have Fb53_x_59 := Fld.keep Fb53_x_57 K58 (fun q => (Nat.ne_of_lt lt_b53_b56) (List.mem_singleton.mp q))
        have Fb53_y_59 := Fld.keep Fb53_y_57 K58 (fun q => (Nat.ne_of_lt lt_b53_b56) (List.mem_singleton.mp q))
        have Eb56_60 := Exa.keep Q56 K58
        obtain ⟨cq61, kq61, q61a, q61b, q61c⟩ := isOf hZ e58 Eb53_59
        obtain ⟨_, _, ⟨T61, L61, k61, n61⟩, -, X61, ⟨Lc61, hQ61, l61, y61, z61⟩, st61⟩ := X58.virtualBack hx (y := (⟨"com/example/rumblecourt/rumblecourt/games/hungergaming/Creature", "within", "(Lcom/example/rumblecourt/rumblecourt/games/hungergaming/Creature;D)Z"⟩ : MethodName)) (z := (⟨"com/example/rumblecourt/rumblecourt/games/hungergaming/Creature", "within", "(Lcom/example/rumblecourt/rumblecourt/games/hungergaming/Creature;D)Z"⟩ : MethodName)) hown (mvT hZ (hw _ (List.mem_of_getElem? (i := 27) rfl))) (mvT hZ (hw _ (List.mem_of_getElem? (i := 28) rfl))) (notFace_of_selects (args := #[]) (mvT hZ (hw _ (List.mem_of_getElem? (i := 30) rfl)))) (mvT hZ (hw _ (List.mem_of_getElem? (i := 30) rfl))) (mvT hZ (hw _ (List.mem_of_getElem? (i := 29) rfl))) (by decide) (backOf (W := 0) (rm5 l Z a0 hw [] b53 b56 dd T58.heap n0 Z58 x1 y1 x2 y1 Fb53_x_59 Fb53_y_59 Fx58 Fy58 bx1 by1 bx2 by1 bdd) hZ (hw _ (List.mem_of_getElem? (i := 31) rfl)) (hw _ (List.mem_of_getElem? (i := 7) rfl)) (by decide) (by decide)) q61a q61c (g := (mkF m 165 #[.val (.int p1), .val (.int p2), .val (.int p3), .val (.int p4), .val (.int p5), .val (.int p6), .val (.long x1), .second, .val (.long y1), .second, .val (.long x2), .second, .val (.long y1), .second, .val (.long dd), .second, .val (.long (x2 - x1)), .second, .val (.long (y1 - y1)), .second, .val (.int (1 : Int32)), .val (.ref b53), .val (.ref b56), .val (.double (FP.l2d dd)), .second, .unset, .unset] [(.double (FP.l2d dd)), (.ref b56), (.ref b53)])) rfl (by rw [hml]; rfl) (Steps.refl _) (argsL := [(.ref b56), (.double (FP.l2d dd))]) (rest := []) (lenOf pd_0_1 rfl) rfl (by show 2 * 0 + _ ≤ _; exact Nat.le_of_eq rfl) (hb hby at_165) (fun _ _ => ⟨rfl, e58, (by decide : 2 + 0 ≤ _), (by decide : 12 + 0 ≤ _)⟩)
        dsimp only [Pt.U, Pt.locs, Pt.cells, Pt.slots] at X61 l61 y61 z61 st61 hQ61
        subst l61 y61 z61
        obtain ⟨rfl, N61q, e61⟩ := hQ61
        have N61 := Fr.app N58 N61q
        obtain ⟨cq62, kq62, q62a, q62b, q62c⟩ := isOf hZ e61 EE58
        obtain ⟨_, _, ⟨T62, L62, k62, n62⟩, -, X62, ⟨Lc62, hQ62, l62, y62, z62⟩, st62⟩ := X61.virtualBack hx (y := (⟨"com/example/rumblecourt/rumblecourt/games/hungergaming/Creature", "within", "(Lcom/example/rumblecourt/rumblecourt/games/hungergaming/Creature;D)Z"⟩ : MethodName)) (z := (⟨"com/example/rumblecourt/rumblecourt/games/hungergaming/Creature", "within", "(Lcom/example/rumblecourt/rumblecourt/games/hungergaming/Creature;D)Z"⟩ : MethodName)) hown (mvT hZ (hw _ (List.mem_of_getElem? (i := 27) rfl))) (mvT hZ (hw _ (List.mem_of_getElem? (i := 28) rfl))) (notFace_of_selects (args := #[]) (mvT hZ (hw _ (List.mem_of_getElem? (i := 30) rfl)))) (mvT hZ (hw _ (List.mem_of_getElem? (i := 30) rfl))) (mvT hZ (hw _ (List.mem_of_getElem? (i := 29) rfl))) (by decide) (backOf (W := 0) (rm5 l Z a0 hw [] b56 b53 dd T58.heap n0 Z58 x2 y1 x1 y1 Fx58 Fy58 Fb53_x_59 Fb53_y_59 bx2 by1 bx1 by1 bdd) hZ (hw _ (List.mem_of_getElem? (i := 31) rfl)) (hw _ (List.mem_of_getElem? (i := 7) rfl)) (by decide) (by decide)) q62a q62c (g := (mkF m 176 #[.val (.int p1), .val (.int p2), .val (.int p3), .val (.int p4), .val (.int p5), .val (.int p6), .val (.long x1), .second, .val (.long y1), .second, .val (.long x2), .second, .val (.long y1), .second, .val (.long dd), .second, .val (.long (x2 - x1)), .second, .val (.long (y1 - y1)), .second, .val (.int (1 : Int32)), .val (.ref b53), .val (.ref b56), .val (.double (FP.l2d dd)), .second, .val (.int (fW x1 y1 x2 y1 dd)), .unset] [(.double (FP.l2d dd)), (.ref b53), (.ref b56)])) rfl (by rw [hml]; rfl) (Steps.refl _) (argsL := [(.ref b53), (.double (FP.l2d dd))]) (rest := []) (lenOf pd_0_1 rfl) rfl (by show 2 * 0 + _ ≤ _; exact Nat.le_of_eq rfl) (hb hby at_176) (fun _ _ => ⟨rfl, e61, (by decide : 2 + 0 ≤ _), (by decide : 12 + 0 ≤ _)⟩)
        dsimp only [Pt.U, Pt.locs, Pt.cells, Pt.slots] at X62 l62 y62 z62 st62 hQ62
        subst l62 y62 z62
        obtain ⟨rfl, N62q, e62⟩ := hQ62
        have N62 := Fr.app N61 N62q
        have h185_63 : (fW x1 y1 x2 y1 dd) = (1 : Int32) := own_w1 h112_38
        have h192_64 : (fW x2 y1 x1 y1 dd) = (1 : Int32) := (own_sym bx1 by1 bx2 by1).trans (own_w1 h112_38)
        have pre65 : ∀ t, Steps p.tables e below (T62.setTop (mkF m 200 #[.val (.int p1), .val (.int p2), .val (.int p3), .val (.int p4), .val (.int p5), .val (.int p6), .val (.long x1), .second, .val (.long y1), .second, .val (.long x2), .second, .val (.long y1), .second, .val (.long dd), .second, .val (.long (x2 - x1)), .second, .val (.long (y1 - y1)), .second, .val (.int (1 : Int32)), .val (.ref b53), .val (.ref b56), .val (.double (FP.l2d dd)), .second, .val (.int (fW x1 y1 x2 y1 dd)), .val (.int (fW x2 y1 x1 y1 dd))] [(.int (1 : Int32))])) t → Steps p.tables e below (s₁.setTop (entryFrame m #[(.int p1), (.int p2), (.int p3), (.int p4), (.int p5), (.int p6)] maxLocals)) t := by
          intro t k
          refine pre39 t ?_
          refine XS.ifNo X33.here hx rfl (hb hby at_112) rfl ((if0 _ _).trans (flt h112_38).2.2.1) ?_
          show Steps p.tables e below (T33.setTop (mkF m 115 #[.val (.int p1), .val (.int p2), .val (.int p3), .val (.int p4), .val (.int p5), .val (.int p6), .val (.long x1), .second, .val (.long y1), .second, .val (.long x2), .second, .val (.long y1), .second, .val (.long dd), .second, .val (.long (x2 - x1)), .second, .val (.long (y1 - y1)), .second, .unset, .unset, .unset, .unset, .unset, .unset, .unset] [])) _
          refine XS.iconst X33.here hx rfl (hb hby at_115) ?_
          show Steps p.tables e below (T33.setTop (mkF m 116 #[.val (.int p1), .val (.int p2), .val (.int p3), .val (.int p4), .val (.int p5), .val (.int p6), .val (.long x1), .second, .val (.long y1), .second, .val (.long x2), .second, .val (.long y1), .second, .val (.long dd), .second, .val (.long (x2 - x1)), .second, .val (.long (y1 - y1)), .second, .unset, .unset, .unset, .unset, .unset, .unset, .unset] [(.int (1 : Int32))])) _
          refine XS.goto X33.here hx rfl (pc0 := 116) (pc' := 120) rfl (hb hby at_116) (by decide) (by decide) ?_
          show Steps p.tables e below (T33.setTop (mkF m 120 #[.val (.int p1), .val (.int p2), .val (.int p3), .val (.int p4), .val (.int p5), .val (.int p6), .val (.long x1), .second, .val (.long y1), .second, .val (.long x2), .second, .val (.long y1), .second, .val (.long dd), .second, .val (.long (x2 - x1)), .second, .val (.long (y1 - y1)), .second, .unset, .unset, .unset, .unset, .unset, .unset, .unset] [(.int (1 : Int32))])) _
          refine XS.istore X33.here hx rfl (hb hby at_120) rfl (l' := #[.val (.int p1), .val (.int p2), .val (.int p3), .val (.int p4), .val (.int p5), .val (.int p6), .val (.long x1), .second, .val (.long y1), .second, .val (.long x2), .second, .val (.long y1), .second, .val (.long dd), .second, .val (.long (x2 - x1)), .second, .val (.long (y1 - y1)), .second, .val (.int (1 : Int32)), .unset, .unset, .unset, .unset, .unset, .unset]) rfl ?_
          show Steps p.tables e below (T33.setTop (mkF m 122 #[.val (.int p1), .val (.int p2), .val (.int p3), .val (.int p4), .val (.int p5), .val (.int p6), .val (.long x1), .second, .val (.long y1), .second, .val (.long x2), .second, .val (.long y1), .second, .val (.long dd), .second, .val (.long (x2 - x1)), .second, .val (.long (y1 - y1)), .second, .val (.int (1 : Int32)), .unset, .unset, .unset, .unset, .unset, .unset] [])) _
          refine st53 _ ?_
          show Steps p.tables e below (T53.setTop (mkF m 125 #[.val (.int p1), .val (.int p2), .val (.int p3), .val (.int p4), .val (.int p5), .val (.int p6), .val (.long x1), .second, .val (.long y1), .second, .val (.long x2), .second, .val (.long y1), .second, .val (.long dd), .second, .val (.long (x2 - x1)), .second, .val (.long (y1 - y1)), .second, .val (.int (1 : Int32)), .unset, .unset, .unset, .unset, .unset, .unset] [(.ref b53)])) _
          refine XS.dup X53.here hx rfl (hb hby at_125) rfl rfl ?_
          show Steps p.tables e below (T53.setTop (mkF m 126 #[.val (.int p1), .val (.int p2), .val (.int p3), .val (.int p4), .val (.int p5), .val (.int p6), .val (.long x1), .second, .val (.long y1), .second, .val (.long x2), .second, .val (.long y1), .second, .val (.long dd), .second, .val (.long (x2 - x1)), .second, .val (.long (y1 - y1)), .second, .val (.int (1 : Int32)), .unset, .unset, .unset, .unset, .unset, .unset] [(.ref b53), (.ref b53)])) _
          refine XS.iconst X53.here hx rfl (hb hby at_126) ?_
          show Steps p.tables e below (T53.setTop (mkF m 127 #[.val (.int p1), .val (.int p2), .val (.int p3), .val (.int p4), .val (.int p5), .val (.int p6), .val (.long x1), .second, .val (.long y1), .second, .val (.long x2), .second, .val (.long y1), .second, .val (.long dd), .second, .val (.long (x2 - x1)), .second, .val (.long (y1 - y1)), .second, .val (.int (1 : Int32)), .unset, .unset, .unset, .unset, .unset, .unset] [(.int (0 : Int32)), (.ref b53), (.ref b53)])) _
          refine XT.lload X53.here hx rfl (hb hby at_127) rfl ?_
          show Steps p.tables e below (T53.setTop (mkF m 129 #[.val (.int p1), .val (.int p2), .val (.int p3), .val (.int p4), .val (.int p5), .val (.int p6), .val (.long x1), .second, .val (.long y1), .second, .val (.long x2), .second, .val (.long y1), .second, .val (.long dd), .second, .val (.long (x2 - x1)), .second, .val (.long (y1 - y1)), .second, .val (.int (1 : Int32)), .unset, .unset, .unset, .unset, .unset, .unset] [(.long x1), (.int (0 : Int32)), (.ref b53), (.ref b53)])) _
          refine XS.l2dS X53.here hx rfl (hb hby at_129) rfl (v := FP.l2d x1) rfl ?_
          show Steps p.tables e below (T53.setTop (mkF m 130 #[.val (.int p1), .val (.int p2), .val (.int p3), .val (.int p4), .val (.int p5), .val (.int p6), .val (.long x1), .second, .val (.long y1), .second, .val (.long x2), .second, .val (.long y1), .second, .val (.long dd), .second, .val (.long (x2 - x1)), .second, .val (.long (y1 - y1)), .second, .val (.int (1 : Int32)), .unset, .unset, .unset, .unset, .unset, .unset] [(.double (FP.l2d x1)), (.int (0 : Int32)), (.ref b53), (.ref b53)])) _
          refine XT.lload X53.here hx rfl (hb hby at_130) rfl ?_
          show Steps p.tables e below (T53.setTop (mkF m 132 #[.val (.int p1), .val (.int p2), .val (.int p3), .val (.int p4), .val (.int p5), .val (.int p6), .val (.long x1), .second, .val (.long y1), .second, .val (.long x2), .second, .val (.long y1), .second, .val (.long dd), .second, .val (.long (x2 - x1)), .second, .val (.long (y1 - y1)), .second, .val (.int (1 : Int32)), .unset, .unset, .unset, .unset, .unset, .unset] [(.long y1), (.double (FP.l2d x1)), (.int (0 : Int32)), (.ref b53), (.ref b53)])) _
          refine XS.l2dS X53.here hx rfl (hb hby at_132) rfl (v := FP.l2d y1) rfl ?_
          show Steps p.tables e below (T53.setTop (mkF m 133 #[.val (.int p1), .val (.int p2), .val (.int p3), .val (.int p4), .val (.int p5), .val (.int p6), .val (.long x1), .second, .val (.long y1), .second, .val (.long x2), .second, .val (.long y1), .second, .val (.long dd), .second, .val (.long (x2 - x1)), .second, .val (.long (y1 - y1)), .second, .val (.int (1 : Int32)), .unset, .unset, .unset, .unset, .unset, .unset] [(.double (FP.l2d y1)), (.double (FP.l2d x1)), (.int (0 : Int32)), (.ref b53), (.ref b53)])) _
          refine st54.trans ?_
          show Steps p.tables e below (T54.setTop (mkF m 136 #[.val (.int p1), .val (.int p2), .val (.int p3), .val (.int p4), .val (.int p5), .val (.int p6), .val (.long x1), .second, .val (.long y1), .second, .val (.long x2), .second, .val (.long y1), .second, .val (.long dd), .second, .val (.long (x2 - x1)), .second, .val (.long (y1 - y1)), .second, .val (.int (1 : Int32)), .unset, .unset, .unset, .unset, .unset, .unset] [(.ref b53)])) _
          refine XS.astore X54.here hx rfl (hb hby at_136) rfl rfl (l' := #[.val (.int p1), .val (.int p2), .val (.int p3), .val (.int p4), .val (.int p5), .val (.int p6), .val (.long x1), .second, .val (.long y1), .second, .val (.long x2), .second, .val (.long y1), .second, .val (.long dd), .second, .val (.long (x2 - x1)), .second, .val (.long (y1 - y1)), .second, .val (.int (1 : Int32)), .val (.ref b53), .unset, .unset, .unset, .unset, .unset]) rfl ?_
          show Steps p.tables e below (T54.setTop (mkF m 138 #[.val (.int p1), .val (.int p2), .val (.int p3), .val (.int p4), .val (.int p5), .val (.int p6), .val (.long x1), .second, .val (.long y1), .second, .val (.long x2), .second, .val (.long y1), .second, .val (.long dd), .second, .val (.long (x2 - x1)), .second, .val (.long (y1 - y1)), .second, .val (.int (1 : Int32)), .val (.ref b53), .unset, .unset, .unset, .unset, .unset] [])) _
          refine st56 _ ?_
          show Steps p.tables e below (T56.setTop (mkF m 141 #[.val (.int p1), .val (.int p2), .val (.int p3), .val (.int p4), .val (.int p5), .val (.int p6), .val (.long x1), .second, .val (.long y1), .second, .val (.long x2), .second, .val (.long y1), .second, .val (.long dd), .second, .val (.long (x2 - x1)), .second, .val (.long (y1 - y1)), .second, .val (.int (1 : Int32)), .val (.ref b53), .unset, .unset, .unset, .unset, .unset] [(.ref b56)])) _
          refine XS.dup X56.here hx rfl (hb hby at_141) rfl rfl ?_
          show Steps p.tables e below (T56.setTop (mkF m 142 #[.val (.int p1), .val (.int p2), .val (.int p3), .val (.int p4), .val (.int p5), .val (.int p6), .val (.long x1), .second, .val (.long y1), .second, .val (.long x2), .second, .val (.long y1), .second, .val (.long dd), .second, .val (.long (x2 - x1)), .second, .val (.long (y1 - y1)), .second, .val (.int (1 : Int32)), .val (.ref b53), .unset, .unset, .unset, .unset, .unset] [(.ref b56), (.ref b56)])) _
          refine XS.iconst X56.here hx rfl (hb hby at_142) ?_
          show Steps p.tables e below (T56.setTop (mkF m 143 #[.val (.int p1), .val (.int p2), .val (.int p3), .val (.int p4), .val (.int p5), .val (.int p6), .val (.long x1), .second, .val (.long y1), .second, .val (.long x2), .second, .val (.long y1), .second, .val (.long dd), .second, .val (.long (x2 - x1)), .second, .val (.long (y1 - y1)), .second, .val (.int (1 : Int32)), .val (.ref b53), .unset, .unset, .unset, .unset, .unset] [(.int (1 : Int32)), (.ref b56), (.ref b56)])) _
          refine XT.lload X56.here hx rfl (hb hby at_143) rfl ?_
          show Steps p.tables e below (T56.setTop (mkF m 145 #[.val (.int p1), .val (.int p2), .val (.int p3), .val (.int p4), .val (.int p5), .val (.int p6), .val (.long x1), .second, .val (.long y1), .second, .val (.long x2), .second, .val (.long y1), .second, .val (.long dd), .second, .val (.long (x2 - x1)), .second, .val (.long (y1 - y1)), .second, .val (.int (1 : Int32)), .val (.ref b53), .unset, .unset, .unset, .unset, .unset] [(.long x2), (.int (1 : Int32)), (.ref b56), (.ref b56)])) _
          refine XS.l2dS X56.here hx rfl (hb hby at_145) rfl (v := FP.l2d x2) rfl ?_
          show Steps p.tables e below (T56.setTop (mkF m 146 #[.val (.int p1), .val (.int p2), .val (.int p3), .val (.int p4), .val (.int p5), .val (.int p6), .val (.long x1), .second, .val (.long y1), .second, .val (.long x2), .second, .val (.long y1), .second, .val (.long dd), .second, .val (.long (x2 - x1)), .second, .val (.long (y1 - y1)), .second, .val (.int (1 : Int32)), .val (.ref b53), .unset, .unset, .unset, .unset, .unset] [(.double (FP.l2d x2)), (.int (1 : Int32)), (.ref b56), (.ref b56)])) _
          refine XT.lload X56.here hx rfl (hb hby at_146) rfl ?_
          show Steps p.tables e below (T56.setTop (mkF m 148 #[.val (.int p1), .val (.int p2), .val (.int p3), .val (.int p4), .val (.int p5), .val (.int p6), .val (.long x1), .second, .val (.long y1), .second, .val (.long x2), .second, .val (.long y1), .second, .val (.long dd), .second, .val (.long (x2 - x1)), .second, .val (.long (y1 - y1)), .second, .val (.int (1 : Int32)), .val (.ref b53), .unset, .unset, .unset, .unset, .unset] [(.long y1), (.double (FP.l2d x2)), (.int (1 : Int32)), (.ref b56), (.ref b56)])) _
          refine XS.l2dS X56.here hx rfl (hb hby at_148) rfl (v := FP.l2d y1) rfl ?_
          show Steps p.tables e below (T56.setTop (mkF m 149 #[.val (.int p1), .val (.int p2), .val (.int p3), .val (.int p4), .val (.int p5), .val (.int p6), .val (.long x1), .second, .val (.long y1), .second, .val (.long x2), .second, .val (.long y1), .second, .val (.long dd), .second, .val (.long (x2 - x1)), .second, .val (.long (y1 - y1)), .second, .val (.int (1 : Int32)), .val (.ref b53), .unset, .unset, .unset, .unset, .unset] [(.double (FP.l2d y1)), (.double (FP.l2d x2)), (.int (1 : Int32)), (.ref b56), (.ref b56)])) _
          refine st58.trans ?_
          show Steps p.tables e below (T58.setTop (mkF m 152 #[.val (.int p1), .val (.int p2), .val (.int p3), .val (.int p4), .val (.int p5), .val (.int p6), .val (.long x1), .second, .val (.long y1), .second, .val (.long x2), .second, .val (.long y1), .second, .val (.long dd), .second, .val (.long (x2 - x1)), .second, .val (.long (y1 - y1)), .second, .val (.int (1 : Int32)), .val (.ref b53), .unset, .unset, .unset, .unset, .unset] [(.ref b56)])) _
          refine XS.astore X58.here hx rfl (hb hby at_152) rfl rfl (l' := #[.val (.int p1), .val (.int p2), .val (.int p3), .val (.int p4), .val (.int p5), .val (.int p6), .val (.long x1), .second, .val (.long y1), .second, .val (.long x2), .second, .val (.long y1), .second, .val (.long dd), .second, .val (.long (x2 - x1)), .second, .val (.long (y1 - y1)), .second, .val (.int (1 : Int32)), .val (.ref b53), .val (.ref b56), .unset, .unset, .unset, .unset]) rfl ?_
          show Steps p.tables e below (T58.setTop (mkF m 154 #[.val (.int p1), .val (.int p2), .val (.int p3), .val (.int p4), .val (.int p5), .val (.int p6), .val (.long x1), .second, .val (.long y1), .second, .val (.long x2), .second, .val (.long y1), .second, .val (.long dd), .second, .val (.long (x2 - x1)), .second, .val (.long (y1 - y1)), .second, .val (.int (1 : Int32)), .val (.ref b53), .val (.ref b56), .unset, .unset, .unset, .unset] [])) _
          refine XT.lload X58.here hx rfl (hb hby at_154) rfl ?_
          show Steps p.tables e below (T58.setTop (mkF m 156 #[.val (.int p1), .val (.int p2), .val (.int p3), .val (.int p4), .val (.int p5), .val (.int p6), .val (.long x1), .second, .val (.long y1), .second, .val (.long x2), .second, .val (.long y1), .second, .val (.long dd), .second, .val (.long (x2 - x1)), .second, .val (.long (y1 - y1)), .second, .val (.int (1 : Int32)), .val (.ref b53), .val (.ref b56), .unset, .unset, .unset, .unset] [(.long dd)])) _
          refine XS.l2dS X58.here hx rfl (hb hby at_156) rfl (v := FP.l2d dd) rfl ?_
          show Steps p.tables e below (T58.setTop (mkF m 157 #[.val (.int p1), .val (.int p2), .val (.int p3), .val (.int p4), .val (.int p5), .val (.int p6), .val (.long x1), .second, .val (.long y1), .second, .val (.long x2), .second, .val (.long y1), .second, .val (.long dd), .second, .val (.long (x2 - x1)), .second, .val (.long (y1 - y1)), .second, .val (.int (1 : Int32)), .val (.ref b53), .val (.ref b56), .unset, .unset, .unset, .unset] [(.double (FP.l2d dd))])) _
          refine XS.dstore X58.here hx rfl (hb hby at_157) rfl (l' := #[.val (.int p1), .val (.int p2), .val (.int p3), .val (.int p4), .val (.int p5), .val (.int p6), .val (.long x1), .second, .val (.long y1), .second, .val (.long x2), .second, .val (.long y1), .second, .val (.long dd), .second, .val (.long (x2 - x1)), .second, .val (.long (y1 - y1)), .second, .val (.int (1 : Int32)), .val (.ref b53), .val (.ref b56), .val (.double (FP.l2d dd)), .second, .unset, .unset]) rfl ?_
          show Steps p.tables e below (T58.setTop (mkF m 159 #[.val (.int p1), .val (.int p2), .val (.int p3), .val (.int p4), .val (.int p5), .val (.int p6), .val (.long x1), .second, .val (.long y1), .second, .val (.long x2), .second, .val (.long y1), .second, .val (.long dd), .second, .val (.long (x2 - x1)), .second, .val (.long (y1 - y1)), .second, .val (.int (1 : Int32)), .val (.ref b53), .val (.ref b56), .val (.double (FP.l2d dd)), .second, .unset, .unset] [])) _
          refine XS.aload X58.here hx rfl (hb hby at_159) rfl rfl ?_
          show Steps p.tables e below (T58.setTop (mkF m 161 #[.val (.int p1), .val (.int p2), .val (.int p3), .val (.int p4), .val (.int p5), .val (.int p6), .val (.long x1), .second, .val (.long y1), .second, .val (.long x2), .second, .val (.long y1), .second, .val (.long dd), .second, .val (.long (x2 - x1)), .second, .val (.long (y1 - y1)), .second, .val (.int (1 : Int32)), .val (.ref b53), .val (.ref b56), .val (.double (FP.l2d dd)), .second, .unset, .unset] [(.ref b53)])) _
          refine XS.aload X58.here hx rfl (hb hby at_161) rfl rfl ?_
          show Steps p.tables e below (T58.setTop (mkF m 163 #[.val (.int p1), .val (.int p2), .val (.int p3), .val (.int p4), .val (.int p5), .val (.int p6), .val (.long x1), .second, .val (.long y1), .second, .val (.long x2), .second, .val (.long y1), .second, .val (.long dd), .second, .val (.long (x2 - x1)), .second, .val (.long (y1 - y1)), .second, .val (.int (1 : Int32)), .val (.ref b53), .val (.ref b56), .val (.double (FP.l2d dd)), .second, .unset, .unset] [(.ref b56), (.ref b53)])) _
          refine XS.dload X58.here hx rfl (hb hby at_163) rfl ?_
          show Steps p.tables e below (T58.setTop (mkF m 165 #[.val (.int p1), .val (.int p2), .val (.int p3), .val (.int p4), .val (.int p5), .val (.int p6), .val (.long x1), .second, .val (.long y1), .second, .val (.long x2), .second, .val (.long y1), .second, .val (.long dd), .second, .val (.long (x2 - x1)), .second, .val (.long (y1 - y1)), .second, .val (.int (1 : Int32)), .val (.ref b53), .val (.ref b56), .val (.double (FP.l2d dd)), .second, .unset, .unset] [(.double (FP.l2d dd)), (.ref b56), (.ref b53)])) _
          refine st61.trans ?_
          show Steps p.tables e below (T61.setTop (mkF m 168 #[.val (.int p1), .val (.int p2), .val (.int p3), .val (.int p4), .val (.int p5), .val (.int p6), .val (.long x1), .second, .val (.long y1), .second, .val (.long x2), .second, .val (.long y1), .second, .val (.long dd), .second, .val (.long (x2 - x1)), .second, .val (.long (y1 - y1)), .second, .val (.int (1 : Int32)), .val (.ref b53), .val (.ref b56), .val (.double (FP.l2d dd)), .second, .unset, .unset] [(.int (fW x1 y1 x2 y1 dd))])) _
          refine XS.istore X61.here hx rfl (hb hby at_168) rfl (l' := #[.val (.int p1), .val (.int p2), .val (.int p3), .val (.int p4), .val (.int p5), .val (.int p6), .val (.long x1), .second, .val (.long y1), .second, .val (.long x2), .second, .val (.long y1), .second, .val (.long dd), .second, .val (.long (x2 - x1)), .second, .val (.long (y1 - y1)), .second, .val (.int (1 : Int32)), .val (.ref b53), .val (.ref b56), .val (.double (FP.l2d dd)), .second, .val (.int (fW x1 y1 x2 y1 dd)), .unset]) rfl ?_
          show Steps p.tables e below (T61.setTop (mkF m 170 #[.val (.int p1), .val (.int p2), .val (.int p3), .val (.int p4), .val (.int p5), .val (.int p6), .val (.long x1), .second, .val (.long y1), .second, .val (.long x2), .second, .val (.long y1), .second, .val (.long dd), .second, .val (.long (x2 - x1)), .second, .val (.long (y1 - y1)), .second, .val (.int (1 : Int32)), .val (.ref b53), .val (.ref b56), .val (.double (FP.l2d dd)), .second, .val (.int (fW x1 y1 x2 y1 dd)), .unset] [])) _
          refine XS.aload X61.here hx rfl (hb hby at_170) rfl rfl ?_
          show Steps p.tables e below (T61.setTop (mkF m 172 #[.val (.int p1), .val (.int p2), .val (.int p3), .val (.int p4), .val (.int p5), .val (.int p6), .val (.long x1), .second, .val (.long y1), .second, .val (.long x2), .second, .val (.long y1), .second, .val (.long dd), .second, .val (.long (x2 - x1)), .second, .val (.long (y1 - y1)), .second, .val (.int (1 : Int32)), .val (.ref b53), .val (.ref b56), .val (.double (FP.l2d dd)), .second, .val (.int (fW x1 y1 x2 y1 dd)), .unset] [(.ref b56)])) _
          refine XS.aload X61.here hx rfl (hb hby at_172) rfl rfl ?_
          show Steps p.tables e below (T61.setTop (mkF m 174 #[.val (.int p1), .val (.int p2), .val (.int p3), .val (.int p4), .val (.int p5), .val (.int p6), .val (.long x1), .second, .val (.long y1), .second, .val (.long x2), .second, .val (.long y1), .second, .val (.long dd), .second, .val (.long (x2 - x1)), .second, .val (.long (y1 - y1)), .second, .val (.int (1 : Int32)), .val (.ref b53), .val (.ref b56), .val (.double (FP.l2d dd)), .second, .val (.int (fW x1 y1 x2 y1 dd)), .unset] [(.ref b53), (.ref b56)])) _
          refine XS.dload X61.here hx rfl (hb hby at_174) rfl ?_
          show Steps p.tables e below (T61.setTop (mkF m 176 #[.val (.int p1), .val (.int p2), .val (.int p3), .val (.int p4), .val (.int p5), .val (.int p6), .val (.long x1), .second, .val (.long y1), .second, .val (.long x2), .second, .val (.long y1), .second, .val (.long dd), .second, .val (.long (x2 - x1)), .second, .val (.long (y1 - y1)), .second, .val (.int (1 : Int32)), .val (.ref b53), .val (.ref b56), .val (.double (FP.l2d dd)), .second, .val (.int (fW x1 y1 x2 y1 dd)), .unset] [(.double (FP.l2d dd)), (.ref b53), (.ref b56)])) _
          refine st62.trans ?_
          show Steps p.tables e below (T62.setTop (mkF m 179 #[.val (.int p1), .val (.int p2), .val (.int p3), .val (.int p4), .val (.int p5), .val (.int p6), .val (.long x1), .second, .val (.long y1), .second, .val (.long x2), .second, .val (.long y1), .second, .val (.long dd), .second, .val (.long (x2 - x1)), .second, .val (.long (y1 - y1)), .second, .val (.int (1 : Int32)), .val (.ref b53), .val (.ref b56), .val (.double (FP.l2d dd)), .second, .val (.int (fW x1 y1 x2 y1 dd)), .unset] [(.int (fW x2 y1 x1 y1 dd))])) _
          refine XS.istore X62.here hx rfl (hb hby at_179) rfl (l' := #[.val (.int p1), .val (.int p2), .val (.int p3), .val (.int p4), .val (.int p5), .val (.int p6), .val (.long x1), .second, .val (.long y1), .second, .val (.long x2), .second, .val (.long y1), .second, .val (.long dd), .second, .val (.long (x2 - x1)), .second, .val (.long (y1 - y1)), .second, .val (.int (1 : Int32)), .val (.ref b53), .val (.ref b56), .val (.double (FP.l2d dd)), .second, .val (.int (fW x1 y1 x2 y1 dd)), .val (.int (fW x2 y1 x1 y1 dd))]) rfl ?_
          show Steps p.tables e below (T62.setTop (mkF m 181 #[.val (.int p1), .val (.int p2), .val (.int p3), .val (.int p4), .val (.int p5), .val (.int p6), .val (.long x1), .second, .val (.long y1), .second, .val (.long x2), .second, .val (.long y1), .second, .val (.long dd), .second, .val (.long (x2 - x1)), .second, .val (.long (y1 - y1)), .second, .val (.int (1 : Int32)), .val (.ref b53), .val (.ref b56), .val (.double (FP.l2d dd)), .second, .val (.int (fW x1 y1 x2 y1 dd)), .val (.int (fW x2 y1 x1 y1 dd))] [])) _
          refine XS.iload X62.here hx rfl (hb hby at_181) rfl ?_
          show Steps p.tables e below (T62.setTop (mkF m 183 #[.val (.int p1), .val (.int p2), .val (.int p3), .val (.int p4), .val (.int p5), .val (.int p6), .val (.long x1), .second, .val (.long y1), .second, .val (.long x2), .second, .val (.long y1), .second, .val (.long dd), .second, .val (.long (x2 - x1)), .second, .val (.long (y1 - y1)), .second, .val (.int (1 : Int32)), .val (.ref b53), .val (.ref b56), .val (.double (FP.l2d dd)), .second, .val (.int (fW x1 y1 x2 y1 dd)), .val (.int (fW x2 y1 x1 y1 dd))] [(.int (fW x1 y1 x2 y1 dd))])) _
          refine XS.iload X62.here hx rfl (hb hby at_183) rfl ?_
          show Steps p.tables e below (T62.setTop (mkF m 185 #[.val (.int p1), .val (.int p2), .val (.int p3), .val (.int p4), .val (.int p5), .val (.int p6), .val (.long x1), .second, .val (.long y1), .second, .val (.long x2), .second, .val (.long y1), .second, .val (.long dd), .second, .val (.long (x2 - x1)), .second, .val (.long (y1 - y1)), .second, .val (.int (1 : Int32)), .val (.ref b53), .val (.ref b56), .val (.double (FP.l2d dd)), .second, .val (.int (fW x1 y1 x2 y1 dd)), .val (.int (fW x2 y1 x1 y1 dd))] [(.int (1 : Int32)), (.int (fW x1 y1 x2 y1 dd))])) _
          refine XS.icmpNo X62.here hx rfl (hb hby at_185) rfl (teq h185_63).2 ?_
          show Steps p.tables e below (T62.setTop (mkF m 188 #[.val (.int p1), .val (.int p2), .val (.int p3), .val (.int p4), .val (.int p5), .val (.int p6), .val (.long x1), .second, .val (.long y1), .second, .val (.long x2), .second, .val (.long y1), .second, .val (.long dd), .second, .val (.long (x2 - x1)), .second, .val (.long (y1 - y1)), .second, .val (.int (1 : Int32)), .val (.ref b53), .val (.ref b56), .val (.double (FP.l2d dd)), .second, .val (.int (fW x1 y1 x2 y1 dd)), .val (.int (fW x2 y1 x1 y1 dd))] [])) _
          refine XS.iload X62.here hx rfl (hb hby at_188) rfl ?_
          show Steps p.tables e below (T62.setTop (mkF m 190 #[.val (.int p1), .val (.int p2), .val (.int p3), .val (.int p4), .val (.int p5), .val (.int p6), .val (.long x1), .second, .val (.long y1), .second, .val (.long x2), .second, .val (.long y1), .second, .val (.long dd), .second, .val (.long (x2 - x1)), .second, .val (.long (y1 - y1)), .second, .val (.int (1 : Int32)), .val (.ref b53), .val (.ref b56), .val (.double (FP.l2d dd)), .second, .val (.int (fW x1 y1 x2 y1 dd)), .val (.int (fW x2 y1 x1 y1 dd))] [(.int (fW x2 y1 x1 y1 dd))])) _
          refine XS.iload X62.here hx rfl (hb hby at_190) rfl ?_
          show Steps p.tables e below (T62.setTop (mkF m 192 #[.val (.int p1), .val (.int p2), .val (.int p3), .val (.int p4), .val (.int p5), .val (.int p6), .val (.long x1), .second, .val (.long y1), .second, .val (.long x2), .second, .val (.long y1), .second, .val (.long dd), .second, .val (.long (x2 - x1)), .second, .val (.long (y1 - y1)), .second, .val (.int (1 : Int32)), .val (.ref b53), .val (.ref b56), .val (.double (FP.l2d dd)), .second, .val (.int (fW x1 y1 x2 y1 dd)), .val (.int (fW x2 y1 x1 y1 dd))] [(.int (1 : Int32)), (.int (fW x2 y1 x1 y1 dd))])) _
          refine XS.icmpNo X62.here hx rfl (hb hby at_192) rfl (teq h192_64).2 ?_
          show Steps p.tables e below (T62.setTop (mkF m 195 #[.val (.int p1), .val (.int p2), .val (.int p3), .val (.int p4), .val (.int p5), .val (.int p6), .val (.long x1), .second, .val (.long y1), .second, .val (.long x2), .second, .val (.long y1), .second, .val (.long dd), .second, .val (.long (x2 - x1)), .second, .val (.long (y1 - y1)), .second, .val (.int (1 : Int32)), .val (.ref b53), .val (.ref b56), .val (.double (FP.l2d dd)), .second, .val (.int (fW x1 y1 x2 y1 dd)), .val (.int (fW x2 y1 x1 y1 dd))] [])) _
          refine XS.iconst X62.here hx rfl (hb hby at_195) ?_
          show Steps p.tables e below (T62.setTop (mkF m 196 #[.val (.int p1), .val (.int p2), .val (.int p3), .val (.int p4), .val (.int p5), .val (.int p6), .val (.long x1), .second, .val (.long y1), .second, .val (.long x2), .second, .val (.long y1), .second, .val (.long dd), .second, .val (.long (x2 - x1)), .second, .val (.long (y1 - y1)), .second, .val (.int (1 : Int32)), .val (.ref b53), .val (.ref b56), .val (.double (FP.l2d dd)), .second, .val (.int (fW x1 y1 x2 y1 dd)), .val (.int (fW x2 y1 x1 y1 dd))] [(.int (1 : Int32))])) _
          refine XS.goto X62.here hx rfl (pc0 := 196) (pc' := 200) rfl (hb hby at_196) (by decide) (by decide) ?_
          show Steps p.tables e below (T62.setTop (mkF m 200 #[.val (.int p1), .val (.int p2), .val (.int p3), .val (.int p4), .val (.int p5), .val (.int p6), .val (.long x1), .second, .val (.long y1), .second, .val (.long x2), .second, .val (.long y1), .second, .val (.long dd), .second, .val (.long (x2 - x1)), .second, .val (.long (y1 - y1)), .second, .val (.int (1 : Int32)), .val (.ref b53), .val (.ref b56), .val (.double (FP.l2d dd)), .second, .val (.int (fW x1 y1 x2 y1 dd)), .val (.int (fW x2 y1 x1 y1 dd))] [(.int (1 : Int32))])) _
          exact k
        obtain ⟨fs, hr, hrun, hended, hW, hsame⟩ := X62.leave (v := some (.int (1 : Int32))) (fun h => by rw [Bd.returns] at h; cases h)
        refine ⟨_, _, pre65 _ ?_, hrun, hended, _, _, rfl, ?_, ⟨_, rfl⟩, hW, hsame.mono (by decide) (by decide)⟩
        · exact retN X62 hx (t := .boolean) Bd.returns (by simp) (hb hby at_200) hr
        · exact ⟨rfl, N62⟩
    · have pre66 : ∀ t, Steps p.tables e below (T33.setTop (mkF m 81 #[.val (.int p1), .val (.int p2), .val (.int p3), .val (.int p4), .val (.int p5), .val (.int p6), .val (.long x1), .second, .val (.long y1), .second, .val (.long x2), .second, .val (.long y1), .second, .val (.long (((f1_0 (x2 - x1)) - (1 : Int64)) + ((((XT.ushr p6 (1 : Int32)) - ((XT.ushr p6 (1 : Int32)) / (3 : Int32)) * (3 : Int32))).toInt64))), .second, .val (.long (f1_0 (x2 - x1))), .second, .unset, .unset, .unset, .unset, .unset, .unset, .unset, .unset, .unset] [])) t → Steps p.tables e below (s₁.setTop (entryFrame m #[(.int p1), (.int p2), (.int p3), (.int p4), (.int p5), (.int p6)] maxLocals)) t := by
        intro t k
        refine pre35 t ?_
        refine XS.ifYes X33.here hx rfl (pc0 := 75) (pc' := 81) rfl (hb hby at_75) rfl ((if0 _ _).trans (flt h75_34).2.1) (by decide) (by decide) ?_
        show Steps p.tables e below (T33.setTop (mkF m 81 #[.val (.int p1), .val (.int p2), .val (.int p3), .val (.int p4), .val (.int p5), .val (.int p6), .val (.long x1), .second, .val (.long y1), .second, .val (.long x2), .second, .val (.long y1), .second, .val (.long (((f1_0 (x2 - x1)) - (1 : Int64)) + ((((XT.ushr p6 (1 : Int32)) - ((XT.ushr p6 (1 : Int32)) / (3 : Int32)) * (3 : Int32))).toInt64))), .second, .val (.long (f1_0 (x2 - x1))), .second, .unset, .unset, .unset, .unset, .unset, .unset, .unset, .unset, .unset] [])) _
        exact k
      obtain ⟨dd, hdd⟩ : ∃ z, z = (((f1_0 (x2 - x1)) - (1 : Int64)) + ((((XT.ushr p6 (1 : Int32)) - ((XT.ushr p6 (1 : Int32)) / (3 : Int32)) * (3 : Int32))).toInt64)) := ⟨_, rfl⟩
      have bdd : own_R 2097153 dd := by rw [hdd]; exact own_dB1 bx1 bx2 _
      rw [← hdd] at pre66
      have pre68 : ∀ t, Steps p.tables e below (T33.setTop (mkF m 112 #[.val (.int p1), .val (.int p2), .val (.int p3), .val (.int p4), .val (.int p5), .val (.int p6), .val (.long x1), .second, .val (.long y1), .second, .val (.long x2), .second, .val (.long y1), .second, .val (.long dd), .second, .val (.long (x2 - x1)), .second, .val (.long (y1 - y1)), .second, .unset, .unset, .unset, .unset, .unset, .unset, .unset] [(.int (XT.cmpL (((x2 - x1) * (x2 - x1)) + ((y1 - y1) * (y1 - y1))) (dd * dd)))])) t → Steps p.tables e below (s₁.setTop (entryFrame m #[(.int p1), (.int p2), (.int p3), (.int p4), (.int p5), (.int p6)] maxLocals)) t := by
        intro t k
        refine pre66 t ?_
        show Steps p.tables e below (T33.setTop (mkF m 81 #[.val (.int p1), .val (.int p2), .val (.int p3), .val (.int p4), .val (.int p5), .val (.int p6), .val (.long x1), .second, .val (.long y1), .second, .val (.long x2), .second, .val (.long y1), .second, .val (.long dd), .second, .val (.long (f1_0 (x2 - x1))), .second, .unset, .unset, .unset, .unset, .unset, .unset, .unset, .unset, .unset] [])) _
        refine XT.lload X33.here hx rfl (hb hby at_81) rfl ?_
        show Steps p.tables e below (T33.setTop (mkF m 83 #[.val (.int p1), .val (.int p2), .val (.int p3), .val (.int p4), .val (.int p5), .val (.int p6), .val (.long x1), .second, .val (.long y1), .second, .val (.long x2), .second, .val (.long y1), .second, .val (.long dd), .second, .val (.long (f1_0 (x2 - x1))), .second, .unset, .unset, .unset, .unset, .unset, .unset, .unset, .unset, .unset] [(.long x2)])) _
        refine XT.lload X33.here hx rfl (hb hby at_83) rfl ?_
        show Steps p.tables e below (T33.setTop (mkF m 85 #[.val (.int p1), .val (.int p2), .val (.int p3), .val (.int p4), .val (.int p5), .val (.int p6), .val (.long x1), .second, .val (.long y1), .second, .val (.long x2), .second, .val (.long y1), .second, .val (.long dd), .second, .val (.long (f1_0 (x2 - x1))), .second, .unset, .unset, .unset, .unset, .unset, .unset, .unset, .unset, .unset] [(.long x1), (.long x2)])) _
        refine XT.lsub X33.here hx rfl (hb hby at_85) rfl ?_
        show Steps p.tables e below (T33.setTop (mkF m 86 #[.val (.int p1), .val (.int p2), .val (.int p3), .val (.int p4), .val (.int p5), .val (.int p6), .val (.long x1), .second, .val (.long y1), .second, .val (.long x2), .second, .val (.long y1), .second, .val (.long dd), .second, .val (.long (f1_0 (x2 - x1))), .second, .unset, .unset, .unset, .unset, .unset, .unset, .unset, .unset, .unset] [(.long (x2 - x1))])) _
        refine XT.lstore X33.here hx rfl (hb hby at_86) rfl (l' := #[.val (.int p1), .val (.int p2), .val (.int p3), .val (.int p4), .val (.int p5), .val (.int p6), .val (.long x1), .second, .val (.long y1), .second, .val (.long x2), .second, .val (.long y1), .second, .val (.long dd), .second, .val (.long (x2 - x1)), .second, .unset, .unset, .unset, .unset, .unset, .unset, .unset, .unset, .unset]) rfl ?_
        show Steps p.tables e below (T33.setTop (mkF m 88 #[.val (.int p1), .val (.int p2), .val (.int p3), .val (.int p4), .val (.int p5), .val (.int p6), .val (.long x1), .second, .val (.long y1), .second, .val (.long x2), .second, .val (.long y1), .second, .val (.long dd), .second, .val (.long (x2 - x1)), .second, .unset, .unset, .unset, .unset, .unset, .unset, .unset, .unset, .unset] [])) _
        refine XT.lload X33.here hx rfl (hb hby at_88) rfl ?_
        show Steps p.tables e below (T33.setTop (mkF m 90 #[.val (.int p1), .val (.int p2), .val (.int p3), .val (.int p4), .val (.int p5), .val (.int p6), .val (.long x1), .second, .val (.long y1), .second, .val (.long x2), .second, .val (.long y1), .second, .val (.long dd), .second, .val (.long (x2 - x1)), .second, .unset, .unset, .unset, .unset, .unset, .unset, .unset, .unset, .unset] [(.long y1)])) _
        refine XT.lload X33.here hx rfl (hb hby at_90) rfl ?_
        show Steps p.tables e below (T33.setTop (mkF m 92 #[.val (.int p1), .val (.int p2), .val (.int p3), .val (.int p4), .val (.int p5), .val (.int p6), .val (.long x1), .second, .val (.long y1), .second, .val (.long x2), .second, .val (.long y1), .second, .val (.long dd), .second, .val (.long (x2 - x1)), .second, .unset, .unset, .unset, .unset, .unset, .unset, .unset, .unset, .unset] [(.long y1), (.long y1)])) _
        refine XT.lsub X33.here hx rfl (hb hby at_92) rfl ?_
        show Steps p.tables e below (T33.setTop (mkF m 93 #[.val (.int p1), .val (.int p2), .val (.int p3), .val (.int p4), .val (.int p5), .val (.int p6), .val (.long x1), .second, .val (.long y1), .second, .val (.long x2), .second, .val (.long y1), .second, .val (.long dd), .second, .val (.long (x2 - x1)), .second, .unset, .unset, .unset, .unset, .unset, .unset, .unset, .unset, .unset] [(.long (y1 - y1))])) _
        refine XT.lstore X33.here hx rfl (hb hby at_93) rfl (l' := #[.val (.int p1), .val (.int p2), .val (.int p3), .val (.int p4), .val (.int p5), .val (.int p6), .val (.long x1), .second, .val (.long y1), .second, .val (.long x2), .second, .val (.long y1), .second, .val (.long dd), .second, .val (.long (x2 - x1)), .second, .val (.long (y1 - y1)), .second, .unset, .unset, .unset, .unset, .unset, .unset, .unset]) rfl ?_
        show Steps p.tables e below (T33.setTop (mkF m 95 #[.val (.int p1), .val (.int p2), .val (.int p3), .val (.int p4), .val (.int p5), .val (.int p6), .val (.long x1), .second, .val (.long y1), .second, .val (.long x2), .second, .val (.long y1), .second, .val (.long dd), .second, .val (.long (x2 - x1)), .second, .val (.long (y1 - y1)), .second, .unset, .unset, .unset, .unset, .unset, .unset, .unset] [])) _
        refine XT.lload X33.here hx rfl (hb hby at_95) rfl ?_
        show Steps p.tables e below (T33.setTop (mkF m 97 #[.val (.int p1), .val (.int p2), .val (.int p3), .val (.int p4), .val (.int p5), .val (.int p6), .val (.long x1), .second, .val (.long y1), .second, .val (.long x2), .second, .val (.long y1), .second, .val (.long dd), .second, .val (.long (x2 - x1)), .second, .val (.long (y1 - y1)), .second, .unset, .unset, .unset, .unset, .unset, .unset, .unset] [(.long (x2 - x1))])) _
        refine XT.lload X33.here hx rfl (hb hby at_97) rfl ?_
        show Steps p.tables e below (T33.setTop (mkF m 99 #[.val (.int p1), .val (.int p2), .val (.int p3), .val (.int p4), .val (.int p5), .val (.int p6), .val (.long x1), .second, .val (.long y1), .second, .val (.long x2), .second, .val (.long y1), .second, .val (.long dd), .second, .val (.long (x2 - x1)), .second, .val (.long (y1 - y1)), .second, .unset, .unset, .unset, .unset, .unset, .unset, .unset] [(.long (x2 - x1)), (.long (x2 - x1))])) _
        refine XT.lmul X33.here hx rfl (hb hby at_99) rfl ?_
        show Steps p.tables e below (T33.setTop (mkF m 100 #[.val (.int p1), .val (.int p2), .val (.int p3), .val (.int p4), .val (.int p5), .val (.int p6), .val (.long x1), .second, .val (.long y1), .second, .val (.long x2), .second, .val (.long y1), .second, .val (.long dd), .second, .val (.long (x2 - x1)), .second, .val (.long (y1 - y1)), .second, .unset, .unset, .unset, .unset, .unset, .unset, .unset] [(.long ((x2 - x1) * (x2 - x1)))])) _
        refine XT.lload X33.here hx rfl (hb hby at_100) rfl ?_
        show Steps p.tables e below (T33.setTop (mkF m 102 #[.val (.int p1), .val (.int p2), .val (.int p3), .val (.int p4), .val (.int p5), .val (.int p6), .val (.long x1), .second, .val (.long y1), .second, .val (.long x2), .second, .val (.long y1), .second, .val (.long dd), .second, .val (.long (x2 - x1)), .second, .val (.long (y1 - y1)), .second, .unset, .unset, .unset, .unset, .unset, .unset, .unset] [(.long (y1 - y1)), (.long ((x2 - x1) * (x2 - x1)))])) _
        refine XT.lload X33.here hx rfl (hb hby at_102) rfl ?_
        show Steps p.tables e below (T33.setTop (mkF m 104 #[.val (.int p1), .val (.int p2), .val (.int p3), .val (.int p4), .val (.int p5), .val (.int p6), .val (.long x1), .second, .val (.long y1), .second, .val (.long x2), .second, .val (.long y1), .second, .val (.long dd), .second, .val (.long (x2 - x1)), .second, .val (.long (y1 - y1)), .second, .unset, .unset, .unset, .unset, .unset, .unset, .unset] [(.long (y1 - y1)), (.long (y1 - y1)), (.long ((x2 - x1) * (x2 - x1)))])) _
        refine XT.lmul X33.here hx rfl (hb hby at_104) rfl ?_
        show Steps p.tables e below (T33.setTop (mkF m 105 #[.val (.int p1), .val (.int p2), .val (.int p3), .val (.int p4), .val (.int p5), .val (.int p6), .val (.long x1), .second, .val (.long y1), .second, .val (.long x2), .second, .val (.long y1), .second, .val (.long dd), .second, .val (.long (x2 - x1)), .second, .val (.long (y1 - y1)), .second, .unset, .unset, .unset, .unset, .unset, .unset, .unset] [(.long ((y1 - y1) * (y1 - y1))), (.long ((x2 - x1) * (x2 - x1)))])) _
        refine XT.ladd X33.here hx rfl (hb hby at_105) rfl ?_
        show Steps p.tables e below (T33.setTop (mkF m 106 #[.val (.int p1), .val (.int p2), .val (.int p3), .val (.int p4), .val (.int p5), .val (.int p6), .val (.long x1), .second, .val (.long y1), .second, .val (.long x2), .second, .val (.long y1), .second, .val (.long dd), .second, .val (.long (x2 - x1)), .second, .val (.long (y1 - y1)), .second, .unset, .unset, .unset, .unset, .unset, .unset, .unset] [(.long (((x2 - x1) * (x2 - x1)) + ((y1 - y1) * (y1 - y1))))])) _
        refine XT.lload X33.here hx rfl (hb hby at_106) rfl ?_
        show Steps p.tables e below (T33.setTop (mkF m 108 #[.val (.int p1), .val (.int p2), .val (.int p3), .val (.int p4), .val (.int p5), .val (.int p6), .val (.long x1), .second, .val (.long y1), .second, .val (.long x2), .second, .val (.long y1), .second, .val (.long dd), .second, .val (.long (x2 - x1)), .second, .val (.long (y1 - y1)), .second, .unset, .unset, .unset, .unset, .unset, .unset, .unset] [(.long dd), (.long (((x2 - x1) * (x2 - x1)) + ((y1 - y1) * (y1 - y1))))])) _
        refine XT.lload X33.here hx rfl (hb hby at_108) rfl ?_
        show Steps p.tables e below (T33.setTop (mkF m 110 #[.val (.int p1), .val (.int p2), .val (.int p3), .val (.int p4), .val (.int p5), .val (.int p6), .val (.long x1), .second, .val (.long y1), .second, .val (.long x2), .second, .val (.long y1), .second, .val (.long dd), .second, .val (.long (x2 - x1)), .second, .val (.long (y1 - y1)), .second, .unset, .unset, .unset, .unset, .unset, .unset, .unset] [(.long dd), (.long dd), (.long (((x2 - x1) * (x2 - x1)) + ((y1 - y1) * (y1 - y1))))])) _
        refine XT.lmul X33.here hx rfl (hb hby at_110) rfl ?_
        show Steps p.tables e below (T33.setTop (mkF m 111 #[.val (.int p1), .val (.int p2), .val (.int p3), .val (.int p4), .val (.int p5), .val (.int p6), .val (.long x1), .second, .val (.long y1), .second, .val (.long x2), .second, .val (.long y1), .second, .val (.long dd), .second, .val (.long (x2 - x1)), .second, .val (.long (y1 - y1)), .second, .unset, .unset, .unset, .unset, .unset, .unset, .unset] [(.long (dd * dd)), (.long (((x2 - x1) * (x2 - x1)) + ((y1 - y1) * (y1 - y1))))])) _
        refine XT.lcmp X33.here hx rfl (hb hby at_111) rfl ?_
        show Steps p.tables e below (T33.setTop (mkF m 112 #[.val (.int p1), .val (.int p2), .val (.int p3), .val (.int p4), .val (.int p5), .val (.int p6), .val (.long x1), .second, .val (.long y1), .second, .val (.long x2), .second, .val (.long y1), .second, .val (.long dd), .second, .val (.long (x2 - x1)), .second, .val (.long (y1 - y1)), .second, .unset, .unset, .unset, .unset, .unset, .unset, .unset] [(.int (XT.cmpL (((x2 - x1) * (x2 - x1)) + ((y1 - y1) * (y1 - y1))) (dd * dd)))])) _
        exact k
      by_cases h112_67 : (0 : Int32) < (XT.cmpL (((x2 - x1) * (x2 - x1)) + ((y1 - y1) * (y1 - y1))) (dd * dd))
      · obtain ⟨T69, H69, X69, e69, E69, Q69, D69, -, st69⟩ := newO X33 hx hZ hown (hw _ (List.mem_of_getElem? (i := 5) rfl)) (hw _ (List.mem_of_getElem? (i := 6) rfl)) (hw _ (List.mem_of_getElem? (i := 7) rfl)) e33 (g := (mkF m 122 #[.val (.int p1), .val (.int p2), .val (.int p3), .val (.int p4), .val (.int p5), .val (.int p6), .val (.long x1), .second, .val (.long y1), .second, .val (.long x2), .second, .val (.long y1), .second, .val (.long dd), .second, .val (.long (x2 - x1)), .second, .val (.long (y1 - y1)), .second, .val (.int (0 : Int32)), .unset, .unset, .unset, .unset, .unset, .unset] [])) rfl (hb hby at_122) (by decide) (by decide)
        obtain ⟨b69, g69⟩ : ∃ z, z = h0.size := ⟨_, rfl⟩
        rw [← g69] at Q69 D69 st69
        have Fb69_id : Fld Z H69 b69 "com/example/rumblecourt/rumblecourt/games/hungergaming/Creature" "id" "I" (.int (0 : Int32)) := D69 (Or.inr (hw _ (List.mem_of_getElem? (i := 15) rfl))) (ty := .int) (by decide)
        have Fb69_x : Fld Z H69 b69 "com/example/rumblecourt/rumblecourt/games/hungergaming/Creature" "x" "D" (.double (0 : UInt64)) := D69 (Or.inl (hw _ (List.mem_of_getElem? (i := 22) rfl))) (ty := .double) (by decide)
        have Fb69_y : Fld Z H69 b69 "com/example/rumblecourt/rumblecourt/games/hungergaming/Creature" "y" "D" (.double (0 : UInt64)) := D69 (Or.inl (hw _ (List.mem_of_getElem? (i := 24) rfl))) (ty := .double) (by decide)
        have Fb69_position : Fld Z H69 b69 "com/example/rumblecourt/rumblecourt/games/hungergaming/Creature" "position" "Ljava/lang/String;" .null := D69 (Or.inl (hw _ (List.mem_of_getElem? (i := 26) rfl))) (ty := (.object "java/lang/String")) (by decide)
        have Z69 : n0 ≤ H69.size := Nat.le_trans Z0 E69.1
        have gb69 : n0 ≤ b69 := Nat.le_trans Z0 (Nat.le_of_eq g69.symm)
        obtain ⟨_, _, ⟨T70, L70, k70, n70⟩, -, X70, ⟨Lc70, hQ70, l70, y70, z70⟩, st70⟩ := X69.specialBack hx (y := (⟨"com/example/rumblecourt/rumblecourt/games/hungergaming/Creature", "<init>", "(IDD)V"⟩ : MethodName)) rfl hown (mvT hZ (hw _ (List.mem_of_getElem? (i := 8) rfl))) (mvT hZ (hw _ (List.mem_of_getElem? (i := 9) rfl))) (mvT hZ (hw _ (List.mem_of_getElem? (i := 10) rfl))) (by decide) (backOf (W := 1) (rm2 l Z a0 hw [] b69 (0 : Int32) x1 y1 H69 n0 Z69 Q69 Fb69_id Fb69_x Fb69_y Fb69_position gb69) hZ (hw _ (List.mem_of_getElem? (i := 10) rfl)) (hw _ (List.mem_of_getElem? (i := 7) rfl)) (by decide) (by decide)) (g := (mkF m 133 #[.val (.int p1), .val (.int p2), .val (.int p3), .val (.int p4), .val (.int p5), .val (.int p6), .val (.long x1), .second, .val (.long y1), .second, .val (.long x2), .second, .val (.long y1), .second, .val (.long dd), .second, .val (.long (x2 - x1)), .second, .val (.long (y1 - y1)), .second, .val (.int (0 : Int32)), .unset, .unset, .unset, .unset, .unset, .unset] [(.double (FP.l2d y1)), (.double (FP.l2d x1)), (.int (0 : Int32)), (.ref b69), (.ref b69)])) rfl (by rw [hml]; rfl) (Steps.refl _) (a := b69) (argsL := [(.int (0 : Int32)), (.double (FP.l2d x1)), (.double (FP.l2d y1))]) (rest := [(.ref b69)]) (lenOf pd_0_0 rfl) rfl (by show 2 * 0 + _ ≤ _; exact Nat.le_of_eq rfl) (hb hby at_133) (fun _ _ => ⟨rfl, e69, (by decide : 1 + 0 ≤ _), (by decide : 6 + 0 ≤ _)⟩)
        dsimp only [Pt.U, Pt.locs, Pt.cells, Pt.slots] at X70 l70 y70 z70 st70 hQ70
        subst l70 y70 z70
        obtain ⟨rfl, N70q, K70, EE70, Fx70, Fy70⟩ := hQ70
        have N70 := Fr.app N33 N70q
        have e70 : T70.heap = T70.heap := rfl
        have Z70 : n0 ≤ T70.heap.size := Nat.le_trans Z69 K70.1
        have Eb69_71 := Exa.keep Q69 K70
        obtain ⟨T72, H72, X72, e72, E72, Q72, D72, -, st72⟩ := newO X70 hx hZ hown (hw _ (List.mem_of_getElem? (i := 5) rfl)) (hw _ (List.mem_of_getElem? (i := 6) rfl)) (hw _ (List.mem_of_getElem? (i := 7) rfl)) e70 (g := (mkF m 138 #[.val (.int p1), .val (.int p2), .val (.int p3), .val (.int p4), .val (.int p5), .val (.int p6), .val (.long x1), .second, .val (.long y1), .second, .val (.long x2), .second, .val (.long y1), .second, .val (.long dd), .second, .val (.long (x2 - x1)), .second, .val (.long (y1 - y1)), .second, .val (.int (0 : Int32)), .val (.ref b69), .unset, .unset, .unset, .unset, .unset] [])) rfl (hb hby at_138) (by decide) (by decide)
        obtain ⟨b72, g72⟩ : ∃ z, z = T70.heap.size := ⟨_, rfl⟩
        rw [← g72] at Q72 D72 st72
        have lt_b69_b72 : b69 < b72 := Nat.lt_of_lt_of_le (Exa.lt EE70) (Nat.le_of_eq g72.symm)
        have Fb72_id : Fld Z H72 b72 "com/example/rumblecourt/rumblecourt/games/hungergaming/Creature" "id" "I" (.int (0 : Int32)) := D72 (Or.inr (hw _ (List.mem_of_getElem? (i := 15) rfl))) (ty := .int) (by decide)
        have Fb72_x : Fld Z H72 b72 "com/example/rumblecourt/rumblecourt/games/hungergaming/Creature" "x" "D" (.double (0 : UInt64)) := D72 (Or.inl (hw _ (List.mem_of_getElem? (i := 22) rfl))) (ty := .double) (by decide)
        have Fb72_y : Fld Z H72 b72 "com/example/rumblecourt/rumblecourt/games/hungergaming/Creature" "y" "D" (.double (0 : UInt64)) := D72 (Or.inl (hw _ (List.mem_of_getElem? (i := 24) rfl))) (ty := .double) (by decide)
        have Fb72_position : Fld Z H72 b72 "com/example/rumblecourt/rumblecourt/games/hungergaming/Creature" "position" "Ljava/lang/String;" .null := D72 (Or.inl (hw _ (List.mem_of_getElem? (i := 26) rfl))) (ty := (.object "java/lang/String")) (by decide)
        have Z72 : n0 ≤ H72.size := Nat.le_trans Z70 E72.1
        have gb72 : n0 ≤ b72 := Nat.le_trans Z70 (Nat.le_of_eq g72.symm)
        have Eb69_73 := Exa.ext E72 EE70
        have Fb69_x_73 := Fld.ext E72 Fx70
        have Fb69_y_73 := Fld.ext E72 Fy70
        obtain ⟨_, _, ⟨T74, L74, k74, n74⟩, -, X74, ⟨Lc74, hQ74, l74, y74, z74⟩, st74⟩ := X72.specialBack hx (y := (⟨"com/example/rumblecourt/rumblecourt/games/hungergaming/Creature", "<init>", "(IDD)V"⟩ : MethodName)) rfl hown (mvT hZ (hw _ (List.mem_of_getElem? (i := 8) rfl))) (mvT hZ (hw _ (List.mem_of_getElem? (i := 9) rfl))) (mvT hZ (hw _ (List.mem_of_getElem? (i := 10) rfl))) (by decide) (backOf (W := 1) (rm2 l Z a0 hw [] b72 (1 : Int32) x2 y1 H72 n0 Z72 Q72 Fb72_id Fb72_x Fb72_y Fb72_position gb72) hZ (hw _ (List.mem_of_getElem? (i := 10) rfl)) (hw _ (List.mem_of_getElem? (i := 7) rfl)) (by decide) (by decide)) (g := (mkF m 149 #[.val (.int p1), .val (.int p2), .val (.int p3), .val (.int p4), .val (.int p5), .val (.int p6), .val (.long x1), .second, .val (.long y1), .second, .val (.long x2), .second, .val (.long y1), .second, .val (.long dd), .second, .val (.long (x2 - x1)), .second, .val (.long (y1 - y1)), .second, .val (.int (0 : Int32)), .val (.ref b69), .unset, .unset, .unset, .unset, .unset] [(.double (FP.l2d y1)), (.double (FP.l2d x2)), (.int (1 : Int32)), (.ref b72), (.ref b72)])) rfl (by rw [hml]; rfl) (Steps.refl _) (a := b72) (argsL := [(.int (1 : Int32)), (.double (FP.l2d x2)), (.double (FP.l2d y1))]) (rest := [(.ref b72)]) (lenOf pd_0_0 rfl) rfl (by show 2 * 0 + _ ≤ _; exact Nat.le_of_eq rfl) (hb hby at_149) (fun _ _ => ⟨rfl, e72, (by decide : 2 + 0 ≤ _), (by decide : 12 + 0 ≤ _)⟩)
        dsimp only [Pt.U, Pt.locs, Pt.cells, Pt.slots] at X74 l74 y74 z74 st74 hQ74
        subst l74 y74 z74
        obtain ⟨rfl, N74q, K74, EE74, Fx74, Fy74⟩ := hQ74
        have N74 := Fr.app N70 N74q
        have e74 : T74.heap = T74.heap := rfl
        have Z74 : n0 ≤ T74.heap.size := Nat.le_trans Z72 K74.1
        have Eb69_75 := Exa.keep Eb69_73 K74
        have Fb69_x_75 := Fld.keep Fb69_x_73 K74 (fun q => (Nat.ne_of_lt lt_b69_b72) (List.mem_singleton.mp q))
        have Fb69_y_75 := Fld.keep Fb69_y_73 K74 (fun q => (Nat.ne_of_lt lt_b69_b72) (List.mem_singleton.mp q))
        have Eb72_76 := Exa.keep Q72 K74
        obtain ⟨cq77, kq77, q77a, q77b, q77c⟩ := isOf hZ e74 Eb69_75
        obtain ⟨_, _, ⟨T77, L77, k77, n77⟩, -, X77, ⟨Lc77, hQ77, l77, y77, z77⟩, st77⟩ := X74.virtualBack hx (y := (⟨"com/example/rumblecourt/rumblecourt/games/hungergaming/Creature", "within", "(Lcom/example/rumblecourt/rumblecourt/games/hungergaming/Creature;D)Z"⟩ : MethodName)) (z := (⟨"com/example/rumblecourt/rumblecourt/games/hungergaming/Creature", "within", "(Lcom/example/rumblecourt/rumblecourt/games/hungergaming/Creature;D)Z"⟩ : MethodName)) hown (mvT hZ (hw _ (List.mem_of_getElem? (i := 27) rfl))) (mvT hZ (hw _ (List.mem_of_getElem? (i := 28) rfl))) (notFace_of_selects (args := #[]) (mvT hZ (hw _ (List.mem_of_getElem? (i := 30) rfl)))) (mvT hZ (hw _ (List.mem_of_getElem? (i := 30) rfl))) (mvT hZ (hw _ (List.mem_of_getElem? (i := 29) rfl))) (by decide) (backOf (W := 0) (rm5 l Z a0 hw [] b69 b72 dd T74.heap n0 Z74 x1 y1 x2 y1 Fb69_x_75 Fb69_y_75 Fx74 Fy74 bx1 by1 bx2 by1 bdd) hZ (hw _ (List.mem_of_getElem? (i := 31) rfl)) (hw _ (List.mem_of_getElem? (i := 7) rfl)) (by decide) (by decide)) q77a q77c (g := (mkF m 165 #[.val (.int p1), .val (.int p2), .val (.int p3), .val (.int p4), .val (.int p5), .val (.int p6), .val (.long x1), .second, .val (.long y1), .second, .val (.long x2), .second, .val (.long y1), .second, .val (.long dd), .second, .val (.long (x2 - x1)), .second, .val (.long (y1 - y1)), .second, .val (.int (0 : Int32)), .val (.ref b69), .val (.ref b72), .val (.double (FP.l2d dd)), .second, .unset, .unset] [(.double (FP.l2d dd)), (.ref b72), (.ref b69)])) rfl (by rw [hml]; rfl) (Steps.refl _) (argsL := [(.ref b72), (.double (FP.l2d dd))]) (rest := []) (lenOf pd_0_1 rfl) rfl (by show 2 * 0 + _ ≤ _; exact Nat.le_of_eq rfl) (hb hby at_165) (fun _ _ => ⟨rfl, e74, (by decide : 2 + 0 ≤ _), (by decide : 12 + 0 ≤ _)⟩)
        dsimp only [Pt.U, Pt.locs, Pt.cells, Pt.slots] at X77 l77 y77 z77 st77 hQ77
        subst l77 y77 z77
        obtain ⟨rfl, N77q, e77⟩ := hQ77
        have N77 := Fr.app N74 N77q
        obtain ⟨cq78, kq78, q78a, q78b, q78c⟩ := isOf hZ e77 EE74
        obtain ⟨_, _, ⟨T78, L78, k78, n78⟩, -, X78, ⟨Lc78, hQ78, l78, y78, z78⟩, st78⟩ := X77.virtualBack hx (y := (⟨"com/example/rumblecourt/rumblecourt/games/hungergaming/Creature", "within", "(Lcom/example/rumblecourt/rumblecourt/games/hungergaming/Creature;D)Z"⟩ : MethodName)) (z := (⟨"com/example/rumblecourt/rumblecourt/games/hungergaming/Creature", "within", "(Lcom/example/rumblecourt/rumblecourt/games/hungergaming/Creature;D)Z"⟩ : MethodName)) hown (mvT hZ (hw _ (List.mem_of_getElem? (i := 27) rfl))) (mvT hZ (hw _ (List.mem_of_getElem? (i := 28) rfl))) (notFace_of_selects (args := #[]) (mvT hZ (hw _ (List.mem_of_getElem? (i := 30) rfl)))) (mvT hZ (hw _ (List.mem_of_getElem? (i := 30) rfl))) (mvT hZ (hw _ (List.mem_of_getElem? (i := 29) rfl))) (by decide) (backOf (W := 0) (rm5 l Z a0 hw [] b72 b69 dd T74.heap n0 Z74 x2 y1 x1 y1 Fx74 Fy74 Fb69_x_75 Fb69_y_75 bx2 by1 bx1 by1 bdd) hZ (hw _ (List.mem_of_getElem? (i := 31) rfl)) (hw _ (List.mem_of_getElem? (i := 7) rfl)) (by decide) (by decide)) q78a q78c (g := (mkF m 176 #[.val (.int p1), .val (.int p2), .val (.int p3), .val (.int p4), .val (.int p5), .val (.int p6), .val (.long x1), .second, .val (.long y1), .second, .val (.long x2), .second, .val (.long y1), .second, .val (.long dd), .second, .val (.long (x2 - x1)), .second, .val (.long (y1 - y1)), .second, .val (.int (0 : Int32)), .val (.ref b69), .val (.ref b72), .val (.double (FP.l2d dd)), .second, .val (.int (fW x1 y1 x2 y1 dd)), .unset] [(.double (FP.l2d dd)), (.ref b69), (.ref b72)])) rfl (by rw [hml]; rfl) (Steps.refl _) (argsL := [(.ref b69), (.double (FP.l2d dd))]) (rest := []) (lenOf pd_0_1 rfl) rfl (by show 2 * 0 + _ ≤ _; exact Nat.le_of_eq rfl) (hb hby at_176) (fun _ _ => ⟨rfl, e77, (by decide : 2 + 0 ≤ _), (by decide : 12 + 0 ≤ _)⟩)
        dsimp only [Pt.U, Pt.locs, Pt.cells, Pt.slots] at X78 l78 y78 z78 st78 hQ78
        subst l78 y78 z78
        obtain ⟨rfl, N78q, e78⟩ := hQ78
        have N78 := Fr.app N77 N78q
        have h185_79 : (fW x1 y1 x2 y1 dd) = (0 : Int32) := own_w0 h112_67
        have h192_80 : (fW x2 y1 x1 y1 dd) = (0 : Int32) := (own_sym bx1 by1 bx2 by1).trans (own_w0 h112_67)
        have pre81 : ∀ t, Steps p.tables e below (T78.setTop (mkF m 200 #[.val (.int p1), .val (.int p2), .val (.int p3), .val (.int p4), .val (.int p5), .val (.int p6), .val (.long x1), .second, .val (.long y1), .second, .val (.long x2), .second, .val (.long y1), .second, .val (.long dd), .second, .val (.long (x2 - x1)), .second, .val (.long (y1 - y1)), .second, .val (.int (0 : Int32)), .val (.ref b69), .val (.ref b72), .val (.double (FP.l2d dd)), .second, .val (.int (fW x1 y1 x2 y1 dd)), .val (.int (fW x2 y1 x1 y1 dd))] [(.int (1 : Int32))])) t → Steps p.tables e below (s₁.setTop (entryFrame m #[(.int p1), (.int p2), (.int p3), (.int p4), (.int p5), (.int p6)] maxLocals)) t := by
          intro t k
          refine pre68 t ?_
          refine XS.ifYes X33.here hx rfl (pc0 := 112) (pc' := 119) rfl (hb hby at_112) rfl ((if0 _ _).trans (tlt h112_67).2.2.1) (by decide) (by decide) ?_
          show Steps p.tables e below (T33.setTop (mkF m 119 #[.val (.int p1), .val (.int p2), .val (.int p3), .val (.int p4), .val (.int p5), .val (.int p6), .val (.long x1), .second, .val (.long y1), .second, .val (.long x2), .second, .val (.long y1), .second, .val (.long dd), .second, .val (.long (x2 - x1)), .second, .val (.long (y1 - y1)), .second, .unset, .unset, .unset, .unset, .unset, .unset, .unset] [])) _
          refine XS.iconst X33.here hx rfl (hb hby at_119) ?_
          show Steps p.tables e below (T33.setTop (mkF m 120 #[.val (.int p1), .val (.int p2), .val (.int p3), .val (.int p4), .val (.int p5), .val (.int p6), .val (.long x1), .second, .val (.long y1), .second, .val (.long x2), .second, .val (.long y1), .second, .val (.long dd), .second, .val (.long (x2 - x1)), .second, .val (.long (y1 - y1)), .second, .unset, .unset, .unset, .unset, .unset, .unset, .unset] [(.int (0 : Int32))])) _
          refine XS.istore X33.here hx rfl (hb hby at_120) rfl (l' := #[.val (.int p1), .val (.int p2), .val (.int p3), .val (.int p4), .val (.int p5), .val (.int p6), .val (.long x1), .second, .val (.long y1), .second, .val (.long x2), .second, .val (.long y1), .second, .val (.long dd), .second, .val (.long (x2 - x1)), .second, .val (.long (y1 - y1)), .second, .val (.int (0 : Int32)), .unset, .unset, .unset, .unset, .unset, .unset]) rfl ?_
          show Steps p.tables e below (T33.setTop (mkF m 122 #[.val (.int p1), .val (.int p2), .val (.int p3), .val (.int p4), .val (.int p5), .val (.int p6), .val (.long x1), .second, .val (.long y1), .second, .val (.long x2), .second, .val (.long y1), .second, .val (.long dd), .second, .val (.long (x2 - x1)), .second, .val (.long (y1 - y1)), .second, .val (.int (0 : Int32)), .unset, .unset, .unset, .unset, .unset, .unset] [])) _
          refine st69 _ ?_
          show Steps p.tables e below (T69.setTop (mkF m 125 #[.val (.int p1), .val (.int p2), .val (.int p3), .val (.int p4), .val (.int p5), .val (.int p6), .val (.long x1), .second, .val (.long y1), .second, .val (.long x2), .second, .val (.long y1), .second, .val (.long dd), .second, .val (.long (x2 - x1)), .second, .val (.long (y1 - y1)), .second, .val (.int (0 : Int32)), .unset, .unset, .unset, .unset, .unset, .unset] [(.ref b69)])) _
          refine XS.dup X69.here hx rfl (hb hby at_125) rfl rfl ?_
          show Steps p.tables e below (T69.setTop (mkF m 126 #[.val (.int p1), .val (.int p2), .val (.int p3), .val (.int p4), .val (.int p5), .val (.int p6), .val (.long x1), .second, .val (.long y1), .second, .val (.long x2), .second, .val (.long y1), .second, .val (.long dd), .second, .val (.long (x2 - x1)), .second, .val (.long (y1 - y1)), .second, .val (.int (0 : Int32)), .unset, .unset, .unset, .unset, .unset, .unset] [(.ref b69), (.ref b69)])) _
          refine XS.iconst X69.here hx rfl (hb hby at_126) ?_
          show Steps p.tables e below (T69.setTop (mkF m 127 #[.val (.int p1), .val (.int p2), .val (.int p3), .val (.int p4), .val (.int p5), .val (.int p6), .val (.long x1), .second, .val (.long y1), .second, .val (.long x2), .second, .val (.long y1), .second, .val (.long dd), .second, .val (.long (x2 - x1)), .second, .val (.long (y1 - y1)), .second, .val (.int (0 : Int32)), .unset, .unset, .unset, .unset, .unset, .unset] [(.int (0 : Int32)), (.ref b69), (.ref b69)])) _
          refine XT.lload X69.here hx rfl (hb hby at_127) rfl ?_
          show Steps p.tables e below (T69.setTop (mkF m 129 #[.val (.int p1), .val (.int p2), .val (.int p3), .val (.int p4), .val (.int p5), .val (.int p6), .val (.long x1), .second, .val (.long y1), .second, .val (.long x2), .second, .val (.long y1), .second, .val (.long dd), .second, .val (.long (x2 - x1)), .second, .val (.long (y1 - y1)), .second, .val (.int (0 : Int32)), .unset, .unset, .unset, .unset, .unset, .unset] [(.long x1), (.int (0 : Int32)), (.ref b69), (.ref b69)])) _
          refine XS.l2dS X69.here hx rfl (hb hby at_129) rfl (v := FP.l2d x1) rfl ?_
          show Steps p.tables e below (T69.setTop (mkF m 130 #[.val (.int p1), .val (.int p2), .val (.int p3), .val (.int p4), .val (.int p5), .val (.int p6), .val (.long x1), .second, .val (.long y1), .second, .val (.long x2), .second, .val (.long y1), .second, .val (.long dd), .second, .val (.long (x2 - x1)), .second, .val (.long (y1 - y1)), .second, .val (.int (0 : Int32)), .unset, .unset, .unset, .unset, .unset, .unset] [(.double (FP.l2d x1)), (.int (0 : Int32)), (.ref b69), (.ref b69)])) _
          refine XT.lload X69.here hx rfl (hb hby at_130) rfl ?_
          show Steps p.tables e below (T69.setTop (mkF m 132 #[.val (.int p1), .val (.int p2), .val (.int p3), .val (.int p4), .val (.int p5), .val (.int p6), .val (.long x1), .second, .val (.long y1), .second, .val (.long x2), .second, .val (.long y1), .second, .val (.long dd), .second, .val (.long (x2 - x1)), .second, .val (.long (y1 - y1)), .second, .val (.int (0 : Int32)), .unset, .unset, .unset, .unset, .unset, .unset] [(.long y1), (.double (FP.l2d x1)), (.int (0 : Int32)), (.ref b69), (.ref b69)])) _
          refine XS.l2dS X69.here hx rfl (hb hby at_132) rfl (v := FP.l2d y1) rfl ?_
          show Steps p.tables e below (T69.setTop (mkF m 133 #[.val (.int p1), .val (.int p2), .val (.int p3), .val (.int p4), .val (.int p5), .val (.int p6), .val (.long x1), .second, .val (.long y1), .second, .val (.long x2), .second, .val (.long y1), .second, .val (.long dd), .second, .val (.long (x2 - x1)), .second, .val (.long (y1 - y1)), .second, .val (.int (0 : Int32)), .unset, .unset, .unset, .unset, .unset, .unset] [(.double (FP.l2d y1)), (.double (FP.l2d x1)), (.int (0 : Int32)), (.ref b69), (.ref b69)])) _
          refine st70.trans ?_
          show Steps p.tables e below (T70.setTop (mkF m 136 #[.val (.int p1), .val (.int p2), .val (.int p3), .val (.int p4), .val (.int p5), .val (.int p6), .val (.long x1), .second, .val (.long y1), .second, .val (.long x2), .second, .val (.long y1), .second, .val (.long dd), .second, .val (.long (x2 - x1)), .second, .val (.long (y1 - y1)), .second, .val (.int (0 : Int32)), .unset, .unset, .unset, .unset, .unset, .unset] [(.ref b69)])) _
          refine XS.astore X70.here hx rfl (hb hby at_136) rfl rfl (l' := #[.val (.int p1), .val (.int p2), .val (.int p3), .val (.int p4), .val (.int p5), .val (.int p6), .val (.long x1), .second, .val (.long y1), .second, .val (.long x2), .second, .val (.long y1), .second, .val (.long dd), .second, .val (.long (x2 - x1)), .second, .val (.long (y1 - y1)), .second, .val (.int (0 : Int32)), .val (.ref b69), .unset, .unset, .unset, .unset, .unset]) rfl ?_
          show Steps p.tables e below (T70.setTop (mkF m 138 #[.val (.int p1), .val (.int p2), .val (.int p3), .val (.int p4), .val (.int p5), .val (.int p6), .val (.long x1), .second, .val (.long y1), .second, .val (.long x2), .second, .val (.long y1), .second, .val (.long dd), .second, .val (.long (x2 - x1)), .second, .val (.long (y1 - y1)), .second, .val (.int (0 : Int32)), .val (.ref b69), .unset, .unset, .unset, .unset, .unset] [])) _
          refine st72 _ ?_
          show Steps p.tables e below (T72.setTop (mkF m 141 #[.val (.int p1), .val (.int p2), .val (.int p3), .val (.int p4), .val (.int p5), .val (.int p6), .val (.long x1), .second, .val (.long y1), .second, .val (.long x2), .second, .val (.long y1), .second, .val (.long dd), .second, .val (.long (x2 - x1)), .second, .val (.long (y1 - y1)), .second, .val (.int (0 : Int32)), .val (.ref b69), .unset, .unset, .unset, .unset, .unset] [(.ref b72)])) _
          refine XS.dup X72.here hx rfl (hb hby at_141) rfl rfl ?_
          show Steps p.tables e below (T72.setTop (mkF m 142 #[.val (.int p1), .val (.int p2), .val (.int p3), .val (.int p4), .val (.int p5), .val (.int p6), .val (.long x1), .second, .val (.long y1), .second, .val (.long x2), .second, .val (.long y1), .second, .val (.long dd), .second, .val (.long (x2 - x1)), .second, .val (.long (y1 - y1)), .second, .val (.int (0 : Int32)), .val (.ref b69), .unset, .unset, .unset, .unset, .unset] [(.ref b72), (.ref b72)])) _
          refine XS.iconst X72.here hx rfl (hb hby at_142) ?_
          show Steps p.tables e below (T72.setTop (mkF m 143 #[.val (.int p1), .val (.int p2), .val (.int p3), .val (.int p4), .val (.int p5), .val (.int p6), .val (.long x1), .second, .val (.long y1), .second, .val (.long x2), .second, .val (.long y1), .second, .val (.long dd), .second, .val (.long (x2 - x1)), .second, .val (.long (y1 - y1)), .second, .val (.int (0 : Int32)), .val (.ref b69), .unset, .unset, .unset, .unset, .unset] [(.int (1 : Int32)), (.ref b72), (.ref b72)])) _
          refine XT.lload X72.here hx rfl (hb hby at_143) rfl ?_
          show Steps p.tables e below (T72.setTop (mkF m 145 #[.val (.int p1), .val (.int p2), .val (.int p3), .val (.int p4), .val (.int p5), .val (.int p6), .val (.long x1), .second, .val (.long y1), .second, .val (.long x2), .second, .val (.long y1), .second, .val (.long dd), .second, .val (.long (x2 - x1)), .second, .val (.long (y1 - y1)), .second, .val (.int (0 : Int32)), .val (.ref b69), .unset, .unset, .unset, .unset, .unset] [(.long x2), (.int (1 : Int32)), (.ref b72), (.ref b72)])) _
          refine XS.l2dS X72.here hx rfl (hb hby at_145) rfl (v := FP.l2d x2) rfl ?_
          show Steps p.tables e below (T72.setTop (mkF m 146 #[.val (.int p1), .val (.int p2), .val (.int p3), .val (.int p4), .val (.int p5), .val (.int p6), .val (.long x1), .second, .val (.long y1), .second, .val (.long x2), .second, .val (.long y1), .second, .val (.long dd), .second, .val (.long (x2 - x1)), .second, .val (.long (y1 - y1)), .second, .val (.int (0 : Int32)), .val (.ref b69), .unset, .unset, .unset, .unset, .unset] [(.double (FP.l2d x2)), (.int (1 : Int32)), (.ref b72), (.ref b72)])) _
          refine XT.lload X72.here hx rfl (hb hby at_146) rfl ?_
          show Steps p.tables e below (T72.setTop (mkF m 148 #[.val (.int p1), .val (.int p2), .val (.int p3), .val (.int p4), .val (.int p5), .val (.int p6), .val (.long x1), .second, .val (.long y1), .second, .val (.long x2), .second, .val (.long y1), .second, .val (.long dd), .second, .val (.long (x2 - x1)), .second, .val (.long (y1 - y1)), .second, .val (.int (0 : Int32)), .val (.ref b69), .unset, .unset, .unset, .unset, .unset] [(.long y1), (.double (FP.l2d x2)), (.int (1 : Int32)), (.ref b72), (.ref b72)])) _
          refine XS.l2dS X72.here hx rfl (hb hby at_148) rfl (v := FP.l2d y1) rfl ?_
          show Steps p.tables e below (T72.setTop (mkF m 149 #[.val (.int p1), .val (.int p2), .val (.int p3), .val (.int p4), .val (.int p5), .val (.int p6), .val (.long x1), .second, .val (.long y1), .second, .val (.long x2), .second, .val (.long y1), .second, .val (.long dd), .second, .val (.long (x2 - x1)), .second, .val (.long (y1 - y1)), .second, .val (.int (0 : Int32)), .val (.ref b69), .unset, .unset, .unset, .unset, .unset] [(.double (FP.l2d y1)), (.double (FP.l2d x2)), (.int (1 : Int32)), (.ref b72), (.ref b72)])) _
          refine st74.trans ?_
          show Steps p.tables e below (T74.setTop (mkF m 152 #[.val (.int p1), .val (.int p2), .val (.int p3), .val (.int p4), .val (.int p5), .val (.int p6), .val (.long x1), .second, .val (.long y1), .second, .val (.long x2), .second, .val (.long y1), .second, .val (.long dd), .second, .val (.long (x2 - x1)), .second, .val (.long (y1 - y1)), .second, .val (.int (0 : Int32)), .val (.ref b69), .unset, .unset, .unset, .unset, .unset] [(.ref b72)])) _
          refine XS.astore X74.here hx rfl (hb hby at_152) rfl rfl (l' := #[.val (.int p1), .val (.int p2), .val (.int p3), .val (.int p4), .val (.int p5), .val (.int p6), .val (.long x1), .second, .val (.long y1), .second, .val (.long x2), .second, .val (.long y1), .second, .val (.long dd), .second, .val (.long (x2 - x1)), .second, .val (.long (y1 - y1)), .second, .val (.int (0 : Int32)), .val (.ref b69), .val (.ref b72), .unset, .unset, .unset, .unset]) rfl ?_
          show Steps p.tables e below (T74.setTop (mkF m 154 #[.val (.int p1), .val (.int p2), .val (.int p3), .val (.int p4), .val (.int p5), .val (.int p6), .val (.long x1), .second, .val (.long y1), .second, .val (.long x2), .second, .val (.long y1), .second, .val (.long dd), .second, .val (.long (x2 - x1)), .second, .val (.long (y1 - y1)), .second, .val (.int (0 : Int32)), .val (.ref b69), .val (.ref b72), .unset, .unset, .unset, .unset] [])) _
          refine XT.lload X74.here hx rfl (hb hby at_154) rfl ?_
          show Steps p.tables e below (T74.setTop (mkF m 156 #[.val (.int p1), .val (.int p2), .val (.int p3), .val (.int p4), .val (.int p5), .val (.int p6), .val (.long x1), .second, .val (.long y1), .second, .val (.long x2), .second, .val (.long y1), .second, .val (.long dd), .second, .val (.long (x2 - x1)), .second, .val (.long (y1 - y1)), .second, .val (.int (0 : Int32)), .val (.ref b69), .val (.ref b72), .unset, .unset, .unset, .unset] [(.long dd)])) _
          refine XS.l2dS X74.here hx rfl (hb hby at_156) rfl (v := FP.l2d dd) rfl ?_
          show Steps p.tables e below (T74.setTop (mkF m 157 #[.val (.int p1), .val (.int p2), .val (.int p3), .val (.int p4), .val (.int p5), .val (.int p6), .val (.long x1), .second, .val (.long y1), .second, .val (.long x2), .second, .val (.long y1), .second, .val (.long dd), .second, .val (.long (x2 - x1)), .second, .val (.long (y1 - y1)), .second, .val (.int (0 : Int32)), .val (.ref b69), .val (.ref b72), .unset, .unset, .unset, .unset] [(.double (FP.l2d dd))])) _
          refine XS.dstore X74.here hx rfl (hb hby at_157) rfl (l' := #[.val (.int p1), .val (.int p2), .val (.int p3), .val (.int p4), .val (.int p5), .val (.int p6), .val (.long x1), .second, .val (.long y1), .second, .val (.long x2), .second, .val (.long y1), .second, .val (.long dd), .second, .val (.long (x2 - x1)), .second, .val (.long (y1 - y1)), .second, .val (.int (0 : Int32)), .val (.ref b69), .val (.ref b72), .val (.double (FP.l2d dd)), .second, .unset, .unset]) rfl ?_
          show Steps p.tables e below (T74.setTop (mkF m 159 #[.val (.int p1), .val (.int p2), .val (.int p3), .val (.int p4), .val (.int p5), .val (.int p6), .val (.long x1), .second, .val (.long y1), .second, .val (.long x2), .second, .val (.long y1), .second, .val (.long dd), .second, .val (.long (x2 - x1)), .second, .val (.long (y1 - y1)), .second, .val (.int (0 : Int32)), .val (.ref b69), .val (.ref b72), .val (.double (FP.l2d dd)), .second, .unset, .unset] [])) _
          refine XS.aload X74.here hx rfl (hb hby at_159) rfl rfl ?_
          show Steps p.tables e below (T74.setTop (mkF m 161 #[.val (.int p1), .val (.int p2), .val (.int p3), .val (.int p4), .val (.int p5), .val (.int p6), .val (.long x1), .second, .val (.long y1), .second, .val (.long x2), .second, .val (.long y1), .second, .val (.long dd), .second, .val (.long (x2 - x1)), .second, .val (.long (y1 - y1)), .second, .val (.int (0 : Int32)), .val (.ref b69), .val (.ref b72), .val (.double (FP.l2d dd)), .second, .unset, .unset] [(.ref b69)])) _
          refine XS.aload X74.here hx rfl (hb hby at_161) rfl rfl ?_
          show Steps p.tables e below (T74.setTop (mkF m 163 #[.val (.int p1), .val (.int p2), .val (.int p3), .val (.int p4), .val (.int p5), .val (.int p6), .val (.long x1), .second, .val (.long y1), .second, .val (.long x2), .second, .val (.long y1), .second, .val (.long dd), .second, .val (.long (x2 - x1)), .second, .val (.long (y1 - y1)), .second, .val (.int (0 : Int32)), .val (.ref b69), .val (.ref b72), .val (.double (FP.l2d dd)), .second, .unset, .unset] [(.ref b72), (.ref b69)])) _
          refine XS.dload X74.here hx rfl (hb hby at_163) rfl ?_
          show Steps p.tables e below (T74.setTop (mkF m 165 #[.val (.int p1), .val (.int p2), .val (.int p3), .val (.int p4), .val (.int p5), .val (.int p6), .val (.long x1), .second, .val (.long y1), .second, .val (.long x2), .second, .val (.long y1), .second, .val (.long dd), .second, .val (.long (x2 - x1)), .second, .val (.long (y1 - y1)), .second, .val (.int (0 : Int32)), .val (.ref b69), .val (.ref b72), .val (.double (FP.l2d dd)), .second, .unset, .unset] [(.double (FP.l2d dd)), (.ref b72), (.ref b69)])) _
          refine st77.trans ?_
          show Steps p.tables e below (T77.setTop (mkF m 168 #[.val (.int p1), .val (.int p2), .val (.int p3), .val (.int p4), .val (.int p5), .val (.int p6), .val (.long x1), .second, .val (.long y1), .second, .val (.long x2), .second, .val (.long y1), .second, .val (.long dd), .second, .val (.long (x2 - x1)), .second, .val (.long (y1 - y1)), .second, .val (.int (0 : Int32)), .val (.ref b69), .val (.ref b72), .val (.double (FP.l2d dd)), .second, .unset, .unset] [(.int (fW x1 y1 x2 y1 dd))])) _
          refine XS.istore X77.here hx rfl (hb hby at_168) rfl (l' := #[.val (.int p1), .val (.int p2), .val (.int p3), .val (.int p4), .val (.int p5), .val (.int p6), .val (.long x1), .second, .val (.long y1), .second, .val (.long x2), .second, .val (.long y1), .second, .val (.long dd), .second, .val (.long (x2 - x1)), .second, .val (.long (y1 - y1)), .second, .val (.int (0 : Int32)), .val (.ref b69), .val (.ref b72), .val (.double (FP.l2d dd)), .second, .val (.int (fW x1 y1 x2 y1 dd)), .unset]) rfl ?_
          show Steps p.tables e below (T77.setTop (mkF m 170 #[.val (.int p1), .val (.int p2), .val (.int p3), .val (.int p4), .val (.int p5), .val (.int p6), .val (.long x1), .second, .val (.long y1), .second, .val (.long x2), .second, .val (.long y1), .second, .val (.long dd), .second, .val (.long (x2 - x1)), .second, .val (.long (y1 - y1)), .second, .val (.int (0 : Int32)), .val (.ref b69), .val (.ref b72), .val (.double (FP.l2d dd)), .second, .val (.int (fW x1 y1 x2 y1 dd)), .unset] [])) _
          refine XS.aload X77.here hx rfl (hb hby at_170) rfl rfl ?_
          show Steps p.tables e below (T77.setTop (mkF m 172 #[.val (.int p1), .val (.int p2), .val (.int p3), .val (.int p4), .val (.int p5), .val (.int p6), .val (.long x1), .second, .val (.long y1), .second, .val (.long x2), .second, .val (.long y1), .second, .val (.long dd), .second, .val (.long (x2 - x1)), .second, .val (.long (y1 - y1)), .second, .val (.int (0 : Int32)), .val (.ref b69), .val (.ref b72), .val (.double (FP.l2d dd)), .second, .val (.int (fW x1 y1 x2 y1 dd)), .unset] [(.ref b72)])) _
          refine XS.aload X77.here hx rfl (hb hby at_172) rfl rfl ?_
          show Steps p.tables e below (T77.setTop (mkF m 174 #[.val (.int p1), .val (.int p2), .val (.int p3), .val (.int p4), .val (.int p5), .val (.int p6), .val (.long x1), .second, .val (.long y1), .second, .val (.long x2), .second, .val (.long y1), .second, .val (.long dd), .second, .val (.long (x2 - x1)), .second, .val (.long (y1 - y1)), .second, .val (.int (0 : Int32)), .val (.ref b69), .val (.ref b72), .val (.double (FP.l2d dd)), .second, .val (.int (fW x1 y1 x2 y1 dd)), .unset] [(.ref b69), (.ref b72)])) _
          refine XS.dload X77.here hx rfl (hb hby at_174) rfl ?_
          show Steps p.tables e below (T77.setTop (mkF m 176 #[.val (.int p1), .val (.int p2), .val (.int p3), .val (.int p4), .val (.int p5), .val (.int p6), .val (.long x1), .second, .val (.long y1), .second, .val (.long x2), .second, .val (.long y1), .second, .val (.long dd), .second, .val (.long (x2 - x1)), .second, .val (.long (y1 - y1)), .second, .val (.int (0 : Int32)), .val (.ref b69), .val (.ref b72), .val (.double (FP.l2d dd)), .second, .val (.int (fW x1 y1 x2 y1 dd)), .unset] [(.double (FP.l2d dd)), (.ref b69), (.ref b72)])) _
          refine st78.trans ?_
          show Steps p.tables e below (T78.setTop (mkF m 179 #[.val (.int p1), .val (.int p2), .val (.int p3), .val (.int p4), .val (.int p5), .val (.int p6), .val (.long x1), .second, .val (.long y1), .second, .val (.long x2), .second, .val (.long y1), .second, .val (.long dd), .second, .val (.long (x2 - x1)), .second, .val (.long (y1 - y1)), .second, .val (.int (0 : Int32)), .val (.ref b69), .val (.ref b72), .val (.double (FP.l2d dd)), .second, .val (.int (fW x1 y1 x2 y1 dd)), .unset] [(.int (fW x2 y1 x1 y1 dd))])) _
          refine XS.istore X78.here hx rfl (hb hby at_179) rfl (l' := #[.val (.int p1), .val (.int p2), .val (.int p3), .val (.int p4), .val (.int p5), .val (.int p6), .val (.long x1), .second, .val (.long y1), .second, .val (.long x2), .second, .val (.long y1), .second, .val (.long dd), .second, .val (.long (x2 - x1)), .second, .val (.long (y1 - y1)), .second, .val (.int (0 : Int32)), .val (.ref b69), .val (.ref b72), .val (.double (FP.l2d dd)), .second, .val (.int (fW x1 y1 x2 y1 dd)), .val (.int (fW x2 y1 x1 y1 dd))]) rfl ?_
          show Steps p.tables e below (T78.setTop (mkF m 181 #[.val (.int p1), .val (.int p2), .val (.int p3), .val (.int p4), .val (.int p5), .val (.int p6), .val (.long x1), .second, .val (.long y1), .second, .val (.long x2), .second, .val (.long y1), .second, .val (.long dd), .second, .val (.long (x2 - x1)), .second, .val (.long (y1 - y1)), .second, .val (.int (0 : Int32)), .val (.ref b69), .val (.ref b72), .val (.double (FP.l2d dd)), .second, .val (.int (fW x1 y1 x2 y1 dd)), .val (.int (fW x2 y1 x1 y1 dd))] [])) _
          refine XS.iload X78.here hx rfl (hb hby at_181) rfl ?_
          show Steps p.tables e below (T78.setTop (mkF m 183 #[.val (.int p1), .val (.int p2), .val (.int p3), .val (.int p4), .val (.int p5), .val (.int p6), .val (.long x1), .second, .val (.long y1), .second, .val (.long x2), .second, .val (.long y1), .second, .val (.long dd), .second, .val (.long (x2 - x1)), .second, .val (.long (y1 - y1)), .second, .val (.int (0 : Int32)), .val (.ref b69), .val (.ref b72), .val (.double (FP.l2d dd)), .second, .val (.int (fW x1 y1 x2 y1 dd)), .val (.int (fW x2 y1 x1 y1 dd))] [(.int (fW x1 y1 x2 y1 dd))])) _
          refine XS.iload X78.here hx rfl (hb hby at_183) rfl ?_
          show Steps p.tables e below (T78.setTop (mkF m 185 #[.val (.int p1), .val (.int p2), .val (.int p3), .val (.int p4), .val (.int p5), .val (.int p6), .val (.long x1), .second, .val (.long y1), .second, .val (.long x2), .second, .val (.long y1), .second, .val (.long dd), .second, .val (.long (x2 - x1)), .second, .val (.long (y1 - y1)), .second, .val (.int (0 : Int32)), .val (.ref b69), .val (.ref b72), .val (.double (FP.l2d dd)), .second, .val (.int (fW x1 y1 x2 y1 dd)), .val (.int (fW x2 y1 x1 y1 dd))] [(.int (0 : Int32)), (.int (fW x1 y1 x2 y1 dd))])) _
          refine XS.icmpNo X78.here hx rfl (hb hby at_185) rfl (teq h185_79).2 ?_
          show Steps p.tables e below (T78.setTop (mkF m 188 #[.val (.int p1), .val (.int p2), .val (.int p3), .val (.int p4), .val (.int p5), .val (.int p6), .val (.long x1), .second, .val (.long y1), .second, .val (.long x2), .second, .val (.long y1), .second, .val (.long dd), .second, .val (.long (x2 - x1)), .second, .val (.long (y1 - y1)), .second, .val (.int (0 : Int32)), .val (.ref b69), .val (.ref b72), .val (.double (FP.l2d dd)), .second, .val (.int (fW x1 y1 x2 y1 dd)), .val (.int (fW x2 y1 x1 y1 dd))] [])) _
          refine XS.iload X78.here hx rfl (hb hby at_188) rfl ?_
          show Steps p.tables e below (T78.setTop (mkF m 190 #[.val (.int p1), .val (.int p2), .val (.int p3), .val (.int p4), .val (.int p5), .val (.int p6), .val (.long x1), .second, .val (.long y1), .second, .val (.long x2), .second, .val (.long y1), .second, .val (.long dd), .second, .val (.long (x2 - x1)), .second, .val (.long (y1 - y1)), .second, .val (.int (0 : Int32)), .val (.ref b69), .val (.ref b72), .val (.double (FP.l2d dd)), .second, .val (.int (fW x1 y1 x2 y1 dd)), .val (.int (fW x2 y1 x1 y1 dd))] [(.int (fW x2 y1 x1 y1 dd))])) _
          refine XS.iload X78.here hx rfl (hb hby at_190) rfl ?_
          show Steps p.tables e below (T78.setTop (mkF m 192 #[.val (.int p1), .val (.int p2), .val (.int p3), .val (.int p4), .val (.int p5), .val (.int p6), .val (.long x1), .second, .val (.long y1), .second, .val (.long x2), .second, .val (.long y1), .second, .val (.long dd), .second, .val (.long (x2 - x1)), .second, .val (.long (y1 - y1)), .second, .val (.int (0 : Int32)), .val (.ref b69), .val (.ref b72), .val (.double (FP.l2d dd)), .second, .val (.int (fW x1 y1 x2 y1 dd)), .val (.int (fW x2 y1 x1 y1 dd))] [(.int (0 : Int32)), (.int (fW x2 y1 x1 y1 dd))])) _
          refine XS.icmpNo X78.here hx rfl (hb hby at_192) rfl (teq h192_80).2 ?_
          show Steps p.tables e below (T78.setTop (mkF m 195 #[.val (.int p1), .val (.int p2), .val (.int p3), .val (.int p4), .val (.int p5), .val (.int p6), .val (.long x1), .second, .val (.long y1), .second, .val (.long x2), .second, .val (.long y1), .second, .val (.long dd), .second, .val (.long (x2 - x1)), .second, .val (.long (y1 - y1)), .second, .val (.int (0 : Int32)), .val (.ref b69), .val (.ref b72), .val (.double (FP.l2d dd)), .second, .val (.int (fW x1 y1 x2 y1 dd)), .val (.int (fW x2 y1 x1 y1 dd))] [])) _
          refine XS.iconst X78.here hx rfl (hb hby at_195) ?_
          show Steps p.tables e below (T78.setTop (mkF m 196 #[.val (.int p1), .val (.int p2), .val (.int p3), .val (.int p4), .val (.int p5), .val (.int p6), .val (.long x1), .second, .val (.long y1), .second, .val (.long x2), .second, .val (.long y1), .second, .val (.long dd), .second, .val (.long (x2 - x1)), .second, .val (.long (y1 - y1)), .second, .val (.int (0 : Int32)), .val (.ref b69), .val (.ref b72), .val (.double (FP.l2d dd)), .second, .val (.int (fW x1 y1 x2 y1 dd)), .val (.int (fW x2 y1 x1 y1 dd))] [(.int (1 : Int32))])) _
          refine XS.goto X78.here hx rfl (pc0 := 196) (pc' := 200) rfl (hb hby at_196) (by decide) (by decide) ?_
          show Steps p.tables e below (T78.setTop (mkF m 200 #[.val (.int p1), .val (.int p2), .val (.int p3), .val (.int p4), .val (.int p5), .val (.int p6), .val (.long x1), .second, .val (.long y1), .second, .val (.long x2), .second, .val (.long y1), .second, .val (.long dd), .second, .val (.long (x2 - x1)), .second, .val (.long (y1 - y1)), .second, .val (.int (0 : Int32)), .val (.ref b69), .val (.ref b72), .val (.double (FP.l2d dd)), .second, .val (.int (fW x1 y1 x2 y1 dd)), .val (.int (fW x2 y1 x1 y1 dd))] [(.int (1 : Int32))])) _
          exact k
        obtain ⟨fs, hr, hrun, hended, hW, hsame⟩ := X78.leave (v := some (.int (1 : Int32))) (fun h => by rw [Bd.returns] at h; cases h)
        refine ⟨_, _, pre81 _ ?_, hrun, hended, _, _, rfl, ?_, ⟨_, rfl⟩, hW, hsame.mono (by decide) (by decide)⟩
        · exact retN X78 hx (t := .boolean) Bd.returns (by simp) (hb hby at_200) hr
        · exact ⟨rfl, N78⟩
      · obtain ⟨T82, H82, X82, e82, E82, Q82, D82, -, st82⟩ := newO X33 hx hZ hown (hw _ (List.mem_of_getElem? (i := 5) rfl)) (hw _ (List.mem_of_getElem? (i := 6) rfl)) (hw _ (List.mem_of_getElem? (i := 7) rfl)) e33 (g := (mkF m 122 #[.val (.int p1), .val (.int p2), .val (.int p3), .val (.int p4), .val (.int p5), .val (.int p6), .val (.long x1), .second, .val (.long y1), .second, .val (.long x2), .second, .val (.long y1), .second, .val (.long dd), .second, .val (.long (x2 - x1)), .second, .val (.long (y1 - y1)), .second, .val (.int (1 : Int32)), .unset, .unset, .unset, .unset, .unset, .unset] [])) rfl (hb hby at_122) (by decide) (by decide)
        obtain ⟨b82, g82⟩ : ∃ z, z = h0.size := ⟨_, rfl⟩
        rw [← g82] at Q82 D82 st82
        have Fb82_id : Fld Z H82 b82 "com/example/rumblecourt/rumblecourt/games/hungergaming/Creature" "id" "I" (.int (0 : Int32)) := D82 (Or.inr (hw _ (List.mem_of_getElem? (i := 15) rfl))) (ty := .int) (by decide)
        have Fb82_x : Fld Z H82 b82 "com/example/rumblecourt/rumblecourt/games/hungergaming/Creature" "x" "D" (.double (0 : UInt64)) := D82 (Or.inl (hw _ (List.mem_of_getElem? (i := 22) rfl))) (ty := .double) (by decide)
        have Fb82_y : Fld Z H82 b82 "com/example/rumblecourt/rumblecourt/games/hungergaming/Creature" "y" "D" (.double (0 : UInt64)) := D82 (Or.inl (hw _ (List.mem_of_getElem? (i := 24) rfl))) (ty := .double) (by decide)
        have Fb82_position : Fld Z H82 b82 "com/example/rumblecourt/rumblecourt/games/hungergaming/Creature" "position" "Ljava/lang/String;" .null := D82 (Or.inl (hw _ (List.mem_of_getElem? (i := 26) rfl))) (ty := (.object "java/lang/String")) (by decide)
        have Z82 : n0 ≤ H82.size := Nat.le_trans Z0 E82.1
        have gb82 : n0 ≤ b82 := Nat.le_trans Z0 (Nat.le_of_eq g82.symm)
        obtain ⟨_, _, ⟨T83, L83, k83, n83⟩, -, X83, ⟨Lc83, hQ83, l83, y83, z83⟩, st83⟩ := X82.specialBack hx (y := (⟨"com/example/rumblecourt/rumblecourt/games/hungergaming/Creature", "<init>", "(IDD)V"⟩ : MethodName)) rfl hown (mvT hZ (hw _ (List.mem_of_getElem? (i := 8) rfl))) (mvT hZ (hw _ (List.mem_of_getElem? (i := 9) rfl))) (mvT hZ (hw _ (List.mem_of_getElem? (i := 10) rfl))) (by decide) (backOf (W := 1) (rm2 l Z a0 hw [] b82 (0 : Int32) x1 y1 H82 n0 Z82 Q82 Fb82_id Fb82_x Fb82_y Fb82_position gb82) hZ (hw _ (List.mem_of_getElem? (i := 10) rfl)) (hw _ (List.mem_of_getElem? (i := 7) rfl)) (by decide) (by decide)) (g := (mkF m 133 #[.val (.int p1), .val (.int p2), .val (.int p3), .val (.int p4), .val (.int p5), .val (.int p6), .val (.long x1), .second, .val (.long y1), .second, .val (.long x2), .second, .val (.long y1), .second, .val (.long dd), .second, .val (.long (x2 - x1)), .second, .val (.long (y1 - y1)), .second, .val (.int (1 : Int32)), .unset, .unset, .unset, .unset, .unset, .unset] [(.double (FP.l2d y1)), (.double (FP.l2d x1)), (.int (0 : Int32)), (.ref b82), (.ref b82)])) rfl (by rw [hml]; rfl) (Steps.refl _) (a := b82) (argsL := [(.int (0 : Int32)), (.double (FP.l2d x1)), (.double (FP.l2d y1))]) (rest := [(.ref b82)]) (lenOf pd_0_0 rfl) rfl (by show 2 * 0 + _ ≤ _; exact Nat.le_of_eq rfl) (hb hby at_133) (fun _ _ => ⟨rfl, e82, (by decide : 1 + 0 ≤ _), (by decide : 6 + 0 ≤ _)⟩)
        dsimp only [Pt.U, Pt.locs, Pt.cells, Pt.slots] at X83 l83 y83 z83 st83 hQ83
        subst l83 y83 z83
        obtain ⟨rfl, N83q, K83, EE83, Fx83, Fy83⟩ := hQ83
        have N83 := Fr.app N33 N83q
        have e83 : T83.heap = T83.heap := rfl
        have Z83 : n0 ≤ T83.heap.size := Nat.le_trans Z82 K83.1
        have Eb82_84 := Exa.keep Q82 K83
        obtain ⟨T85, H85, X85, e85, E85, Q85, D85, -, st85⟩ := newO X83 hx hZ hown (hw _ (List.mem_of_getElem? (i := 5) rfl)) (hw _ (List.mem_of_getElem? (i := 6) rfl)) (hw _ (List.mem_of_getElem? (i := 7) rfl)) e83 (g := (mkF m 138 #[.val (.int p1), .val (.int p2), .val (.int p3), .val (.int p4), .val (.int p5), .val (.int p6), .val (.long x1), .second, .val (.long y1), .second, .val (.long x2), .second, .val (.long y1), .second, .val (.long dd), .second, .val (.long (x2 - x1)), .second, .val (.long (y1 - y1)), .second, .val (.int (1 : Int32)), .val (.ref b82), .unset, .unset, .unset, .unset, .unset] [])) rfl (hb hby at_138) (by decide) (by decide)
        obtain ⟨b85, g85⟩ : ∃ z, z = T83.heap.size := ⟨_, rfl⟩
        rw [← g85] at Q85 D85 st85
        have lt_b82_b85 : b82 < b85 := Nat.lt_of_lt_of_le (Exa.lt EE83) (Nat.le_of_eq g85.symm)
        have Fb85_id : Fld Z H85 b85 "com/example/rumblecourt/rumblecourt/games/hungergaming/Creature" "id" "I" (.int (0 : Int32)) := D85 (Or.inr (hw _ (List.mem_of_getElem? (i := 15) rfl))) (ty := .int) (by decide)
        have Fb85_x : Fld Z H85 b85 "com/example/rumblecourt/rumblecourt/games/hungergaming/Creature" "x" "D" (.double (0 : UInt64)) := D85 (Or.inl (hw _ (List.mem_of_getElem? (i := 22) rfl))) (ty := .double) (by decide)
        have Fb85_y : Fld Z H85 b85 "com/example/rumblecourt/rumblecourt/games/hungergaming/Creature" "y" "D" (.double (0 : UInt64)) := D85 (Or.inl (hw _ (List.mem_of_getElem? (i := 24) rfl))) (ty := .double) (by decide)
        have Fb85_position : Fld Z H85 b85 "com/example/rumblecourt/rumblecourt/games/hungergaming/Creature" "position" "Ljava/lang/String;" .null := D85 (Or.inl (hw _ (List.mem_of_getElem? (i := 26) rfl))) (ty := (.object "java/lang/String")) (by decide)
        have Z85 : n0 ≤ H85.size := Nat.le_trans Z83 E85.1
        have gb85 : n0 ≤ b85 := Nat.le_trans Z83 (Nat.le_of_eq g85.symm)
        have Eb82_86 := Exa.ext E85 EE83
        have Fb82_x_86 := Fld.ext E85 Fx83
        have Fb82_y_86 := Fld.ext E85 Fy83
        obtain ⟨_, _, ⟨T87, L87, k87, n87⟩, -, X87, ⟨Lc87, hQ87, l87, y87, z87⟩, st87⟩ := X85.specialBack hx (y := (⟨"com/example/rumblecourt/rumblecourt/games/hungergaming/Creature", "<init>", "(IDD)V"⟩ : MethodName)) rfl hown (mvT hZ (hw _ (List.mem_of_getElem? (i := 8) rfl))) (mvT hZ (hw _ (List.mem_of_getElem? (i := 9) rfl))) (mvT hZ (hw _ (List.mem_of_getElem? (i := 10) rfl))) (by decide) (backOf (W := 1) (rm2 l Z a0 hw [] b85 (1 : Int32) x2 y1 H85 n0 Z85 Q85 Fb85_id Fb85_x Fb85_y Fb85_position gb85) hZ (hw _ (List.mem_of_getElem? (i := 10) rfl)) (hw _ (List.mem_of_getElem? (i := 7) rfl)) (by decide) (by decide)) (g := (mkF m 149 #[.val (.int p1), .val (.int p2), .val (.int p3), .val (.int p4), .val (.int p5), .val (.int p6), .val (.long x1), .second, .val (.long y1), .second, .val (.long x2), .second, .val (.long y1), .second, .val (.long dd), .second, .val (.long (x2 - x1)), .second, .val (.long (y1 - y1)), .second, .val (.int (1 : Int32)), .val (.ref b82), .unset, .unset, .unset, .unset, .unset] [(.double (FP.l2d y1)), (.double (FP.l2d x2)), (.int (1 : Int32)), (.ref b85), (.ref b85)])) rfl (by rw [hml]; rfl) (Steps.refl _) (a := b85) (argsL := [(.int (1 : Int32)), (.double (FP.l2d x2)), (.double (FP.l2d y1))]) (rest := [(.ref b85)]) (lenOf pd_0_0 rfl) rfl (by show 2 * 0 + _ ≤ _; exact Nat.le_of_eq rfl) (hb hby at_149) (fun _ _ => ⟨rfl, e85, (by decide : 2 + 0 ≤ _), (by decide : 12 + 0 ≤ _)⟩)
        dsimp only [Pt.U, Pt.locs, Pt.cells, Pt.slots] at X87 l87 y87 z87 st87 hQ87
        subst l87 y87 z87
        obtain ⟨rfl, N87q, K87, EE87, Fx87, Fy87⟩ := hQ87
        have N87 := Fr.app N83 N87q
        have e87 : T87.heap = T87.heap := rfl
        have Z87 : n0 ≤ T87.heap.size := Nat.le_trans Z85 K87.1
        have Eb82_88 := Exa.keep Eb82_86 K87
        have Fb82_x_88 := Fld.keep Fb82_x_86 K87 (fun q => (Nat.ne_of_lt lt_b82_b85) (List.mem_singleton.mp q))
        have Fb82_y_88 := Fld.keep Fb82_y_86 K87 (fun q => (Nat.ne_of_lt lt_b82_b85) (List.mem_singleton.mp q))
        have Eb85_89 := Exa.keep Q85 K87
        obtain ⟨cq90, kq90, q90a, q90b, q90c⟩ := isOf hZ e87 Eb82_88
        obtain ⟨_, _, ⟨T90, L90, k90, n90⟩, -, X90, ⟨Lc90, hQ90, l90, y90, z90⟩, st90⟩ := X87.virtualBack hx (y := (⟨"com/example/rumblecourt/rumblecourt/games/hungergaming/Creature", "within", "(Lcom/example/rumblecourt/rumblecourt/games/hungergaming/Creature;D)Z"⟩ : MethodName)) (z := (⟨"com/example/rumblecourt/rumblecourt/games/hungergaming/Creature", "within", "(Lcom/example/rumblecourt/rumblecourt/games/hungergaming/Creature;D)Z"⟩ : MethodName)) hown (mvT hZ (hw _ (List.mem_of_getElem? (i := 27) rfl))) (mvT hZ (hw _ (List.mem_of_getElem? (i := 28) rfl))) (notFace_of_selects (args := #[]) (mvT hZ (hw _ (List.mem_of_getElem? (i := 30) rfl)))) (mvT hZ (hw _ (List.mem_of_getElem? (i := 30) rfl))) (mvT hZ (hw _ (List.mem_of_getElem? (i := 29) rfl))) (by decide) (backOf (W := 0) (rm5 l Z a0 hw [] b82 b85 dd T87.heap n0 Z87 x1 y1 x2 y1 Fb82_x_88 Fb82_y_88 Fx87 Fy87 bx1 by1 bx2 by1 bdd) hZ (hw _ (List.mem_of_getElem? (i := 31) rfl)) (hw _ (List.mem_of_getElem? (i := 7) rfl)) (by decide) (by decide)) q90a q90c (g := (mkF m 165 #[.val (.int p1), .val (.int p2), .val (.int p3), .val (.int p4), .val (.int p5), .val (.int p6), .val (.long x1), .second, .val (.long y1), .second, .val (.long x2), .second, .val (.long y1), .second, .val (.long dd), .second, .val (.long (x2 - x1)), .second, .val (.long (y1 - y1)), .second, .val (.int (1 : Int32)), .val (.ref b82), .val (.ref b85), .val (.double (FP.l2d dd)), .second, .unset, .unset] [(.double (FP.l2d dd)), (.ref b85), (.ref b82)])) rfl (by rw [hml]; rfl) (Steps.refl _) (argsL := [(.ref b85), (.double (FP.l2d dd))]) (rest := []) (lenOf pd_0_1 rfl) rfl (by show 2 * 0 + _ ≤ _; exact Nat.le_of_eq rfl) (hb hby at_165) (fun _ _ => ⟨rfl, e87, (by decide : 2 + 0 ≤ _), (by decide : 12 + 0 ≤ _)⟩)
        dsimp only [Pt.U, Pt.locs, Pt.cells, Pt.slots] at X90 l90 y90 z90 st90 hQ90
        subst l90 y90 z90
        obtain ⟨rfl, N90q, e90⟩ := hQ90
        have N90 := Fr.app N87 N90q
        obtain ⟨cq91, kq91, q91a, q91b, q91c⟩ := isOf hZ e90 EE87
        obtain ⟨_, _, ⟨T91, L91, k91, n91⟩, -, X91, ⟨Lc91, hQ91, l91, y91, z91⟩, st91⟩ := X90.virtualBack hx (y := (⟨"com/example/rumblecourt/rumblecourt/games/hungergaming/Creature", "within", "(Lcom/example/rumblecourt/rumblecourt/games/hungergaming/Creature;D)Z"⟩ : MethodName)) (z := (⟨"com/example/rumblecourt/rumblecourt/games/hungergaming/Creature", "within", "(Lcom/example/rumblecourt/rumblecourt/games/hungergaming/Creature;D)Z"⟩ : MethodName)) hown (mvT hZ (hw _ (List.mem_of_getElem? (i := 27) rfl))) (mvT hZ (hw _ (List.mem_of_getElem? (i := 28) rfl))) (notFace_of_selects (args := #[]) (mvT hZ (hw _ (List.mem_of_getElem? (i := 30) rfl)))) (mvT hZ (hw _ (List.mem_of_getElem? (i := 30) rfl))) (mvT hZ (hw _ (List.mem_of_getElem? (i := 29) rfl))) (by decide) (backOf (W := 0) (rm5 l Z a0 hw [] b85 b82 dd T87.heap n0 Z87 x2 y1 x1 y1 Fx87 Fy87 Fb82_x_88 Fb82_y_88 bx2 by1 bx1 by1 bdd) hZ (hw _ (List.mem_of_getElem? (i := 31) rfl)) (hw _ (List.mem_of_getElem? (i := 7) rfl)) (by decide) (by decide)) q91a q91c (g := (mkF m 176 #[.val (.int p1), .val (.int p2), .val (.int p3), .val (.int p4), .val (.int p5), .val (.int p6), .val (.long x1), .second, .val (.long y1), .second, .val (.long x2), .second, .val (.long y1), .second, .val (.long dd), .second, .val (.long (x2 - x1)), .second, .val (.long (y1 - y1)), .second, .val (.int (1 : Int32)), .val (.ref b82), .val (.ref b85), .val (.double (FP.l2d dd)), .second, .val (.int (fW x1 y1 x2 y1 dd)), .unset] [(.double (FP.l2d dd)), (.ref b82), (.ref b85)])) rfl (by rw [hml]; rfl) (Steps.refl _) (argsL := [(.ref b82), (.double (FP.l2d dd))]) (rest := []) (lenOf pd_0_1 rfl) rfl (by show 2 * 0 + _ ≤ _; exact Nat.le_of_eq rfl) (hb hby at_176) (fun _ _ => ⟨rfl, e90, (by decide : 2 + 0 ≤ _), (by decide : 12 + 0 ≤ _)⟩)
        dsimp only [Pt.U, Pt.locs, Pt.cells, Pt.slots] at X91 l91 y91 z91 st91 hQ91
        subst l91 y91 z91
        obtain ⟨rfl, N91q, e91⟩ := hQ91
        have N91 := Fr.app N90 N91q
        have h185_92 : (fW x1 y1 x2 y1 dd) = (1 : Int32) := own_w1 h112_67
        have h192_93 : (fW x2 y1 x1 y1 dd) = (1 : Int32) := (own_sym bx1 by1 bx2 by1).trans (own_w1 h112_67)
        have pre94 : ∀ t, Steps p.tables e below (T91.setTop (mkF m 200 #[.val (.int p1), .val (.int p2), .val (.int p3), .val (.int p4), .val (.int p5), .val (.int p6), .val (.long x1), .second, .val (.long y1), .second, .val (.long x2), .second, .val (.long y1), .second, .val (.long dd), .second, .val (.long (x2 - x1)), .second, .val (.long (y1 - y1)), .second, .val (.int (1 : Int32)), .val (.ref b82), .val (.ref b85), .val (.double (FP.l2d dd)), .second, .val (.int (fW x1 y1 x2 y1 dd)), .val (.int (fW x2 y1 x1 y1 dd))] [(.int (1 : Int32))])) t → Steps p.tables e below (s₁.setTop (entryFrame m #[(.int p1), (.int p2), (.int p3), (.int p4), (.int p5), (.int p6)] maxLocals)) t := by
          intro t k
          refine pre68 t ?_
          refine XS.ifNo X33.here hx rfl (hb hby at_112) rfl ((if0 _ _).trans (flt h112_67).2.2.1) ?_
          show Steps p.tables e below (T33.setTop (mkF m 115 #[.val (.int p1), .val (.int p2), .val (.int p3), .val (.int p4), .val (.int p5), .val (.int p6), .val (.long x1), .second, .val (.long y1), .second, .val (.long x2), .second, .val (.long y1), .second, .val (.long dd), .second, .val (.long (x2 - x1)), .second, .val (.long (y1 - y1)), .second, .unset, .unset, .unset, .unset, .unset, .unset, .unset] [])) _
          refine XS.iconst X33.here hx rfl (hb hby at_115) ?_
          show Steps p.tables e below (T33.setTop (mkF m 116 #[.val (.int p1), .val (.int p2), .val (.int p3), .val (.int p4), .val (.int p5), .val (.int p6), .val (.long x1), .second, .val (.long y1), .second, .val (.long x2), .second, .val (.long y1), .second, .val (.long dd), .second, .val (.long (x2 - x1)), .second, .val (.long (y1 - y1)), .second, .unset, .unset, .unset, .unset, .unset, .unset, .unset] [(.int (1 : Int32))])) _
          refine XS.goto X33.here hx rfl (pc0 := 116) (pc' := 120) rfl (hb hby at_116) (by decide) (by decide) ?_
          show Steps p.tables e below (T33.setTop (mkF m 120 #[.val (.int p1), .val (.int p2), .val (.int p3), .val (.int p4), .val (.int p5), .val (.int p6), .val (.long x1), .second, .val (.long y1), .second, .val (.long x2), .second, .val (.long y1), .second, .val (.long dd), .second, .val (.long (x2 - x1)), .second, .val (.long (y1 - y1)), .second, .unset, .unset, .unset, .unset, .unset, .unset, .unset] [(.int (1 : Int32))])) _
          refine XS.istore X33.here hx rfl (hb hby at_120) rfl (l' := #[.val (.int p1), .val (.int p2), .val (.int p3), .val (.int p4), .val (.int p5), .val (.int p6), .val (.long x1), .second, .val (.long y1), .second, .val (.long x2), .second, .val (.long y1), .second, .val (.long dd), .second, .val (.long (x2 - x1)), .second, .val (.long (y1 - y1)), .second, .val (.int (1 : Int32)), .unset, .unset, .unset, .unset, .unset, .unset]) rfl ?_
          show Steps p.tables e below (T33.setTop (mkF m 122 #[.val (.int p1), .val (.int p2), .val (.int p3), .val (.int p4), .val (.int p5), .val (.int p6), .val (.long x1), .second, .val (.long y1), .second, .val (.long x2), .second, .val (.long y1), .second, .val (.long dd), .second, .val (.long (x2 - x1)), .second, .val (.long (y1 - y1)), .second, .val (.int (1 : Int32)), .unset, .unset, .unset, .unset, .unset, .unset] [])) _
          refine st82 _ ?_
          show Steps p.tables e below (T82.setTop (mkF m 125 #[.val (.int p1), .val (.int p2), .val (.int p3), .val (.int p4), .val (.int p5), .val (.int p6), .val (.long x1), .second, .val (.long y1), .second, .val (.long x2), .second, .val (.long y1), .second, .val (.long dd), .second, .val (.long (x2 - x1)), .second, .val (.long (y1 - y1)), .second, .val (.int (1 : Int32)), .unset, .unset, .unset, .unset, .unset, .unset] [(.ref b82)])) _
          refine XS.dup X82.here hx rfl (hb hby at_125) rfl rfl ?_
          show Steps p.tables e below (T82.setTop (mkF m 126 #[.val (.int p1), .val (.int p2), .val (.int p3), .val (.int p4), .val (.int p5), .val (.int p6), .val (.long x1), .second, .val (.long y1), .second, .val (.long x2), .second, .val (.long y1), .second, .val (.long dd), .second, .val (.long (x2 - x1)), .second, .val (.long (y1 - y1)), .second, .val (.int (1 : Int32)), .unset, .unset, .unset, .unset, .unset, .unset] [(.ref b82), (.ref b82)])) _
          refine XS.iconst X82.here hx rfl (hb hby at_126) ?_
          show Steps p.tables e below (T82.setTop (mkF m 127 #[.val (.int p1), .val (.int p2), .val (.int p3), .val (.int p4), .val (.int p5), .val (.int p6), .val (.long x1), .second, .val (.long y1), .second, .val (.long x2), .second, .val (.long y1), .second, .val (.long dd), .second, .val (.long (x2 - x1)), .second, .val (.long (y1 - y1)), .second, .val (.int (1 : Int32)), .unset, .unset, .unset, .unset, .unset, .unset] [(.int (0 : Int32)), (.ref b82), (.ref b82)])) _
          refine XT.lload X82.here hx rfl (hb hby at_127) rfl ?_
          show Steps p.tables e below (T82.setTop (mkF m 129 #[.val (.int p1), .val (.int p2), .val (.int p3), .val (.int p4), .val (.int p5), .val (.int p6), .val (.long x1), .second, .val (.long y1), .second, .val (.long x2), .second, .val (.long y1), .second, .val (.long dd), .second, .val (.long (x2 - x1)), .second, .val (.long (y1 - y1)), .second, .val (.int (1 : Int32)), .unset, .unset, .unset, .unset, .unset, .unset] [(.long x1), (.int (0 : Int32)), (.ref b82), (.ref b82)])) _
          refine XS.l2dS X82.here hx rfl (hb hby at_129) rfl (v := FP.l2d x1) rfl ?_
          show Steps p.tables e below (T82.setTop (mkF m 130 #[.val (.int p1), .val (.int p2), .val (.int p3), .val (.int p4), .val (.int p5), .val (.int p6), .val (.long x1), .second, .val (.long y1), .second, .val (.long x2), .second, .val (.long y1), .second, .val (.long dd), .second, .val (.long (x2 - x1)), .second, .val (.long (y1 - y1)), .second, .val (.int (1 : Int32)), .unset, .unset, .unset, .unset, .unset, .unset] [(.double (FP.l2d x1)), (.int (0 : Int32)), (.ref b82), (.ref b82)])) _
          refine XT.lload X82.here hx rfl (hb hby at_130) rfl ?_
          show Steps p.tables e below (T82.setTop (mkF m 132 #[.val (.int p1), .val (.int p2), .val (.int p3), .val (.int p4), .val (.int p5), .val (.int p6), .val (.long x1), .second, .val (.long y1), .second, .val (.long x2), .second, .val (.long y1), .second, .val (.long dd), .second, .val (.long (x2 - x1)), .second, .val (.long (y1 - y1)), .second, .val (.int (1 : Int32)), .unset, .unset, .unset, .unset, .unset, .unset] [(.long y1), (.double (FP.l2d x1)), (.int (0 : Int32)), (.ref b82), (.ref b82)])) _
          refine XS.l2dS X82.here hx rfl (hb hby at_132) rfl (v := FP.l2d y1) rfl ?_
          show Steps p.tables e below (T82.setTop (mkF m 133 #[.val (.int p1), .val (.int p2), .val (.int p3), .val (.int p4), .val (.int p5), .val (.int p6), .val (.long x1), .second, .val (.long y1), .second, .val (.long x2), .second, .val (.long y1), .second, .val (.long dd), .second, .val (.long (x2 - x1)), .second, .val (.long (y1 - y1)), .second, .val (.int (1 : Int32)), .unset, .unset, .unset, .unset, .unset, .unset] [(.double (FP.l2d y1)), (.double (FP.l2d x1)), (.int (0 : Int32)), (.ref b82), (.ref b82)])) _
          refine st83.trans ?_
          show Steps p.tables e below (T83.setTop (mkF m 136 #[.val (.int p1), .val (.int p2), .val (.int p3), .val (.int p4), .val (.int p5), .val (.int p6), .val (.long x1), .second, .val (.long y1), .second, .val (.long x2), .second, .val (.long y1), .second, .val (.long dd), .second, .val (.long (x2 - x1)), .second, .val (.long (y1 - y1)), .second, .val (.int (1 : Int32)), .unset, .unset, .unset, .unset, .unset, .unset] [(.ref b82)])) _
          refine XS.astore X83.here hx rfl (hb hby at_136) rfl rfl (l' := #[.val (.int p1), .val (.int p2), .val (.int p3), .val (.int p4), .val (.int p5), .val (.int p6), .val (.long x1), .second, .val (.long y1), .second, .val (.long x2), .second, .val (.long y1), .second, .val (.long dd), .second, .val (.long (x2 - x1)), .second, .val (.long (y1 - y1)), .second, .val (.int (1 : Int32)), .val (.ref b82), .unset, .unset, .unset, .unset, .unset]) rfl ?_
          show Steps p.tables e below (T83.setTop (mkF m 138 #[.val (.int p1), .val (.int p2), .val (.int p3), .val (.int p4), .val (.int p5), .val (.int p6), .val (.long x1), .second, .val (.long y1), .second, .val (.long x2), .second, .val (.long y1), .second, .val (.long dd), .second, .val (.long (x2 - x1)), .second, .val (.long (y1 - y1)), .second, .val (.int (1 : Int32)), .val (.ref b82), .unset, .unset, .unset, .unset, .unset] [])) _
          refine st85 _ ?_
          show Steps p.tables e below (T85.setTop (mkF m 141 #[.val (.int p1), .val (.int p2), .val (.int p3), .val (.int p4), .val (.int p5), .val (.int p6), .val (.long x1), .second, .val (.long y1), .second, .val (.long x2), .second, .val (.long y1), .second, .val (.long dd), .second, .val (.long (x2 - x1)), .second, .val (.long (y1 - y1)), .second, .val (.int (1 : Int32)), .val (.ref b82), .unset, .unset, .unset, .unset, .unset] [(.ref b85)])) _
          refine XS.dup X85.here hx rfl (hb hby at_141) rfl rfl ?_
          show Steps p.tables e below (T85.setTop (mkF m 142 #[.val (.int p1), .val (.int p2), .val (.int p3), .val (.int p4), .val (.int p5), .val (.int p6), .val (.long x1), .second, .val (.long y1), .second, .val (.long x2), .second, .val (.long y1), .second, .val (.long dd), .second, .val (.long (x2 - x1)), .second, .val (.long (y1 - y1)), .second, .val (.int (1 : Int32)), .val (.ref b82), .unset, .unset, .unset, .unset, .unset] [(.ref b85), (.ref b85)])) _
          refine XS.iconst X85.here hx rfl (hb hby at_142) ?_
          show Steps p.tables e below (T85.setTop (mkF m 143 #[.val (.int p1), .val (.int p2), .val (.int p3), .val (.int p4), .val (.int p5), .val (.int p6), .val (.long x1), .second, .val (.long y1), .second, .val (.long x2), .second, .val (.long y1), .second, .val (.long dd), .second, .val (.long (x2 - x1)), .second, .val (.long (y1 - y1)), .second, .val (.int (1 : Int32)), .val (.ref b82), .unset, .unset, .unset, .unset, .unset] [(.int (1 : Int32)), (.ref b85), (.ref b85)])) _
          refine XT.lload X85.here hx rfl (hb hby at_143) rfl ?_
          show Steps p.tables e below (T85.setTop (mkF m 145 #[.val (.int p1), .val (.int p2), .val (.int p3), .val (.int p4), .val (.int p5), .val (.int p6), .val (.long x1), .second, .val (.long y1), .second, .val (.long x2), .second, .val (.long y1), .second, .val (.long dd), .second, .val (.long (x2 - x1)), .second, .val (.long (y1 - y1)), .second, .val (.int (1 : Int32)), .val (.ref b82), .unset, .unset, .unset, .unset, .unset] [(.long x2), (.int (1 : Int32)), (.ref b85), (.ref b85)])) _
          refine XS.l2dS X85.here hx rfl (hb hby at_145) rfl (v := FP.l2d x2) rfl ?_
          show Steps p.tables e below (T85.setTop (mkF m 146 #[.val (.int p1), .val (.int p2), .val (.int p3), .val (.int p4), .val (.int p5), .val (.int p6), .val (.long x1), .second, .val (.long y1), .second, .val (.long x2), .second, .val (.long y1), .second, .val (.long dd), .second, .val (.long (x2 - x1)), .second, .val (.long (y1 - y1)), .second, .val (.int (1 : Int32)), .val (.ref b82), .unset, .unset, .unset, .unset, .unset] [(.double (FP.l2d x2)), (.int (1 : Int32)), (.ref b85), (.ref b85)])) _
          refine XT.lload X85.here hx rfl (hb hby at_146) rfl ?_
          show Steps p.tables e below (T85.setTop (mkF m 148 #[.val (.int p1), .val (.int p2), .val (.int p3), .val (.int p4), .val (.int p5), .val (.int p6), .val (.long x1), .second, .val (.long y1), .second, .val (.long x2), .second, .val (.long y1), .second, .val (.long dd), .second, .val (.long (x2 - x1)), .second, .val (.long (y1 - y1)), .second, .val (.int (1 : Int32)), .val (.ref b82), .unset, .unset, .unset, .unset, .unset] [(.long y1), (.double (FP.l2d x2)), (.int (1 : Int32)), (.ref b85), (.ref b85)])) _
          refine XS.l2dS X85.here hx rfl (hb hby at_148) rfl (v := FP.l2d y1) rfl ?_
          show Steps p.tables e below (T85.setTop (mkF m 149 #[.val (.int p1), .val (.int p2), .val (.int p3), .val (.int p4), .val (.int p5), .val (.int p6), .val (.long x1), .second, .val (.long y1), .second, .val (.long x2), .second, .val (.long y1), .second, .val (.long dd), .second, .val (.long (x2 - x1)), .second, .val (.long (y1 - y1)), .second, .val (.int (1 : Int32)), .val (.ref b82), .unset, .unset, .unset, .unset, .unset] [(.double (FP.l2d y1)), (.double (FP.l2d x2)), (.int (1 : Int32)), (.ref b85), (.ref b85)])) _
          refine st87.trans ?_
          show Steps p.tables e below (T87.setTop (mkF m 152 #[.val (.int p1), .val (.int p2), .val (.int p3), .val (.int p4), .val (.int p5), .val (.int p6), .val (.long x1), .second, .val (.long y1), .second, .val (.long x2), .second, .val (.long y1), .second, .val (.long dd), .second, .val (.long (x2 - x1)), .second, .val (.long (y1 - y1)), .second, .val (.int (1 : Int32)), .val (.ref b82), .unset, .unset, .unset, .unset, .unset] [(.ref b85)])) _
          refine XS.astore X87.here hx rfl (hb hby at_152) rfl rfl (l' := #[.val (.int p1), .val (.int p2), .val (.int p3), .val (.int p4), .val (.int p5), .val (.int p6), .val (.long x1), .second, .val (.long y1), .second, .val (.long x2), .second, .val (.long y1), .second, .val (.long dd), .second, .val (.long (x2 - x1)), .second, .val (.long (y1 - y1)), .second, .val (.int (1 : Int32)), .val (.ref b82), .val (.ref b85), .unset, .unset, .unset, .unset]) rfl ?_
          show Steps p.tables e below (T87.setTop (mkF m 154 #[.val (.int p1), .val (.int p2), .val (.int p3), .val (.int p4), .val (.int p5), .val (.int p6), .val (.long x1), .second, .val (.long y1), .second, .val (.long x2), .second, .val (.long y1), .second, .val (.long dd), .second, .val (.long (x2 - x1)), .second, .val (.long (y1 - y1)), .second, .val (.int (1 : Int32)), .val (.ref b82), .val (.ref b85), .unset, .unset, .unset, .unset] [])) _
          refine XT.lload X87.here hx rfl (hb hby at_154) rfl ?_
          show Steps p.tables e below (T87.setTop (mkF m 156 #[.val (.int p1), .val (.int p2), .val (.int p3), .val (.int p4), .val (.int p5), .val (.int p6), .val (.long x1), .second, .val (.long y1), .second, .val (.long x2), .second, .val (.long y1), .second, .val (.long dd), .second, .val (.long (x2 - x1)), .second, .val (.long (y1 - y1)), .second, .val (.int (1 : Int32)), .val (.ref b82), .val (.ref b85), .unset, .unset, .unset, .unset] [(.long dd)])) _
          refine XS.l2dS X87.here hx rfl (hb hby at_156) rfl (v := FP.l2d dd) rfl ?_
          show Steps p.tables e below (T87.setTop (mkF m 157 #[.val (.int p1), .val (.int p2), .val (.int p3), .val (.int p4), .val (.int p5), .val (.int p6), .val (.long x1), .second, .val (.long y1), .second, .val (.long x2), .second, .val (.long y1), .second, .val (.long dd), .second, .val (.long (x2 - x1)), .second, .val (.long (y1 - y1)), .second, .val (.int (1 : Int32)), .val (.ref b82), .val (.ref b85), .unset, .unset, .unset, .unset] [(.double (FP.l2d dd))])) _
          refine XS.dstore X87.here hx rfl (hb hby at_157) rfl (l' := #[.val (.int p1), .val (.int p2), .val (.int p3), .val (.int p4), .val (.int p5), .val (.int p6), .val (.long x1), .second, .val (.long y1), .second, .val (.long x2), .second, .val (.long y1), .second, .val (.long dd), .second, .val (.long (x2 - x1)), .second, .val (.long (y1 - y1)), .second, .val (.int (1 : Int32)), .val (.ref b82), .val (.ref b85), .val (.double (FP.l2d dd)), .second, .unset, .unset]) rfl ?_
          show Steps p.tables e below (T87.setTop (mkF m 159 #[.val (.int p1), .val (.int p2), .val (.int p3), .val (.int p4), .val (.int p5), .val (.int p6), .val (.long x1), .second, .val (.long y1), .second, .val (.long x2), .second, .val (.long y1), .second, .val (.long dd), .second, .val (.long (x2 - x1)), .second, .val (.long (y1 - y1)), .second, .val (.int (1 : Int32)), .val (.ref b82), .val (.ref b85), .val (.double (FP.l2d dd)), .second, .unset, .unset] [])) _
          refine XS.aload X87.here hx rfl (hb hby at_159) rfl rfl ?_
          show Steps p.tables e below (T87.setTop (mkF m 161 #[.val (.int p1), .val (.int p2), .val (.int p3), .val (.int p4), .val (.int p5), .val (.int p6), .val (.long x1), .second, .val (.long y1), .second, .val (.long x2), .second, .val (.long y1), .second, .val (.long dd), .second, .val (.long (x2 - x1)), .second, .val (.long (y1 - y1)), .second, .val (.int (1 : Int32)), .val (.ref b82), .val (.ref b85), .val (.double (FP.l2d dd)), .second, .unset, .unset] [(.ref b82)])) _
          refine XS.aload X87.here hx rfl (hb hby at_161) rfl rfl ?_
          show Steps p.tables e below (T87.setTop (mkF m 163 #[.val (.int p1), .val (.int p2), .val (.int p3), .val (.int p4), .val (.int p5), .val (.int p6), .val (.long x1), .second, .val (.long y1), .second, .val (.long x2), .second, .val (.long y1), .second, .val (.long dd), .second, .val (.long (x2 - x1)), .second, .val (.long (y1 - y1)), .second, .val (.int (1 : Int32)), .val (.ref b82), .val (.ref b85), .val (.double (FP.l2d dd)), .second, .unset, .unset] [(.ref b85), (.ref b82)])) _
          refine XS.dload X87.here hx rfl (hb hby at_163) rfl ?_
          show Steps p.tables e below (T87.setTop (mkF m 165 #[.val (.int p1), .val (.int p2), .val (.int p3), .val (.int p4), .val (.int p5), .val (.int p6), .val (.long x1), .second, .val (.long y1), .second, .val (.long x2), .second, .val (.long y1), .second, .val (.long dd), .second, .val (.long (x2 - x1)), .second, .val (.long (y1 - y1)), .second, .val (.int (1 : Int32)), .val (.ref b82), .val (.ref b85), .val (.double (FP.l2d dd)), .second, .unset, .unset] [(.double (FP.l2d dd)), (.ref b85), (.ref b82)])) _
          refine st90.trans ?_
          show Steps p.tables e below (T90.setTop (mkF m 168 #[.val (.int p1), .val (.int p2), .val (.int p3), .val (.int p4), .val (.int p5), .val (.int p6), .val (.long x1), .second, .val (.long y1), .second, .val (.long x2), .second, .val (.long y1), .second, .val (.long dd), .second, .val (.long (x2 - x1)), .second, .val (.long (y1 - y1)), .second, .val (.int (1 : Int32)), .val (.ref b82), .val (.ref b85), .val (.double (FP.l2d dd)), .second, .unset, .unset] [(.int (fW x1 y1 x2 y1 dd))])) _
          refine XS.istore X90.here hx rfl (hb hby at_168) rfl (l' := #[.val (.int p1), .val (.int p2), .val (.int p3), .val (.int p4), .val (.int p5), .val (.int p6), .val (.long x1), .second, .val (.long y1), .second, .val (.long x2), .second, .val (.long y1), .second, .val (.long dd), .second, .val (.long (x2 - x1)), .second, .val (.long (y1 - y1)), .second, .val (.int (1 : Int32)), .val (.ref b82), .val (.ref b85), .val (.double (FP.l2d dd)), .second, .val (.int (fW x1 y1 x2 y1 dd)), .unset]) rfl ?_
          show Steps p.tables e below (T90.setTop (mkF m 170 #[.val (.int p1), .val (.int p2), .val (.int p3), .val (.int p4), .val (.int p5), .val (.int p6), .val (.long x1), .second, .val (.long y1), .second, .val (.long x2), .second, .val (.long y1), .second, .val (.long dd), .second, .val (.long (x2 - x1)), .second, .val (.long (y1 - y1)), .second, .val (.int (1 : Int32)), .val (.ref b82), .val (.ref b85), .val (.double (FP.l2d dd)), .second, .val (.int (fW x1 y1 x2 y1 dd)), .unset] [])) _
          refine XS.aload X90.here hx rfl (hb hby at_170) rfl rfl ?_
          show Steps p.tables e below (T90.setTop (mkF m 172 #[.val (.int p1), .val (.int p2), .val (.int p3), .val (.int p4), .val (.int p5), .val (.int p6), .val (.long x1), .second, .val (.long y1), .second, .val (.long x2), .second, .val (.long y1), .second, .val (.long dd), .second, .val (.long (x2 - x1)), .second, .val (.long (y1 - y1)), .second, .val (.int (1 : Int32)), .val (.ref b82), .val (.ref b85), .val (.double (FP.l2d dd)), .second, .val (.int (fW x1 y1 x2 y1 dd)), .unset] [(.ref b85)])) _
          refine XS.aload X90.here hx rfl (hb hby at_172) rfl rfl ?_
          show Steps p.tables e below (T90.setTop (mkF m 174 #[.val (.int p1), .val (.int p2), .val (.int p3), .val (.int p4), .val (.int p5), .val (.int p6), .val (.long x1), .second, .val (.long y1), .second, .val (.long x2), .second, .val (.long y1), .second, .val (.long dd), .second, .val (.long (x2 - x1)), .second, .val (.long (y1 - y1)), .second, .val (.int (1 : Int32)), .val (.ref b82), .val (.ref b85), .val (.double (FP.l2d dd)), .second, .val (.int (fW x1 y1 x2 y1 dd)), .unset] [(.ref b82), (.ref b85)])) _
          refine XS.dload X90.here hx rfl (hb hby at_174) rfl ?_
          show Steps p.tables e below (T90.setTop (mkF m 176 #[.val (.int p1), .val (.int p2), .val (.int p3), .val (.int p4), .val (.int p5), .val (.int p6), .val (.long x1), .second, .val (.long y1), .second, .val (.long x2), .second, .val (.long y1), .second, .val (.long dd), .second, .val (.long (x2 - x1)), .second, .val (.long (y1 - y1)), .second, .val (.int (1 : Int32)), .val (.ref b82), .val (.ref b85), .val (.double (FP.l2d dd)), .second, .val (.int (fW x1 y1 x2 y1 dd)), .unset] [(.double (FP.l2d dd)), (.ref b82), (.ref b85)])) _
          refine st91.trans ?_
          show Steps p.tables e below (T91.setTop (mkF m 179 #[.val (.int p1), .val (.int p2), .val (.int p3), .val (.int p4), .val (.int p5), .val (.int p6), .val (.long x1), .second, .val (.long y1), .second, .val (.long x2), .second, .val (.long y1), .second, .val (.long dd), .second, .val (.long (x2 - x1)), .second, .val (.long (y1 - y1)), .second, .val (.int (1 : Int32)), .val (.ref b82), .val (.ref b85), .val (.double (FP.l2d dd)), .second, .val (.int (fW x1 y1 x2 y1 dd)), .unset] [(.int (fW x2 y1 x1 y1 dd))])) _
          refine XS.istore X91.here hx rfl (hb hby at_179) rfl (l' := #[.val (.int p1), .val (.int p2), .val (.int p3), .val (.int p4), .val (.int p5), .val (.int p6), .val (.long x1), .second, .val (.long y1), .second, .val (.long x2), .second, .val (.long y1), .second, .val (.long dd), .second, .val (.long (x2 - x1)), .second, .val (.long (y1 - y1)), .second, .val (.int (1 : Int32)), .val (.ref b82), .val (.ref b85), .val (.double (FP.l2d dd)), .second, .val (.int (fW x1 y1 x2 y1 dd)), .val (.int (fW x2 y1 x1 y1 dd))]) rfl ?_
          show Steps p.tables e below (T91.setTop (mkF m 181 #[.val (.int p1), .val (.int p2), .val (.int p3), .val (.int p4), .val (.int p5), .val (.int p6), .val (.long x1), .second, .val (.long y1), .second, .val (.long x2), .second, .val (.long y1), .second, .val (.long dd), .second, .val (.long (x2 - x1)), .second, .val (.long (y1 - y1)), .second, .val (.int (1 : Int32)), .val (.ref b82), .val (.ref b85), .val (.double (FP.l2d dd)), .second, .val (.int (fW x1 y1 x2 y1 dd)), .val (.int (fW x2 y1 x1 y1 dd))] [])) _
          refine XS.iload X91.here hx rfl (hb hby at_181) rfl ?_
          show Steps p.tables e below (T91.setTop (mkF m 183 #[.val (.int p1), .val (.int p2), .val (.int p3), .val (.int p4), .val (.int p5), .val (.int p6), .val (.long x1), .second, .val (.long y1), .second, .val (.long x2), .second, .val (.long y1), .second, .val (.long dd), .second, .val (.long (x2 - x1)), .second, .val (.long (y1 - y1)), .second, .val (.int (1 : Int32)), .val (.ref b82), .val (.ref b85), .val (.double (FP.l2d dd)), .second, .val (.int (fW x1 y1 x2 y1 dd)), .val (.int (fW x2 y1 x1 y1 dd))] [(.int (fW x1 y1 x2 y1 dd))])) _
          refine XS.iload X91.here hx rfl (hb hby at_183) rfl ?_
          show Steps p.tables e below (T91.setTop (mkF m 185 #[.val (.int p1), .val (.int p2), .val (.int p3), .val (.int p4), .val (.int p5), .val (.int p6), .val (.long x1), .second, .val (.long y1), .second, .val (.long x2), .second, .val (.long y1), .second, .val (.long dd), .second, .val (.long (x2 - x1)), .second, .val (.long (y1 - y1)), .second, .val (.int (1 : Int32)), .val (.ref b82), .val (.ref b85), .val (.double (FP.l2d dd)), .second, .val (.int (fW x1 y1 x2 y1 dd)), .val (.int (fW x2 y1 x1 y1 dd))] [(.int (1 : Int32)), (.int (fW x1 y1 x2 y1 dd))])) _
          refine XS.icmpNo X91.here hx rfl (hb hby at_185) rfl (teq h185_92).2 ?_
          show Steps p.tables e below (T91.setTop (mkF m 188 #[.val (.int p1), .val (.int p2), .val (.int p3), .val (.int p4), .val (.int p5), .val (.int p6), .val (.long x1), .second, .val (.long y1), .second, .val (.long x2), .second, .val (.long y1), .second, .val (.long dd), .second, .val (.long (x2 - x1)), .second, .val (.long (y1 - y1)), .second, .val (.int (1 : Int32)), .val (.ref b82), .val (.ref b85), .val (.double (FP.l2d dd)), .second, .val (.int (fW x1 y1 x2 y1 dd)), .val (.int (fW x2 y1 x1 y1 dd))] [])) _
          refine XS.iload X91.here hx rfl (hb hby at_188) rfl ?_
          show Steps p.tables e below (T91.setTop (mkF m 190 #[.val (.int p1), .val (.int p2), .val (.int p3), .val (.int p4), .val (.int p5), .val (.int p6), .val (.long x1), .second, .val (.long y1), .second, .val (.long x2), .second, .val (.long y1), .second, .val (.long dd), .second, .val (.long (x2 - x1)), .second, .val (.long (y1 - y1)), .second, .val (.int (1 : Int32)), .val (.ref b82), .val (.ref b85), .val (.double (FP.l2d dd)), .second, .val (.int (fW x1 y1 x2 y1 dd)), .val (.int (fW x2 y1 x1 y1 dd))] [(.int (fW x2 y1 x1 y1 dd))])) _
          refine XS.iload X91.here hx rfl (hb hby at_190) rfl ?_
          show Steps p.tables e below (T91.setTop (mkF m 192 #[.val (.int p1), .val (.int p2), .val (.int p3), .val (.int p4), .val (.int p5), .val (.int p6), .val (.long x1), .second, .val (.long y1), .second, .val (.long x2), .second, .val (.long y1), .second, .val (.long dd), .second, .val (.long (x2 - x1)), .second, .val (.long (y1 - y1)), .second, .val (.int (1 : Int32)), .val (.ref b82), .val (.ref b85), .val (.double (FP.l2d dd)), .second, .val (.int (fW x1 y1 x2 y1 dd)), .val (.int (fW x2 y1 x1 y1 dd))] [(.int (1 : Int32)), (.int (fW x2 y1 x1 y1 dd))])) _
          refine XS.icmpNo X91.here hx rfl (hb hby at_192) rfl (teq h192_93).2 ?_
          show Steps p.tables e below (T91.setTop (mkF m 195 #[.val (.int p1), .val (.int p2), .val (.int p3), .val (.int p4), .val (.int p5), .val (.int p6), .val (.long x1), .second, .val (.long y1), .second, .val (.long x2), .second, .val (.long y1), .second, .val (.long dd), .second, .val (.long (x2 - x1)), .second, .val (.long (y1 - y1)), .second, .val (.int (1 : Int32)), .val (.ref b82), .val (.ref b85), .val (.double (FP.l2d dd)), .second, .val (.int (fW x1 y1 x2 y1 dd)), .val (.int (fW x2 y1 x1 y1 dd))] [])) _
          refine XS.iconst X91.here hx rfl (hb hby at_195) ?_
          show Steps p.tables e below (T91.setTop (mkF m 196 #[.val (.int p1), .val (.int p2), .val (.int p3), .val (.int p4), .val (.int p5), .val (.int p6), .val (.long x1), .second, .val (.long y1), .second, .val (.long x2), .second, .val (.long y1), .second, .val (.long dd), .second, .val (.long (x2 - x1)), .second, .val (.long (y1 - y1)), .second, .val (.int (1 : Int32)), .val (.ref b82), .val (.ref b85), .val (.double (FP.l2d dd)), .second, .val (.int (fW x1 y1 x2 y1 dd)), .val (.int (fW x2 y1 x1 y1 dd))] [(.int (1 : Int32))])) _
          refine XS.goto X91.here hx rfl (pc0 := 196) (pc' := 200) rfl (hb hby at_196) (by decide) (by decide) ?_
          show Steps p.tables e below (T91.setTop (mkF m 200 #[.val (.int p1), .val (.int p2), .val (.int p3), .val (.int p4), .val (.int p5), .val (.int p6), .val (.long x1), .second, .val (.long y1), .second, .val (.long x2), .second, .val (.long y1), .second, .val (.long dd), .second, .val (.long (x2 - x1)), .second, .val (.long (y1 - y1)), .second, .val (.int (1 : Int32)), .val (.ref b82), .val (.ref b85), .val (.double (FP.l2d dd)), .second, .val (.int (fW x1 y1 x2 y1 dd)), .val (.int (fW x2 y1 x1 y1 dd))] [(.int (1 : Int32))])) _
          exact k
        obtain ⟨fs, hr, hrun, hended, hW, hsame⟩ := X91.leave (v := some (.int (1 : Int32))) (fun h => by rw [Bd.returns] at h; cases h)
        refine ⟨_, _, pre94 _ ?_, hrun, hended, _, _, rfl, ?_, ⟨_, rfl⟩, hW, hsame.mono (by decide) (by decide)⟩
        · exact retN X91 hx (t := .boolean) Bd.returns (by simp) (hb hby at_200) hr
        · exact ⟨rfl, N91⟩
set_option maxRecDepth 65536 in
set_option maxHeartbeats 40000000 in
theorem comes_1 {Post : Tables → Env → Array Value → State → Outcome → State → Prop} (hpost : ∀ tb e args s v u, (limb_1_1.after args s (.returned v) u = true ∧ limb_1_2.after args s (.returned v) u = true ∧ True) → FrameEnd s (.returned v) u (Jvm.fieldLocs frame_1_writes args s ++ Jvm.arrayLocs frame_1_arrays args s ++ Jvm.staticLocs frame_1_statics s) 16 128 → Post tb e args s (.returned v) u) :
    ArmFor flags0 classFile x code maxLocals ret World_1 tables_1 room_1 Calls_1 rest_1 Pre_1 Post := by
  intro l hfl _ _ p e ha hc hk s m args below hf hA hF happ hP
  obtain ⟨hcalls, hrest, hpre⟩ := hP
  obtain ⟨-, -, -, hnamed, -, -, -, hat⟩ := (Spec.applies_iff hf).mp happ
  obtain ⟨hg, hn⟩ := and_e (Cond.before_iff.mp (show (Jvm.Cond.and given_1 narrow_1).before args s = true from hpre))
  obtain ⟨hc0, hr1⟩ := and_e hg
  obtain ⟨ha0, hr2⟩ := and_e hr1
  obtain ⟨ha1, hr3⟩ := and_e hr2
  obtain ⟨ha2, hr4⟩ := and_e hr3
  obtain ⟨ha3, hr5⟩ := and_e hr4
  obtain ⟨ha4, hr6⟩ := and_e hr5
  obtain ⟨w0, w1, w2, w3, w4, w5, rfl⟩ : ∃ w0 w1 w2 w3 w4 w5 : Value, args = #[w0, w1, w2, w3, w4, w5] := by
    have hs : args.size = 6 := by simpa [Cond.value, given_1] using hc0
    obtain ⟨L⟩ := args
    match L, hs with
    | [w0, w1, w2, w3, w4, w5], _ => exact ⟨w0, w1, w2, w3, w4, w5, rfl⟩
  have hw := fun d (hd : d ∈ tables_1) => atoms_spec (ws := Jvm.Cond.code x code maxLocals ret :: tables_1) hat d (List.mem_cons_of_mem _ hd)
  have hfit : Fit s := fun {y c} hc i hi => by
    obtain ⟨ha, rfl⟩ := Array.getElem?_eq_some_iff.mp hc
    have q := List.all_eq_true.mp ((Array.all_eq_true_iff_forall_mem.mp hF) _ (Array.getElem_mem ha)) i (List.mem_range.mpr hi)
    simpa [Array.getElem?_eq_getElem hi] using q
  obtain ⟨i0, ei0⟩ := is_v ha0
  obtain rfl : w0 = (.int i0) := Option.some.inj ei0
  obtain ⟨i1, ei1⟩ := is_v ha1
  obtain rfl : w1 = (.int i1) := Option.some.inj ei1
  obtain ⟨i2, ei2⟩ := is_v ha2
  obtain rfl : w2 = (.int i2) := Option.some.inj ei2
  obtain ⟨i3, ei3⟩ := is_v ha3
  obtain rfl : w3 = (.int i3) := Option.some.inj ei3
  obtain ⟨i4, ei4⟩ := is_v ha4
  obtain rfl : w4 = (.int i4) := Option.some.inj ei4
  obtain ⟨i5, ei5⟩ := is_v hr6
  obtain rfl : w5 = (.int i5) := Option.some.inj ei5
  obtain ⟨n, o, h1, h2, h3, _, L, rfl, ⟨rfl, N⟩, hq⟩ := rm0 l s _ hw tables_1 i0 i1 i2 i3 i4 i5 s.heap s.heap.size (Nat.le_refl _) p e ha hc hk s m _ below hf ((Spec.applies_iff_loose hf).mp happ).1 ⟨rfl, State.Warmed39.refl s, rfl⟩ trivial
  refine ⟨n, _, h1, h2, h3, hpost _ _ _ _ _ _ ⟨Cond.after_iff.mpr rfl, Cond.after_iff.mpr (eq_i res_at (Term.int_eval (1)) rfl), trivial⟩ ⟨hq.1, hq.2.1, (hq.2.2.sift fun y hy => Or.inr (N y hy)).mono (by decide) (by decide)⟩⟩
theorem main_1_1 : Claimed_1_1 := comes_1 fun _ _ _ _ _ _ h hF => ⟨h.1, hF⟩
theorem main_1_2 : Claimed_1_2 := comes_1 fun _ _ _ _ _ _ h hF => ⟨h.2.1, hF⟩
end Jvm.Pilot.@@N@@
namespace Jvm.Pilot.@@N@@
open Jvm Jvm.ClassFile Sem Op Lib Jvm.Free Jvm.Stand Jvm.Pilot.@@N@@.Jvm.D
/-! MADE BY PROGRAM (witnessworld.py) out of the Statement's table words and the real class files: 10 classes; the members and pool entries that the words name. The judged class is class 1, her method 1. -/
namespace start1
open Jvm.ClassFile
def u (s : String) : CpInfo := .utf8 (stringToUtf16 s)
/-- a pool by its gaps: so many unusable entries, then the entry; so many at the end -/
def gap : Nat → List CpInfo → List CpInfo
  | 0, r => r
  | n + 1, r => .unusable :: gap n r
def poolList (es : List (Nat × CpInfo)) (last : Nat) : List CpInfo := es.foldr (fun e r => gap e.1 (e.2 :: r)) (gap last [])
def pool (es : List (Nat × CpInfo)) (last : Nat) : Array CpInfo := ⟨poolList es last⟩
def fileOf (pool : Array CpInfo) (this : Nat) (attrs : Array Attribute := #[]) (ms : Array MethodInfo := #[]) (fl : Nat := 33) (sup : Nat := 0) (ifs : Array Nat := #[]) (fds : Array FieldInfo := #[]) : ClassFile where
  minorVersion := 0
  majorVersion := 65
  constantPool := pool
  accessFlags := fl
  thisClass := this
  superClass := sup
  interfaces := ifs
  fields := fds
  methods := ms
  attributes := attrs
def plain (name : String) (sup : Option ClassId) : Class where
  name := name
  kind := .ordinary
  loader := none
  accessFlags := 33
  super := sup
  interfaces := #[]
  cf := none
  fields := #[]
  methods := #[]
  instanceTypes := #[]
  staticTypes := #[]
  resolved := #[]
  callSites := []
  init := .initialized
  statics := none
  mirror := none

def pool0 : Array CpInfo := pool [(5, u "<init>"), (0, u "()V"), (1, .class_ 10), (1, u "java/lang/Object")] 113

def k0c0 : Code := { maxStack := 0, maxLocals := 1, code := object_method_1_code, exceptionTable := #[], attributes := #[] }
def k0m0 : Method := { name := "<init>", desc := "()V", sig := { parameters := [], returnType := none }, accessFlags := 1, code := some k0c0 }
/-- java/lang/Object -/
def k0 : Class := { plain "java/lang/Object" none with
  accessFlags := 33
  interfaces := #[]
  cf := some (fileOf pool0 8 #[] #[{ accessFlags := 1, nameIndex := 5, descriptorIndex := 6, attributes := #[] }] 33 0 #[] #[])
  fields := #[]
  methods := #[k0m0]
  instanceTypes := #[]
  staticTypes := #[]
  resolved := Array.replicate 124 none
  statics := none }

def pool1 : Array CpInfo := pool [(2, .class_ 4), (1, u "java/lang/Object"), (0, u "<init>"), (0, u "()V"), (0, .integer 2097151), (0, .methodref 9 10), (0, .class_ 11), (0, .nameAndType 12 13), (0, u "java/lang/Math"), (0, u "abs"), (0, u "(J)J"), (0, .class_ 15), (0, u "com/example/rumblecourt/rumblecourt/games/hungergaming/Creature"), (0, .methodref 14 17), (0, .nameAndType 5 18), (0, u "(IDD)V"), (0, .methodref 14 20), (0, .nameAndType 21 22), (0, u "within"), (0, u "(Lcom/example/rumblecourt/rumblecourt/games/hungergaming/Creature;D)Z"), (0, .class_ 24), (0, u "com/example/rumblecourt/rumblecourt/games/hungergaming/CreatureWithinPinLaw"), (2, u "law"), (0, u "(IIIIII)Z")] 3

def k1m0 : Method := { name := "<init>", desc := "()V", sig := { parameters := [], returnType := none }, accessFlags := 1, code := none }
def k1c1 : Code := { maxStack := 7, maxLocals := 27, code := code, exceptionTable := #[], attributes := #[] }
def k1m1 : Method := { name := "law", desc := "(IIIIII)Z", sig := { parameters := [.int, .int, .int, .int, .int, .int], returnType := some .boolean }, accessFlags := 9, code := some k1c1 }
/-- com/example/rumblecourt/rumblecourt/games/hungergaming/CreatureWithinPinLaw -/
def k1 : Class := { plain "com/example/rumblecourt/rumblecourt/games/hungergaming/CreatureWithinPinLaw" (some 0) with
  accessFlags := 49
  interfaces := #[]
  cf := some (fileOf pool1 23 #[] #[{ accessFlags := 1, nameIndex := 5, descriptorIndex := 6, attributes := #[] }, { accessFlags := 9, nameIndex := 27, descriptorIndex := 28, attributes := #[] }] 49 2 #[] #[])
  fields := #[]
  methods := #[k1m0, k1m1]
  instanceTypes := #[]
  staticTypes := #[]
  resolved := Array.replicate 32 none
  statics := none }

def pool2 : Array CpInfo := pool [(1, .class_ 2), (0, u "java/lang/Math"), (1, .class_ 6), (1, u "java/lang/Object"), (0, u "<init>"), (0, u "()V"), (89, .class_ 100), (1, u "java/lang/Math$RandomNumberGeneratorHolder"), (23, u "abs"), (0, u "(J)J"), (46, u "negativeZeroFloatBits"), (0, u "J"), (2, u "negativeZeroDoubleBits"), (68, u "$assertionsDisabled"), (0, u "Z"), (91, u "twoToTheDoubleScaleDown"), (0, u "D"), (4, u "twoToTheDoubleScaleUp"), (9, u "E"), (3, u "PI"), (2, u "TAU"), (2, u "DEGREES_TO_RADIANS"), (0, u "RADIANS_TO_DEGREES")] 94

def k2m0 : Method := { name := "<init>", desc := "()V", sig := { parameters := [], returnType := none }, accessFlags := 2, code := none }
def k2c1 : Code := { maxStack := 4, maxLocals := 2, code := jdk_29_method_61_code, exceptionTable := #[], attributes := #[] }
def k2m1 : Method := { name := "abs", desc := "(J)J", sig := { parameters := [.long], returnType := some .long }, accessFlags := 9, code := some k2c1 }
/-- java/lang/Math -/
def k2 : Class := { plain "java/lang/Math" (some 0) with
  accessFlags := 49
  interfaces := #[]
  cf := some (fileOf pool2 1 #[.nestMembers #[98]] #[{ accessFlags := 2, nameIndex := 7, descriptorIndex := 8, attributes := #[] }, { accessFlags := 9, nameIndex := 124, descriptorIndex := 125, attributes := #[] }] 49 4 #[] #[{ accessFlags := 25, nameIndex := 354, descriptorIndex := 339, attributes := #[] }, { accessFlags := 25, nameIndex := 358, descriptorIndex := 339, attributes := #[] }, { accessFlags := 25, nameIndex := 361, descriptorIndex := 339, attributes := #[] }, { accessFlags := 26, nameIndex := 364, descriptorIndex := 339, attributes := #[] }, { accessFlags := 26, nameIndex := 365, descriptorIndex := 339, attributes := #[] }, { accessFlags := 26, nameIndex := 172, descriptorIndex := 173, attributes := #[] }, { accessFlags := 26, nameIndex := 176, descriptorIndex := 173, attributes := #[] }, { accessFlags := 8, nameIndex := 344, descriptorIndex := 339, attributes := #[] }, { accessFlags := 8, nameIndex := 338, descriptorIndex := 339, attributes := #[] }, { accessFlags := 4120, nameIndex := 245, descriptorIndex := 246, attributes := #[] }])
  fields := #[{ name := "E", type := .double, accessFlags := 25, slot := 0, constantValue := 0 }, { name := "PI", type := .double, accessFlags := 25, slot := 1, constantValue := 0 }, { name := "TAU", type := .double, accessFlags := 25, slot := 2, constantValue := 0 }, { name := "DEGREES_TO_RADIANS", type := .double, accessFlags := 26, slot := 3, constantValue := 0 }, { name := "RADIANS_TO_DEGREES", type := .double, accessFlags := 26, slot := 4, constantValue := 0 }, { name := "negativeZeroFloatBits", type := .long, accessFlags := 26, slot := 5, constantValue := 0 }, { name := "negativeZeroDoubleBits", type := .long, accessFlags := 26, slot := 6, constantValue := 0 }, { name := "twoToTheDoubleScaleUp", type := .double, accessFlags := 8, slot := 7, constantValue := 0 }, { name := "twoToTheDoubleScaleDown", type := .double, accessFlags := 8, slot := 8, constantValue := 0 }, { name := "$assertionsDisabled", type := .boolean, accessFlags := 4120, slot := 9, constantValue := 0 }]
  methods := #[k2m0, k2m1]
  instanceTypes := #[]
  staticTypes := #[.double, .double, .double, .double, .double, .long, .long, .double, .double, .boolean]
  resolved := Array.replicate 460 none
  statics := none }

def pool3 : Array CpInfo := pool [(1, .methodref 2 3), (0, .class_ 4), (0, .nameAndType 5 6), (0, u "java/lang/Object"), (0, u "<init>"), (0, u "()V"), (0, .fieldref 8 9), (0, .class_ 10), (0, .nameAndType 11 12), (0, u "com/example/rumblecourt/rumblecourt/games/hungergaming/Creature"), (0, u "id"), (0, u "I"), (0, .methodref 8 14), (0, .nameAndType 15 16), (0, u "moveTo"), (0, u "(DD)V"), (0, .fieldref 8 18), (0, .nameAndType 19 20), (0, u "x"), (0, u "D"), (0, .fieldref 8 22), (0, .nameAndType 23 20), (0, u "y"), (0, .fieldref 8 25), (0, .nameAndType 26 27), (0, u "position"), (0, u "Ljava/lang/String;"), (6, u "dx"), (2, u "dy"), (0, u "(IDD)V"), (7, u "within"), (0, u "(Lcom/example/rumblecourt/rumblecourt/games/hungergaming/Creature;D)Z")] 17

def k3c0 : Code := { maxStack := 5, maxLocals := 6, code := prog_9_method_1_code, exceptionTable := #[], attributes := #[] }
def k3m0 : Method := { name := "<init>", desc := "(IDD)V", sig := { parameters := [.int, .double, .double], returnType := none }, accessFlags := 0, code := some k3c0 }
def k3c1 : Code := { maxStack := 3, maxLocals := 5, code := prog_9_method_9_code, exceptionTable := #[], attributes := #[] }
def k3m1 : Method := { name := "moveTo", desc := "(DD)V", sig := { parameters := [.double, .double], returnType := none }, accessFlags := 16, code := some k3c1 }
def k3c2 : Code := { maxStack := 6, maxLocals := 8, code := prog_9_method_10_code, exceptionTable := #[], attributes := #[] }
def k3m2 : Method := { name := "within", desc := "(Lcom/example/rumblecourt/rumblecourt/games/hungergaming/Creature;D)Z", sig := { parameters := [(.object "com/example/rumblecourt/rumblecourt/games/hungergaming/Creature"), .double], returnType := some .boolean }, accessFlags := 16, code := some k3c2 }
/-- com/example/rumblecourt/rumblecourt/games/hungergaming/Creature -/
def k3 : Class := { plain "com/example/rumblecourt/rumblecourt/games/hungergaming/Creature" (some 0) with
  accessFlags := 32
  interfaces := #[]
  cf := some (fileOf pool3 8 #[] #[{ accessFlags := 0, nameIndex := 5, descriptorIndex := 38, attributes := #[] }, { accessFlags := 16, nameIndex := 15, descriptorIndex := 16, attributes := #[] }, { accessFlags := 16, nameIndex := 46, descriptorIndex := 47, attributes := #[] }] 32 2 #[] #[{ accessFlags := 18, nameIndex := 11, descriptorIndex := 12, attributes := #[] }, { accessFlags := 2, nameIndex := 19, descriptorIndex := 20, attributes := #[] }, { accessFlags := 2, nameIndex := 23, descriptorIndex := 20, attributes := #[] }, { accessFlags := 2, nameIndex := 26, descriptorIndex := 27, attributes := #[] }, { accessFlags := 2, nameIndex := 34, descriptorIndex := 20, attributes := #[] }, { accessFlags := 2, nameIndex := 37, descriptorIndex := 20, attributes := #[] }])
  fields := #[{ name := "id", type := .int, accessFlags := 18, slot := 0, constantValue := 0 }, { name := "x", type := .double, accessFlags := 2, slot := 1, constantValue := 0 }, { name := "y", type := .double, accessFlags := 2, slot := 2, constantValue := 0 }, { name := "position", type := (.object "java/lang/String"), accessFlags := 2, slot := 3, constantValue := 0 }, { name := "dx", type := .double, accessFlags := 2, slot := 4, constantValue := 0 }, { name := "dy", type := .double, accessFlags := 2, slot := 5, constantValue := 0 }]
  methods := #[k3m0, k3m1, k3m2]
  instanceTypes := #[.int, .double, .double, (.object "java/lang/String"), .double, .double]
  staticTypes := #[]
  resolved := Array.replicate 65 none
  statics := none }

def pool4 : Array CpInfo := pool [(1, u "java/lang/Cloneable"), (0, .class_ 1), (0, u "java/lang/Object"), (0, .class_ 3)] 3

/-- java/lang/Cloneable -/
def k4 : Class := { plain "java/lang/Cloneable" (some 0) with
  accessFlags := 1537
  interfaces := #[]
  cf := some (fileOf pool4 2 #[] #[] 1537 4 #[] #[])
  fields := #[]
  methods := #[]
  instanceTypes := #[]
  staticTypes := #[]
  resolved := Array.replicate 8 none
  statics := none }

def pool5 : Array CpInfo := pool [(1, u "java/io/Serializable"), (0, .class_ 1), (0, u "java/lang/Object"), (0, .class_ 3)] 3

/-- java/io/Serializable -/
def k5 : Class := { plain "java/io/Serializable" (some 0) with
  accessFlags := 1537
  interfaces := #[]
  cf := some (fileOf pool5 2 #[] #[] 1537 4 #[] #[])
  fields := #[]
  methods := #[]
  instanceTypes := #[]
  staticTypes := #[]
  resolved := Array.replicate 8 none
  statics := none }

/-- the primitive byte -/
def k6 : Class := { plain "byte" none with kind := .primitive 'B', accessFlags := 0x411 }
/-- [B -/
def k7 : Class := { plain "[B" (some 0) with kind := .array 6 .byte, interfaces := #[4, 5], accessFlags := 1041 }

/-- the primitive int -/
def k8 : Class := { plain "int" none with kind := .primitive 'I', accessFlags := 0x411 }
/-- [I -/
def k9 : Class := { plain "[I" (some 0) with kind := .array 8 .int, interfaces := #[4, 5], accessFlags := 1041 }

def heap : Heap := #[]
def classes : Array Class := #[k0, k1, k2, k3, k4, k5, k6, k7, k8, k9]
def interned : List (Array UInt16 × Addr) := []
def slotsUsed : Nat := 0
def theMethod : MethodId := ⟨1, 1⟩
def args0 : Array Value := #[.int 5, .int 3, .int 1, .int 7, .int 2, .int 0]
def aboutOver (below : List Frame) : State where
  vm := { classes := classes, interned := interned.toArray }
  heap := heap
  slotsUsed := slotsUsed
  threads := #[{ frames := .invoking theMethod args0 :: below }]
def below0 : List Frame := [.native { method := ⟨0, 0⟩, args := #[] }]
def about1 : State := aboutOver below0
def p0 : Program := .bare "" "" ""
def e0 : Env := launch0.env 0 0 0
theorem w_frames : about1.frames = Frame.invoking theMethod args0 :: below0 := rfl
set_option maxRecDepth 65536 in
theorem w_args : argsFit about1.vm theMethod args0 = true := by decide +kernel
set_option maxRecDepth 65536 in
theorem w_heap : heapFits about1 = true := by decide +kernel
set_option maxRecDepth 65536 in
theorem w_runnable : about1.curStatus? = some .runnable := by decide +kernel
set_option maxRecDepth 65536 in
theorem w_alone : about1.alone = true := by decide +kernel
set_option maxRecDepth 65536 in
theorem w_named : about1.methodNamed? x = some theMethod := by decide +kernel
set_option maxRecDepth 65536 in
theorem w_hears : about1.hears theMethod below0 = true := by decide +kernel
set_option maxRecDepth 65536 in
theorem w_ripe : about1.ripe theMethod args0 below0 = true := by decide +kernel
theorem w_running : about1.status = .running := rfl
set_option maxRecDepth 65536 in
theorem w_room : about1.hasRoom e0.platform room_1 = true :=
  launch0.hasRoom_least _ room_1 (by decide +kernel) (by decide +kernel) (by decide +kernel) (by decide +kernel) (by decide +kernel) (by decide +kernel)
theorem allAtoms_all (ts : List Jvm.Cond) (a : Array Jvm.Value) (st : Jvm.State) : (allAtoms ts).before a st = ts.all (fun c => c.before a st) := by
  induction ts with
  | nil => rfl
  | cons c t ih =>
    show (Jvm.Cond.and c (allAtoms t)).before a st = _
    rw [Jvm.Cond.before_and, ih, List.all_cons]
def words1 : List Jvm.Cond := Jvm.Cond.code x code maxLocals ret :: tables_1
/-- a 'code' word, met by the world's own term for the bytes: nothing is compared byte by byte -/
theorem code_word {y : MethodName} {bytes : ByteArray} {mx : Nat} {rt : Option FieldType} {a : Array Value} {s : State} {m : MethodId} {meth : Method} {c : Code} (h1 : s.methodNamed? y = some m) (h2 : s.vm.method? m = some meth) (h3 : meth.code = some c) (h4 : c.code = bytes)
    (h5 : (c.maxLocals == mx && c.exceptionTable.isEmpty && decide (c.maxStack ≤ mostOperands) && decide (meth.sig.returnType = rt) && !meth.locks && decide (parseMethodDescriptor y.desc = some meth.sig)) = true) : (Jvm.Cond.code y bytes mx rt).before a s = true := by
  simp only [Bool.and_eq_true, beq_iff_eq, Bool.not_eq_true', decide_eq_true_eq] at h5
  obtain ⟨⟨⟨⟨⟨g1, g2⟩, g3⟩, g4⟩, g5⟩, g6⟩ := h5
  simp [Cond.before, Cond.holds, Cond.value, h1, h2, h3, h4, g1, g2, g3, g4, g5, g6]
def isCode : Jvm.Cond → Bool
  | .code _ _ _ _ => true
  | _ => false
theorem all_split {L : List Jvm.Cond} {P : Jvm.Cond → Bool} (h1 : L.all (fun c => isCode c || P c) = true) (h2 : ∀ c ∈ L.filter isCode, P c = true) : L.all P = true := by
  refine List.all_eq_true.mpr fun c hc => ?_
  have h := List.all_eq_true.mp h1 c hc
  rcases Bool.eq_false_or_eq_true (isCode c) with hi | hi
  · exact h2 c (List.mem_filter.mpr ⟨hc, hi⟩)
  · simpa [hi] using h
set_option maxRecDepth 65536 in
theorem w_c0 : (Jvm.Cond.code x code maxLocals ret).before args0 about1 = true := code_word (m := ⟨1, 1⟩) (meth := k1m1) (c := k1c1) (by decide +kernel) rfl rfl rfl (by decide +kernel)
set_option maxRecDepth 65536 in
theorem w_c1 : (Jvm.Cond.code ({ cls := "java/lang/Math", name := "abs", desc := "(J)J" } : Jvm.MethodName) jdk_29_method_61_code (2 : Nat) (Option.some Jvm.ClassFile.FieldType.long)).before args0 about1 = true := code_word (m := ⟨2, 1⟩) (meth := k2m1) (c := k2c1) (by decide +kernel) rfl rfl rfl (by decide +kernel)
set_option maxRecDepth 65536 in
theorem w_c2 : (Jvm.Cond.code ({ cls := "com/example/rumblecourt/rumblecourt/games/hungergaming/Creature", name := "<init>", desc := "(IDD)V" } : Jvm.MethodName) prog_9_method_1_code (6 : Nat) (Option.none : Option Jvm.ClassFile.FieldType)).before args0 about1 = true := code_word (m := ⟨3, 0⟩) (meth := k3m0) (c := k3c0) (by decide +kernel) rfl rfl rfl (by decide +kernel)
set_option maxRecDepth 65536 in
theorem w_c3 : (Jvm.Cond.code ({ cls := "java/lang/Object", name := "<init>", desc := "()V" } : Jvm.MethodName) object_method_1_code (1 : Nat) (Option.none : Option Jvm.ClassFile.FieldType)).before args0 about1 = true := code_word (m := ⟨0, 0⟩) (meth := k0m0) (c := k0c0) (by decide +kernel) rfl rfl rfl (by decide +kernel)
set_option maxRecDepth 65536 in
theorem w_c4 : (Jvm.Cond.code ({ cls := "com/example/rumblecourt/rumblecourt/games/hungergaming/Creature", name := "moveTo", desc := "(DD)V" } : Jvm.MethodName) prog_9_method_9_code (5 : Nat) (Option.none : Option Jvm.ClassFile.FieldType)).before args0 about1 = true := code_word (m := ⟨3, 1⟩) (meth := k3m1) (c := k3c1) (by decide +kernel) rfl rfl rfl (by decide +kernel)
set_option maxRecDepth 65536 in
theorem w_c5 : (Jvm.Cond.code ({ cls := "com/example/rumblecourt/rumblecourt/games/hungergaming/Creature", name := "within", desc := "(Lcom/example/rumblecourt/rumblecourt/games/hungergaming/Creature;D)Z" } : Jvm.MethodName) prog_9_method_10_code (8 : Nat) (Option.some Jvm.ClassFile.FieldType.boolean)).before args0 about1 = true := code_word (m := ⟨3, 2⟩) (meth := k3m2) (c := k3c2) (by decide +kernel) rfl rfl rfl (by decide +kernel)
def codes1 : List Jvm.Cond := [Jvm.Cond.code x code maxLocals ret, Jvm.Cond.code ({ cls := "java/lang/Math", name := "abs", desc := "(J)J" } : Jvm.MethodName) jdk_29_method_61_code (2 : Nat) (Option.some Jvm.ClassFile.FieldType.long), Jvm.Cond.code ({ cls := "com/example/rumblecourt/rumblecourt/games/hungergaming/Creature", name := "<init>", desc := "(IDD)V" } : Jvm.MethodName) prog_9_method_1_code (6 : Nat) (Option.none : Option Jvm.ClassFile.FieldType), Jvm.Cond.code ({ cls := "java/lang/Object", name := "<init>", desc := "()V" } : Jvm.MethodName) object_method_1_code (1 : Nat) (Option.none : Option Jvm.ClassFile.FieldType), Jvm.Cond.code ({ cls := "com/example/rumblecourt/rumblecourt/games/hungergaming/Creature", name := "moveTo", desc := "(DD)V" } : Jvm.MethodName) prog_9_method_9_code (5 : Nat) (Option.none : Option Jvm.ClassFile.FieldType), Jvm.Cond.code ({ cls := "com/example/rumblecourt/rumblecourt/games/hungergaming/Creature", name := "within", desc := "(Lcom/example/rumblecourt/rumblecourt/games/hungergaming/Creature;D)Z" } : Jvm.MethodName) prog_9_method_10_code (8 : Nat) (Option.some Jvm.ClassFile.FieldType.boolean)]
set_option maxRecDepth 65536 in
theorem codes_eq : words1.filter isCode = codes1 := rfl
theorem w_codes : ∀ c ∈ words1.filter isCode, c.before args0 about1 = true := by
  rw [codes_eq]
  intro c hc
  simp only [codes1, List.mem_cons, List.not_mem_nil, or_false] at hc
  rcases hc with rfl | rfl | rfl | rfl | rfl | rfl
  · exact w_c0
  · exact w_c1
  · exact w_c2
  · exact w_c3
  · exact w_c4
  · exact w_c5
set_option maxRecDepth 65536 in
theorem w_t1 : (words1.take 24).all (fun c => isCode c || c.before args0 about1) = true := by decide +kernel
set_option maxRecDepth 65536 in
theorem w_t2 : (words1.drop 24).all (fun c => isCode c || c.before args0 about1) = true := by decide +kernel
theorem w_tables : (allAtoms (Jvm.Cond.code x code maxLocals ret :: tables_1)).before args0 about1 = true := by
  rw [allAtoms_all]
  show words1.all (fun c => c.before args0 about1) = true
  refine all_split ?_ w_codes
  rw [← List.take_append_drop 24 words1, List.all_append, w_t1, w_t2]
  rfl
set_option maxRecDepth 65536 in
theorem w_case : (Jvm.Cond.and given_1 narrow_1).before args0 about1 = true := by decide +kernel
theorem w_applies : (headSpec (Jvm.Cond.code x code maxLocals ret :: tables_1) room_1).applies x e0.platform about1 = true :=
  (Spec.applies_iff w_frames).mpr ⟨w_running, w_runnable, w_alone, w_named, w_hears, w_ripe, w_room, w_tables⟩
theorem atStart : AtStart classFile x code maxLocals ret World_1 tables_1 room_1 Calls_1 rest_1 Pre_1 launch0 p0 e0 about1 theMethod args0 below0 :=
  ⟨lists_1, trivial, launch0.admits_env _ _ _, launch0.least_env, fairChoices_fair.cas, fairChoices_fair.clock, w_frames, w_args, w_heap, w_applies, trivial, trivial, w_case⟩
end start1
theorem witness_1 : WitnessClaimed_1 := ⟨start1.p0, start1.e0, start1.about1, start1.theMethod, start1.args0, start1.below0, start1.atStart⟩
end Jvm.Pilot.@@N@@
