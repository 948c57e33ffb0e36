import JvmDerived
import JvmDerived.Pilot.@@N@@Statement
import JvmDerived.Pilot.@@N@@Code
set_option linter.unusedVariables false
set_option linter.unusedSimpArgs false
@@BLOCK:NumsL.lean.txt@@
namespace Jvm.RoadKit
open Sem ClassFile Op Lib Jvm.Stand Jvm.Free Jvm.LawKit
section New
variable {p : Program} {l : Launch} {e : Env} {R : Room} {s : State} {m : MethodId} {args : Array Value} {below : List Frame} {meth : Method} {c : Code} {T : State} {locs : List Loc} {cells slots : Nat}
theorem retI (X : Stand p l e R s m args below meth c T locs cells slots) (hx : p.tables.exec = Jvm.exec) {pc : Nat} {Ls : Array Slot} {z : Int32} {rest : List Value} (hret : meth.sig.returnType = some .int) (hd : decode c.code pc = .ok (.ireturn, 1)) {fs : List Frame}
    (hl : ∀ (f : JFrame) (acts : List Action), f.method = m → f.locked = none → f.entered = [] → (doReturn e (T.setTop f) acts (some (.int z))).1 = T.setFrames fs) : Steps p.tables e below (T.setTop (mkF m pc Ls (.int z :: rest))) (T.setFrames fs) := by
  have hm' : T.vm.method? m = some meth := X.method'
  have hn : narrow .int (.int z) = .int z := rfl
  show Steps p.tables e below (T.setTop { method := m, pc := pc, locals := Ls, stack := _ :: rest, locked := none }) _
  jvm_step X.here [X.here.top, hx, hd, hm', hret, hn]
  first | (intro acts; rw [hl _ acts rfl rfl rfl]) | rw [hl _ _ rfl rfl rfl]
  exact Steps.refl _
end New
end Jvm.RoadKit
namespace Jvm.Pilot.@@N@@
open Jvm Jvm.ClassFile Sem Op Lib Jvm.Free Jvm.Stand Jvm.LawKit Jvm.RoadKit Bundle Jvm.Pilot.@@N@@.Jvm.D
def own_VA (Z : State) (h : Heap) (a : Addr) (ty : FieldType) (vs : List Value) : Prop := ∃ cl : Cell, Arr Z h a cl ty ∧ cl.slots = vs.toArray
theorem own_VA_new {Z : State} {h : Heap} {a : Addr} {cA : ClassId} {ty : FieldType} {n : Int32} {k : Nat} (A : Arr Z h a (newA cA ty n) ty) (hk : n.toNatClampNeg = k) : own_VA Z h a ty (List.replicate k (defaultValue ty)) := ⟨_, A, by show Array.replicate n.toNatClampNeg (defaultValue ty) = _; rw [hk]; simp⟩
theorem own_VA_set {Z : State} {h h' : Heap} {a : Addr} {ty : FieldType} {vs : List Value} {k : Nat} {v : Value} (A : own_VA Z h a ty vs) (W : Wr h h' a k v) : own_VA Z h' a ty (vs.set k v) := by
  obtain ⟨cl, A, e⟩ := A
  exact ⟨_, A.same W, by show cl.slots.setIfInBounds k v = _; rw [e]; simp⟩
theorem own_VA_other {Z : State} {h h' : Heap} {a b : Addr} {ty : FieldType} {vs : List Value} {k : Nat} {v : Value} (A : own_VA Z h b ty vs) (W : Wr h h' a k v) (hne : b ≠ a) : own_VA Z h' b ty vs := by
  obtain ⟨cl, A, e⟩ := A
  exact ⟨_, A.other W hne, e⟩
theorem own_VA_ext {Z : State} {h h' : Heap} {a : Addr} {ty : FieldType} {vs : List Value} (A : own_VA Z h a ty vs) (E : Ext h h') : own_VA Z h' a ty vs := by
  obtain ⟨cl, A, e⟩ := A
  exact ⟨_, A.ext E, e⟩
theorem own_VA_keep {Z : State} {h h' : Heap} {a : Addr} {ty : FieldType} {vs : List Value} {ws : List Addr} (A : own_VA Z h a ty vs) (K : Keep h h' ws) (hn : a ∉ ws) : own_VA Z h' a ty vs := by
  obtain ⟨cl, A, e⟩ := A
  exact ⟨cl, ⟨K.2.1 _ _ A.1 hn, A.2⟩, e⟩
theorem own_VA_lt {Z : State} {h : Heap} {a : Addr} {ty : FieldType} {vs : List Value} (A : own_VA Z h a ty vs) : a < h.size := by
  obtain ⟨cl, A, e⟩ := A
  exact A.lt
section OwnArr
variable {p : Program} {l : Launch} {e : Env} {R : Room} {s : State} {m : MethodId} {args : Array Value} {below : List Frame} {meth : Method} {c : Code} {T : State} {locs : List Loc} {cells slots : Nat} {Z : State} {h : Heap}
theorem own_stI (X : Stand p l e R s m args below meth c T locs cells slots) (hx : p.tables.exec = Jvm.exec) (hZ : Z.Warmed39 s.vm) (eT : T.heap = h) {a : Addr} {vs : List Value} (A : own_VA Z h a .int vs) {j : Int32} {k n : Nat} {x : Int32} (hn : vs.length = n) (hj : ¬ (j < 0 ∨ n ≤ j.toNatClampNeg)) (hk : j.toNatClampNeg = k) {g : JFrame} (hg : g.method = m) {rest : List Value} (hs : g.stack = .int x :: .int j :: .ref a :: rest) (hd : decode c.code g.pc = .ok (.iastore, 1)) :
    ∃ T' h', Stand p l e R s m args below meth c T' (locs ++ [⟨a, k⟩]) cells slots ∧ T'.heap = h' ∧ own_VA Z h' a .int (vs.set k (.int x)) ∧ Wr h h' a k (.int x) ∧ ∀ target, Steps p.tables e below (T'.setTop { g with pc := g.pc + 1, stack := rest }) target → Steps p.tables e below (T.setTop g) target := by
  subst hk
  obtain ⟨cl, A1, ec⟩ := A
  obtain ⟨T', h', X', e', W, st⟩ := stI X hx hZ eT A1 (j := j) (x := x) (by rw [ec]; simpa [hn] using hj) hg hs hd
  exact ⟨T', h', X', e', own_VA_set ⟨cl, A1, ec⟩ W, W, st⟩
theorem own_stJ (X : Stand p l e R s m args below meth c T locs cells slots) (hx : p.tables.exec = Jvm.exec) (hZ : Z.Warmed39 s.vm) (eT : T.heap = h) {a : Addr} {vs : List Value} (A : own_VA Z h a .long vs) {j : Int32} {k n : Nat} {x : Int64} (hn : vs.length = n) (hj : ¬ (j < 0 ∨ n ≤ j.toNatClampNeg)) (hk : j.toNatClampNeg = k) {g : JFrame} (hg : g.method = m) {rest : List Value} (hs : g.stack = .long x :: .int j :: .ref a :: rest) (hd : decode c.code g.pc = .ok (.lastore, 1)) :
    ∃ T' h', Stand p l e R s m args below meth c T' (locs ++ [⟨a, k⟩]) cells slots ∧ T'.heap = h' ∧ own_VA Z h' a .long (vs.set k (.long x)) ∧ Wr h h' a k (.long x) ∧ ∀ target, Steps p.tables e below (T'.setTop { g with pc := g.pc + 1, stack := rest }) target → Steps p.tables e below (T.setTop g) target := by
  subst hk
  obtain ⟨cl, A1, ec⟩ := A
  obtain ⟨T', h', X', e', W, st⟩ := stJ X hx hZ eT A1 (j := j) (x := x) (by rw [ec]; simpa [hn] using hj) hg hs hd
  exact ⟨T', h', X', e', own_VA_set ⟨cl, A1, ec⟩ W, W, st⟩
theorem own_ldI (X : Stand p l e R s m args below meth c T locs cells slots) (hx : p.tables.exec = Jvm.exec) (hZ : Z.Warmed39 s.vm) (eT : T.heap = h) {a : Addr} {vs : List Value} (A : own_VA Z h a .int vs) {j : Int32} {n : Nat} {v : Value} (hn : vs.length = n) (hj : ¬ (j < 0 ∨ n ≤ j.toNatClampNeg)) (hv : vs[j.toNatClampNeg]? = some v) {g : JFrame} (hg : g.method = m) {rest : List Value} (hs : g.stack = .int j :: .ref a :: rest) (hd : decode c.code g.pc = .ok (.iaload, 1)) :
    ∀ target, Steps p.tables e below (T.setTop { g with pc := g.pc + 1, stack := v :: rest }) target → Steps p.tables e below (T.setTop g) target := by
  obtain ⟨cl, A1, ec⟩ := A
  intro target k
  exact X.iaload hx (by rw [eT]; exact A1.1) (State.isArrayOf_alike hZ.alike A1.2.1) A1.2.2 (by rw [ec]; simpa [hn] using hj) (by rw [ec]; simpa using hv) hg hs hd target k
theorem own_ldJ (X : Stand p l e R s m args below meth c T locs cells slots) (hx : p.tables.exec = Jvm.exec) (hZ : Z.Warmed39 s.vm) (eT : T.heap = h) {a : Addr} {vs : List Value} (A : own_VA Z h a .long vs) {j : Int32} {n : Nat} {v : Value} (hn : vs.length = n) (hj : ¬ (j < 0 ∨ n ≤ j.toNatClampNeg)) (hv : vs[j.toNatClampNeg]? = some v) {g : JFrame} (hg : g.method = m) {rest : List Value} (hs : g.stack = .int j :: .ref a :: rest) (hd : decode c.code g.pc = .ok (.laload, 1)) :
    ∀ target, Steps p.tables e below (T.setTop { g with pc := g.pc + 1, stack := v :: rest }) target → Steps p.tables e below (T.setTop g) target := by
  obtain ⟨cl, A1, ec⟩ := A
  intro target k
  exact X.laload hx (by rw [eT]; exact A1.1) (State.isArrayOf_alike hZ.alike A1.2.1) A1.2.2 (by rw [ec]; simpa [hn] using hj) (by rw [ec]; simpa using hv) hg hs hd target k
theorem own_len (X : Stand p l e R s m args below meth c T locs cells slots) (hx : p.tables.exec = Jvm.exec) (hZ : Z.Warmed39 s.vm) (eT : T.heap = h) {a : Addr} {vs : List Value} {ty : FieldType} (A : own_VA Z h a ty vs) {n : Nat} {k : Int32} (hn : vs.length = n) (hk : n.toInt32 = k) {g : JFrame} (hg : g.method = m) {rest : List Value} (hs : g.stack = .ref a :: rest) (hd : decode c.code g.pc = .ok (.arraylength, 1)) :
    ∀ target, Steps p.tables e below (T.setTop { g with pc := g.pc + 1, stack := .int k :: rest }) target → Steps p.tables e below (T.setTop g) target := by
  obtain ⟨cl, A1, ec⟩ := A
  intro target q
  have z : cl.slots.size.toInt32 = k := by rw [ec, ← hk, ← hn]; simp
  refine X.arraylength hx (by rw [eT]; exact A1.1) (State.isArrayOf_alike hZ.alike A1.2.1) hg hs hd target ?_
  rw [z]; exact q
end OwnArr
theorem own_some {us : List Int32} {vs : List Value} (e : vs = us.map Value.int) {n i : Nat} (hn : vs.length = n) (h : i < n) : ∃ w : Int32, vs[i]? = some (.int w) := by
  subst e hn
  have h' : i < us.length := by simpa using h
  exact ⟨us[i], by simp [h']⟩
theorem own_idx {j : Int32} {n : Nat} (h0 : 0 ≤ j.toInt) (h1 : j.toInt < n) : ¬ (j < 0 ∨ n ≤ j.toNatClampNeg) := by
  have z : (0 : Int32).toInt = 0 := by decide
  intro q
  rcases q with q | q
  · rw [Int32.lt_iff_toInt_lt] at q; omega
  · have : j.toNatClampNeg = j.toInt.toNat := rfl
    omega
theorem own_lt {j : Int32} {n : Nat} (h : ¬ (j < 0 ∨ n ≤ j.toNatClampNeg)) : j.toNatClampNeg < n := Nat.lt_of_not_le fun q => h (Or.inr q)
theorem d1_0 : decode prog_43_method_4_code 0 = .ok (.bipush 100, 2) := by decide +kernel
theorem d1_2 : decode prog_43_method_4_code 2 = .ok (.istore_n 1, 1) := by decide +kernel
theorem d1_3 : decode prog_43_method_4_code 3 = .ok (.iconst 2, 1) := by decide +kernel
theorem d1_4 : decode prog_43_method_4_code 4 = .ok (.istore_n 2, 1) := by decide +kernel
theorem d1_5 : decode prog_43_method_4_code 5 = .ok (.iload_n 2, 1) := by decide +kernel
theorem d1_6 : decode prog_43_method_4_code 6 = .ok (.iload_n 0, 1) := by decide +kernel
theorem d1_7 : decode prog_43_method_4_code 7 = .ok (.if_icmp .gt 19, 3) := by decide +kernel
theorem d1_10 : decode prog_43_method_4_code 10 = .ok (.iload_n 1, 1) := by decide +kernel
theorem d1_11 : decode prog_43_method_4_code 11 = .ok (.ifCond .le 15, 3) := by decide +kernel
theorem d1_14 : decode prog_43_method_4_code 14 = .ok (.iload_n 1, 1) := by decide +kernel
theorem d1_15 : decode prog_43_method_4_code 15 = .ok (.iconst 4, 1) := by decide +kernel
theorem d1_16 : decode prog_43_method_4_code 16 = .ok (.imul, 1) := by decide +kernel
theorem d1_17 : decode prog_43_method_4_code 17 = .ok (.iconst 5, 1) := by decide +kernel
theorem d1_18 : decode prog_43_method_4_code 18 = .ok (.idiv, 1) := by decide +kernel
theorem d1_19 : decode prog_43_method_4_code 19 = .ok (.istore_n 1, 1) := by decide +kernel
theorem d1_20 : decode prog_43_method_4_code 20 = .ok (.iinc 2 1, 3) := by decide +kernel
theorem d1_23 : decode prog_43_method_4_code 23 = .ok (.goto (-18), 3) := by decide +kernel
theorem d1_26 : decode prog_43_method_4_code 26 = .ok (.iload_n 1, 1) := by decide +kernel
theorem d1_27 : decode prog_43_method_4_code 27 = .ok (.ireturn, 1) := by decide +kernel
theorem pn_1 : plainName "com/example/rumblecourt/rumblecourt/referee/Scoring" = true := by first | (simp [plainName, overriddenIn]; done) | decide +kernel
def f1_0 (x0 : Int32) : Int32 := if x0 < (2 : Int32) then (100 : Int32) else (if x0 < (3 : Int32) then (80 : Int32) else (if x0 < (4 : Int32) then (64 : Int32) else (if x0 < (5 : Int32) then (51 : Int32) else (if x0 < (6 : Int32) then (40 : Int32) else (if x0 < (7 : Int32) then (32 : Int32) else (if x0 < (8 : Int32) then (25 : Int32) else (if x0 < (9 : Int32) then (20 : Int32) else (if x0 < (10 : Int32) then (16 : Int32) else (if x0 < (11 : Int32) then (12 : Int32) else (if x0 < (12 : Int32) then (9 : Int32) else (if x0 < (13 : Int32) then (7 : Int32) else (if x0 < (14 : Int32) then (5 : Int32) else (if x0 < (15 : Int32) then (4 : Int32) else (if x0 < (16 : Int32) then (3 : Int32) else (if x0 < (17 : Int32) then (2 : Int32) else (if x0 < (18 : Int32) then (1 : Int32) else (if x0 < (19 : Int32) then (0 : Int32) else (0 : Int32))))))))))))))))))
set_option maxRecDepth 65536 in
set_option maxHeartbeats 40000000 in
theorem b1_0 {p : Program} {l : Launch} {e : Env} {R : Room} {s : State} {m : MethodId} {args : Array Value} {below : List Frame} {meth : Method} {c : Code} {T : State} {locs : List Loc} {cells slots : Nat} (X : Stand p l e R s m args below meth c T locs cells slots) (hx : p.tables.exec = Jvm.exec) (hby : c.code = prog_43_method_4_code) (hown : s.vm.findClass "com/example/rumblecourt/rumblecourt/referee/Scoring" = some m.cls) (hret : meth.sig.returnType = some .int) {fs : List Frame} {z : Int32} (hl : ∀ (f : JFrame) (acts : List Action), f.method = m → f.locked = none → f.entered = [] → (doReturn e (T.setTop f) acts (some (.int z))).1 = T.setFrames fs) (x0 : Int32) (hz : f1_0 x0 = z) :
    Steps p.tables e below (T.setTop (mkF m 0 #[.val (.int x0), .unset, .unset] [])) (T.setFrames fs) := by
  unfold f1_0 at hz
  refine XS.bipush X.here hx rfl (hb hby d1_0) ?_
  show Steps p.tables e below (T.setTop (mkF m 2 #[.val (.int x0), .unset, .unset] [(.int (100 : Int32))])) _
  refine XS.istoreN X.here hx rfl (hb hby d1_2) rfl (l' := #[.val (.int x0), .val (.int (100 : Int32)), .unset]) rfl ?_
  show Steps p.tables e below (T.setTop (mkF m 3 #[.val (.int x0), .val (.int (100 : Int32)), .unset] [])) _
  refine XS.iconst X.here hx rfl (hb hby d1_3) ?_
  show Steps p.tables e below (T.setTop (mkF m 4 #[.val (.int x0), .val (.int (100 : Int32)), .unset] [(.int (2 : Int32))])) _
  refine XS.istoreN X.here hx rfl (hb hby d1_4) rfl (l' := #[.val (.int x0), .val (.int (100 : Int32)), .val (.int (2 : Int32))]) rfl ?_
  show Steps p.tables e below (T.setTop (mkF m 5 #[.val (.int x0), .val (.int (100 : Int32)), .val (.int (2 : Int32))] [])) _
  refine XS.iloadN X.here hx rfl (hb hby d1_5) rfl ?_
  show Steps p.tables e below (T.setTop (mkF m 6 #[.val (.int x0), .val (.int (100 : Int32)), .val (.int (2 : Int32))] [(.int (2 : Int32))])) _
  refine XS.iloadN X.here hx rfl (hb hby d1_6) rfl ?_
  show Steps p.tables e below (T.setTop (mkF m 7 #[.val (.int x0), .val (.int (100 : Int32)), .val (.int (2 : Int32))] [(.int x0), (.int (2 : Int32))])) _
  by_cases h7_7 : x0 < (2 : Int32)
  · rw [if_pos h7_7] at hz
    refine XS.icmpYes X.here hx rfl (pc0 := 7) (pc' := 26) rfl (hb hby d1_7) rfl (tlt h7_7).2.2.1 (by decide) (by decide) ?_
    show Steps p.tables e below (T.setTop (mkF m 26 #[.val (.int x0), .val (.int (100 : Int32)), .val (.int (2 : Int32))] [])) _
    refine XS.iloadN X.here hx rfl (hb hby d1_26) rfl ?_
    show Steps p.tables e below (T.setTop (mkF m 27 #[.val (.int x0), .val (.int (100 : Int32)), .val (.int (2 : Int32))] [(.int (100 : Int32))])) _
    subst hz
    exact retI X hx hret (hb hby d1_27) hl
  · rw [if_neg h7_7] at hz
    refine XS.icmpNo X.here hx rfl (hb hby d1_7) rfl (flt h7_7).2.2.1 ?_
    show Steps p.tables e below (T.setTop (mkF m 10 #[.val (.int x0), .val (.int (100 : Int32)), .val (.int (2 : Int32))] [])) _
    refine XS.iloadN X.here hx rfl (hb hby d1_10) rfl ?_
    show Steps p.tables e below (T.setTop (mkF m 11 #[.val (.int x0), .val (.int (100 : Int32)), .val (.int (2 : Int32))] [(.int (100 : Int32))])) _
    refine XS.ifNo X.here hx rfl (hb hby d1_11) rfl ((if0 _ _).trans (tlt (by decide : (0 : Int32) < (100 : Int32))).2.2.2) ?_
    show Steps p.tables e below (T.setTop (mkF m 14 #[.val (.int x0), .val (.int (100 : Int32)), .val (.int (2 : Int32))] [])) _
    refine XS.iloadN X.here hx rfl (hb hby d1_14) rfl ?_
    show Steps p.tables e below (T.setTop (mkF m 15 #[.val (.int x0), .val (.int (100 : Int32)), .val (.int (2 : Int32))] [(.int (100 : Int32))])) _
    refine XS.iconst X.here hx rfl (hb hby d1_15) ?_
    show Steps p.tables e below (T.setTop (mkF m 16 #[.val (.int x0), .val (.int (100 : Int32)), .val (.int (2 : Int32))] [(.int (4 : Int32)), (.int (100 : Int32))])) _
    refine XS.imul X.here hx rfl (hb hby d1_16) rfl ?_
    show Steps p.tables e below (T.setTop (mkF m 17 #[.val (.int x0), .val (.int (100 : Int32)), .val (.int (2 : Int32))] [(.int (400 : Int32))])) _
    refine XS.iconst X.here hx rfl (hb hby d1_17) ?_
    show Steps p.tables e below (T.setTop (mkF m 18 #[.val (.int x0), .val (.int (100 : Int32)), .val (.int (2 : Int32))] [(.int (5 : Int32)), (.int (400 : Int32))])) _
    refine XS.idiv X.here hx rfl (hb hby d1_18) rfl (by decide) ?_
    show Steps p.tables e below (T.setTop (mkF m 19 #[.val (.int x0), .val (.int (100 : Int32)), .val (.int (2 : Int32))] [(.int (80 : Int32))])) _
    refine XS.istoreN X.here hx rfl (hb hby d1_19) rfl (l' := #[.val (.int x0), .val (.int (80 : Int32)), .val (.int (2 : Int32))]) rfl ?_
    show Steps p.tables e below (T.setTop (mkF m 20 #[.val (.int x0), .val (.int (80 : Int32)), .val (.int (2 : Int32))] [])) _
    refine XS.iinc X.here hx rfl (hb hby d1_20) rfl (l' := #[.val (.int x0), .val (.int (80 : Int32)), .val (.int (3 : Int32))]) rfl ?_
    show Steps p.tables e below (T.setTop (mkF m 23 #[.val (.int x0), .val (.int (80 : Int32)), .val (.int (3 : Int32))] [])) _
    refine XS.goto X.here hx rfl (pc0 := 23) (pc' := 5) rfl (hb hby d1_23) (by decide) (by decide) ?_
    show Steps p.tables e below (T.setTop (mkF m 5 #[.val (.int x0), .val (.int (80 : Int32)), .val (.int (3 : Int32))] [])) _
    refine XS.iloadN X.here hx rfl (hb hby d1_5) rfl ?_
    show Steps p.tables e below (T.setTop (mkF m 6 #[.val (.int x0), .val (.int (80 : Int32)), .val (.int (3 : Int32))] [(.int (3 : Int32))])) _
    refine XS.iloadN X.here hx rfl (hb hby d1_6) rfl ?_
    show Steps p.tables e below (T.setTop (mkF m 7 #[.val (.int x0), .val (.int (80 : Int32)), .val (.int (3 : Int32))] [(.int x0), (.int (3 : Int32))])) _
    by_cases h7_22 : x0 < (3 : Int32)
    · rw [if_pos h7_22] at hz
      refine XS.icmpYes X.here hx rfl (pc0 := 7) (pc' := 26) rfl (hb hby d1_7) rfl (tlt h7_22).2.2.1 (by decide) (by decide) ?_
      show Steps p.tables e below (T.setTop (mkF m 26 #[.val (.int x0), .val (.int (80 : Int32)), .val (.int (3 : Int32))] [])) _
      refine XS.iloadN X.here hx rfl (hb hby d1_26) rfl ?_
      show Steps p.tables e below (T.setTop (mkF m 27 #[.val (.int x0), .val (.int (80 : Int32)), .val (.int (3 : Int32))] [(.int (80 : Int32))])) _
      subst hz
      exact retI X hx hret (hb hby d1_27) hl
    · rw [if_neg h7_22] at hz
      refine XS.icmpNo X.here hx rfl (hb hby d1_7) rfl (flt h7_22).2.2.1 ?_
      show Steps p.tables e below (T.setTop (mkF m 10 #[.val (.int x0), .val (.int (80 : Int32)), .val (.int (3 : Int32))] [])) _
      refine XS.iloadN X.here hx rfl (hb hby d1_10) rfl ?_
      show Steps p.tables e below (T.setTop (mkF m 11 #[.val (.int x0), .val (.int (80 : Int32)), .val (.int (3 : Int32))] [(.int (80 : Int32))])) _
      refine XS.ifNo X.here hx rfl (hb hby d1_11) rfl ((if0 _ _).trans (tlt (by decide : (0 : Int32) < (80 : Int32))).2.2.2) ?_
      show Steps p.tables e below (T.setTop (mkF m 14 #[.val (.int x0), .val (.int (80 : Int32)), .val (.int (3 : Int32))] [])) _
      refine XS.iloadN X.here hx rfl (hb hby d1_14) rfl ?_
      show Steps p.tables e below (T.setTop (mkF m 15 #[.val (.int x0), .val (.int (80 : Int32)), .val (.int (3 : Int32))] [(.int (80 : Int32))])) _
      refine XS.iconst X.here hx rfl (hb hby d1_15) ?_
      show Steps p.tables e below (T.setTop (mkF m 16 #[.val (.int x0), .val (.int (80 : Int32)), .val (.int (3 : Int32))] [(.int (4 : Int32)), (.int (80 : Int32))])) _
      refine XS.imul X.here hx rfl (hb hby d1_16) rfl ?_
      show Steps p.tables e below (T.setTop (mkF m 17 #[.val (.int x0), .val (.int (80 : Int32)), .val (.int (3 : Int32))] [(.int (320 : Int32))])) _
      refine XS.iconst X.here hx rfl (hb hby d1_17) ?_
      show Steps p.tables e below (T.setTop (mkF m 18 #[.val (.int x0), .val (.int (80 : Int32)), .val (.int (3 : Int32))] [(.int (5 : Int32)), (.int (320 : Int32))])) _
      refine XS.idiv X.here hx rfl (hb hby d1_18) rfl (by decide) ?_
      show Steps p.tables e below (T.setTop (mkF m 19 #[.val (.int x0), .val (.int (80 : Int32)), .val (.int (3 : Int32))] [(.int (64 : Int32))])) _
      refine XS.istoreN X.here hx rfl (hb hby d1_19) rfl (l' := #[.val (.int x0), .val (.int (64 : Int32)), .val (.int (3 : Int32))]) rfl ?_
      show Steps p.tables e below (T.setTop (mkF m 20 #[.val (.int x0), .val (.int (64 : Int32)), .val (.int (3 : Int32))] [])) _
      refine XS.iinc X.here hx rfl (hb hby d1_20) rfl (l' := #[.val (.int x0), .val (.int (64 : Int32)), .val (.int (4 : Int32))]) rfl ?_
      show Steps p.tables e below (T.setTop (mkF m 23 #[.val (.int x0), .val (.int (64 : Int32)), .val (.int (4 : Int32))] [])) _
      refine XS.goto X.here hx rfl (pc0 := 23) (pc' := 5) rfl (hb hby d1_23) (by decide) (by decide) ?_
      show Steps p.tables e below (T.setTop (mkF m 5 #[.val (.int x0), .val (.int (64 : Int32)), .val (.int (4 : Int32))] [])) _
      refine XS.iloadN X.here hx rfl (hb hby d1_5) rfl ?_
      show Steps p.tables e below (T.setTop (mkF m 6 #[.val (.int x0), .val (.int (64 : Int32)), .val (.int (4 : Int32))] [(.int (4 : Int32))])) _
      refine XS.iloadN X.here hx rfl (hb hby d1_6) rfl ?_
      show Steps p.tables e below (T.setTop (mkF m 7 #[.val (.int x0), .val (.int (64 : Int32)), .val (.int (4 : Int32))] [(.int x0), (.int (4 : Int32))])) _
      by_cases h7_37 : x0 < (4 : Int32)
      · rw [if_pos h7_37] at hz
        refine XS.icmpYes X.here hx rfl (pc0 := 7) (pc' := 26) rfl (hb hby d1_7) rfl (tlt h7_37).2.2.1 (by decide) (by decide) ?_
        show Steps p.tables e below (T.setTop (mkF m 26 #[.val (.int x0), .val (.int (64 : Int32)), .val (.int (4 : Int32))] [])) _
        refine XS.iloadN X.here hx rfl (hb hby d1_26) rfl ?_
        show Steps p.tables e below (T.setTop (mkF m 27 #[.val (.int x0), .val (.int (64 : Int32)), .val (.int (4 : Int32))] [(.int (64 : Int32))])) _
        subst hz
        exact retI X hx hret (hb hby d1_27) hl
      · rw [if_neg h7_37] at hz
        refine XS.icmpNo X.here hx rfl (hb hby d1_7) rfl (flt h7_37).2.2.1 ?_
        show Steps p.tables e below (T.setTop (mkF m 10 #[.val (.int x0), .val (.int (64 : Int32)), .val (.int (4 : Int32))] [])) _
        refine XS.iloadN X.here hx rfl (hb hby d1_10) rfl ?_
        show Steps p.tables e below (T.setTop (mkF m 11 #[.val (.int x0), .val (.int (64 : Int32)), .val (.int (4 : Int32))] [(.int (64 : Int32))])) _
        refine XS.ifNo X.here hx rfl (hb hby d1_11) rfl ((if0 _ _).trans (tlt (by decide : (0 : Int32) < (64 : Int32))).2.2.2) ?_
        show Steps p.tables e below (T.setTop (mkF m 14 #[.val (.int x0), .val (.int (64 : Int32)), .val (.int (4 : Int32))] [])) _
        refine XS.iloadN X.here hx rfl (hb hby d1_14) rfl ?_
        show Steps p.tables e below (T.setTop (mkF m 15 #[.val (.int x0), .val (.int (64 : Int32)), .val (.int (4 : Int32))] [(.int (64 : Int32))])) _
        refine XS.iconst X.here hx rfl (hb hby d1_15) ?_
        show Steps p.tables e below (T.setTop (mkF m 16 #[.val (.int x0), .val (.int (64 : Int32)), .val (.int (4 : Int32))] [(.int (4 : Int32)), (.int (64 : Int32))])) _
        refine XS.imul X.here hx rfl (hb hby d1_16) rfl ?_
        show Steps p.tables e below (T.setTop (mkF m 17 #[.val (.int x0), .val (.int (64 : Int32)), .val (.int (4 : Int32))] [(.int (256 : Int32))])) _
        refine XS.iconst X.here hx rfl (hb hby d1_17) ?_
        show Steps p.tables e below (T.setTop (mkF m 18 #[.val (.int x0), .val (.int (64 : Int32)), .val (.int (4 : Int32))] [(.int (5 : Int32)), (.int (256 : Int32))])) _
        refine XS.idiv X.here hx rfl (hb hby d1_18) rfl (by decide) ?_
        show Steps p.tables e below (T.setTop (mkF m 19 #[.val (.int x0), .val (.int (64 : Int32)), .val (.int (4 : Int32))] [(.int (51 : Int32))])) _
        refine XS.istoreN X.here hx rfl (hb hby d1_19) rfl (l' := #[.val (.int x0), .val (.int (51 : Int32)), .val (.int (4 : Int32))]) rfl ?_
        show Steps p.tables e below (T.setTop (mkF m 20 #[.val (.int x0), .val (.int (51 : Int32)), .val (.int (4 : Int32))] [])) _
        refine XS.iinc X.here hx rfl (hb hby d1_20) rfl (l' := #[.val (.int x0), .val (.int (51 : Int32)), .val (.int (5 : Int32))]) rfl ?_
        show Steps p.tables e below (T.setTop (mkF m 23 #[.val (.int x0), .val (.int (51 : Int32)), .val (.int (5 : Int32))] [])) _
        refine XS.goto X.here hx rfl (pc0 := 23) (pc' := 5) rfl (hb hby d1_23) (by decide) (by decide) ?_
        show Steps p.tables e below (T.setTop (mkF m 5 #[.val (.int x0), .val (.int (51 : Int32)), .val (.int (5 : Int32))] [])) _
        refine XS.iloadN X.here hx rfl (hb hby d1_5) rfl ?_
        show Steps p.tables e below (T.setTop (mkF m 6 #[.val (.int x0), .val (.int (51 : Int32)), .val (.int (5 : Int32))] [(.int (5 : Int32))])) _
        refine XS.iloadN X.here hx rfl (hb hby d1_6) rfl ?_
        show Steps p.tables e below (T.setTop (mkF m 7 #[.val (.int x0), .val (.int (51 : Int32)), .val (.int (5 : Int32))] [(.int x0), (.int (5 : Int32))])) _
        by_cases h7_52 : x0 < (5 : Int32)
        · rw [if_pos h7_52] at hz
          refine XS.icmpYes X.here hx rfl (pc0 := 7) (pc' := 26) rfl (hb hby d1_7) rfl (tlt h7_52).2.2.1 (by decide) (by decide) ?_
          show Steps p.tables e below (T.setTop (mkF m 26 #[.val (.int x0), .val (.int (51 : Int32)), .val (.int (5 : Int32))] [])) _
          refine XS.iloadN X.here hx rfl (hb hby d1_26) rfl ?_
          show Steps p.tables e below (T.setTop (mkF m 27 #[.val (.int x0), .val (.int (51 : Int32)), .val (.int (5 : Int32))] [(.int (51 : Int32))])) _
          subst hz
          exact retI X hx hret (hb hby d1_27) hl
        · rw [if_neg h7_52] at hz
          refine XS.icmpNo X.here hx rfl (hb hby d1_7) rfl (flt h7_52).2.2.1 ?_
          show Steps p.tables e below (T.setTop (mkF m 10 #[.val (.int x0), .val (.int (51 : Int32)), .val (.int (5 : Int32))] [])) _
          refine XS.iloadN X.here hx rfl (hb hby d1_10) rfl ?_
          show Steps p.tables e below (T.setTop (mkF m 11 #[.val (.int x0), .val (.int (51 : Int32)), .val (.int (5 : Int32))] [(.int (51 : Int32))])) _
          refine XS.ifNo X.here hx rfl (hb hby d1_11) rfl ((if0 _ _).trans (tlt (by decide : (0 : Int32) < (51 : Int32))).2.2.2) ?_
          show Steps p.tables e below (T.setTop (mkF m 14 #[.val (.int x0), .val (.int (51 : Int32)), .val (.int (5 : Int32))] [])) _
          refine XS.iloadN X.here hx rfl (hb hby d1_14) rfl ?_
          show Steps p.tables e below (T.setTop (mkF m 15 #[.val (.int x0), .val (.int (51 : Int32)), .val (.int (5 : Int32))] [(.int (51 : Int32))])) _
          refine XS.iconst X.here hx rfl (hb hby d1_15) ?_
          show Steps p.tables e below (T.setTop (mkF m 16 #[.val (.int x0), .val (.int (51 : Int32)), .val (.int (5 : Int32))] [(.int (4 : Int32)), (.int (51 : Int32))])) _
          refine XS.imul X.here hx rfl (hb hby d1_16) rfl ?_
          show Steps p.tables e below (T.setTop (mkF m 17 #[.val (.int x0), .val (.int (51 : Int32)), .val (.int (5 : Int32))] [(.int (204 : Int32))])) _
          refine XS.iconst X.here hx rfl (hb hby d1_17) ?_
          show Steps p.tables e below (T.setTop (mkF m 18 #[.val (.int x0), .val (.int (51 : Int32)), .val (.int (5 : Int32))] [(.int (5 : Int32)), (.int (204 : Int32))])) _
          refine XS.idiv X.here hx rfl (hb hby d1_18) rfl (by decide) ?_
          show Steps p.tables e below (T.setTop (mkF m 19 #[.val (.int x0), .val (.int (51 : Int32)), .val (.int (5 : Int32))] [(.int (40 : Int32))])) _
          refine XS.istoreN X.here hx rfl (hb hby d1_19) rfl (l' := #[.val (.int x0), .val (.int (40 : Int32)), .val (.int (5 : Int32))]) rfl ?_
          show Steps p.tables e below (T.setTop (mkF m 20 #[.val (.int x0), .val (.int (40 : Int32)), .val (.int (5 : Int32))] [])) _
          refine XS.iinc X.here hx rfl (hb hby d1_20) rfl (l' := #[.val (.int x0), .val (.int (40 : Int32)), .val (.int (6 : Int32))]) rfl ?_
          show Steps p.tables e below (T.setTop (mkF m 23 #[.val (.int x0), .val (.int (40 : Int32)), .val (.int (6 : Int32))] [])) _
          refine XS.goto X.here hx rfl (pc0 := 23) (pc' := 5) rfl (hb hby d1_23) (by decide) (by decide) ?_
          show Steps p.tables e below (T.setTop (mkF m 5 #[.val (.int x0), .val (.int (40 : Int32)), .val (.int (6 : Int32))] [])) _
          refine XS.iloadN X.here hx rfl (hb hby d1_5) rfl ?_
          show Steps p.tables e below (T.setTop (mkF m 6 #[.val (.int x0), .val (.int (40 : Int32)), .val (.int (6 : Int32))] [(.int (6 : Int32))])) _
          refine XS.iloadN X.here hx rfl (hb hby d1_6) rfl ?_
          show Steps p.tables e below (T.setTop (mkF m 7 #[.val (.int x0), .val (.int (40 : Int32)), .val (.int (6 : Int32))] [(.int x0), (.int (6 : Int32))])) _
          by_cases h7_67 : x0 < (6 : Int32)
          · rw [if_pos h7_67] at hz
            refine XS.icmpYes X.here hx rfl (pc0 := 7) (pc' := 26) rfl (hb hby d1_7) rfl (tlt h7_67).2.2.1 (by decide) (by decide) ?_
            show Steps p.tables e below (T.setTop (mkF m 26 #[.val (.int x0), .val (.int (40 : Int32)), .val (.int (6 : Int32))] [])) _
            refine XS.iloadN X.here hx rfl (hb hby d1_26) rfl ?_
            show Steps p.tables e below (T.setTop (mkF m 27 #[.val (.int x0), .val (.int (40 : Int32)), .val (.int (6 : Int32))] [(.int (40 : Int32))])) _
            subst hz
            exact retI X hx hret (hb hby d1_27) hl
          · rw [if_neg h7_67] at hz
            refine XS.icmpNo X.here hx rfl (hb hby d1_7) rfl (flt h7_67).2.2.1 ?_
            show Steps p.tables e below (T.setTop (mkF m 10 #[.val (.int x0), .val (.int (40 : Int32)), .val (.int (6 : Int32))] [])) _
            refine XS.iloadN X.here hx rfl (hb hby d1_10) rfl ?_
            show Steps p.tables e below (T.setTop (mkF m 11 #[.val (.int x0), .val (.int (40 : Int32)), .val (.int (6 : Int32))] [(.int (40 : Int32))])) _
            refine XS.ifNo X.here hx rfl (hb hby d1_11) rfl ((if0 _ _).trans (tlt (by decide : (0 : Int32) < (40 : Int32))).2.2.2) ?_
            show Steps p.tables e below (T.setTop (mkF m 14 #[.val (.int x0), .val (.int (40 : Int32)), .val (.int (6 : Int32))] [])) _
            refine XS.iloadN X.here hx rfl (hb hby d1_14) rfl ?_
            show Steps p.tables e below (T.setTop (mkF m 15 #[.val (.int x0), .val (.int (40 : Int32)), .val (.int (6 : Int32))] [(.int (40 : Int32))])) _
            refine XS.iconst X.here hx rfl (hb hby d1_15) ?_
            show Steps p.tables e below (T.setTop (mkF m 16 #[.val (.int x0), .val (.int (40 : Int32)), .val (.int (6 : Int32))] [(.int (4 : Int32)), (.int (40 : Int32))])) _
            refine XS.imul X.here hx rfl (hb hby d1_16) rfl ?_
            show Steps p.tables e below (T.setTop (mkF m 17 #[.val (.int x0), .val (.int (40 : Int32)), .val (.int (6 : Int32))] [(.int (160 : Int32))])) _
            refine XS.iconst X.here hx rfl (hb hby d1_17) ?_
            show Steps p.tables e below (T.setTop (mkF m 18 #[.val (.int x0), .val (.int (40 : Int32)), .val (.int (6 : Int32))] [(.int (5 : Int32)), (.int (160 : Int32))])) _
            refine XS.idiv X.here hx rfl (hb hby d1_18) rfl (by decide) ?_
            show Steps p.tables e below (T.setTop (mkF m 19 #[.val (.int x0), .val (.int (40 : Int32)), .val (.int (6 : Int32))] [(.int (32 : Int32))])) _
            refine XS.istoreN X.here hx rfl (hb hby d1_19) rfl (l' := #[.val (.int x0), .val (.int (32 : Int32)), .val (.int (6 : Int32))]) rfl ?_
            show Steps p.tables e below (T.setTop (mkF m 20 #[.val (.int x0), .val (.int (32 : Int32)), .val (.int (6 : Int32))] [])) _
            refine XS.iinc X.here hx rfl (hb hby d1_20) rfl (l' := #[.val (.int x0), .val (.int (32 : Int32)), .val (.int (7 : Int32))]) rfl ?_
            show Steps p.tables e below (T.setTop (mkF m 23 #[.val (.int x0), .val (.int (32 : Int32)), .val (.int (7 : Int32))] [])) _
            refine XS.goto X.here hx rfl (pc0 := 23) (pc' := 5) rfl (hb hby d1_23) (by decide) (by decide) ?_
            show Steps p.tables e below (T.setTop (mkF m 5 #[.val (.int x0), .val (.int (32 : Int32)), .val (.int (7 : Int32))] [])) _
            refine XS.iloadN X.here hx rfl (hb hby d1_5) rfl ?_
            show Steps p.tables e below (T.setTop (mkF m 6 #[.val (.int x0), .val (.int (32 : Int32)), .val (.int (7 : Int32))] [(.int (7 : Int32))])) _
            refine XS.iloadN X.here hx rfl (hb hby d1_6) rfl ?_
            show Steps p.tables e below (T.setTop (mkF m 7 #[.val (.int x0), .val (.int (32 : Int32)), .val (.int (7 : Int32))] [(.int x0), (.int (7 : Int32))])) _
            by_cases h7_82 : x0 < (7 : Int32)
            · rw [if_pos h7_82] at hz
              refine XS.icmpYes X.here hx rfl (pc0 := 7) (pc' := 26) rfl (hb hby d1_7) rfl (tlt h7_82).2.2.1 (by decide) (by decide) ?_
              show Steps p.tables e below (T.setTop (mkF m 26 #[.val (.int x0), .val (.int (32 : Int32)), .val (.int (7 : Int32))] [])) _
              refine XS.iloadN X.here hx rfl (hb hby d1_26) rfl ?_
              show Steps p.tables e below (T.setTop (mkF m 27 #[.val (.int x0), .val (.int (32 : Int32)), .val (.int (7 : Int32))] [(.int (32 : Int32))])) _
              subst hz
              exact retI X hx hret (hb hby d1_27) hl
            · rw [if_neg h7_82] at hz
              refine XS.icmpNo X.here hx rfl (hb hby d1_7) rfl (flt h7_82).2.2.1 ?_
              show Steps p.tables e below (T.setTop (mkF m 10 #[.val (.int x0), .val (.int (32 : Int32)), .val (.int (7 : Int32))] [])) _
              refine XS.iloadN X.here hx rfl (hb hby d1_10) rfl ?_
              show Steps p.tables e below (T.setTop (mkF m 11 #[.val (.int x0), .val (.int (32 : Int32)), .val (.int (7 : Int32))] [(.int (32 : Int32))])) _
              refine XS.ifNo X.here hx rfl (hb hby d1_11) rfl ((if0 _ _).trans (tlt (by decide : (0 : Int32) < (32 : Int32))).2.2.2) ?_
              show Steps p.tables e below (T.setTop (mkF m 14 #[.val (.int x0), .val (.int (32 : Int32)), .val (.int (7 : Int32))] [])) _
              refine XS.iloadN X.here hx rfl (hb hby d1_14) rfl ?_
              show Steps p.tables e below (T.setTop (mkF m 15 #[.val (.int x0), .val (.int (32 : Int32)), .val (.int (7 : Int32))] [(.int (32 : Int32))])) _
              refine XS.iconst X.here hx rfl (hb hby d1_15) ?_
              show Steps p.tables e below (T.setTop (mkF m 16 #[.val (.int x0), .val (.int (32 : Int32)), .val (.int (7 : Int32))] [(.int (4 : Int32)), (.int (32 : Int32))])) _
              refine XS.imul X.here hx rfl (hb hby d1_16) rfl ?_
              show Steps p.tables e below (T.setTop (mkF m 17 #[.val (.int x0), .val (.int (32 : Int32)), .val (.int (7 : Int32))] [(.int (128 : Int32))])) _
              refine XS.iconst X.here hx rfl (hb hby d1_17) ?_
              show Steps p.tables e below (T.setTop (mkF m 18 #[.val (.int x0), .val (.int (32 : Int32)), .val (.int (7 : Int32))] [(.int (5 : Int32)), (.int (128 : Int32))])) _
              refine XS.idiv X.here hx rfl (hb hby d1_18) rfl (by decide) ?_
              show Steps p.tables e below (T.setTop (mkF m 19 #[.val (.int x0), .val (.int (32 : Int32)), .val (.int (7 : Int32))] [(.int (25 : Int32))])) _
              refine XS.istoreN X.here hx rfl (hb hby d1_19) rfl (l' := #[.val (.int x0), .val (.int (25 : Int32)), .val (.int (7 : Int32))]) rfl ?_
              show Steps p.tables e below (T.setTop (mkF m 20 #[.val (.int x0), .val (.int (25 : Int32)), .val (.int (7 : Int32))] [])) _
              refine XS.iinc X.here hx rfl (hb hby d1_20) rfl (l' := #[.val (.int x0), .val (.int (25 : Int32)), .val (.int (8 : Int32))]) rfl ?_
              show Steps p.tables e below (T.setTop (mkF m 23 #[.val (.int x0), .val (.int (25 : Int32)), .val (.int (8 : Int32))] [])) _
              refine XS.goto X.here hx rfl (pc0 := 23) (pc' := 5) rfl (hb hby d1_23) (by decide) (by decide) ?_
              show Steps p.tables e below (T.setTop (mkF m 5 #[.val (.int x0), .val (.int (25 : Int32)), .val (.int (8 : Int32))] [])) _
              refine XS.iloadN X.here hx rfl (hb hby d1_5) rfl ?_
              show Steps p.tables e below (T.setTop (mkF m 6 #[.val (.int x0), .val (.int (25 : Int32)), .val (.int (8 : Int32))] [(.int (8 : Int32))])) _
              refine XS.iloadN X.here hx rfl (hb hby d1_6) rfl ?_
              show Steps p.tables e below (T.setTop (mkF m 7 #[.val (.int x0), .val (.int (25 : Int32)), .val (.int (8 : Int32))] [(.int x0), (.int (8 : Int32))])) _
              by_cases h7_97 : x0 < (8 : Int32)
              · rw [if_pos h7_97] at hz
                refine XS.icmpYes X.here hx rfl (pc0 := 7) (pc' := 26) rfl (hb hby d1_7) rfl (tlt h7_97).2.2.1 (by decide) (by decide) ?_
                show Steps p.tables e below (T.setTop (mkF m 26 #[.val (.int x0), .val (.int (25 : Int32)), .val (.int (8 : Int32))] [])) _
                refine XS.iloadN X.here hx rfl (hb hby d1_26) rfl ?_
                show Steps p.tables e below (T.setTop (mkF m 27 #[.val (.int x0), .val (.int (25 : Int32)), .val (.int (8 : Int32))] [(.int (25 : Int32))])) _
                subst hz
                exact retI X hx hret (hb hby d1_27) hl
              · rw [if_neg h7_97] at hz
                refine XS.icmpNo X.here hx rfl (hb hby d1_7) rfl (flt h7_97).2.2.1 ?_
                show Steps p.tables e below (T.setTop (mkF m 10 #[.val (.int x0), .val (.int (25 : Int32)), .val (.int (8 : Int32))] [])) _
                refine XS.iloadN X.here hx rfl (hb hby d1_10) rfl ?_
                show Steps p.tables e below (T.setTop (mkF m 11 #[.val (.int x0), .val (.int (25 : Int32)), .val (.int (8 : Int32))] [(.int (25 : Int32))])) _
                refine XS.ifNo X.here hx rfl (hb hby d1_11) rfl ((if0 _ _).trans (tlt (by decide : (0 : Int32) < (25 : Int32))).2.2.2) ?_
                show Steps p.tables e below (T.setTop (mkF m 14 #[.val (.int x0), .val (.int (25 : Int32)), .val (.int (8 : Int32))] [])) _
                refine XS.iloadN X.here hx rfl (hb hby d1_14) rfl ?_
                show Steps p.tables e below (T.setTop (mkF m 15 #[.val (.int x0), .val (.int (25 : Int32)), .val (.int (8 : Int32))] [(.int (25 : Int32))])) _
                refine XS.iconst X.here hx rfl (hb hby d1_15) ?_
                show Steps p.tables e below (T.setTop (mkF m 16 #[.val (.int x0), .val (.int (25 : Int32)), .val (.int (8 : Int32))] [(.int (4 : Int32)), (.int (25 : Int32))])) _
                refine XS.imul X.here hx rfl (hb hby d1_16) rfl ?_
                show Steps p.tables e below (T.setTop (mkF m 17 #[.val (.int x0), .val (.int (25 : Int32)), .val (.int (8 : Int32))] [(.int (100 : Int32))])) _
                refine XS.iconst X.here hx rfl (hb hby d1_17) ?_
                show Steps p.tables e below (T.setTop (mkF m 18 #[.val (.int x0), .val (.int (25 : Int32)), .val (.int (8 : Int32))] [(.int (5 : Int32)), (.int (100 : Int32))])) _
                refine XS.idiv X.here hx rfl (hb hby d1_18) rfl (by decide) ?_
                show Steps p.tables e below (T.setTop (mkF m 19 #[.val (.int x0), .val (.int (25 : Int32)), .val (.int (8 : Int32))] [(.int (20 : Int32))])) _
                refine XS.istoreN X.here hx rfl (hb hby d1_19) rfl (l' := #[.val (.int x0), .val (.int (20 : Int32)), .val (.int (8 : Int32))]) rfl ?_
                show Steps p.tables e below (T.setTop (mkF m 20 #[.val (.int x0), .val (.int (20 : Int32)), .val (.int (8 : Int32))] [])) _
                refine XS.iinc X.here hx rfl (hb hby d1_20) rfl (l' := #[.val (.int x0), .val (.int (20 : Int32)), .val (.int (9 : Int32))]) rfl ?_
                show Steps p.tables e below (T.setTop (mkF m 23 #[.val (.int x0), .val (.int (20 : Int32)), .val (.int (9 : Int32))] [])) _
                refine XS.goto X.here hx rfl (pc0 := 23) (pc' := 5) rfl (hb hby d1_23) (by decide) (by decide) ?_
                show Steps p.tables e below (T.setTop (mkF m 5 #[.val (.int x0), .val (.int (20 : Int32)), .val (.int (9 : Int32))] [])) _
                refine XS.iloadN X.here hx rfl (hb hby d1_5) rfl ?_
                show Steps p.tables e below (T.setTop (mkF m 6 #[.val (.int x0), .val (.int (20 : Int32)), .val (.int (9 : Int32))] [(.int (9 : Int32))])) _
                refine XS.iloadN X.here hx rfl (hb hby d1_6) rfl ?_
                show Steps p.tables e below (T.setTop (mkF m 7 #[.val (.int x0), .val (.int (20 : Int32)), .val (.int (9 : Int32))] [(.int x0), (.int (9 : Int32))])) _
                by_cases h7_112 : x0 < (9 : Int32)
                · rw [if_pos h7_112] at hz
                  refine XS.icmpYes X.here hx rfl (pc0 := 7) (pc' := 26) rfl (hb hby d1_7) rfl (tlt h7_112).2.2.1 (by decide) (by decide) ?_
                  show Steps p.tables e below (T.setTop (mkF m 26 #[.val (.int x0), .val (.int (20 : Int32)), .val (.int (9 : Int32))] [])) _
                  refine XS.iloadN X.here hx rfl (hb hby d1_26) rfl ?_
                  show Steps p.tables e below (T.setTop (mkF m 27 #[.val (.int x0), .val (.int (20 : Int32)), .val (.int (9 : Int32))] [(.int (20 : Int32))])) _
                  subst hz
                  exact retI X hx hret (hb hby d1_27) hl
                · rw [if_neg h7_112] at hz
                  refine XS.icmpNo X.here hx rfl (hb hby d1_7) rfl (flt h7_112).2.2.1 ?_
                  show Steps p.tables e below (T.setTop (mkF m 10 #[.val (.int x0), .val (.int (20 : Int32)), .val (.int (9 : Int32))] [])) _
                  refine XS.iloadN X.here hx rfl (hb hby d1_10) rfl ?_
                  show Steps p.tables e below (T.setTop (mkF m 11 #[.val (.int x0), .val (.int (20 : Int32)), .val (.int (9 : Int32))] [(.int (20 : Int32))])) _
                  refine XS.ifNo X.here hx rfl (hb hby d1_11) rfl ((if0 _ _).trans (tlt (by decide : (0 : Int32) < (20 : Int32))).2.2.2) ?_
                  show Steps p.tables e below (T.setTop (mkF m 14 #[.val (.int x0), .val (.int (20 : Int32)), .val (.int (9 : Int32))] [])) _
                  refine XS.iloadN X.here hx rfl (hb hby d1_14) rfl ?_
                  show Steps p.tables e below (T.setTop (mkF m 15 #[.val (.int x0), .val (.int (20 : Int32)), .val (.int (9 : Int32))] [(.int (20 : Int32))])) _
                  refine XS.iconst X.here hx rfl (hb hby d1_15) ?_
                  show Steps p.tables e below (T.setTop (mkF m 16 #[.val (.int x0), .val (.int (20 : Int32)), .val (.int (9 : Int32))] [(.int (4 : Int32)), (.int (20 : Int32))])) _
                  refine XS.imul X.here hx rfl (hb hby d1_16) rfl ?_
                  show Steps p.tables e below (T.setTop (mkF m 17 #[.val (.int x0), .val (.int (20 : Int32)), .val (.int (9 : Int32))] [(.int (80 : Int32))])) _
                  refine XS.iconst X.here hx rfl (hb hby d1_17) ?_
                  show Steps p.tables e below (T.setTop (mkF m 18 #[.val (.int x0), .val (.int (20 : Int32)), .val (.int (9 : Int32))] [(.int (5 : Int32)), (.int (80 : Int32))])) _
                  refine XS.idiv X.here hx rfl (hb hby d1_18) rfl (by decide) ?_
                  show Steps p.tables e below (T.setTop (mkF m 19 #[.val (.int x0), .val (.int (20 : Int32)), .val (.int (9 : Int32))] [(.int (16 : Int32))])) _
                  refine XS.istoreN X.here hx rfl (hb hby d1_19) rfl (l' := #[.val (.int x0), .val (.int (16 : Int32)), .val (.int (9 : Int32))]) rfl ?_
                  show Steps p.tables e below (T.setTop (mkF m 20 #[.val (.int x0), .val (.int (16 : Int32)), .val (.int (9 : Int32))] [])) _
                  refine XS.iinc X.here hx rfl (hb hby d1_20) rfl (l' := #[.val (.int x0), .val (.int (16 : Int32)), .val (.int (10 : Int32))]) rfl ?_
                  show Steps p.tables e below (T.setTop (mkF m 23 #[.val (.int x0), .val (.int (16 : Int32)), .val (.int (10 : Int32))] [])) _
                  refine XS.goto X.here hx rfl (pc0 := 23) (pc' := 5) rfl (hb hby d1_23) (by decide) (by decide) ?_
                  show Steps p.tables e below (T.setTop (mkF m 5 #[.val (.int x0), .val (.int (16 : Int32)), .val (.int (10 : Int32))] [])) _
                  refine XS.iloadN X.here hx rfl (hb hby d1_5) rfl ?_
                  show Steps p.tables e below (T.setTop (mkF m 6 #[.val (.int x0), .val (.int (16 : Int32)), .val (.int (10 : Int32))] [(.int (10 : Int32))])) _
                  refine XS.iloadN X.here hx rfl (hb hby d1_6) rfl ?_
                  show Steps p.tables e below (T.setTop (mkF m 7 #[.val (.int x0), .val (.int (16 : Int32)), .val (.int (10 : Int32))] [(.int x0), (.int (10 : Int32))])) _
                  by_cases h7_127 : x0 < (10 : Int32)
                  · rw [if_pos h7_127] at hz
                    refine XS.icmpYes X.here hx rfl (pc0 := 7) (pc' := 26) rfl (hb hby d1_7) rfl (tlt h7_127).2.2.1 (by decide) (by decide) ?_
                    show Steps p.tables e below (T.setTop (mkF m 26 #[.val (.int x0), .val (.int (16 : Int32)), .val (.int (10 : Int32))] [])) _
                    refine XS.iloadN X.here hx rfl (hb hby d1_26) rfl ?_
                    show Steps p.tables e below (T.setTop (mkF m 27 #[.val (.int x0), .val (.int (16 : Int32)), .val (.int (10 : Int32))] [(.int (16 : Int32))])) _
                    subst hz
                    exact retI X hx hret (hb hby d1_27) hl
                  · rw [if_neg h7_127] at hz
                    refine XS.icmpNo X.here hx rfl (hb hby d1_7) rfl (flt h7_127).2.2.1 ?_
                    show Steps p.tables e below (T.setTop (mkF m 10 #[.val (.int x0), .val (.int (16 : Int32)), .val (.int (10 : Int32))] [])) _
                    refine XS.iloadN X.here hx rfl (hb hby d1_10) rfl ?_
                    show Steps p.tables e below (T.setTop (mkF m 11 #[.val (.int x0), .val (.int (16 : Int32)), .val (.int (10 : Int32))] [(.int (16 : Int32))])) _
                    refine XS.ifNo X.here hx rfl (hb hby d1_11) rfl ((if0 _ _).trans (tlt (by decide : (0 : Int32) < (16 : Int32))).2.2.2) ?_
                    show Steps p.tables e below (T.setTop (mkF m 14 #[.val (.int x0), .val (.int (16 : Int32)), .val (.int (10 : Int32))] [])) _
                    refine XS.iloadN X.here hx rfl (hb hby d1_14) rfl ?_
                    show Steps p.tables e below (T.setTop (mkF m 15 #[.val (.int x0), .val (.int (16 : Int32)), .val (.int (10 : Int32))] [(.int (16 : Int32))])) _
                    refine XS.iconst X.here hx rfl (hb hby d1_15) ?_
                    show Steps p.tables e below (T.setTop (mkF m 16 #[.val (.int x0), .val (.int (16 : Int32)), .val (.int (10 : Int32))] [(.int (4 : Int32)), (.int (16 : Int32))])) _
                    refine XS.imul X.here hx rfl (hb hby d1_16) rfl ?_
                    show Steps p.tables e below (T.setTop (mkF m 17 #[.val (.int x0), .val (.int (16 : Int32)), .val (.int (10 : Int32))] [(.int (64 : Int32))])) _
                    refine XS.iconst X.here hx rfl (hb hby d1_17) ?_
                    show Steps p.tables e below (T.setTop (mkF m 18 #[.val (.int x0), .val (.int (16 : Int32)), .val (.int (10 : Int32))] [(.int (5 : Int32)), (.int (64 : Int32))])) _
                    refine XS.idiv X.here hx rfl (hb hby d1_18) rfl (by decide) ?_
                    show Steps p.tables e below (T.setTop (mkF m 19 #[.val (.int x0), .val (.int (16 : Int32)), .val (.int (10 : Int32))] [(.int (12 : Int32))])) _
                    refine XS.istoreN X.here hx rfl (hb hby d1_19) rfl (l' := #[.val (.int x0), .val (.int (12 : Int32)), .val (.int (10 : Int32))]) rfl ?_
                    show Steps p.tables e below (T.setTop (mkF m 20 #[.val (.int x0), .val (.int (12 : Int32)), .val (.int (10 : Int32))] [])) _
                    refine XS.iinc X.here hx rfl (hb hby d1_20) rfl (l' := #[.val (.int x0), .val (.int (12 : Int32)), .val (.int (11 : Int32))]) rfl ?_
                    show Steps p.tables e below (T.setTop (mkF m 23 #[.val (.int x0), .val (.int (12 : Int32)), .val (.int (11 : Int32))] [])) _
                    refine XS.goto X.here hx rfl (pc0 := 23) (pc' := 5) rfl (hb hby d1_23) (by decide) (by decide) ?_
                    show Steps p.tables e below (T.setTop (mkF m 5 #[.val (.int x0), .val (.int (12 : Int32)), .val (.int (11 : Int32))] [])) _
                    refine XS.iloadN X.here hx rfl (hb hby d1_5) rfl ?_
                    show Steps p.tables e below (T.setTop (mkF m 6 #[.val (.int x0), .val (.int (12 : Int32)), .val (.int (11 : Int32))] [(.int (11 : Int32))])) _
                    refine XS.iloadN X.here hx rfl (hb hby d1_6) rfl ?_
                    show Steps p.tables e below (T.setTop (mkF m 7 #[.val (.int x0), .val (.int (12 : Int32)), .val (.int (11 : Int32))] [(.int x0), (.int (11 : Int32))])) _
                    by_cases h7_142 : x0 < (11 : Int32)
                    · rw [if_pos h7_142] at hz
                      refine XS.icmpYes X.here hx rfl (pc0 := 7) (pc' := 26) rfl (hb hby d1_7) rfl (tlt h7_142).2.2.1 (by decide) (by decide) ?_
                      show Steps p.tables e below (T.setTop (mkF m 26 #[.val (.int x0), .val (.int (12 : Int32)), .val (.int (11 : Int32))] [])) _
                      refine XS.iloadN X.here hx rfl (hb hby d1_26) rfl ?_
                      show Steps p.tables e below (T.setTop (mkF m 27 #[.val (.int x0), .val (.int (12 : Int32)), .val (.int (11 : Int32))] [(.int (12 : Int32))])) _
                      subst hz
                      exact retI X hx hret (hb hby d1_27) hl
                    · rw [if_neg h7_142] at hz
                      refine XS.icmpNo X.here hx rfl (hb hby d1_7) rfl (flt h7_142).2.2.1 ?_
                      show Steps p.tables e below (T.setTop (mkF m 10 #[.val (.int x0), .val (.int (12 : Int32)), .val (.int (11 : Int32))] [])) _
                      refine XS.iloadN X.here hx rfl (hb hby d1_10) rfl ?_
                      show Steps p.tables e below (T.setTop (mkF m 11 #[.val (.int x0), .val (.int (12 : Int32)), .val (.int (11 : Int32))] [(.int (12 : Int32))])) _
                      refine XS.ifNo X.here hx rfl (hb hby d1_11) rfl ((if0 _ _).trans (tlt (by decide : (0 : Int32) < (12 : Int32))).2.2.2) ?_
                      show Steps p.tables e below (T.setTop (mkF m 14 #[.val (.int x0), .val (.int (12 : Int32)), .val (.int (11 : Int32))] [])) _
                      refine XS.iloadN X.here hx rfl (hb hby d1_14) rfl ?_
                      show Steps p.tables e below (T.setTop (mkF m 15 #[.val (.int x0), .val (.int (12 : Int32)), .val (.int (11 : Int32))] [(.int (12 : Int32))])) _
                      refine XS.iconst X.here hx rfl (hb hby d1_15) ?_
                      show Steps p.tables e below (T.setTop (mkF m 16 #[.val (.int x0), .val (.int (12 : Int32)), .val (.int (11 : Int32))] [(.int (4 : Int32)), (.int (12 : Int32))])) _
                      refine XS.imul X.here hx rfl (hb hby d1_16) rfl ?_
                      show Steps p.tables e below (T.setTop (mkF m 17 #[.val (.int x0), .val (.int (12 : Int32)), .val (.int (11 : Int32))] [(.int (48 : Int32))])) _
                      refine XS.iconst X.here hx rfl (hb hby d1_17) ?_
                      show Steps p.tables e below (T.setTop (mkF m 18 #[.val (.int x0), .val (.int (12 : Int32)), .val (.int (11 : Int32))] [(.int (5 : Int32)), (.int (48 : Int32))])) _
                      refine XS.idiv X.here hx rfl (hb hby d1_18) rfl (by decide) ?_
                      show Steps p.tables e below (T.setTop (mkF m 19 #[.val (.int x0), .val (.int (12 : Int32)), .val (.int (11 : Int32))] [(.int (9 : Int32))])) _
                      refine XS.istoreN X.here hx rfl (hb hby d1_19) rfl (l' := #[.val (.int x0), .val (.int (9 : Int32)), .val (.int (11 : Int32))]) rfl ?_
                      show Steps p.tables e below (T.setTop (mkF m 20 #[.val (.int x0), .val (.int (9 : Int32)), .val (.int (11 : Int32))] [])) _
                      refine XS.iinc X.here hx rfl (hb hby d1_20) rfl (l' := #[.val (.int x0), .val (.int (9 : Int32)), .val (.int (12 : Int32))]) rfl ?_
                      show Steps p.tables e below (T.setTop (mkF m 23 #[.val (.int x0), .val (.int (9 : Int32)), .val (.int (12 : Int32))] [])) _
                      refine XS.goto X.here hx rfl (pc0 := 23) (pc' := 5) rfl (hb hby d1_23) (by decide) (by decide) ?_
                      show Steps p.tables e below (T.setTop (mkF m 5 #[.val (.int x0), .val (.int (9 : Int32)), .val (.int (12 : Int32))] [])) _
                      refine XS.iloadN X.here hx rfl (hb hby d1_5) rfl ?_
                      show Steps p.tables e below (T.setTop (mkF m 6 #[.val (.int x0), .val (.int (9 : Int32)), .val (.int (12 : Int32))] [(.int (12 : Int32))])) _
                      refine XS.iloadN X.here hx rfl (hb hby d1_6) rfl ?_
                      show Steps p.tables e below (T.setTop (mkF m 7 #[.val (.int x0), .val (.int (9 : Int32)), .val (.int (12 : Int32))] [(.int x0), (.int (12 : Int32))])) _
                      by_cases h7_157 : x0 < (12 : Int32)
                      · rw [if_pos h7_157] at hz
                        refine XS.icmpYes X.here hx rfl (pc0 := 7) (pc' := 26) rfl (hb hby d1_7) rfl (tlt h7_157).2.2.1 (by decide) (by decide) ?_
                        show Steps p.tables e below (T.setTop (mkF m 26 #[.val (.int x0), .val (.int (9 : Int32)), .val (.int (12 : Int32))] [])) _
                        refine XS.iloadN X.here hx rfl (hb hby d1_26) rfl ?_
                        show Steps p.tables e below (T.setTop (mkF m 27 #[.val (.int x0), .val (.int (9 : Int32)), .val (.int (12 : Int32))] [(.int (9 : Int32))])) _
                        subst hz
                        exact retI X hx hret (hb hby d1_27) hl
                      · rw [if_neg h7_157] at hz
                        refine XS.icmpNo X.here hx rfl (hb hby d1_7) rfl (flt h7_157).2.2.1 ?_
                        show Steps p.tables e below (T.setTop (mkF m 10 #[.val (.int x0), .val (.int (9 : Int32)), .val (.int (12 : Int32))] [])) _
                        refine XS.iloadN X.here hx rfl (hb hby d1_10) rfl ?_
                        show Steps p.tables e below (T.setTop (mkF m 11 #[.val (.int x0), .val (.int (9 : Int32)), .val (.int (12 : Int32))] [(.int (9 : Int32))])) _
                        refine XS.ifNo X.here hx rfl (hb hby d1_11) rfl ((if0 _ _).trans (tlt (by decide : (0 : Int32) < (9 : Int32))).2.2.2) ?_
                        show Steps p.tables e below (T.setTop (mkF m 14 #[.val (.int x0), .val (.int (9 : Int32)), .val (.int (12 : Int32))] [])) _
                        refine XS.iloadN X.here hx rfl (hb hby d1_14) rfl ?_
                        show Steps p.tables e below (T.setTop (mkF m 15 #[.val (.int x0), .val (.int (9 : Int32)), .val (.int (12 : Int32))] [(.int (9 : Int32))])) _
                        refine XS.iconst X.here hx rfl (hb hby d1_15) ?_
                        show Steps p.tables e below (T.setTop (mkF m 16 #[.val (.int x0), .val (.int (9 : Int32)), .val (.int (12 : Int32))] [(.int (4 : Int32)), (.int (9 : Int32))])) _
                        refine XS.imul X.here hx rfl (hb hby d1_16) rfl ?_
                        show Steps p.tables e below (T.setTop (mkF m 17 #[.val (.int x0), .val (.int (9 : Int32)), .val (.int (12 : Int32))] [(.int (36 : Int32))])) _
                        refine XS.iconst X.here hx rfl (hb hby d1_17) ?_
                        show Steps p.tables e below (T.setTop (mkF m 18 #[.val (.int x0), .val (.int (9 : Int32)), .val (.int (12 : Int32))] [(.int (5 : Int32)), (.int (36 : Int32))])) _
                        refine XS.idiv X.here hx rfl (hb hby d1_18) rfl (by decide) ?_
                        show Steps p.tables e below (T.setTop (mkF m 19 #[.val (.int x0), .val (.int (9 : Int32)), .val (.int (12 : Int32))] [(.int (7 : Int32))])) _
                        refine XS.istoreN X.here hx rfl (hb hby d1_19) rfl (l' := #[.val (.int x0), .val (.int (7 : Int32)), .val (.int (12 : Int32))]) rfl ?_
                        show Steps p.tables e below (T.setTop (mkF m 20 #[.val (.int x0), .val (.int (7 : Int32)), .val (.int (12 : Int32))] [])) _
                        refine XS.iinc X.here hx rfl (hb hby d1_20) rfl (l' := #[.val (.int x0), .val (.int (7 : Int32)), .val (.int (13 : Int32))]) rfl ?_
                        show Steps p.tables e below (T.setTop (mkF m 23 #[.val (.int x0), .val (.int (7 : Int32)), .val (.int (13 : Int32))] [])) _
                        refine XS.goto X.here hx rfl (pc0 := 23) (pc' := 5) rfl (hb hby d1_23) (by decide) (by decide) ?_
                        show Steps p.tables e below (T.setTop (mkF m 5 #[.val (.int x0), .val (.int (7 : Int32)), .val (.int (13 : Int32))] [])) _
                        refine XS.iloadN X.here hx rfl (hb hby d1_5) rfl ?_
                        show Steps p.tables e below (T.setTop (mkF m 6 #[.val (.int x0), .val (.int (7 : Int32)), .val (.int (13 : Int32))] [(.int (13 : Int32))])) _
                        refine XS.iloadN X.here hx rfl (hb hby d1_6) rfl ?_
                        show Steps p.tables e below (T.setTop (mkF m 7 #[.val (.int x0), .val (.int (7 : Int32)), .val (.int (13 : Int32))] [(.int x0), (.int (13 : Int32))])) _
                        by_cases h7_172 : x0 < (13 : Int32)
                        · rw [if_pos h7_172] at hz
                          refine XS.icmpYes X.here hx rfl (pc0 := 7) (pc' := 26) rfl (hb hby d1_7) rfl (tlt h7_172).2.2.1 (by decide) (by decide) ?_
                          show Steps p.tables e below (T.setTop (mkF m 26 #[.val (.int x0), .val (.int (7 : Int32)), .val (.int (13 : Int32))] [])) _
                          refine XS.iloadN X.here hx rfl (hb hby d1_26) rfl ?_
                          show Steps p.tables e below (T.setTop (mkF m 27 #[.val (.int x0), .val (.int (7 : Int32)), .val (.int (13 : Int32))] [(.int (7 : Int32))])) _
                          subst hz
                          exact retI X hx hret (hb hby d1_27) hl
                        · rw [if_neg h7_172] at hz
                          refine XS.icmpNo X.here hx rfl (hb hby d1_7) rfl (flt h7_172).2.2.1 ?_
                          show Steps p.tables e below (T.setTop (mkF m 10 #[.val (.int x0), .val (.int (7 : Int32)), .val (.int (13 : Int32))] [])) _
                          refine XS.iloadN X.here hx rfl (hb hby d1_10) rfl ?_
                          show Steps p.tables e below (T.setTop (mkF m 11 #[.val (.int x0), .val (.int (7 : Int32)), .val (.int (13 : Int32))] [(.int (7 : Int32))])) _
                          refine XS.ifNo X.here hx rfl (hb hby d1_11) rfl ((if0 _ _).trans (tlt (by decide : (0 : Int32) < (7 : Int32))).2.2.2) ?_
                          show Steps p.tables e below (T.setTop (mkF m 14 #[.val (.int x0), .val (.int (7 : Int32)), .val (.int (13 : Int32))] [])) _
                          refine XS.iloadN X.here hx rfl (hb hby d1_14) rfl ?_
                          show Steps p.tables e below (T.setTop (mkF m 15 #[.val (.int x0), .val (.int (7 : Int32)), .val (.int (13 : Int32))] [(.int (7 : Int32))])) _
                          refine XS.iconst X.here hx rfl (hb hby d1_15) ?_
                          show Steps p.tables e below (T.setTop (mkF m 16 #[.val (.int x0), .val (.int (7 : Int32)), .val (.int (13 : Int32))] [(.int (4 : Int32)), (.int (7 : Int32))])) _
                          refine XS.imul X.here hx rfl (hb hby d1_16) rfl ?_
                          show Steps p.tables e below (T.setTop (mkF m 17 #[.val (.int x0), .val (.int (7 : Int32)), .val (.int (13 : Int32))] [(.int (28 : Int32))])) _
                          refine XS.iconst X.here hx rfl (hb hby d1_17) ?_
                          show Steps p.tables e below (T.setTop (mkF m 18 #[.val (.int x0), .val (.int (7 : Int32)), .val (.int (13 : Int32))] [(.int (5 : Int32)), (.int (28 : Int32))])) _
                          refine XS.idiv X.here hx rfl (hb hby d1_18) rfl (by decide) ?_
                          show Steps p.tables e below (T.setTop (mkF m 19 #[.val (.int x0), .val (.int (7 : Int32)), .val (.int (13 : Int32))] [(.int (5 : Int32))])) _
                          refine XS.istoreN X.here hx rfl (hb hby d1_19) rfl (l' := #[.val (.int x0), .val (.int (5 : Int32)), .val (.int (13 : Int32))]) rfl ?_
                          show Steps p.tables e below (T.setTop (mkF m 20 #[.val (.int x0), .val (.int (5 : Int32)), .val (.int (13 : Int32))] [])) _
                          refine XS.iinc X.here hx rfl (hb hby d1_20) rfl (l' := #[.val (.int x0), .val (.int (5 : Int32)), .val (.int (14 : Int32))]) rfl ?_
                          show Steps p.tables e below (T.setTop (mkF m 23 #[.val (.int x0), .val (.int (5 : Int32)), .val (.int (14 : Int32))] [])) _
                          refine XS.goto X.here hx rfl (pc0 := 23) (pc' := 5) rfl (hb hby d1_23) (by decide) (by decide) ?_
                          show Steps p.tables e below (T.setTop (mkF m 5 #[.val (.int x0), .val (.int (5 : Int32)), .val (.int (14 : Int32))] [])) _
                          refine XS.iloadN X.here hx rfl (hb hby d1_5) rfl ?_
                          show Steps p.tables e below (T.setTop (mkF m 6 #[.val (.int x0), .val (.int (5 : Int32)), .val (.int (14 : Int32))] [(.int (14 : Int32))])) _
                          refine XS.iloadN X.here hx rfl (hb hby d1_6) rfl ?_
                          show Steps p.tables e below (T.setTop (mkF m 7 #[.val (.int x0), .val (.int (5 : Int32)), .val (.int (14 : Int32))] [(.int x0), (.int (14 : Int32))])) _
                          by_cases h7_187 : x0 < (14 : Int32)
                          · rw [if_pos h7_187] at hz
                            refine XS.icmpYes X.here hx rfl (pc0 := 7) (pc' := 26) rfl (hb hby d1_7) rfl (tlt h7_187).2.2.1 (by decide) (by decide) ?_
                            show Steps p.tables e below (T.setTop (mkF m 26 #[.val (.int x0), .val (.int (5 : Int32)), .val (.int (14 : Int32))] [])) _
                            refine XS.iloadN X.here hx rfl (hb hby d1_26) rfl ?_
                            show Steps p.tables e below (T.setTop (mkF m 27 #[.val (.int x0), .val (.int (5 : Int32)), .val (.int (14 : Int32))] [(.int (5 : Int32))])) _
                            subst hz
                            exact retI X hx hret (hb hby d1_27) hl
                          · rw [if_neg h7_187] at hz
                            refine XS.icmpNo X.here hx rfl (hb hby d1_7) rfl (flt h7_187).2.2.1 ?_
                            show Steps p.tables e below (T.setTop (mkF m 10 #[.val (.int x0), .val (.int (5 : Int32)), .val (.int (14 : Int32))] [])) _
                            refine XS.iloadN X.here hx rfl (hb hby d1_10) rfl ?_
                            show Steps p.tables e below (T.setTop (mkF m 11 #[.val (.int x0), .val (.int (5 : Int32)), .val (.int (14 : Int32))] [(.int (5 : Int32))])) _
                            refine XS.ifNo X.here hx rfl (hb hby d1_11) rfl ((if0 _ _).trans (tlt (by decide : (0 : Int32) < (5 : Int32))).2.2.2) ?_
                            show Steps p.tables e below (T.setTop (mkF m 14 #[.val (.int x0), .val (.int (5 : Int32)), .val (.int (14 : Int32))] [])) _
                            refine XS.iloadN X.here hx rfl (hb hby d1_14) rfl ?_
                            show Steps p.tables e below (T.setTop (mkF m 15 #[.val (.int x0), .val (.int (5 : Int32)), .val (.int (14 : Int32))] [(.int (5 : Int32))])) _
                            refine XS.iconst X.here hx rfl (hb hby d1_15) ?_
                            show Steps p.tables e below (T.setTop (mkF m 16 #[.val (.int x0), .val (.int (5 : Int32)), .val (.int (14 : Int32))] [(.int (4 : Int32)), (.int (5 : Int32))])) _
                            refine XS.imul X.here hx rfl (hb hby d1_16) rfl ?_
                            show Steps p.tables e below (T.setTop (mkF m 17 #[.val (.int x0), .val (.int (5 : Int32)), .val (.int (14 : Int32))] [(.int (20 : Int32))])) _
                            refine XS.iconst X.here hx rfl (hb hby d1_17) ?_
                            show Steps p.tables e below (T.setTop (mkF m 18 #[.val (.int x0), .val (.int (5 : Int32)), .val (.int (14 : Int32))] [(.int (5 : Int32)), (.int (20 : Int32))])) _
                            refine XS.idiv X.here hx rfl (hb hby d1_18) rfl (by decide) ?_
                            show Steps p.tables e below (T.setTop (mkF m 19 #[.val (.int x0), .val (.int (5 : Int32)), .val (.int (14 : Int32))] [(.int (4 : Int32))])) _
                            refine XS.istoreN X.here hx rfl (hb hby d1_19) rfl (l' := #[.val (.int x0), .val (.int (4 : Int32)), .val (.int (14 : Int32))]) rfl ?_
                            show Steps p.tables e below (T.setTop (mkF m 20 #[.val (.int x0), .val (.int (4 : Int32)), .val (.int (14 : Int32))] [])) _
                            refine XS.iinc X.here hx rfl (hb hby d1_20) rfl (l' := #[.val (.int x0), .val (.int (4 : Int32)), .val (.int (15 : Int32))]) rfl ?_
                            show Steps p.tables e below (T.setTop (mkF m 23 #[.val (.int x0), .val (.int (4 : Int32)), .val (.int (15 : Int32))] [])) _
                            refine XS.goto X.here hx rfl (pc0 := 23) (pc' := 5) rfl (hb hby d1_23) (by decide) (by decide) ?_
                            show Steps p.tables e below (T.setTop (mkF m 5 #[.val (.int x0), .val (.int (4 : Int32)), .val (.int (15 : Int32))] [])) _
                            refine XS.iloadN X.here hx rfl (hb hby d1_5) rfl ?_
                            show Steps p.tables e below (T.setTop (mkF m 6 #[.val (.int x0), .val (.int (4 : Int32)), .val (.int (15 : Int32))] [(.int (15 : Int32))])) _
                            refine XS.iloadN X.here hx rfl (hb hby d1_6) rfl ?_
                            show Steps p.tables e below (T.setTop (mkF m 7 #[.val (.int x0), .val (.int (4 : Int32)), .val (.int (15 : Int32))] [(.int x0), (.int (15 : Int32))])) _
                            by_cases h7_202 : x0 < (15 : Int32)
                            · rw [if_pos h7_202] at hz
                              refine XS.icmpYes X.here hx rfl (pc0 := 7) (pc' := 26) rfl (hb hby d1_7) rfl (tlt h7_202).2.2.1 (by decide) (by decide) ?_
                              show Steps p.tables e below (T.setTop (mkF m 26 #[.val (.int x0), .val (.int (4 : Int32)), .val (.int (15 : Int32))] [])) _
                              refine XS.iloadN X.here hx rfl (hb hby d1_26) rfl ?_
                              show Steps p.tables e below (T.setTop (mkF m 27 #[.val (.int x0), .val (.int (4 : Int32)), .val (.int (15 : Int32))] [(.int (4 : Int32))])) _
                              subst hz
                              exact retI X hx hret (hb hby d1_27) hl
                            · rw [if_neg h7_202] at hz
                              refine XS.icmpNo X.here hx rfl (hb hby d1_7) rfl (flt h7_202).2.2.1 ?_
                              show Steps p.tables e below (T.setTop (mkF m 10 #[.val (.int x0), .val (.int (4 : Int32)), .val (.int (15 : Int32))] [])) _
                              refine XS.iloadN X.here hx rfl (hb hby d1_10) rfl ?_
                              show Steps p.tables e below (T.setTop (mkF m 11 #[.val (.int x0), .val (.int (4 : Int32)), .val (.int (15 : Int32))] [(.int (4 : Int32))])) _
                              refine XS.ifNo X.here hx rfl (hb hby d1_11) rfl ((if0 _ _).trans (tlt (by decide : (0 : Int32) < (4 : Int32))).2.2.2) ?_
                              show Steps p.tables e below (T.setTop (mkF m 14 #[.val (.int x0), .val (.int (4 : Int32)), .val (.int (15 : Int32))] [])) _
                              refine XS.iloadN X.here hx rfl (hb hby d1_14) rfl ?_
                              show Steps p.tables e below (T.setTop (mkF m 15 #[.val (.int x0), .val (.int (4 : Int32)), .val (.int (15 : Int32))] [(.int (4 : Int32))])) _
                              refine XS.iconst X.here hx rfl (hb hby d1_15) ?_
                              show Steps p.tables e below (T.setTop (mkF m 16 #[.val (.int x0), .val (.int (4 : Int32)), .val (.int (15 : Int32))] [(.int (4 : Int32)), (.int (4 : Int32))])) _
                              refine XS.imul X.here hx rfl (hb hby d1_16) rfl ?_
                              show Steps p.tables e below (T.setTop (mkF m 17 #[.val (.int x0), .val (.int (4 : Int32)), .val (.int (15 : Int32))] [(.int (16 : Int32))])) _
                              refine XS.iconst X.here hx rfl (hb hby d1_17) ?_
                              show Steps p.tables e below (T.setTop (mkF m 18 #[.val (.int x0), .val (.int (4 : Int32)), .val (.int (15 : Int32))] [(.int (5 : Int32)), (.int (16 : Int32))])) _
                              refine XS.idiv X.here hx rfl (hb hby d1_18) rfl (by decide) ?_
                              show Steps p.tables e below (T.setTop (mkF m 19 #[.val (.int x0), .val (.int (4 : Int32)), .val (.int (15 : Int32))] [(.int (3 : Int32))])) _
                              refine XS.istoreN X.here hx rfl (hb hby d1_19) rfl (l' := #[.val (.int x0), .val (.int (3 : Int32)), .val (.int (15 : Int32))]) rfl ?_
                              show Steps p.tables e below (T.setTop (mkF m 20 #[.val (.int x0), .val (.int (3 : Int32)), .val (.int (15 : Int32))] [])) _
                              refine XS.iinc X.here hx rfl (hb hby d1_20) rfl (l' := #[.val (.int x0), .val (.int (3 : Int32)), .val (.int (16 : Int32))]) rfl ?_
                              show Steps p.tables e below (T.setTop (mkF m 23 #[.val (.int x0), .val (.int (3 : Int32)), .val (.int (16 : Int32))] [])) _
                              refine XS.goto X.here hx rfl (pc0 := 23) (pc' := 5) rfl (hb hby d1_23) (by decide) (by decide) ?_
                              show Steps p.tables e below (T.setTop (mkF m 5 #[.val (.int x0), .val (.int (3 : Int32)), .val (.int (16 : Int32))] [])) _
                              refine XS.iloadN X.here hx rfl (hb hby d1_5) rfl ?_
                              show Steps p.tables e below (T.setTop (mkF m 6 #[.val (.int x0), .val (.int (3 : Int32)), .val (.int (16 : Int32))] [(.int (16 : Int32))])) _
                              refine XS.iloadN X.here hx rfl (hb hby d1_6) rfl ?_
                              show Steps p.tables e below (T.setTop (mkF m 7 #[.val (.int x0), .val (.int (3 : Int32)), .val (.int (16 : Int32))] [(.int x0), (.int (16 : Int32))])) _
                              by_cases h7_217 : x0 < (16 : Int32)
                              · rw [if_pos h7_217] at hz
                                refine XS.icmpYes X.here hx rfl (pc0 := 7) (pc' := 26) rfl (hb hby d1_7) rfl (tlt h7_217).2.2.1 (by decide) (by decide) ?_
                                show Steps p.tables e below (T.setTop (mkF m 26 #[.val (.int x0), .val (.int (3 : Int32)), .val (.int (16 : Int32))] [])) _
                                refine XS.iloadN X.here hx rfl (hb hby d1_26) rfl ?_
                                show Steps p.tables e below (T.setTop (mkF m 27 #[.val (.int x0), .val (.int (3 : Int32)), .val (.int (16 : Int32))] [(.int (3 : Int32))])) _
                                subst hz
                                exact retI X hx hret (hb hby d1_27) hl
                              · rw [if_neg h7_217] at hz
                                refine XS.icmpNo X.here hx rfl (hb hby d1_7) rfl (flt h7_217).2.2.1 ?_
                                show Steps p.tables e below (T.setTop (mkF m 10 #[.val (.int x0), .val (.int (3 : Int32)), .val (.int (16 : Int32))] [])) _
                                refine XS.iloadN X.here hx rfl (hb hby d1_10) rfl ?_
                                show Steps p.tables e below (T.setTop (mkF m 11 #[.val (.int x0), .val (.int (3 : Int32)), .val (.int (16 : Int32))] [(.int (3 : Int32))])) _
                                refine XS.ifNo X.here hx rfl (hb hby d1_11) rfl ((if0 _ _).trans (tlt (by decide : (0 : Int32) < (3 : Int32))).2.2.2) ?_
                                show Steps p.tables e below (T.setTop (mkF m 14 #[.val (.int x0), .val (.int (3 : Int32)), .val (.int (16 : Int32))] [])) _
                                refine XS.iloadN X.here hx rfl (hb hby d1_14) rfl ?_
                                show Steps p.tables e below (T.setTop (mkF m 15 #[.val (.int x0), .val (.int (3 : Int32)), .val (.int (16 : Int32))] [(.int (3 : Int32))])) _
                                refine XS.iconst X.here hx rfl (hb hby d1_15) ?_
                                show Steps p.tables e below (T.setTop (mkF m 16 #[.val (.int x0), .val (.int (3 : Int32)), .val (.int (16 : Int32))] [(.int (4 : Int32)), (.int (3 : Int32))])) _
                                refine XS.imul X.here hx rfl (hb hby d1_16) rfl ?_
                                show Steps p.tables e below (T.setTop (mkF m 17 #[.val (.int x0), .val (.int (3 : Int32)), .val (.int (16 : Int32))] [(.int (12 : Int32))])) _
                                refine XS.iconst X.here hx rfl (hb hby d1_17) ?_
                                show Steps p.tables e below (T.setTop (mkF m 18 #[.val (.int x0), .val (.int (3 : Int32)), .val (.int (16 : Int32))] [(.int (5 : Int32)), (.int (12 : Int32))])) _
                                refine XS.idiv X.here hx rfl (hb hby d1_18) rfl (by decide) ?_
                                show Steps p.tables e below (T.setTop (mkF m 19 #[.val (.int x0), .val (.int (3 : Int32)), .val (.int (16 : Int32))] [(.int (2 : Int32))])) _
                                refine XS.istoreN X.here hx rfl (hb hby d1_19) rfl (l' := #[.val (.int x0), .val (.int (2 : Int32)), .val (.int (16 : Int32))]) rfl ?_
                                show Steps p.tables e below (T.setTop (mkF m 20 #[.val (.int x0), .val (.int (2 : Int32)), .val (.int (16 : Int32))] [])) _
                                refine XS.iinc X.here hx rfl (hb hby d1_20) rfl (l' := #[.val (.int x0), .val (.int (2 : Int32)), .val (.int (17 : Int32))]) rfl ?_
                                show Steps p.tables e below (T.setTop (mkF m 23 #[.val (.int x0), .val (.int (2 : Int32)), .val (.int (17 : Int32))] [])) _
                                refine XS.goto X.here hx rfl (pc0 := 23) (pc' := 5) rfl (hb hby d1_23) (by decide) (by decide) ?_
                                show Steps p.tables e below (T.setTop (mkF m 5 #[.val (.int x0), .val (.int (2 : Int32)), .val (.int (17 : Int32))] [])) _
                                refine XS.iloadN X.here hx rfl (hb hby d1_5) rfl ?_
                                show Steps p.tables e below (T.setTop (mkF m 6 #[.val (.int x0), .val (.int (2 : Int32)), .val (.int (17 : Int32))] [(.int (17 : Int32))])) _
                                refine XS.iloadN X.here hx rfl (hb hby d1_6) rfl ?_
                                show Steps p.tables e below (T.setTop (mkF m 7 #[.val (.int x0), .val (.int (2 : Int32)), .val (.int (17 : Int32))] [(.int x0), (.int (17 : Int32))])) _
                                by_cases h7_232 : x0 < (17 : Int32)
                                · rw [if_pos h7_232] at hz
                                  refine XS.icmpYes X.here hx rfl (pc0 := 7) (pc' := 26) rfl (hb hby d1_7) rfl (tlt h7_232).2.2.1 (by decide) (by decide) ?_
                                  show Steps p.tables e below (T.setTop (mkF m 26 #[.val (.int x0), .val (.int (2 : Int32)), .val (.int (17 : Int32))] [])) _
                                  refine XS.iloadN X.here hx rfl (hb hby d1_26) rfl ?_
                                  show Steps p.tables e below (T.setTop (mkF m 27 #[.val (.int x0), .val (.int (2 : Int32)), .val (.int (17 : Int32))] [(.int (2 : Int32))])) _
                                  subst hz
                                  exact retI X hx hret (hb hby d1_27) hl
                                · rw [if_neg h7_232] at hz
                                  refine XS.icmpNo X.here hx rfl (hb hby d1_7) rfl (flt h7_232).2.2.1 ?_
                                  show Steps p.tables e below (T.setTop (mkF m 10 #[.val (.int x0), .val (.int (2 : Int32)), .val (.int (17 : Int32))] [])) _
                                  refine XS.iloadN X.here hx rfl (hb hby d1_10) rfl ?_
                                  show Steps p.tables e below (T.setTop (mkF m 11 #[.val (.int x0), .val (.int (2 : Int32)), .val (.int (17 : Int32))] [(.int (2 : Int32))])) _
                                  refine XS.ifNo X.here hx rfl (hb hby d1_11) rfl ((if0 _ _).trans (tlt (by decide : (0 : Int32) < (2 : Int32))).2.2.2) ?_
                                  show Steps p.tables e below (T.setTop (mkF m 14 #[.val (.int x0), .val (.int (2 : Int32)), .val (.int (17 : Int32))] [])) _
                                  refine XS.iloadN X.here hx rfl (hb hby d1_14) rfl ?_
                                  show Steps p.tables e below (T.setTop (mkF m 15 #[.val (.int x0), .val (.int (2 : Int32)), .val (.int (17 : Int32))] [(.int (2 : Int32))])) _
                                  refine XS.iconst X.here hx rfl (hb hby d1_15) ?_
                                  show Steps p.tables e below (T.setTop (mkF m 16 #[.val (.int x0), .val (.int (2 : Int32)), .val (.int (17 : Int32))] [(.int (4 : Int32)), (.int (2 : Int32))])) _
                                  refine XS.imul X.here hx rfl (hb hby d1_16) rfl ?_
                                  show Steps p.tables e below (T.setTop (mkF m 17 #[.val (.int x0), .val (.int (2 : Int32)), .val (.int (17 : Int32))] [(.int (8 : Int32))])) _
                                  refine XS.iconst X.here hx rfl (hb hby d1_17) ?_
                                  show Steps p.tables e below (T.setTop (mkF m 18 #[.val (.int x0), .val (.int (2 : Int32)), .val (.int (17 : Int32))] [(.int (5 : Int32)), (.int (8 : Int32))])) _
                                  refine XS.idiv X.here hx rfl (hb hby d1_18) rfl (by decide) ?_
                                  show Steps p.tables e below (T.setTop (mkF m 19 #[.val (.int x0), .val (.int (2 : Int32)), .val (.int (17 : Int32))] [(.int (1 : Int32))])) _
                                  refine XS.istoreN X.here hx rfl (hb hby d1_19) rfl (l' := #[.val (.int x0), .val (.int (1 : Int32)), .val (.int (17 : Int32))]) rfl ?_
                                  show Steps p.tables e below (T.setTop (mkF m 20 #[.val (.int x0), .val (.int (1 : Int32)), .val (.int (17 : Int32))] [])) _
                                  refine XS.iinc X.here hx rfl (hb hby d1_20) rfl (l' := #[.val (.int x0), .val (.int (1 : Int32)), .val (.int (18 : Int32))]) rfl ?_
                                  show Steps p.tables e below (T.setTop (mkF m 23 #[.val (.int x0), .val (.int (1 : Int32)), .val (.int (18 : Int32))] [])) _
                                  refine XS.goto X.here hx rfl (pc0 := 23) (pc' := 5) rfl (hb hby d1_23) (by decide) (by decide) ?_
                                  show Steps p.tables e below (T.setTop (mkF m 5 #[.val (.int x0), .val (.int (1 : Int32)), .val (.int (18 : Int32))] [])) _
                                  refine XS.iloadN X.here hx rfl (hb hby d1_5) rfl ?_
                                  show Steps p.tables e below (T.setTop (mkF m 6 #[.val (.int x0), .val (.int (1 : Int32)), .val (.int (18 : Int32))] [(.int (18 : Int32))])) _
                                  refine XS.iloadN X.here hx rfl (hb hby d1_6) rfl ?_
                                  show Steps p.tables e below (T.setTop (mkF m 7 #[.val (.int x0), .val (.int (1 : Int32)), .val (.int (18 : Int32))] [(.int x0), (.int (18 : Int32))])) _
                                  by_cases h7_247 : x0 < (18 : Int32)
                                  · rw [if_pos h7_247] at hz
                                    refine XS.icmpYes X.here hx rfl (pc0 := 7) (pc' := 26) rfl (hb hby d1_7) rfl (tlt h7_247).2.2.1 (by decide) (by decide) ?_
                                    show Steps p.tables e below (T.setTop (mkF m 26 #[.val (.int x0), .val (.int (1 : Int32)), .val (.int (18 : Int32))] [])) _
                                    refine XS.iloadN X.here hx rfl (hb hby d1_26) rfl ?_
                                    show Steps p.tables e below (T.setTop (mkF m 27 #[.val (.int x0), .val (.int (1 : Int32)), .val (.int (18 : Int32))] [(.int (1 : Int32))])) _
                                    subst hz
                                    exact retI X hx hret (hb hby d1_27) hl
                                  · rw [if_neg h7_247] at hz
                                    refine XS.icmpNo X.here hx rfl (hb hby d1_7) rfl (flt h7_247).2.2.1 ?_
                                    show Steps p.tables e below (T.setTop (mkF m 10 #[.val (.int x0), .val (.int (1 : Int32)), .val (.int (18 : Int32))] [])) _
                                    refine XS.iloadN X.here hx rfl (hb hby d1_10) rfl ?_
                                    show Steps p.tables e below (T.setTop (mkF m 11 #[.val (.int x0), .val (.int (1 : Int32)), .val (.int (18 : Int32))] [(.int (1 : Int32))])) _
                                    refine XS.ifNo X.here hx rfl (hb hby d1_11) rfl ((if0 _ _).trans (tlt (by decide : (0 : Int32) < (1 : Int32))).2.2.2) ?_
                                    show Steps p.tables e below (T.setTop (mkF m 14 #[.val (.int x0), .val (.int (1 : Int32)), .val (.int (18 : Int32))] [])) _
                                    refine XS.iloadN X.here hx rfl (hb hby d1_14) rfl ?_
                                    show Steps p.tables e below (T.setTop (mkF m 15 #[.val (.int x0), .val (.int (1 : Int32)), .val (.int (18 : Int32))] [(.int (1 : Int32))])) _
                                    refine XS.iconst X.here hx rfl (hb hby d1_15) ?_
                                    show Steps p.tables e below (T.setTop (mkF m 16 #[.val (.int x0), .val (.int (1 : Int32)), .val (.int (18 : Int32))] [(.int (4 : Int32)), (.int (1 : Int32))])) _
                                    refine XS.imul X.here hx rfl (hb hby d1_16) rfl ?_
                                    show Steps p.tables e below (T.setTop (mkF m 17 #[.val (.int x0), .val (.int (1 : Int32)), .val (.int (18 : Int32))] [(.int (4 : Int32))])) _
                                    refine XS.iconst X.here hx rfl (hb hby d1_17) ?_
                                    show Steps p.tables e below (T.setTop (mkF m 18 #[.val (.int x0), .val (.int (1 : Int32)), .val (.int (18 : Int32))] [(.int (5 : Int32)), (.int (4 : Int32))])) _
                                    refine XS.idiv X.here hx rfl (hb hby d1_18) rfl (by decide) ?_
                                    show Steps p.tables e below (T.setTop (mkF m 19 #[.val (.int x0), .val (.int (1 : Int32)), .val (.int (18 : Int32))] [(.int (0 : Int32))])) _
                                    refine XS.istoreN X.here hx rfl (hb hby d1_19) rfl (l' := #[.val (.int x0), .val (.int (0 : Int32)), .val (.int (18 : Int32))]) rfl ?_
                                    show Steps p.tables e below (T.setTop (mkF m 20 #[.val (.int x0), .val (.int (0 : Int32)), .val (.int (18 : Int32))] [])) _
                                    refine XS.iinc X.here hx rfl (hb hby d1_20) rfl (l' := #[.val (.int x0), .val (.int (0 : Int32)), .val (.int (19 : Int32))]) rfl ?_
                                    show Steps p.tables e below (T.setTop (mkF m 23 #[.val (.int x0), .val (.int (0 : Int32)), .val (.int (19 : Int32))] [])) _
                                    refine XS.goto X.here hx rfl (pc0 := 23) (pc' := 5) rfl (hb hby d1_23) (by decide) (by decide) ?_
                                    show Steps p.tables e below (T.setTop (mkF m 5 #[.val (.int x0), .val (.int (0 : Int32)), .val (.int (19 : Int32))] [])) _
                                    refine XS.iloadN X.here hx rfl (hb hby d1_5) rfl ?_
                                    show Steps p.tables e below (T.setTop (mkF m 6 #[.val (.int x0), .val (.int (0 : Int32)), .val (.int (19 : Int32))] [(.int (19 : Int32))])) _
                                    refine XS.iloadN X.here hx rfl (hb hby d1_6) rfl ?_
                                    show Steps p.tables e below (T.setTop (mkF m 7 #[.val (.int x0), .val (.int (0 : Int32)), .val (.int (19 : Int32))] [(.int x0), (.int (19 : Int32))])) _
                                    by_cases h7_262 : x0 < (19 : Int32)
                                    · rw [if_pos h7_262] at hz
                                      refine XS.icmpYes X.here hx rfl (pc0 := 7) (pc' := 26) rfl (hb hby d1_7) rfl (tlt h7_262).2.2.1 (by decide) (by decide) ?_
                                      show Steps p.tables e below (T.setTop (mkF m 26 #[.val (.int x0), .val (.int (0 : Int32)), .val (.int (19 : Int32))] [])) _
                                      refine XS.iloadN X.here hx rfl (hb hby d1_26) rfl ?_
                                      show Steps p.tables e below (T.setTop (mkF m 27 #[.val (.int x0), .val (.int (0 : Int32)), .val (.int (19 : Int32))] [(.int (0 : Int32))])) _
                                      subst hz
                                      exact retI X hx hret (hb hby d1_27) hl
                                    · rw [if_neg h7_262] at hz
                                      refine XS.icmpNo X.here hx rfl (hb hby d1_7) rfl (flt h7_262).2.2.1 ?_
                                      show Steps p.tables e below (T.setTop (mkF m 10 #[.val (.int x0), .val (.int (0 : Int32)), .val (.int (19 : Int32))] [])) _
                                      refine XS.iloadN X.here hx rfl (hb hby d1_10) rfl ?_
                                      show Steps p.tables e below (T.setTop (mkF m 11 #[.val (.int x0), .val (.int (0 : Int32)), .val (.int (19 : Int32))] [(.int (0 : Int32))])) _
                                      refine XS.ifYes X.here hx rfl (pc0 := 11) (pc' := 26) rfl (hb hby d1_11) rfl ((if0 _ _).trans (flt (by decide : ¬ ((0 : Int32) < (0 : Int32)))).2.2.2) (by decide) (by decide) ?_
                                      show Steps p.tables e below (T.setTop (mkF m 26 #[.val (.int x0), .val (.int (0 : Int32)), .val (.int (19 : Int32))] [])) _
                                      refine XS.iloadN X.here hx rfl (hb hby d1_26) rfl ?_
                                      show Steps p.tables e below (T.setTop (mkF m 27 #[.val (.int x0), .val (.int (0 : Int32)), .val (.int (19 : Int32))] [(.int (0 : Int32))])) _
                                      subst hz
                                      exact retI X hx hret (hb hby d1_27) hl
theorem ef_1 (m : MethodId) (p1 : Int32) : entryFrame m #[(.int p1)] 3 = mkF m 0 #[.val (.int p1), .unset, .unset] [] := by first | (simp [entryFrame, mkF, argsToLocals, Value.category]; done) | rfl
def Q1 (p1 : Int32) (h0 : Heap) (n0 : Nat) (v : Option Value) (h : Heap) (L : List Loc) : Prop := v = some (.int (f1_0 p1)) ∧ Fr n0 L ∧ h = h0
set_option maxRecDepth 65536 in
set_option maxHeartbeats 40000000 in
theorem rm1 (l : Launch) (Z : State) (a0 : Array Value) (hw : ∀ d ∈ tables_1, d.before a0 Z = true) (ws : List Jvm.Cond) (p1 : Int32) (h0 : Heap) (n0 : Nat) :
    MetFree l (⟨"com/example/rumblecourt/rumblecourt/referee/Scoring", "ladder", "(I)I"⟩ : MethodName) (head1 (Jvm.Cond.code (⟨"com/example/rumblecourt/rumblecourt/referee/Scoring", "ladder", "(I)I"⟩ : MethodName) prog_43_method_4_code 3 (some .int) :: ws) ({ frames := 0, cells := 0, slots := 0, locals := 0 } : Room)) (fun a U => a = #[(.int p1)] ∧ Z.Warmed39 U.vm ∧ U.heap = h0) (fun _ _ _ _ _ => True) (fun _ U o U' => ∃ v L, o = .returned v ∧ Q1 p1 h0 n0 v U'.heap L ∧ FrameEnd U o U' L ({ frames := 0, cells := 0, slots := 0, locals := 0 } : Room).cells ({ frames := 0, cells := 0, slots := 0, locals := 0 } : Room).slots) := by
  refine MetFree.of_bodySF (plainFor_of_name pn_1) hisR ?_
  intro p e s m args below meth c s₁ Bd hml0 hP hK
  obtain ⟨rfl, hZ, hh⟩ := hP
  have hx := Bd.exec
  have hby := Bd.bytes
  have hml : c.maxLocals = 3 := hml0
  have hown : s.vm.findClass "com/example/rumblecourt/rumblecourt/referee/Scoring" = some m.cls := findClass_of_methodNamed Bd.named
  have hnm := (name_of_methodNamed Bd.named Bd.method).1
  have X0 : Stand p l e ({ frames := 0, cells := 0, slots := 0, locals := 0 } : Room) s m #[(.int p1)] below meth c s₁ [] 0 0 := Stand.of_body Bd
  have e0 : s₁.heap = h0 := by rw [← hh, Bd.state]; rfl
  have N0 := Fr.nil n0
  have pre0 : ∀ t, Steps p.tables e below (s₁.setTop (mkF m 0 #[.val (.int p1), .unset, .unset] [])) t → Steps p.tables e below (s₁.setTop (entryFrame m #[(.int p1)] 3)) t := fun t k => castTop (ef_1 m p1) k
  obtain ⟨fs, hr, hrun, hended, hW, hsame⟩ := X0.leave (v := some (.int (f1_0 p1))) (fun h => by rw [Bd.returns] at h; cases h)
  refine ⟨_, _, pre0 _ ?_, hrun, hended, _, _, rfl, ?_, ⟨_, rfl⟩, hW, hsame.mono (by decide) (by decide)⟩
  · exact b1_0 X0 hx hby hown Bd.returns hr p1 rfl
  · show Q1 p1 h0 n0 _ s₁.heap _
    rw [e0]
    exact ⟨rfl, N0, rfl⟩
theorem own_one : (1 : Int32).toInt = 1 := by decide
theorem own_17 : (17 : Int32).toInt = 17 := by decide
set_option maxRecDepth 65536 in
theorem own_tab0 : ∀ k : Fin 17, ([(.int (100 : Int32)), (.int (80 : Int32)), (.int (64 : Int32)), (.int (51 : Int32)), (.int (40 : Int32)), (.int (32 : Int32)), (.int (25 : Int32)), (.int (20 : Int32)), (.int (16 : Int32)), (.int (12 : Int32)), (.int (9 : Int32)), (.int (7 : Int32)), (.int (5 : Int32)), (.int (4 : Int32)), (.int (3 : Int32)), (.int (2 : Int32)), (.int (1 : Int32))] : List Value)[k.val]? = some (.int (f1_0 (Int32.ofNat (k.val + 1)))) := by decide +kernel
theorem own_p1 {q : Int32} (h1 : ¬ q < (1 : Int32)) (h2 : ¬ (17 : Int32) < q) : (q - (1 : Int32)).toInt = q.toInt - 1 ∧ 1 ≤ q.toInt ∧ q.toInt ≤ 17 := by
  rw [Int32.lt_iff_toInt_lt, own_one] at h1
  rw [Int32.lt_iff_toInt_lt, own_17] at h2
  refine ⟨?_, by omega, by omega⟩
  rw [Jvm.Kit.i32_sub (by rw [own_one]; omega) (by rw [own_one]; omega), own_one]
theorem own_in {q : Int32} (h1 : ¬ q < (1 : Int32)) (h2 : ¬ (17 : Int32) < q) : ¬ ((q - (1 : Int32)) < 0 ∨ 17 ≤ (q - (1 : Int32)).toNatClampNeg) := by
  obtain ⟨e, a, b⟩ := own_p1 h1 h2
  exact own_idx (by omega) (by omega)
theorem own_tab {q : Int32} (h1 : ¬ q < (1 : Int32)) (h2 : ¬ (17 : Int32) < q) : ([(.int (100 : Int32)), (.int (80 : Int32)), (.int (64 : Int32)), (.int (51 : Int32)), (.int (40 : Int32)), (.int (32 : Int32)), (.int (25 : Int32)), (.int (20 : Int32)), (.int (16 : Int32)), (.int (12 : Int32)), (.int (9 : Int32)), (.int (7 : Int32)), (.int (5 : Int32)), (.int (4 : Int32)), (.int (3 : Int32)), (.int (2 : Int32)), (.int (1 : Int32))] : List Value)[(q - (1 : Int32)).toNatClampNeg]? = some (.int (f1_0 q)) := by
  obtain ⟨e, a, b⟩ := own_p1 h1 h2
  have k := own_tab0 ⟨(q - (1 : Int32)).toNatClampNeg, by have : (q - (1 : Int32)).toNatClampNeg = (q - (1 : Int32)).toInt.toNat := rfl; omega⟩
  have z : Int32.ofNat ((q - (1 : Int32)).toNatClampNeg + 1) = q := by
    apply Int32.toInt_inj.mp
    have : (q - (1 : Int32)).toNatClampNeg = (q - (1 : Int32)).toInt.toNat := rfl
    rw [Int32.toInt_ofNat_small (by omega)]; omega
  simp only [z] at k
  exact k
theorem own_big {q : Int32} (h : (17 : Int32) < q) : f1_0 q = (0 : Int32) := by
  rw [Int32.lt_iff_toInt_lt, own_17] at h
  have hn : ∀ c : Int32, c.toInt ≤ 18 → ¬ q < c := fun c hc z => by rw [Int32.lt_iff_toInt_lt] at z; omega
  unfold f1_0
  rw [if_neg (hn _ (by decide)), if_neg (hn _ (by decide)), if_neg (hn _ (by decide)), if_neg (hn _ (by decide)), if_neg (hn _ (by decide)), if_neg (hn _ (by decide)), if_neg (hn _ (by decide)), if_neg (hn _ (by decide)), if_neg (hn _ (by decide)), if_neg (hn _ (by decide)), if_neg (hn _ (by decide)), if_neg (hn _ (by decide)), if_neg (hn _ (by decide)), if_neg (hn _ (by decide)), if_neg (hn _ (by decide)), if_neg (hn _ (by decide)), if_neg (hn _ (by decide))]
  split <;> rfl
theorem pn_0 : plainName "com/example/rumblecourt/rumblecourt/referee/ScoringLadderPinLaw" = true := by first | (simp [plainName, overriddenIn]; done) | decide +kernel
theorem ef_0 (m : MethodId) (p1 : Int32) (p2 : Int32) : entryFrame m #[(.int p1), (.int p2)] maxLocals = mkF m 0 #[.val (.int p1), .val (.int p2), .unset, .unset, .unset] [] := by first | (simp [entryFrame, mkF, argsToLocals, Value.category, maxLocals]; done) | rfl
theorem pd_0_0 : parseMethodDescriptor "(I)I" = some ⟨[.int], some .int⟩ := by decide +kernel
def Q0 (n0 : Nat) (v : Option Value) (L : List Loc) : Prop := v = some (.int 1) ∧ Fr n0 L
set_option maxRecDepth 65536 in
set_option maxHeartbeats 40000000 in
theorem rm0 (l : Launch) (Z : State) (a0 : Array Value) (hw : ∀ d ∈ tables_1, d.before a0 Z = true) (ws : List Jvm.Cond) (p1 : Int32) (p2 : Int32) (h0 : Heap) (n0 : Nat) (Z0 : n0 ≤ h0.size) :
    MetFree l x (head1 (Jvm.Cond.code x code maxLocals ret :: ws) room_1) (fun a U => a = #[(.int p1), (.int p2)] ∧ Z.Warmed39 U.vm ∧ U.heap = h0) (fun _ _ _ _ _ => True) (fun _ U o U' => ∃ v L, o = .returned v ∧ Q0 n0 v L ∧ FrameEnd U o U' L room_1.cells room_1.slots) := by
  refine MetFree.of_bodySF (plainFor_of_name pn_0) hisR ?_
  intro p e s m args below meth c s₁ Bd hml0 hP hK
  obtain ⟨rfl, hZ, hh⟩ := hP
  have hx := Bd.exec
  have hby := Bd.bytes
  have hml : c.maxLocals = 5 := hml0
  have hown : s.vm.findClass "com/example/rumblecourt/rumblecourt/referee/ScoringLadderPinLaw" = some m.cls := findClass_of_methodNamed Bd.named
  have hnm := (name_of_methodNamed Bd.named Bd.method).1
  have X0 : Stand p l e room_1 s m #[(.int p1), (.int p2)] below meth c s₁ [] 0 0 := Stand.of_body Bd
  have e0 : s₁.heap = h0 := by rw [← hh, Bd.state]; rfl
  have N0 := Fr.nil n0
  have pre0 : ∀ t, Steps p.tables e below (s₁.setTop (mkF m 0 #[.val (.int p1), .val (.int p2), .unset, .unset, .unset] [])) t → Steps p.tables e below (s₁.setTop (entryFrame m #[(.int p1), (.int p2)] maxLocals)) t := fun t k => castTop (ef_0 m p1 p2) k
  have pre2 : ∀ t, Steps p.tables e below (s₁.setTop (mkF m 3 #[.val (.int p1), .val (.int p2), .unset, .unset, .unset] [(.int (p2 &&& (1 : Int32)))])) t → Steps p.tables e below (s₁.setTop (entryFrame m #[(.int p1), (.int p2)] maxLocals)) t := by
    intro t k
    refine pre0 t ?_
    show Steps p.tables e below (s₁.setTop (mkF m 0 #[.val (.int p1), .val (.int p2), .unset, .unset, .unset] [])) _
    refine XS.iloadN X0.here hx rfl (hb hby at_0) rfl ?_
    show Steps p.tables e below (s₁.setTop (mkF m 1 #[.val (.int p1), .val (.int p2), .unset, .unset, .unset] [(.int p2)])) _
    refine XS.iconst X0.here hx rfl (hb hby at_1) ?_
    show Steps p.tables e below (s₁.setTop (mkF m 2 #[.val (.int p1), .val (.int p2), .unset, .unset, .unset] [(.int (1 : Int32)), (.int p2)])) _
    refine XS.iand X0.here hx rfl (hb hby at_2) rfl ?_
    show Steps p.tables e below (s₁.setTop (mkF m 3 #[.val (.int p1), .val (.int p2), .unset, .unset, .unset] [(.int (p2 &&& (1 : Int32)))])) _
    exact k
  by_cases h3_1 : (p2 &&& (1 : Int32)) = (0 : Int32)
  · have pre4 : ∀ t, Steps p.tables e below (s₁.setTop (mkF m 22 #[.val (.int p1), .val (.int p2), .val (.int (p1 &&& (2147483647 : Int32))), .unset, .unset] [(.int (1 : Int32)), (.int (p1 &&& (2147483647 : Int32)))])) t → Steps p.tables e below (s₁.setTop (entryFrame m #[(.int p1), (.int p2)] maxLocals)) t := by
      intro t k
      refine pre2 t ?_
      refine XS.ifYes X0.here hx rfl (pc0 := 3) (pc' := 15) rfl (hb hby at_3) rfl ((if0 _ _).trans (teq h3_1).1) (by decide) (by decide) ?_
      show Steps p.tables e below (s₁.setTop (mkF m 15 #[.val (.int p1), .val (.int p2), .unset, .unset, .unset] [])) _
      refine XS.iloadN X0.here hx rfl (hb hby at_15) rfl ?_
      show Steps p.tables e below (s₁.setTop (mkF m 16 #[.val (.int p1), .val (.int p2), .unset, .unset, .unset] [(.int p1)])) _
      refine X0.ldcInt hx hown (mvT hZ (hw _ (List.mem_of_getElem? (i := 5) rfl))) (g := (mkF m 16 #[.val (.int p1), .val (.int p2), .unset, .unset, .unset] [(.int p1)])) rfl (hb hby at_16) _ ?_
      show Steps p.tables e below (s₁.setTop (mkF m 18 #[.val (.int p1), .val (.int p2), .unset, .unset, .unset] [(.int (2147483647 : Int32)), (.int p1)])) _
      refine XS.iand X0.here hx rfl (hb hby at_18) rfl ?_
      show Steps p.tables e below (s₁.setTop (mkF m 19 #[.val (.int p1), .val (.int p2), .unset, .unset, .unset] [(.int (p1 &&& (2147483647 : Int32)))])) _
      refine XS.istoreN X0.here hx rfl (hb hby at_19) rfl (l' := #[.val (.int p1), .val (.int p2), .val (.int (p1 &&& (2147483647 : Int32))), .unset, .unset]) rfl ?_
      show Steps p.tables e below (s₁.setTop (mkF m 20 #[.val (.int p1), .val (.int p2), .val (.int (p1 &&& (2147483647 : Int32))), .unset, .unset] [])) _
      refine XS.iloadN X0.here hx rfl (hb hby at_20) rfl ?_
      show Steps p.tables e below (s₁.setTop (mkF m 21 #[.val (.int p1), .val (.int p2), .val (.int (p1 &&& (2147483647 : Int32))), .unset, .unset] [(.int (p1 &&& (2147483647 : Int32)))])) _
      refine XS.iconst X0.here hx rfl (hb hby at_21) ?_
      show Steps p.tables e below (s₁.setTop (mkF m 22 #[.val (.int p1), .val (.int p2), .val (.int (p1 &&& (2147483647 : Int32))), .unset, .unset] [(.int (1 : Int32)), (.int (p1 &&& (2147483647 : Int32)))])) _
      exact k
    by_cases h22_3 : (p1 &&& (2147483647 : Int32)) < (1 : Int32)
    · have pre5 : ∀ t, Steps p.tables e below (s₁.setTop (mkF m 26 #[.val (.int p1), .val (.int p2), .val (.int (p1 &&& (2147483647 : Int32))), .unset, .unset] [(.int (1 : Int32))])) t → Steps p.tables e below (s₁.setTop (entryFrame m #[(.int p1), (.int p2)] maxLocals)) t := by
        intro t k
        refine pre4 t ?_
        refine XS.icmpNo X0.here hx rfl (hb hby at_22) rfl (tlt h22_3).2.1 ?_
        show Steps p.tables e below (s₁.setTop (mkF m 25 #[.val (.int p1), .val (.int p2), .val (.int (p1 &&& (2147483647 : Int32))), .unset, .unset] [])) _
        refine XS.iconst X0.here hx rfl (hb hby at_25) ?_
        show Steps p.tables e below (s₁.setTop (mkF m 26 #[.val (.int p1), .val (.int p2), .val (.int (p1 &&& (2147483647 : Int32))), .unset, .unset] [(.int (1 : Int32))])) _
        exact k
      obtain ⟨fs, hr, hrun, hended, hW, hsame⟩ := X0.leave (v := some (.int (1 : Int32))) (fun h => by rw [Bd.returns] at h; cases h)
      refine ⟨_, _, pre5 _ ?_, hrun, hended, _, _, rfl, ?_, ⟨_, rfl⟩, hW, hsame.mono (by decide) (by decide)⟩
      · exact retN X0 hx (t := .boolean) Bd.returns (by simp) (hb hby at_26) hr
      · exact ⟨rfl, N0⟩
    · obtain ⟨T6, H6, cA6, X6, e6, E6, A6, st6⟩ := newP X0 hx hZ (aty := .int) (hw _ (List.mem_of_getElem? (i := 0) rfl)) e0 (g := (mkF m 29 #[.val (.int p1), .val (.int p2), .val (.int (p1 &&& (2147483647 : Int32))), .unset, .unset] [(.int (17 : Int32))])) rfl (hb hby at_29) rfl (by decide) (cap := 17) (by decide) (by decide) (by decide) (by decide)
      obtain ⟨b6, g6⟩ : ∃ z, z = h0.size := ⟨_, rfl⟩
      rw [← g6] at A6 st6
      have V6 : own_VA Z H6 b6 .int [(.int (0 : Int32)), (.int (0 : Int32)), (.int (0 : Int32)), (.int (0 : Int32)), (.int (0 : Int32)), (.int (0 : Int32)), (.int (0 : Int32)), (.int (0 : Int32)), (.int (0 : Int32)), (.int (0 : Int32)), (.int (0 : Int32)), (.int (0 : Int32)), (.int (0 : Int32)), (.int (0 : Int32)), (.int (0 : Int32)), (.int (0 : Int32)), (.int (0 : Int32))] := own_VA_new (ty := .int) A6 (k := 17) (by decide)
      have Z6 : n0 ≤ H6.size := Nat.le_trans Z0 E6.1
      have gb6 : n0 ≤ b6 := Nat.le_trans Z0 (Nat.le_of_eq g6.symm)
      obtain ⟨T7, H7, X7, e7, V7', W7, st7⟩ := own_stI X6 hx hZ e6 V6 (n := 17) (k := 0) rfl (by decide) (by decide) (g := (mkF m 35 #[.val (.int p1), .val (.int p2), .val (.int (p1 &&& (2147483647 : Int32))), .unset, .unset] [(.int (100 : Int32)), (.int (0 : Int32)), (.ref b6), (.ref b6)])) rfl rfl (hb hby at_35)
      have V7 : own_VA Z H7 b6 .int [(.int (100 : Int32)), (.int (0 : Int32)), (.int (0 : Int32)), (.int (0 : Int32)), (.int (0 : Int32)), (.int (0 : Int32)), (.int (0 : Int32)), (.int (0 : Int32)), (.int (0 : Int32)), (.int (0 : Int32)), (.int (0 : Int32)), (.int (0 : Int32)), (.int (0 : Int32)), (.int (0 : Int32)), (.int (0 : Int32)), (.int (0 : Int32)), (.int (0 : Int32))] := V7'
      have N7 := Fr.snoc X7 N0 gb6
      have Z7 : n0 ≤ H7.size := Nat.le_trans Z6 (Nat.le_of_eq W7.size.symm)
      obtain ⟨T8, H8, X8, e8, V8', W8, st8⟩ := own_stI X7 hx hZ e7 V7 (n := 17) (k := 1) rfl (by decide) (by decide) (g := (mkF m 40 #[.val (.int p1), .val (.int p2), .val (.int (p1 &&& (2147483647 : Int32))), .unset, .unset] [(.int (80 : Int32)), (.int (1 : Int32)), (.ref b6), (.ref b6)])) rfl rfl (hb hby at_40)
      have V8 : own_VA Z H8 b6 .int [(.int (100 : Int32)), (.int (80 : Int32)), (.int (0 : Int32)), (.int (0 : Int32)), (.int (0 : Int32)), (.int (0 : Int32)), (.int (0 : Int32)), (.int (0 : Int32)), (.int (0 : Int32)), (.int (0 : Int32)), (.int (0 : Int32)), (.int (0 : Int32)), (.int (0 : Int32)), (.int (0 : Int32)), (.int (0 : Int32)), (.int (0 : Int32)), (.int (0 : Int32))] := V8'
      have N8 := Fr.snoc X8 N7 gb6
      have Z8 : n0 ≤ H8.size := Nat.le_trans Z7 (Nat.le_of_eq W8.size.symm)
      obtain ⟨T9, H9, X9, e9, V9', W9, st9⟩ := own_stI X8 hx hZ e8 V8 (n := 17) (k := 2) rfl (by decide) (by decide) (g := (mkF m 45 #[.val (.int p1), .val (.int p2), .val (.int (p1 &&& (2147483647 : Int32))), .unset, .unset] [(.int (64 : Int32)), (.int (2 : Int32)), (.ref b6), (.ref b6)])) rfl rfl (hb hby at_45)
      have V9 : own_VA Z H9 b6 .int [(.int (100 : Int32)), (.int (80 : Int32)), (.int (64 : Int32)), (.int (0 : Int32)), (.int (0 : Int32)), (.int (0 : Int32)), (.int (0 : Int32)), (.int (0 : Int32)), (.int (0 : Int32)), (.int (0 : Int32)), (.int (0 : Int32)), (.int (0 : Int32)), (.int (0 : Int32)), (.int (0 : Int32)), (.int (0 : Int32)), (.int (0 : Int32)), (.int (0 : Int32))] := V9'
      have N9 := Fr.snoc X9 N8 gb6
      have Z9 : n0 ≤ H9.size := Nat.le_trans Z8 (Nat.le_of_eq W9.size.symm)
      obtain ⟨T10, H10, X10, e10, V10', W10, st10⟩ := own_stI X9 hx hZ e9 V9 (n := 17) (k := 3) rfl (by decide) (by decide) (g := (mkF m 50 #[.val (.int p1), .val (.int p2), .val (.int (p1 &&& (2147483647 : Int32))), .unset, .unset] [(.int (51 : Int32)), (.int (3 : Int32)), (.ref b6), (.ref b6)])) rfl rfl (hb hby at_50)
      have V10 : own_VA Z H10 b6 .int [(.int (100 : Int32)), (.int (80 : Int32)), (.int (64 : Int32)), (.int (51 : Int32)), (.int (0 : Int32)), (.int (0 : Int32)), (.int (0 : Int32)), (.int (0 : Int32)), (.int (0 : Int32)), (.int (0 : Int32)), (.int (0 : Int32)), (.int (0 : Int32)), (.int (0 : Int32)), (.int (0 : Int32)), (.int (0 : Int32)), (.int (0 : Int32)), (.int (0 : Int32))] := V10'
      have N10 := Fr.snoc X10 N9 gb6
      have Z10 : n0 ≤ H10.size := Nat.le_trans Z9 (Nat.le_of_eq W10.size.symm)
      obtain ⟨T11, H11, X11, e11, V11', W11, st11⟩ := own_stI X10 hx hZ e10 V10 (n := 17) (k := 4) rfl (by decide) (by decide) (g := (mkF m 55 #[.val (.int p1), .val (.int p2), .val (.int (p1 &&& (2147483647 : Int32))), .unset, .unset] [(.int (40 : Int32)), (.int (4 : Int32)), (.ref b6), (.ref b6)])) rfl rfl (hb hby at_55)
      have V11 : own_VA Z H11 b6 .int [(.int (100 : Int32)), (.int (80 : Int32)), (.int (64 : Int32)), (.int (51 : Int32)), (.int (40 : Int32)), (.int (0 : Int32)), (.int (0 : Int32)), (.int (0 : Int32)), (.int (0 : Int32)), (.int (0 : Int32)), (.int (0 : Int32)), (.int (0 : Int32)), (.int (0 : Int32)), (.int (0 : Int32)), (.int (0 : Int32)), (.int (0 : Int32)), (.int (0 : Int32))] := V11'
      have N11 := Fr.snoc X11 N10 gb6
      have Z11 : n0 ≤ H11.size := Nat.le_trans Z10 (Nat.le_of_eq W11.size.symm)
      obtain ⟨T12, H12, X12, e12, V12', W12, st12⟩ := own_stI X11 hx hZ e11 V11 (n := 17) (k := 5) rfl (by decide) (by decide) (g := (mkF m 60 #[.val (.int p1), .val (.int p2), .val (.int (p1 &&& (2147483647 : Int32))), .unset, .unset] [(.int (32 : Int32)), (.int (5 : Int32)), (.ref b6), (.ref b6)])) rfl rfl (hb hby at_60)
      have V12 : own_VA Z H12 b6 .int [(.int (100 : Int32)), (.int (80 : Int32)), (.int (64 : Int32)), (.int (51 : Int32)), (.int (40 : Int32)), (.int (32 : Int32)), (.int (0 : Int32)), (.int (0 : Int32)), (.int (0 : Int32)), (.int (0 : Int32)), (.int (0 : Int32)), (.int (0 : Int32)), (.int (0 : Int32)), (.int (0 : Int32)), (.int (0 : Int32)), (.int (0 : Int32)), (.int (0 : Int32))] := V12'
      have N12 := Fr.snoc X12 N11 gb6
      have Z12 : n0 ≤ H12.size := Nat.le_trans Z11 (Nat.le_of_eq W12.size.symm)
      obtain ⟨T13, H13, X13, e13, V13', W13, st13⟩ := own_stI X12 hx hZ e12 V12 (n := 17) (k := 6) rfl (by decide) (by decide) (g := (mkF m 66 #[.val (.int p1), .val (.int p2), .val (.int (p1 &&& (2147483647 : Int32))), .unset, .unset] [(.int (25 : Int32)), (.int (6 : Int32)), (.ref b6), (.ref b6)])) rfl rfl (hb hby at_66)
      have V13 : own_VA Z H13 b6 .int [(.int (100 : Int32)), (.int (80 : Int32)), (.int (64 : Int32)), (.int (51 : Int32)), (.int (40 : Int32)), (.int (32 : Int32)), (.int (25 : Int32)), (.int (0 : Int32)), (.int (0 : Int32)), (.int (0 : Int32)), (.int (0 : Int32)), (.int (0 : Int32)), (.int (0 : Int32)), (.int (0 : Int32)), (.int (0 : Int32)), (.int (0 : Int32)), (.int (0 : Int32))] := V13'
      have N13 := Fr.snoc X13 N12 gb6
      have Z13 : n0 ≤ H13.size := Nat.le_trans Z12 (Nat.le_of_eq W13.size.symm)
      obtain ⟨T14, H14, X14, e14, V14', W14, st14⟩ := own_stI X13 hx hZ e13 V13 (n := 17) (k := 7) rfl (by decide) (by decide) (g := (mkF m 72 #[.val (.int p1), .val (.int p2), .val (.int (p1 &&& (2147483647 : Int32))), .unset, .unset] [(.int (20 : Int32)), (.int (7 : Int32)), (.ref b6), (.ref b6)])) rfl rfl (hb hby at_72)
      have V14 : own_VA Z H14 b6 .int [(.int (100 : Int32)), (.int (80 : Int32)), (.int (64 : Int32)), (.int (51 : Int32)), (.int (40 : Int32)), (.int (32 : Int32)), (.int (25 : Int32)), (.int (20 : Int32)), (.int (0 : Int32)), (.int (0 : Int32)), (.int (0 : Int32)), (.int (0 : Int32)), (.int (0 : Int32)), (.int (0 : Int32)), (.int (0 : Int32)), (.int (0 : Int32)), (.int (0 : Int32))] := V14'
      have N14 := Fr.snoc X14 N13 gb6
      have Z14 : n0 ≤ H14.size := Nat.le_trans Z13 (Nat.le_of_eq W14.size.symm)
      obtain ⟨T15, H15, X15, e15, V15', W15, st15⟩ := own_stI X14 hx hZ e14 V14 (n := 17) (k := 8) rfl (by decide) (by decide) (g := (mkF m 78 #[.val (.int p1), .val (.int p2), .val (.int (p1 &&& (2147483647 : Int32))), .unset, .unset] [(.int (16 : Int32)), (.int (8 : Int32)), (.ref b6), (.ref b6)])) rfl rfl (hb hby at_78)
      have V15 : own_VA Z H15 b6 .int [(.int (100 : Int32)), (.int (80 : Int32)), (.int (64 : Int32)), (.int (51 : Int32)), (.int (40 : Int32)), (.int (32 : Int32)), (.int (25 : Int32)), (.int (20 : Int32)), (.int (16 : Int32)), (.int (0 : Int32)), (.int (0 : Int32)), (.int (0 : Int32)), (.int (0 : Int32)), (.int (0 : Int32)), (.int (0 : Int32)), (.int (0 : Int32)), (.int (0 : Int32))] := V15'
      have N15 := Fr.snoc X15 N14 gb6
      have Z15 : n0 ≤ H15.size := Nat.le_trans Z14 (Nat.le_of_eq W15.size.symm)
      obtain ⟨T16, H16, X16, e16, V16', W16, st16⟩ := own_stI X15 hx hZ e15 V15 (n := 17) (k := 9) rfl (by decide) (by decide) (g := (mkF m 84 #[.val (.int p1), .val (.int p2), .val (.int (p1 &&& (2147483647 : Int32))), .unset, .unset] [(.int (12 : Int32)), (.int (9 : Int32)), (.ref b6), (.ref b6)])) rfl rfl (hb hby at_84)
      have V16 : own_VA Z H16 b6 .int [(.int (100 : Int32)), (.int (80 : Int32)), (.int (64 : Int32)), (.int (51 : Int32)), (.int (40 : Int32)), (.int (32 : Int32)), (.int (25 : Int32)), (.int (20 : Int32)), (.int (16 : Int32)), (.int (12 : Int32)), (.int (0 : Int32)), (.int (0 : Int32)), (.int (0 : Int32)), (.int (0 : Int32)), (.int (0 : Int32)), (.int (0 : Int32)), (.int (0 : Int32))] := V16'
      have N16 := Fr.snoc X16 N15 gb6
      have Z16 : n0 ≤ H16.size := Nat.le_trans Z15 (Nat.le_of_eq W16.size.symm)
      obtain ⟨T17, H17, X17, e17, V17', W17, st17⟩ := own_stI X16 hx hZ e16 V16 (n := 17) (k := 10) rfl (by decide) (by decide) (g := (mkF m 90 #[.val (.int p1), .val (.int p2), .val (.int (p1 &&& (2147483647 : Int32))), .unset, .unset] [(.int (9 : Int32)), (.int (10 : Int32)), (.ref b6), (.ref b6)])) rfl rfl (hb hby at_90)
      have V17 : own_VA Z H17 b6 .int [(.int (100 : Int32)), (.int (80 : Int32)), (.int (64 : Int32)), (.int (51 : Int32)), (.int (40 : Int32)), (.int (32 : Int32)), (.int (25 : Int32)), (.int (20 : Int32)), (.int (16 : Int32)), (.int (12 : Int32)), (.int (9 : Int32)), (.int (0 : Int32)), (.int (0 : Int32)), (.int (0 : Int32)), (.int (0 : Int32)), (.int (0 : Int32)), (.int (0 : Int32))] := V17'
      have N17 := Fr.snoc X17 N16 gb6
      have Z17 : n0 ≤ H17.size := Nat.le_trans Z16 (Nat.le_of_eq W17.size.symm)
      obtain ⟨T18, H18, X18, e18, V18', W18, st18⟩ := own_stI X17 hx hZ e17 V17 (n := 17) (k := 11) rfl (by decide) (by decide) (g := (mkF m 96 #[.val (.int p1), .val (.int p2), .val (.int (p1 &&& (2147483647 : Int32))), .unset, .unset] [(.int (7 : Int32)), (.int (11 : Int32)), (.ref b6), (.ref b6)])) rfl rfl (hb hby at_96)
      have V18 : own_VA Z H18 b6 .int [(.int (100 : Int32)), (.int (80 : Int32)), (.int (64 : Int32)), (.int (51 : Int32)), (.int (40 : Int32)), (.int (32 : Int32)), (.int (25 : Int32)), (.int (20 : Int32)), (.int (16 : Int32)), (.int (12 : Int32)), (.int (9 : Int32)), (.int (7 : Int32)), (.int (0 : Int32)), (.int (0 : Int32)), (.int (0 : Int32)), (.int (0 : Int32)), (.int (0 : Int32))] := V18'
      have N18 := Fr.snoc X18 N17 gb6
      have Z18 : n0 ≤ H18.size := Nat.le_trans Z17 (Nat.le_of_eq W18.size.symm)
      obtain ⟨T19, H19, X19, e19, V19', W19, st19⟩ := own_stI X18 hx hZ e18 V18 (n := 17) (k := 12) rfl (by decide) (by decide) (g := (mkF m 101 #[.val (.int p1), .val (.int p2), .val (.int (p1 &&& (2147483647 : Int32))), .unset, .unset] [(.int (5 : Int32)), (.int (12 : Int32)), (.ref b6), (.ref b6)])) rfl rfl (hb hby at_101)
      have V19 : own_VA Z H19 b6 .int [(.int (100 : Int32)), (.int (80 : Int32)), (.int (64 : Int32)), (.int (51 : Int32)), (.int (40 : Int32)), (.int (32 : Int32)), (.int (25 : Int32)), (.int (20 : Int32)), (.int (16 : Int32)), (.int (12 : Int32)), (.int (9 : Int32)), (.int (7 : Int32)), (.int (5 : Int32)), (.int (0 : Int32)), (.int (0 : Int32)), (.int (0 : Int32)), (.int (0 : Int32))] := V19'
      have N19 := Fr.snoc X19 N18 gb6
      have Z19 : n0 ≤ H19.size := Nat.le_trans Z18 (Nat.le_of_eq W19.size.symm)
      obtain ⟨T20, H20, X20, e20, V20', W20, st20⟩ := own_stI X19 hx hZ e19 V19 (n := 17) (k := 13) rfl (by decide) (by decide) (g := (mkF m 106 #[.val (.int p1), .val (.int p2), .val (.int (p1 &&& (2147483647 : Int32))), .unset, .unset] [(.int (4 : Int32)), (.int (13 : Int32)), (.ref b6), (.ref b6)])) rfl rfl (hb hby at_106)
      have V20 : own_VA Z H20 b6 .int [(.int (100 : Int32)), (.int (80 : Int32)), (.int (64 : Int32)), (.int (51 : Int32)), (.int (40 : Int32)), (.int (32 : Int32)), (.int (25 : Int32)), (.int (20 : Int32)), (.int (16 : Int32)), (.int (12 : Int32)), (.int (9 : Int32)), (.int (7 : Int32)), (.int (5 : Int32)), (.int (4 : Int32)), (.int (0 : Int32)), (.int (0 : Int32)), (.int (0 : Int32))] := V20'
      have N20 := Fr.snoc X20 N19 gb6
      have Z20 : n0 ≤ H20.size := Nat.le_trans Z19 (Nat.le_of_eq W20.size.symm)
      obtain ⟨T21, H21, X21, e21, V21', W21, st21⟩ := own_stI X20 hx hZ e20 V20 (n := 17) (k := 14) rfl (by decide) (by decide) (g := (mkF m 111 #[.val (.int p1), .val (.int p2), .val (.int (p1 &&& (2147483647 : Int32))), .unset, .unset] [(.int (3 : Int32)), (.int (14 : Int32)), (.ref b6), (.ref b6)])) rfl rfl (hb hby at_111)
      have V21 : own_VA Z H21 b6 .int [(.int (100 : Int32)), (.int (80 : Int32)), (.int (64 : Int32)), (.int (51 : Int32)), (.int (40 : Int32)), (.int (32 : Int32)), (.int (25 : Int32)), (.int (20 : Int32)), (.int (16 : Int32)), (.int (12 : Int32)), (.int (9 : Int32)), (.int (7 : Int32)), (.int (5 : Int32)), (.int (4 : Int32)), (.int (3 : Int32)), (.int (0 : Int32)), (.int (0 : Int32))] := V21'
      have N21 := Fr.snoc X21 N20 gb6
      have Z21 : n0 ≤ H21.size := Nat.le_trans Z20 (Nat.le_of_eq W21.size.symm)
      obtain ⟨T22, H22, X22, e22, V22', W22, st22⟩ := own_stI X21 hx hZ e21 V21 (n := 17) (k := 15) rfl (by decide) (by decide) (g := (mkF m 116 #[.val (.int p1), .val (.int p2), .val (.int (p1 &&& (2147483647 : Int32))), .unset, .unset] [(.int (2 : Int32)), (.int (15 : Int32)), (.ref b6), (.ref b6)])) rfl rfl (hb hby at_116)
      have V22 : own_VA Z H22 b6 .int [(.int (100 : Int32)), (.int (80 : Int32)), (.int (64 : Int32)), (.int (51 : Int32)), (.int (40 : Int32)), (.int (32 : Int32)), (.int (25 : Int32)), (.int (20 : Int32)), (.int (16 : Int32)), (.int (12 : Int32)), (.int (9 : Int32)), (.int (7 : Int32)), (.int (5 : Int32)), (.int (4 : Int32)), (.int (3 : Int32)), (.int (2 : Int32)), (.int (0 : Int32))] := V22'
      have N22 := Fr.snoc X22 N21 gb6
      have Z22 : n0 ≤ H22.size := Nat.le_trans Z21 (Nat.le_of_eq W22.size.symm)
      obtain ⟨T23, H23, X23, e23, V23', W23, st23⟩ := own_stI X22 hx hZ e22 V22 (n := 17) (k := 16) rfl (by decide) (by decide) (g := (mkF m 121 #[.val (.int p1), .val (.int p2), .val (.int (p1 &&& (2147483647 : Int32))), .unset, .unset] [(.int (1 : Int32)), (.int (16 : Int32)), (.ref b6), (.ref b6)])) rfl rfl (hb hby at_121)
      have V23 : own_VA Z H23 b6 .int [(.int (100 : Int32)), (.int (80 : Int32)), (.int (64 : Int32)), (.int (51 : Int32)), (.int (40 : Int32)), (.int (32 : Int32)), (.int (25 : Int32)), (.int (20 : Int32)), (.int (16 : Int32)), (.int (12 : Int32)), (.int (9 : Int32)), (.int (7 : Int32)), (.int (5 : Int32)), (.int (4 : Int32)), (.int (3 : Int32)), (.int (2 : Int32)), (.int (1 : Int32))] := V23'
      have N23 := Fr.snoc X23 N22 gb6
      have Z23 : n0 ≤ H23.size := Nat.le_trans Z22 (Nat.le_of_eq W23.size.symm)
      have pre25 : ∀ t, Steps p.tables e below (T23.setTop (mkF m 126 #[.val (.int p1), .val (.int p2), .val (.int (p1 &&& (2147483647 : Int32))), .val (.ref b6), .unset] [(.int (17 : Int32)), (.int (p1 &&& (2147483647 : Int32)))])) t → Steps p.tables e below (s₁.setTop (entryFrame m #[(.int p1), (.int p2)] maxLocals)) t := by
        intro t k
        refine pre4 t ?_
        refine XS.icmpYes X0.here hx rfl (pc0 := 22) (pc' := 27) rfl (hb hby at_22) rfl (flt h22_3).2.1 (by decide) (by decide) ?_
        show Steps p.tables e below (s₁.setTop (mkF m 27 #[.val (.int p1), .val (.int p2), .val (.int (p1 &&& (2147483647 : Int32))), .unset, .unset] [])) _
        refine XS.bipush X0.here hx rfl (hb hby at_27) ?_
        show Steps p.tables e below (s₁.setTop (mkF m 29 #[.val (.int p1), .val (.int p2), .val (.int (p1 &&& (2147483647 : Int32))), .unset, .unset] [(.int (17 : Int32))])) _
        refine st6 _ ?_
        show Steps p.tables e below (T6.setTop (mkF m 31 #[.val (.int p1), .val (.int p2), .val (.int (p1 &&& (2147483647 : Int32))), .unset, .unset] [(.ref b6)])) _
        refine XS.dup X6.here hx rfl (hb hby at_31) rfl rfl ?_
        show Steps p.tables e below (T6.setTop (mkF m 32 #[.val (.int p1), .val (.int p2), .val (.int (p1 &&& (2147483647 : Int32))), .unset, .unset] [(.ref b6), (.ref b6)])) _
        refine XS.iconst X6.here hx rfl (hb hby at_32) ?_
        show Steps p.tables e below (T6.setTop (mkF m 33 #[.val (.int p1), .val (.int p2), .val (.int (p1 &&& (2147483647 : Int32))), .unset, .unset] [(.int (0 : Int32)), (.ref b6), (.ref b6)])) _
        refine XS.bipush X6.here hx rfl (hb hby at_33) ?_
        show Steps p.tables e below (T6.setTop (mkF m 35 #[.val (.int p1), .val (.int p2), .val (.int (p1 &&& (2147483647 : Int32))), .unset, .unset] [(.int (100 : Int32)), (.int (0 : Int32)), (.ref b6), (.ref b6)])) _
        refine st7 _ ?_
        show Steps p.tables e below (T7.setTop (mkF m 36 #[.val (.int p1), .val (.int p2), .val (.int (p1 &&& (2147483647 : Int32))), .unset, .unset] [(.ref b6)])) _
        refine XS.dup X7.here hx rfl (hb hby at_36) rfl rfl ?_
        show Steps p.tables e below (T7.setTop (mkF m 37 #[.val (.int p1), .val (.int p2), .val (.int (p1 &&& (2147483647 : Int32))), .unset, .unset] [(.ref b6), (.ref b6)])) _
        refine XS.iconst X7.here hx rfl (hb hby at_37) ?_
        show Steps p.tables e below (T7.setTop (mkF m 38 #[.val (.int p1), .val (.int p2), .val (.int (p1 &&& (2147483647 : Int32))), .unset, .unset] [(.int (1 : Int32)), (.ref b6), (.ref b6)])) _
        refine XS.bipush X7.here hx rfl (hb hby at_38) ?_
        show Steps p.tables e below (T7.setTop (mkF m 40 #[.val (.int p1), .val (.int p2), .val (.int (p1 &&& (2147483647 : Int32))), .unset, .unset] [(.int (80 : Int32)), (.int (1 : Int32)), (.ref b6), (.ref b6)])) _
        refine st8 _ ?_
        show Steps p.tables e below (T8.setTop (mkF m 41 #[.val (.int p1), .val (.int p2), .val (.int (p1 &&& (2147483647 : Int32))), .unset, .unset] [(.ref b6)])) _
        refine XS.dup X8.here hx rfl (hb hby at_41) rfl rfl ?_
        show Steps p.tables e below (T8.setTop (mkF m 42 #[.val (.int p1), .val (.int p2), .val (.int (p1 &&& (2147483647 : Int32))), .unset, .unset] [(.ref b6), (.ref b6)])) _
        refine XS.iconst X8.here hx rfl (hb hby at_42) ?_
        show Steps p.tables e below (T8.setTop (mkF m 43 #[.val (.int p1), .val (.int p2), .val (.int (p1 &&& (2147483647 : Int32))), .unset, .unset] [(.int (2 : Int32)), (.ref b6), (.ref b6)])) _
        refine XS.bipush X8.here hx rfl (hb hby at_43) ?_
        show Steps p.tables e below (T8.setTop (mkF m 45 #[.val (.int p1), .val (.int p2), .val (.int (p1 &&& (2147483647 : Int32))), .unset, .unset] [(.int (64 : Int32)), (.int (2 : Int32)), (.ref b6), (.ref b6)])) _
        refine st9 _ ?_
        show Steps p.tables e below (T9.setTop (mkF m 46 #[.val (.int p1), .val (.int p2), .val (.int (p1 &&& (2147483647 : Int32))), .unset, .unset] [(.ref b6)])) _
        refine XS.dup X9.here hx rfl (hb hby at_46) rfl rfl ?_
        show Steps p.tables e below (T9.setTop (mkF m 47 #[.val (.int p1), .val (.int p2), .val (.int (p1 &&& (2147483647 : Int32))), .unset, .unset] [(.ref b6), (.ref b6)])) _
        refine XS.iconst X9.here hx rfl (hb hby at_47) ?_
        show Steps p.tables e below (T9.setTop (mkF m 48 #[.val (.int p1), .val (.int p2), .val (.int (p1 &&& (2147483647 : Int32))), .unset, .unset] [(.int (3 : Int32)), (.ref b6), (.ref b6)])) _
        refine XS.bipush X9.here hx rfl (hb hby at_48) ?_
        show Steps p.tables e below (T9.setTop (mkF m 50 #[.val (.int p1), .val (.int p2), .val (.int (p1 &&& (2147483647 : Int32))), .unset, .unset] [(.int (51 : Int32)), (.int (3 : Int32)), (.ref b6), (.ref b6)])) _
        refine st10 _ ?_
        show Steps p.tables e below (T10.setTop (mkF m 51 #[.val (.int p1), .val (.int p2), .val (.int (p1 &&& (2147483647 : Int32))), .unset, .unset] [(.ref b6)])) _
        refine XS.dup X10.here hx rfl (hb hby at_51) rfl rfl ?_
        show Steps p.tables e below (T10.setTop (mkF m 52 #[.val (.int p1), .val (.int p2), .val (.int (p1 &&& (2147483647 : Int32))), .unset, .unset] [(.ref b6), (.ref b6)])) _
        refine XS.iconst X10.here hx rfl (hb hby at_52) ?_
        show Steps p.tables e below (T10.setTop (mkF m 53 #[.val (.int p1), .val (.int p2), .val (.int (p1 &&& (2147483647 : Int32))), .unset, .unset] [(.int (4 : Int32)), (.ref b6), (.ref b6)])) _
        refine XS.bipush X10.here hx rfl (hb hby at_53) ?_
        show Steps p.tables e below (T10.setTop (mkF m 55 #[.val (.int p1), .val (.int p2), .val (.int (p1 &&& (2147483647 : Int32))), .unset, .unset] [(.int (40 : Int32)), (.int (4 : Int32)), (.ref b6), (.ref b6)])) _
        refine st11 _ ?_
        show Steps p.tables e below (T11.setTop (mkF m 56 #[.val (.int p1), .val (.int p2), .val (.int (p1 &&& (2147483647 : Int32))), .unset, .unset] [(.ref b6)])) _
        refine XS.dup X11.here hx rfl (hb hby at_56) rfl rfl ?_
        show Steps p.tables e below (T11.setTop (mkF m 57 #[.val (.int p1), .val (.int p2), .val (.int (p1 &&& (2147483647 : Int32))), .unset, .unset] [(.ref b6), (.ref b6)])) _
        refine XS.iconst X11.here hx rfl (hb hby at_57) ?_
        show Steps p.tables e below (T11.setTop (mkF m 58 #[.val (.int p1), .val (.int p2), .val (.int (p1 &&& (2147483647 : Int32))), .unset, .unset] [(.int (5 : Int32)), (.ref b6), (.ref b6)])) _
        refine XS.bipush X11.here hx rfl (hb hby at_58) ?_
        show Steps p.tables e below (T11.setTop (mkF m 60 #[.val (.int p1), .val (.int p2), .val (.int (p1 &&& (2147483647 : Int32))), .unset, .unset] [(.int (32 : Int32)), (.int (5 : Int32)), (.ref b6), (.ref b6)])) _
        refine st12 _ ?_
        show Steps p.tables e below (T12.setTop (mkF m 61 #[.val (.int p1), .val (.int p2), .val (.int (p1 &&& (2147483647 : Int32))), .unset, .unset] [(.ref b6)])) _
        refine XS.dup X12.here hx rfl (hb hby at_61) rfl rfl ?_
        show Steps p.tables e below (T12.setTop (mkF m 62 #[.val (.int p1), .val (.int p2), .val (.int (p1 &&& (2147483647 : Int32))), .unset, .unset] [(.ref b6), (.ref b6)])) _
        refine XS.bipush X12.here hx rfl (hb hby at_62) ?_
        show Steps p.tables e below (T12.setTop (mkF m 64 #[.val (.int p1), .val (.int p2), .val (.int (p1 &&& (2147483647 : Int32))), .unset, .unset] [(.int (6 : Int32)), (.ref b6), (.ref b6)])) _
        refine XS.bipush X12.here hx rfl (hb hby at_64) ?_
        show Steps p.tables e below (T12.setTop (mkF m 66 #[.val (.int p1), .val (.int p2), .val (.int (p1 &&& (2147483647 : Int32))), .unset, .unset] [(.int (25 : Int32)), (.int (6 : Int32)), (.ref b6), (.ref b6)])) _
        refine st13 _ ?_
        show Steps p.tables e below (T13.setTop (mkF m 67 #[.val (.int p1), .val (.int p2), .val (.int (p1 &&& (2147483647 : Int32))), .unset, .unset] [(.ref b6)])) _
        refine XS.dup X13.here hx rfl (hb hby at_67) rfl rfl ?_
        show Steps p.tables e below (T13.setTop (mkF m 68 #[.val (.int p1), .val (.int p2), .val (.int (p1 &&& (2147483647 : Int32))), .unset, .unset] [(.ref b6), (.ref b6)])) _
        refine XS.bipush X13.here hx rfl (hb hby at_68) ?_
        show Steps p.tables e below (T13.setTop (mkF m 70 #[.val (.int p1), .val (.int p2), .val (.int (p1 &&& (2147483647 : Int32))), .unset, .unset] [(.int (7 : Int32)), (.ref b6), (.ref b6)])) _
        refine XS.bipush X13.here hx rfl (hb hby at_70) ?_
        show Steps p.tables e below (T13.setTop (mkF m 72 #[.val (.int p1), .val (.int p2), .val (.int (p1 &&& (2147483647 : Int32))), .unset, .unset] [(.int (20 : Int32)), (.int (7 : Int32)), (.ref b6), (.ref b6)])) _
        refine st14 _ ?_
        show Steps p.tables e below (T14.setTop (mkF m 73 #[.val (.int p1), .val (.int p2), .val (.int (p1 &&& (2147483647 : Int32))), .unset, .unset] [(.ref b6)])) _
        refine XS.dup X14.here hx rfl (hb hby at_73) rfl rfl ?_
        show Steps p.tables e below (T14.setTop (mkF m 74 #[.val (.int p1), .val (.int p2), .val (.int (p1 &&& (2147483647 : Int32))), .unset, .unset] [(.ref b6), (.ref b6)])) _
        refine XS.bipush X14.here hx rfl (hb hby at_74) ?_
        show Steps p.tables e below (T14.setTop (mkF m 76 #[.val (.int p1), .val (.int p2), .val (.int (p1 &&& (2147483647 : Int32))), .unset, .unset] [(.int (8 : Int32)), (.ref b6), (.ref b6)])) _
        refine XS.bipush X14.here hx rfl (hb hby at_76) ?_
        show Steps p.tables e below (T14.setTop (mkF m 78 #[.val (.int p1), .val (.int p2), .val (.int (p1 &&& (2147483647 : Int32))), .unset, .unset] [(.int (16 : Int32)), (.int (8 : Int32)), (.ref b6), (.ref b6)])) _
        refine st15 _ ?_
        show Steps p.tables e below (T15.setTop (mkF m 79 #[.val (.int p1), .val (.int p2), .val (.int (p1 &&& (2147483647 : Int32))), .unset, .unset] [(.ref b6)])) _
        refine XS.dup X15.here hx rfl (hb hby at_79) rfl rfl ?_
        show Steps p.tables e below (T15.setTop (mkF m 80 #[.val (.int p1), .val (.int p2), .val (.int (p1 &&& (2147483647 : Int32))), .unset, .unset] [(.ref b6), (.ref b6)])) _
        refine XS.bipush X15.here hx rfl (hb hby at_80) ?_
        show Steps p.tables e below (T15.setTop (mkF m 82 #[.val (.int p1), .val (.int p2), .val (.int (p1 &&& (2147483647 : Int32))), .unset, .unset] [(.int (9 : Int32)), (.ref b6), (.ref b6)])) _
        refine XS.bipush X15.here hx rfl (hb hby at_82) ?_
        show Steps p.tables e below (T15.setTop (mkF m 84 #[.val (.int p1), .val (.int p2), .val (.int (p1 &&& (2147483647 : Int32))), .unset, .unset] [(.int (12 : Int32)), (.int (9 : Int32)), (.ref b6), (.ref b6)])) _
        refine st16 _ ?_
        show Steps p.tables e below (T16.setTop (mkF m 85 #[.val (.int p1), .val (.int p2), .val (.int (p1 &&& (2147483647 : Int32))), .unset, .unset] [(.ref b6)])) _
        refine XS.dup X16.here hx rfl (hb hby at_85) rfl rfl ?_
        show Steps p.tables e below (T16.setTop (mkF m 86 #[.val (.int p1), .val (.int p2), .val (.int (p1 &&& (2147483647 : Int32))), .unset, .unset] [(.ref b6), (.ref b6)])) _
        refine XS.bipush X16.here hx rfl (hb hby at_86) ?_
        show Steps p.tables e below (T16.setTop (mkF m 88 #[.val (.int p1), .val (.int p2), .val (.int (p1 &&& (2147483647 : Int32))), .unset, .unset] [(.int (10 : Int32)), (.ref b6), (.ref b6)])) _
        refine XS.bipush X16.here hx rfl (hb hby at_88) ?_
        show Steps p.tables e below (T16.setTop (mkF m 90 #[.val (.int p1), .val (.int p2), .val (.int (p1 &&& (2147483647 : Int32))), .unset, .unset] [(.int (9 : Int32)), (.int (10 : Int32)), (.ref b6), (.ref b6)])) _
        refine st17 _ ?_
        show Steps p.tables e below (T17.setTop (mkF m 91 #[.val (.int p1), .val (.int p2), .val (.int (p1 &&& (2147483647 : Int32))), .unset, .unset] [(.ref b6)])) _
        refine XS.dup X17.here hx rfl (hb hby at_91) rfl rfl ?_
        show Steps p.tables e below (T17.setTop (mkF m 92 #[.val (.int p1), .val (.int p2), .val (.int (p1 &&& (2147483647 : Int32))), .unset, .unset] [(.ref b6), (.ref b6)])) _
        refine XS.bipush X17.here hx rfl (hb hby at_92) ?_
        show Steps p.tables e below (T17.setTop (mkF m 94 #[.val (.int p1), .val (.int p2), .val (.int (p1 &&& (2147483647 : Int32))), .unset, .unset] [(.int (11 : Int32)), (.ref b6), (.ref b6)])) _
        refine XS.bipush X17.here hx rfl (hb hby at_94) ?_
        show Steps p.tables e below (T17.setTop (mkF m 96 #[.val (.int p1), .val (.int p2), .val (.int (p1 &&& (2147483647 : Int32))), .unset, .unset] [(.int (7 : Int32)), (.int (11 : Int32)), (.ref b6), (.ref b6)])) _
        refine st18 _ ?_
        show Steps p.tables e below (T18.setTop (mkF m 97 #[.val (.int p1), .val (.int p2), .val (.int (p1 &&& (2147483647 : Int32))), .unset, .unset] [(.ref b6)])) _
        refine XS.dup X18.here hx rfl (hb hby at_97) rfl rfl ?_
        show Steps p.tables e below (T18.setTop (mkF m 98 #[.val (.int p1), .val (.int p2), .val (.int (p1 &&& (2147483647 : Int32))), .unset, .unset] [(.ref b6), (.ref b6)])) _
        refine XS.bipush X18.here hx rfl (hb hby at_98) ?_
        show Steps p.tables e below (T18.setTop (mkF m 100 #[.val (.int p1), .val (.int p2), .val (.int (p1 &&& (2147483647 : Int32))), .unset, .unset] [(.int (12 : Int32)), (.ref b6), (.ref b6)])) _
        refine XS.iconst X18.here hx rfl (hb hby at_100) ?_
        show Steps p.tables e below (T18.setTop (mkF m 101 #[.val (.int p1), .val (.int p2), .val (.int (p1 &&& (2147483647 : Int32))), .unset, .unset] [(.int (5 : Int32)), (.int (12 : Int32)), (.ref b6), (.ref b6)])) _
        refine st19 _ ?_
        show Steps p.tables e below (T19.setTop (mkF m 102 #[.val (.int p1), .val (.int p2), .val (.int (p1 &&& (2147483647 : Int32))), .unset, .unset] [(.ref b6)])) _
        refine XS.dup X19.here hx rfl (hb hby at_102) rfl rfl ?_
        show Steps p.tables e below (T19.setTop (mkF m 103 #[.val (.int p1), .val (.int p2), .val (.int (p1 &&& (2147483647 : Int32))), .unset, .unset] [(.ref b6), (.ref b6)])) _
        refine XS.bipush X19.here hx rfl (hb hby at_103) ?_
        show Steps p.tables e below (T19.setTop (mkF m 105 #[.val (.int p1), .val (.int p2), .val (.int (p1 &&& (2147483647 : Int32))), .unset, .unset] [(.int (13 : Int32)), (.ref b6), (.ref b6)])) _
        refine XS.iconst X19.here hx rfl (hb hby at_105) ?_
        show Steps p.tables e below (T19.setTop (mkF m 106 #[.val (.int p1), .val (.int p2), .val (.int (p1 &&& (2147483647 : Int32))), .unset, .unset] [(.int (4 : Int32)), (.int (13 : Int32)), (.ref b6), (.ref b6)])) _
        refine st20 _ ?_
        show Steps p.tables e below (T20.setTop (mkF m 107 #[.val (.int p1), .val (.int p2), .val (.int (p1 &&& (2147483647 : Int32))), .unset, .unset] [(.ref b6)])) _
        refine XS.dup X20.here hx rfl (hb hby at_107) rfl rfl ?_
        show Steps p.tables e below (T20.setTop (mkF m 108 #[.val (.int p1), .val (.int p2), .val (.int (p1 &&& (2147483647 : Int32))), .unset, .unset] [(.ref b6), (.ref b6)])) _
        refine XS.bipush X20.here hx rfl (hb hby at_108) ?_
        show Steps p.tables e below (T20.setTop (mkF m 110 #[.val (.int p1), .val (.int p2), .val (.int (p1 &&& (2147483647 : Int32))), .unset, .unset] [(.int (14 : Int32)), (.ref b6), (.ref b6)])) _
        refine XS.iconst X20.here hx rfl (hb hby at_110) ?_
        show Steps p.tables e below (T20.setTop (mkF m 111 #[.val (.int p1), .val (.int p2), .val (.int (p1 &&& (2147483647 : Int32))), .unset, .unset] [(.int (3 : Int32)), (.int (14 : Int32)), (.ref b6), (.ref b6)])) _
        refine st21 _ ?_
        show Steps p.tables e below (T21.setTop (mkF m 112 #[.val (.int p1), .val (.int p2), .val (.int (p1 &&& (2147483647 : Int32))), .unset, .unset] [(.ref b6)])) _
        refine XS.dup X21.here hx rfl (hb hby at_112) rfl rfl ?_
        show Steps p.tables e below (T21.setTop (mkF m 113 #[.val (.int p1), .val (.int p2), .val (.int (p1 &&& (2147483647 : Int32))), .unset, .unset] [(.ref b6), (.ref b6)])) _
        refine XS.bipush X21.here hx rfl (hb hby at_113) ?_
        show Steps p.tables e below (T21.setTop (mkF m 115 #[.val (.int p1), .val (.int p2), .val (.int (p1 &&& (2147483647 : Int32))), .unset, .unset] [(.int (15 : Int32)), (.ref b6), (.ref b6)])) _
        refine XS.iconst X21.here hx rfl (hb hby at_115) ?_
        show Steps p.tables e below (T21.setTop (mkF m 116 #[.val (.int p1), .val (.int p2), .val (.int (p1 &&& (2147483647 : Int32))), .unset, .unset] [(.int (2 : Int32)), (.int (15 : Int32)), (.ref b6), (.ref b6)])) _
        refine st22 _ ?_
        show Steps p.tables e below (T22.setTop (mkF m 117 #[.val (.int p1), .val (.int p2), .val (.int (p1 &&& (2147483647 : Int32))), .unset, .unset] [(.ref b6)])) _
        refine XS.dup X22.here hx rfl (hb hby at_117) rfl rfl ?_
        show Steps p.tables e below (T22.setTop (mkF m 118 #[.val (.int p1), .val (.int p2), .val (.int (p1 &&& (2147483647 : Int32))), .unset, .unset] [(.ref b6), (.ref b6)])) _
        refine XS.bipush X22.here hx rfl (hb hby at_118) ?_
        show Steps p.tables e below (T22.setTop (mkF m 120 #[.val (.int p1), .val (.int p2), .val (.int (p1 &&& (2147483647 : Int32))), .unset, .unset] [(.int (16 : Int32)), (.ref b6), (.ref b6)])) _
        refine XS.iconst X22.here hx rfl (hb hby at_120) ?_
        show Steps p.tables e below (T22.setTop (mkF m 121 #[.val (.int p1), .val (.int p2), .val (.int (p1 &&& (2147483647 : Int32))), .unset, .unset] [(.int (1 : Int32)), (.int (16 : Int32)), (.ref b6), (.ref b6)])) _
        refine st23 _ ?_
        show Steps p.tables e below (T23.setTop (mkF m 122 #[.val (.int p1), .val (.int p2), .val (.int (p1 &&& (2147483647 : Int32))), .unset, .unset] [(.ref b6)])) _
        refine XS.astoreN X23.here hx rfl (hb hby at_122) rfl rfl (l' := #[.val (.int p1), .val (.int p2), .val (.int (p1 &&& (2147483647 : Int32))), .val (.ref b6), .unset]) rfl ?_
        show Steps p.tables e below (T23.setTop (mkF m 123 #[.val (.int p1), .val (.int p2), .val (.int (p1 &&& (2147483647 : Int32))), .val (.ref b6), .unset] [])) _
        refine XS.iloadN X23.here hx rfl (hb hby at_123) rfl ?_
        show Steps p.tables e below (T23.setTop (mkF m 124 #[.val (.int p1), .val (.int p2), .val (.int (p1 &&& (2147483647 : Int32))), .val (.ref b6), .unset] [(.int (p1 &&& (2147483647 : Int32)))])) _
        refine XS.bipush X23.here hx rfl (hb hby at_124) ?_
        show Steps p.tables e below (T23.setTop (mkF m 126 #[.val (.int p1), .val (.int p2), .val (.int (p1 &&& (2147483647 : Int32))), .val (.ref b6), .unset] [(.int (17 : Int32)), (.int (p1 &&& (2147483647 : Int32)))])) _
        exact k
      by_cases h126_24 : (17 : Int32) < (p1 &&& (2147483647 : Int32))
      · obtain ⟨_, _, ⟨T26, L26, k26, n26⟩, -, X26, ⟨Lc26, hQ26, l26, y26, z26⟩, st26⟩ := Jvm.LawKit.callS X23 hx (y := (⟨"com/example/rumblecourt/rumblecourt/referee/Scoring", "ladder", "(I)I"⟩ : MethodName)) hown (mvT hZ (hw _ (List.mem_of_getElem? (i := 1) rfl))) (mvT hZ (hw _ (List.mem_of_getElem? (i := 2) rfl))) (mvT hZ (hw _ (List.mem_of_getElem? (i := 3) rfl))) (mvT hZ (hw _ (List.mem_of_getElem? (i := 4) rfl))) (by decide) (backOf (W := 0) (rm1 l Z a0 hw [] (p1 &&& (2147483647 : Int32)) H23 n0) hZ (hw _ (List.mem_of_getElem? (i := 4) rfl)) (hw _ (List.mem_of_getElem? (i := 3) rfl)) (by decide) (by decide)) (g := (mkF m 141 #[.val (.int p1), .val (.int p2), .val (.int (p1 &&& (2147483647 : Int32))), .val (.ref b6), .val (.int (0 : Int32))] [(.int (p1 &&& (2147483647 : Int32)))])) rfl (by rw [hml]; rfl) (argsL := [(.int (p1 &&& (2147483647 : Int32)))]) (rest := []) (lenOf pd_0_0 rfl) rfl (by show 2 * 0 + _ ≤ _; exact Nat.le_of_eq rfl) (hb hby at_141) (fun _ _ => ⟨rfl, e23, (by decide : 1 + 0 ≤ _), (by decide : 17 + 0 ≤ _)⟩)
        dsimp only [Pt.U, Pt.locs, Pt.cells, Pt.slots] at X26 l26 y26 z26 st26 hQ26
        subst l26 y26 z26
        obtain ⟨rfl, N26q, e26⟩ := hQ26
        have N26 := Fr.app N23 N26q
        have h146_27 : (f1_0 (p1 &&& (2147483647 : Int32))) = (0 : Int32) := own_big h126_24
        have pre28 : ∀ t, Steps p.tables e below (T26.setTop (mkF m 154 #[.val (.int p1), .val (.int p2), .val (.int (p1 &&& (2147483647 : Int32))), .val (.ref b6), .val (.int (0 : Int32))] [(.int (1 : Int32))])) t → Steps p.tables e below (s₁.setTop (entryFrame m #[(.int p1), (.int p2)] maxLocals)) t := by
          intro t k
          refine pre25 t ?_
          refine XS.icmpYes X23.here hx rfl (pc0 := 126) (pc' := 137) rfl (hb hby at_126) rfl (tlt h126_24).2.2.1 (by decide) (by decide) ?_
          show Steps p.tables e below (T23.setTop (mkF m 137 #[.val (.int p1), .val (.int p2), .val (.int (p1 &&& (2147483647 : Int32))), .val (.ref b6), .unset] [])) _
          refine XS.iconst X23.here hx rfl (hb hby at_137) ?_
          show Steps p.tables e below (T23.setTop (mkF m 138 #[.val (.int p1), .val (.int p2), .val (.int (p1 &&& (2147483647 : Int32))), .val (.ref b6), .unset] [(.int (0 : Int32))])) _
          refine XS.istore X23.here hx rfl (hb hby at_138) rfl (l' := #[.val (.int p1), .val (.int p2), .val (.int (p1 &&& (2147483647 : Int32))), .val (.ref b6), .val (.int (0 : Int32))]) rfl ?_
          show Steps p.tables e below (T23.setTop (mkF m 140 #[.val (.int p1), .val (.int p2), .val (.int (p1 &&& (2147483647 : Int32))), .val (.ref b6), .val (.int (0 : Int32))] [])) _
          refine XS.iloadN X23.here hx rfl (hb hby at_140) rfl ?_
          show Steps p.tables e below (T23.setTop (mkF m 141 #[.val (.int p1), .val (.int p2), .val (.int (p1 &&& (2147483647 : Int32))), .val (.ref b6), .val (.int (0 : Int32))] [(.int (p1 &&& (2147483647 : Int32)))])) _
          refine st26 _ ?_
          show Steps p.tables e below (T26.setTop (mkF m 144 #[.val (.int p1), .val (.int p2), .val (.int (p1 &&& (2147483647 : Int32))), .val (.ref b6), .val (.int (0 : Int32))] [(.int (f1_0 (p1 &&& (2147483647 : Int32))))])) _
          refine XS.iload X26.here hx rfl (hb hby at_144) rfl ?_
          show Steps p.tables e below (T26.setTop (mkF m 146 #[.val (.int p1), .val (.int p2), .val (.int (p1 &&& (2147483647 : Int32))), .val (.ref b6), .val (.int (0 : Int32))] [(.int (0 : Int32)), (.int (f1_0 (p1 &&& (2147483647 : Int32))))])) _
          refine XS.icmpNo X26.here hx rfl (hb hby at_146) rfl (teq h146_27).2 ?_
          show Steps p.tables e below (T26.setTop (mkF m 149 #[.val (.int p1), .val (.int p2), .val (.int (p1 &&& (2147483647 : Int32))), .val (.ref b6), .val (.int (0 : Int32))] [])) _
          refine XS.iconst X26.here hx rfl (hb hby at_149) ?_
          show Steps p.tables e below (T26.setTop (mkF m 150 #[.val (.int p1), .val (.int p2), .val (.int (p1 &&& (2147483647 : Int32))), .val (.ref b6), .val (.int (0 : Int32))] [(.int (1 : Int32))])) _
          refine XS.goto X26.here hx rfl (pc0 := 150) (pc' := 154) rfl (hb hby at_150) (by decide) (by decide) ?_
          show Steps p.tables e below (T26.setTop (mkF m 154 #[.val (.int p1), .val (.int p2), .val (.int (p1 &&& (2147483647 : Int32))), .val (.ref b6), .val (.int (0 : Int32))] [(.int (1 : Int32))])) _
          exact k
        obtain ⟨fs, hr, hrun, hended, hW, hsame⟩ := X26.leave (v := some (.int (1 : Int32))) (fun h => by rw [Bd.returns] at h; cases h)
        refine ⟨_, _, pre28 _ ?_, hrun, hended, _, _, rfl, ?_, ⟨_, rfl⟩, hW, hsame.mono (by decide) (by decide)⟩
        · exact retN X26 hx (t := .boolean) Bd.returns (by simp) (hb hby at_154) hr
        · exact ⟨rfl, N26⟩
      · have hj29 : ¬ (((p1 &&& (2147483647 : Int32)) - (1 : Int32)) < 0 ∨ 17 ≤ (((p1 &&& (2147483647 : Int32)) - (1 : Int32))).toNatClampNeg) := own_in h22_3 h126_24
        have hv29 : ([(.int (100 : Int32)), (.int (80 : Int32)), (.int (64 : Int32)), (.int (51 : Int32)), (.int (40 : Int32)), (.int (32 : Int32)), (.int (25 : Int32)), (.int (20 : Int32)), (.int (16 : Int32)), (.int (12 : Int32)), (.int (9 : Int32)), (.int (7 : Int32)), (.int (5 : Int32)), (.int (4 : Int32)), (.int (3 : Int32)), (.int (2 : Int32)), (.int (1 : Int32))] : List Value)[(((p1 &&& (2147483647 : Int32)) - (1 : Int32))).toNatClampNeg]? = some (.int (f1_0 (p1 &&& (2147483647 : Int32)))) := own_tab h22_3 h126_24
        obtain ⟨_, _, ⟨T30, L30, k30, n30⟩, -, X30, ⟨Lc30, hQ30, l30, y30, z30⟩, st30⟩ := Jvm.LawKit.callS X23 hx (y := (⟨"com/example/rumblecourt/rumblecourt/referee/Scoring", "ladder", "(I)I"⟩ : MethodName)) hown (mvT hZ (hw _ (List.mem_of_getElem? (i := 1) rfl))) (mvT hZ (hw _ (List.mem_of_getElem? (i := 2) rfl))) (mvT hZ (hw _ (List.mem_of_getElem? (i := 3) rfl))) (mvT hZ (hw _ (List.mem_of_getElem? (i := 4) rfl))) (by decide) (backOf (W := 0) (rm1 l Z a0 hw [] (p1 &&& (2147483647 : Int32)) H23 n0) hZ (hw _ (List.mem_of_getElem? (i := 4) rfl)) (hw _ (List.mem_of_getElem? (i := 3) rfl)) (by decide) (by decide)) (g := (mkF m 141 #[.val (.int p1), .val (.int p2), .val (.int (p1 &&& (2147483647 : Int32))), .val (.ref b6), .val (.int (f1_0 (p1 &&& (2147483647 : Int32))))] [(.int (p1 &&& (2147483647 : Int32)))])) rfl (by rw [hml]; rfl) (argsL := [(.int (p1 &&& (2147483647 : Int32)))]) (rest := []) (lenOf pd_0_0 rfl) rfl (by show 2 * 0 + _ ≤ _; exact Nat.le_of_eq rfl) (hb hby at_141) (fun _ _ => ⟨rfl, e23, (by decide : 1 + 0 ≤ _), (by decide : 17 + 0 ≤ _)⟩)
        dsimp only [Pt.U, Pt.locs, Pt.cells, Pt.slots] at X30 l30 y30 z30 st30 hQ30
        subst l30 y30 z30
        obtain ⟨rfl, N30q, e30⟩ := hQ30
        have N30 := Fr.app N23 N30q
        have h146_31 : (f1_0 (p1 &&& (2147483647 : Int32))) = (f1_0 (p1 &&& (2147483647 : Int32))) := rfl
        have pre32 : ∀ t, Steps p.tables e below (T30.setTop (mkF m 154 #[.val (.int p1), .val (.int p2), .val (.int (p1 &&& (2147483647 : Int32))), .val (.ref b6), .val (.int (f1_0 (p1 &&& (2147483647 : Int32))))] [(.int (1 : Int32))])) t → Steps p.tables e below (s₁.setTop (entryFrame m #[(.int p1), (.int p2)] maxLocals)) t := by
          intro t k
          refine pre25 t ?_
          refine XS.icmpNo X23.here hx rfl (hb hby at_126) rfl (flt h126_24).2.2.1 ?_
          show Steps p.tables e below (T23.setTop (mkF m 129 #[.val (.int p1), .val (.int p2), .val (.int (p1 &&& (2147483647 : Int32))), .val (.ref b6), .unset] [])) _
          refine XS.aloadN X23.here hx rfl (hb hby at_129) rfl rfl ?_
          show Steps p.tables e below (T23.setTop (mkF m 130 #[.val (.int p1), .val (.int p2), .val (.int (p1 &&& (2147483647 : Int32))), .val (.ref b6), .unset] [(.ref b6)])) _
          refine XS.iloadN X23.here hx rfl (hb hby at_130) rfl ?_
          show Steps p.tables e below (T23.setTop (mkF m 131 #[.val (.int p1), .val (.int p2), .val (.int (p1 &&& (2147483647 : Int32))), .val (.ref b6), .unset] [(.int (p1 &&& (2147483647 : Int32))), (.ref b6)])) _
          refine XS.iconst X23.here hx rfl (hb hby at_131) ?_
          show Steps p.tables e below (T23.setTop (mkF m 132 #[.val (.int p1), .val (.int p2), .val (.int (p1 &&& (2147483647 : Int32))), .val (.ref b6), .unset] [(.int (1 : Int32)), (.int (p1 &&& (2147483647 : Int32))), (.ref b6)])) _
          refine XS.isub X23.here hx rfl (hb hby at_132) rfl ?_
          show Steps p.tables e below (T23.setTop (mkF m 133 #[.val (.int p1), .val (.int p2), .val (.int (p1 &&& (2147483647 : Int32))), .val (.ref b6), .unset] [(.int ((p1 &&& (2147483647 : Int32)) - (1 : Int32))), (.ref b6)])) _
          refine own_ldI X23 hx hZ e23 V23 (n := 17) (v := (.int (f1_0 (p1 &&& (2147483647 : Int32))))) rfl hj29 hv29 (g := (mkF m 133 #[.val (.int p1), .val (.int p2), .val (.int (p1 &&& (2147483647 : Int32))), .val (.ref b6), .unset] [(.int ((p1 &&& (2147483647 : Int32)) - (1 : Int32))), (.ref b6)])) rfl rfl (hb hby at_133) _ ?_
          show Steps p.tables e below (T23.setTop (mkF m 134 #[.val (.int p1), .val (.int p2), .val (.int (p1 &&& (2147483647 : Int32))), .val (.ref b6), .unset] [(.int (f1_0 (p1 &&& (2147483647 : Int32))))])) _
          refine XS.goto X23.here hx rfl (pc0 := 134) (pc' := 138) rfl (hb hby at_134) (by decide) (by decide) ?_
          show Steps p.tables e below (T23.setTop (mkF m 138 #[.val (.int p1), .val (.int p2), .val (.int (p1 &&& (2147483647 : Int32))), .val (.ref b6), .unset] [(.int (f1_0 (p1 &&& (2147483647 : Int32))))])) _
          refine XS.istore X23.here hx rfl (hb hby at_138) rfl (l' := #[.val (.int p1), .val (.int p2), .val (.int (p1 &&& (2147483647 : Int32))), .val (.ref b6), .val (.int (f1_0 (p1 &&& (2147483647 : Int32))))]) rfl ?_
          show Steps p.tables e below (T23.setTop (mkF m 140 #[.val (.int p1), .val (.int p2), .val (.int (p1 &&& (2147483647 : Int32))), .val (.ref b6), .val (.int (f1_0 (p1 &&& (2147483647 : Int32))))] [])) _
          refine XS.iloadN X23.here hx rfl (hb hby at_140) rfl ?_
          show Steps p.tables e below (T23.setTop (mkF m 141 #[.val (.int p1), .val (.int p2), .val (.int (p1 &&& (2147483647 : Int32))), .val (.ref b6), .val (.int (f1_0 (p1 &&& (2147483647 : Int32))))] [(.int (p1 &&& (2147483647 : Int32)))])) _
          refine st30 _ ?_
          show Steps p.tables e below (T30.setTop (mkF m 144 #[.val (.int p1), .val (.int p2), .val (.int (p1 &&& (2147483647 : Int32))), .val (.ref b6), .val (.int (f1_0 (p1 &&& (2147483647 : Int32))))] [(.int (f1_0 (p1 &&& (2147483647 : Int32))))])) _
          refine XS.iload X30.here hx rfl (hb hby at_144) rfl ?_
          show Steps p.tables e below (T30.setTop (mkF m 146 #[.val (.int p1), .val (.int p2), .val (.int (p1 &&& (2147483647 : Int32))), .val (.ref b6), .val (.int (f1_0 (p1 &&& (2147483647 : Int32))))] [(.int (f1_0 (p1 &&& (2147483647 : Int32)))), (.int (f1_0 (p1 &&& (2147483647 : Int32))))])) _
          refine XS.icmpNo X30.here hx rfl (hb hby at_146) rfl (teq h146_31).2 ?_
          show Steps p.tables e below (T30.setTop (mkF m 149 #[.val (.int p1), .val (.int p2), .val (.int (p1 &&& (2147483647 : Int32))), .val (.ref b6), .val (.int (f1_0 (p1 &&& (2147483647 : Int32))))] [])) _
          refine XS.iconst X30.here hx rfl (hb hby at_149) ?_
          show Steps p.tables e below (T30.setTop (mkF m 150 #[.val (.int p1), .val (.int p2), .val (.int (p1 &&& (2147483647 : Int32))), .val (.ref b6), .val (.int (f1_0 (p1 &&& (2147483647 : Int32))))] [(.int (1 : Int32))])) _
          refine XS.goto X30.here hx rfl (pc0 := 150) (pc' := 154) rfl (hb hby at_150) (by decide) (by decide) ?_
          show Steps p.tables e below (T30.setTop (mkF m 154 #[.val (.int p1), .val (.int p2), .val (.int (p1 &&& (2147483647 : Int32))), .val (.ref b6), .val (.int (f1_0 (p1 &&& (2147483647 : Int32))))] [(.int (1 : Int32))])) _
          exact k
        obtain ⟨fs, hr, hrun, hended, hW, hsame⟩ := X30.leave (v := some (.int (1 : Int32))) (fun h => by rw [Bd.returns] at h; cases h)
        refine ⟨_, _, pre32 _ ?_, hrun, hended, _, _, rfl, ?_, ⟨_, rfl⟩, hW, hsame.mono (by decide) (by decide)⟩
        · exact retN X30 hx (t := .boolean) Bd.returns (by simp) (hb hby at_154) hr
        · exact ⟨rfl, N30⟩
  · have pre34 : ∀ t, Steps p.tables e below (s₁.setTop (mkF m 22 #[.val (.int p1), .val (.int p2), .val (.int ((p1 &&& (31 : Int32)) + (1 : Int32))), .unset, .unset] [(.int (1 : Int32)), (.int ((p1 &&& (31 : Int32)) + (1 : Int32)))])) t → Steps p.tables e below (s₁.setTop (entryFrame m #[(.int p1), (.int p2)] maxLocals)) t := by
      intro t k
      refine pre2 t ?_
      refine XS.ifNo X0.here hx rfl (hb hby at_3) rfl ((if0 _ _).trans (feq h3_1).1) ?_
      show Steps p.tables e below (s₁.setTop (mkF m 6 #[.val (.int p1), .val (.int p2), .unset, .unset, .unset] [])) _
      refine XS.iloadN X0.here hx rfl (hb hby at_6) rfl ?_
      show Steps p.tables e below (s₁.setTop (mkF m 7 #[.val (.int p1), .val (.int p2), .unset, .unset, .unset] [(.int p1)])) _
      refine XS.bipush X0.here hx rfl (hb hby at_7) ?_
      show Steps p.tables e below (s₁.setTop (mkF m 9 #[.val (.int p1), .val (.int p2), .unset, .unset, .unset] [(.int (31 : Int32)), (.int p1)])) _
      refine XS.iand X0.here hx rfl (hb hby at_9) rfl ?_
      show Steps p.tables e below (s₁.setTop (mkF m 10 #[.val (.int p1), .val (.int p2), .unset, .unset, .unset] [(.int (p1 &&& (31 : Int32)))])) _
      refine XS.iconst X0.here hx rfl (hb hby at_10) ?_
      show Steps p.tables e below (s₁.setTop (mkF m 11 #[.val (.int p1), .val (.int p2), .unset, .unset, .unset] [(.int (1 : Int32)), (.int (p1 &&& (31 : Int32)))])) _
      refine XS.iadd X0.here hx rfl (hb hby at_11) rfl ?_
      show Steps p.tables e below (s₁.setTop (mkF m 12 #[.val (.int p1), .val (.int p2), .unset, .unset, .unset] [(.int ((p1 &&& (31 : Int32)) + (1 : Int32)))])) _
      refine XS.goto X0.here hx rfl (pc0 := 12) (pc' := 19) rfl (hb hby at_12) (by decide) (by decide) ?_
      show Steps p.tables e below (s₁.setTop (mkF m 19 #[.val (.int p1), .val (.int p2), .unset, .unset, .unset] [(.int ((p1 &&& (31 : Int32)) + (1 : Int32)))])) _
      refine XS.istoreN X0.here hx rfl (hb hby at_19) rfl (l' := #[.val (.int p1), .val (.int p2), .val (.int ((p1 &&& (31 : Int32)) + (1 : Int32))), .unset, .unset]) rfl ?_
      show Steps p.tables e below (s₁.setTop (mkF m 20 #[.val (.int p1), .val (.int p2), .val (.int ((p1 &&& (31 : Int32)) + (1 : Int32))), .unset, .unset] [])) _
      refine XS.iloadN X0.here hx rfl (hb hby at_20) rfl ?_
      show Steps p.tables e below (s₁.setTop (mkF m 21 #[.val (.int p1), .val (.int p2), .val (.int ((p1 &&& (31 : Int32)) + (1 : Int32))), .unset, .unset] [(.int ((p1 &&& (31 : Int32)) + (1 : Int32)))])) _
      refine XS.iconst X0.here hx rfl (hb hby at_21) ?_
      show Steps p.tables e below (s₁.setTop (mkF m 22 #[.val (.int p1), .val (.int p2), .val (.int ((p1 &&& (31 : Int32)) + (1 : Int32))), .unset, .unset] [(.int (1 : Int32)), (.int ((p1 &&& (31 : Int32)) + (1 : Int32)))])) _
      exact k
    by_cases h22_33 : ((p1 &&& (31 : Int32)) + (1 : Int32)) < (1 : Int32)
    · have pre35 : ∀ t, Steps p.tables e below (s₁.setTop (mkF m 26 #[.val (.int p1), .val (.int p2), .val (.int ((p1 &&& (31 : Int32)) + (1 : Int32))), .unset, .unset] [(.int (1 : Int32))])) t → Steps p.tables e below (s₁.setTop (entryFrame m #[(.int p1), (.int p2)] maxLocals)) t := by
        intro t k
        refine pre34 t ?_
        refine XS.icmpNo X0.here hx rfl (hb hby at_22) rfl (tlt h22_33).2.1 ?_
        show Steps p.tables e below (s₁.setTop (mkF m 25 #[.val (.int p1), .val (.int p2), .val (.int ((p1 &&& (31 : Int32)) + (1 : Int32))), .unset, .unset] [])) _
        refine XS.iconst X0.here hx rfl (hb hby at_25) ?_
        show Steps p.tables e below (s₁.setTop (mkF m 26 #[.val (.int p1), .val (.int p2), .val (.int ((p1 &&& (31 : Int32)) + (1 : Int32))), .unset, .unset] [(.int (1 : Int32))])) _
        exact k
      obtain ⟨fs, hr, hrun, hended, hW, hsame⟩ := X0.leave (v := some (.int (1 : Int32))) (fun h => by rw [Bd.returns] at h; cases h)
      refine ⟨_, _, pre35 _ ?_, hrun, hended, _, _, rfl, ?_, ⟨_, rfl⟩, hW, hsame.mono (by decide) (by decide)⟩
      · exact retN X0 hx (t := .boolean) Bd.returns (by simp) (hb hby at_26) hr
      · exact ⟨rfl, N0⟩
    · obtain ⟨T36, H36, cA36, X36, e36, E36, A36, st36⟩ := newP X0 hx hZ (aty := .int) (hw _ (List.mem_of_getElem? (i := 0) rfl)) e0 (g := (mkF m 29 #[.val (.int p1), .val (.int p2), .val (.int ((p1 &&& (31 : Int32)) + (1 : Int32))), .unset, .unset] [(.int (17 : Int32))])) rfl (hb hby at_29) rfl (by decide) (cap := 17) (by decide) (by decide) (by decide) (by decide)
      obtain ⟨b36, g36⟩ : ∃ z, z = h0.size := ⟨_, rfl⟩
      rw [← g36] at A36 st36
      have V36 : own_VA Z H36 b36 .int [(.int (0 : Int32)), (.int (0 : Int32)), (.int (0 : Int32)), (.int (0 : Int32)), (.int (0 : Int32)), (.int (0 : Int32)), (.int (0 : Int32)), (.int (0 : Int32)), (.int (0 : Int32)), (.int (0 : Int32)), (.int (0 : Int32)), (.int (0 : Int32)), (.int (0 : Int32)), (.int (0 : Int32)), (.int (0 : Int32)), (.int (0 : Int32)), (.int (0 : Int32))] := own_VA_new (ty := .int) A36 (k := 17) (by decide)
      have Z36 : n0 ≤ H36.size := Nat.le_trans Z0 E36.1
      have gb36 : n0 ≤ b36 := Nat.le_trans Z0 (Nat.le_of_eq g36.symm)
      obtain ⟨T37, H37, X37, e37, V37', W37, st37⟩ := own_stI X36 hx hZ e36 V36 (n := 17) (k := 0) rfl (by decide) (by decide) (g := (mkF m 35 #[.val (.int p1), .val (.int p2), .val (.int ((p1 &&& (31 : Int32)) + (1 : Int32))), .unset, .unset] [(.int (100 : Int32)), (.int (0 : Int32)), (.ref b36), (.ref b36)])) rfl rfl (hb hby at_35)
      have V37 : own_VA Z H37 b36 .int [(.int (100 : Int32)), (.int (0 : Int32)), (.int (0 : Int32)), (.int (0 : Int32)), (.int (0 : Int32)), (.int (0 : Int32)), (.int (0 : Int32)), (.int (0 : Int32)), (.int (0 : Int32)), (.int (0 : Int32)), (.int (0 : Int32)), (.int (0 : Int32)), (.int (0 : Int32)), (.int (0 : Int32)), (.int (0 : Int32)), (.int (0 : Int32)), (.int (0 : Int32))] := V37'
      have N37 := Fr.snoc X37 N0 gb36
      have Z37 : n0 ≤ H37.size := Nat.le_trans Z36 (Nat.le_of_eq W37.size.symm)
      obtain ⟨T38, H38, X38, e38, V38', W38, st38⟩ := own_stI X37 hx hZ e37 V37 (n := 17) (k := 1) rfl (by decide) (by decide) (g := (mkF m 40 #[.val (.int p1), .val (.int p2), .val (.int ((p1 &&& (31 : Int32)) + (1 : Int32))), .unset, .unset] [(.int (80 : Int32)), (.int (1 : Int32)), (.ref b36), (.ref b36)])) rfl rfl (hb hby at_40)
      have V38 : own_VA Z H38 b36 .int [(.int (100 : Int32)), (.int (80 : Int32)), (.int (0 : Int32)), (.int (0 : Int32)), (.int (0 : Int32)), (.int (0 : Int32)), (.int (0 : Int32)), (.int (0 : Int32)), (.int (0 : Int32)), (.int (0 : Int32)), (.int (0 : Int32)), (.int (0 : Int32)), (.int (0 : Int32)), (.int (0 : Int32)), (.int (0 : Int32)), (.int (0 : Int32)), (.int (0 : Int32))] := V38'
      have N38 := Fr.snoc X38 N37 gb36
      have Z38 : n0 ≤ H38.size := Nat.le_trans Z37 (Nat.le_of_eq W38.size.symm)
      obtain ⟨T39, H39, X39, e39, V39', W39, st39⟩ := own_stI X38 hx hZ e38 V38 (n := 17) (k := 2) rfl (by decide) (by decide) (g := (mkF m 45 #[.val (.int p1), .val (.int p2), .val (.int ((p1 &&& (31 : Int32)) + (1 : Int32))), .unset, .unset] [(.int (64 : Int32)), (.int (2 : Int32)), (.ref b36), (.ref b36)])) rfl rfl (hb hby at_45)
      have V39 : own_VA Z H39 b36 .int [(.int (100 : Int32)), (.int (80 : Int32)), (.int (64 : Int32)), (.int (0 : Int32)), (.int (0 : Int32)), (.int (0 : Int32)), (.int (0 : Int32)), (.int (0 : Int32)), (.int (0 : Int32)), (.int (0 : Int32)), (.int (0 : Int32)), (.int (0 : Int32)), (.int (0 : Int32)), (.int (0 : Int32)), (.int (0 : Int32)), (.int (0 : Int32)), (.int (0 : Int32))] := V39'
      have N39 := Fr.snoc X39 N38 gb36
      have Z39 : n0 ≤ H39.size := Nat.le_trans Z38 (Nat.le_of_eq W39.size.symm)
      obtain ⟨T40, H40, X40, e40, V40', W40, st40⟩ := own_stI X39 hx hZ e39 V39 (n := 17) (k := 3) rfl (by decide) (by decide) (g := (mkF m 50 #[.val (.int p1), .val (.int p2), .val (.int ((p1 &&& (31 : Int32)) + (1 : Int32))), .unset, .unset] [(.int (51 : Int32)), (.int (3 : Int32)), (.ref b36), (.ref b36)])) rfl rfl (hb hby at_50)
      have V40 : own_VA Z H40 b36 .int [(.int (100 : Int32)), (.int (80 : Int32)), (.int (64 : Int32)), (.int (51 : Int32)), (.int (0 : Int32)), (.int (0 : Int32)), (.int (0 : Int32)), (.int (0 : Int32)), (.int (0 : Int32)), (.int (0 : Int32)), (.int (0 : Int32)), (.int (0 : Int32)), (.int (0 : Int32)), (.int (0 : Int32)), (.int (0 : Int32)), (.int (0 : Int32)), (.int (0 : Int32))] := V40'
      have N40 := Fr.snoc X40 N39 gb36
      have Z40 : n0 ≤ H40.size := Nat.le_trans Z39 (Nat.le_of_eq W40.size.symm)
      obtain ⟨T41, H41, X41, e41, V41', W41, st41⟩ := own_stI X40 hx hZ e40 V40 (n := 17) (k := 4) rfl (by decide) (by decide) (g := (mkF m 55 #[.val (.int p1), .val (.int p2), .val (.int ((p1 &&& (31 : Int32)) + (1 : Int32))), .unset, .unset] [(.int (40 : Int32)), (.int (4 : Int32)), (.ref b36), (.ref b36)])) rfl rfl (hb hby at_55)
      have V41 : own_VA Z H41 b36 .int [(.int (100 : Int32)), (.int (80 : Int32)), (.int (64 : Int32)), (.int (51 : Int32)), (.int (40 : Int32)), (.int (0 : Int32)), (.int (0 : Int32)), (.int (0 : Int32)), (.int (0 : Int32)), (.int (0 : Int32)), (.int (0 : Int32)), (.int (0 : Int32)), (.int (0 : Int32)), (.int (0 : Int32)), (.int (0 : Int32)), (.int (0 : Int32)), (.int (0 : Int32))] := V41'
      have N41 := Fr.snoc X41 N40 gb36
      have Z41 : n0 ≤ H41.size := Nat.le_trans Z40 (Nat.le_of_eq W41.size.symm)
      obtain ⟨T42, H42, X42, e42, V42', W42, st42⟩ := own_stI X41 hx hZ e41 V41 (n := 17) (k := 5) rfl (by decide) (by decide) (g := (mkF m 60 #[.val (.int p1), .val (.int p2), .val (.int ((p1 &&& (31 : Int32)) + (1 : Int32))), .unset, .unset] [(.int (32 : Int32)), (.int (5 : Int32)), (.ref b36), (.ref b36)])) rfl rfl (hb hby at_60)
      have V42 : own_VA Z H42 b36 .int [(.int (100 : Int32)), (.int (80 : Int32)), (.int (64 : Int32)), (.int (51 : Int32)), (.int (40 : Int32)), (.int (32 : Int32)), (.int (0 : Int32)), (.int (0 : Int32)), (.int (0 : Int32)), (.int (0 : Int32)), (.int (0 : Int32)), (.int (0 : Int32)), (.int (0 : Int32)), (.int (0 : Int32)), (.int (0 : Int32)), (.int (0 : Int32)), (.int (0 : Int32))] := V42'
      have N42 := Fr.snoc X42 N41 gb36
      have Z42 : n0 ≤ H42.size := Nat.le_trans Z41 (Nat.le_of_eq W42.size.symm)
      obtain ⟨T43, H43, X43, e43, V43', W43, st43⟩ := own_stI X42 hx hZ e42 V42 (n := 17) (k := 6) rfl (by decide) (by decide) (g := (mkF m 66 #[.val (.int p1), .val (.int p2), .val (.int ((p1 &&& (31 : Int32)) + (1 : Int32))), .unset, .unset] [(.int (25 : Int32)), (.int (6 : Int32)), (.ref b36), (.ref b36)])) rfl rfl (hb hby at_66)
      have V43 : own_VA Z H43 b36 .int [(.int (100 : Int32)), (.int (80 : Int32)), (.int (64 : Int32)), (.int (51 : Int32)), (.int (40 : Int32)), (.int (32 : Int32)), (.int (25 : Int32)), (.int (0 : Int32)), (.int (0 : Int32)), (.int (0 : Int32)), (.int (0 : Int32)), (.int (0 : Int32)), (.int (0 : Int32)), (.int (0 : Int32)), (.int (0 : Int32)), (.int (0 : Int32)), (.int (0 : Int32))] := V43'
      have N43 := Fr.snoc X43 N42 gb36
      have Z43 : n0 ≤ H43.size := Nat.le_trans Z42 (Nat.le_of_eq W43.size.symm)
      obtain ⟨T44, H44, X44, e44, V44', W44, st44⟩ := own_stI X43 hx hZ e43 V43 (n := 17) (k := 7) rfl (by decide) (by decide) (g := (mkF m 72 #[.val (.int p1), .val (.int p2), .val (.int ((p1 &&& (31 : Int32)) + (1 : Int32))), .unset, .unset] [(.int (20 : Int32)), (.int (7 : Int32)), (.ref b36), (.ref b36)])) rfl rfl (hb hby at_72)
      have V44 : own_VA Z H44 b36 .int [(.int (100 : Int32)), (.int (80 : Int32)), (.int (64 : Int32)), (.int (51 : Int32)), (.int (40 : Int32)), (.int (32 : Int32)), (.int (25 : Int32)), (.int (20 : Int32)), (.int (0 : Int32)), (.int (0 : Int32)), (.int (0 : Int32)), (.int (0 : Int32)), (.int (0 : Int32)), (.int (0 : Int32)), (.int (0 : Int32)), (.int (0 : Int32)), (.int (0 : Int32))] := V44'
      have N44 := Fr.snoc X44 N43 gb36
      have Z44 : n0 ≤ H44.size := Nat.le_trans Z43 (Nat.le_of_eq W44.size.symm)
      obtain ⟨T45, H45, X45, e45, V45', W45, st45⟩ := own_stI X44 hx hZ e44 V44 (n := 17) (k := 8) rfl (by decide) (by decide) (g := (mkF m 78 #[.val (.int p1), .val (.int p2), .val (.int ((p1 &&& (31 : Int32)) + (1 : Int32))), .unset, .unset] [(.int (16 : Int32)), (.int (8 : Int32)), (.ref b36), (.ref b36)])) rfl rfl (hb hby at_78)
      have V45 : own_VA Z H45 b36 .int [(.int (100 : Int32)), (.int (80 : Int32)), (.int (64 : Int32)), (.int (51 : Int32)), (.int (40 : Int32)), (.int (32 : Int32)), (.int (25 : Int32)), (.int (20 : Int32)), (.int (16 : Int32)), (.int (0 : Int32)), (.int (0 : Int32)), (.int (0 : Int32)), (.int (0 : Int32)), (.int (0 : Int32)), (.int (0 : Int32)), (.int (0 : Int32)), (.int (0 : Int32))] := V45'
      have N45 := Fr.snoc X45 N44 gb36
      have Z45 : n0 ≤ H45.size := Nat.le_trans Z44 (Nat.le_of_eq W45.size.symm)
      obtain ⟨T46, H46, X46, e46, V46', W46, st46⟩ := own_stI X45 hx hZ e45 V45 (n := 17) (k := 9) rfl (by decide) (by decide) (g := (mkF m 84 #[.val (.int p1), .val (.int p2), .val (.int ((p1 &&& (31 : Int32)) + (1 : Int32))), .unset, .unset] [(.int (12 : Int32)), (.int (9 : Int32)), (.ref b36), (.ref b36)])) rfl rfl (hb hby at_84)
      have V46 : own_VA Z H46 b36 .int [(.int (100 : Int32)), (.int (80 : Int32)), (.int (64 : Int32)), (.int (51 : Int32)), (.int (40 : Int32)), (.int (32 : Int32)), (.int (25 : Int32)), (.int (20 : Int32)), (.int (16 : Int32)), (.int (12 : Int32)), (.int (0 : Int32)), (.int (0 : Int32)), (.int (0 : Int32)), (.int (0 : Int32)), (.int (0 : Int32)), (.int (0 : Int32)), (.int (0 : Int32))] := V46'
      have N46 := Fr.snoc X46 N45 gb36
      have Z46 : n0 ≤ H46.size := Nat.le_trans Z45 (Nat.le_of_eq W46.size.symm)
      obtain ⟨T47, H47, X47, e47, V47', W47, st47⟩ := own_stI X46 hx hZ e46 V46 (n := 17) (k := 10) rfl (by decide) (by decide) (g := (mkF m 90 #[.val (.int p1), .val (.int p2), .val (.int ((p1 &&& (31 : Int32)) + (1 : Int32))), .unset, .unset] [(.int (9 : Int32)), (.int (10 : Int32)), (.ref b36), (.ref b36)])) rfl rfl (hb hby at_90)
      have V47 : own_VA Z H47 b36 .int [(.int (100 : Int32)), (.int (80 : Int32)), (.int (64 : Int32)), (.int (51 : Int32)), (.int (40 : Int32)), (.int (32 : Int32)), (.int (25 : Int32)), (.int (20 : Int32)), (.int (16 : Int32)), (.int (12 : Int32)), (.int (9 : Int32)), (.int (0 : Int32)), (.int (0 : Int32)), (.int (0 : Int32)), (.int (0 : Int32)), (.int (0 : Int32)), (.int (0 : Int32))] := V47'
      have N47 := Fr.snoc X47 N46 gb36
      have Z47 : n0 ≤ H47.size := Nat.le_trans Z46 (Nat.le_of_eq W47.size.symm)
      obtain ⟨T48, H48, X48, e48, V48', W48, st48⟩ := own_stI X47 hx hZ e47 V47 (n := 17) (k := 11) rfl (by decide) (by decide) (g := (mkF m 96 #[.val (.int p1), .val (.int p2), .val (.int ((p1 &&& (31 : Int32)) + (1 : Int32))), .unset, .unset] [(.int (7 : Int32)), (.int (11 : Int32)), (.ref b36), (.ref b36)])) rfl rfl (hb hby at_96)
      have V48 : own_VA Z H48 b36 .int [(.int (100 : Int32)), (.int (80 : Int32)), (.int (64 : Int32)), (.int (51 : Int32)), (.int (40 : Int32)), (.int (32 : Int32)), (.int (25 : Int32)), (.int (20 : Int32)), (.int (16 : Int32)), (.int (12 : Int32)), (.int (9 : Int32)), (.int (7 : Int32)), (.int (0 : Int32)), (.int (0 : Int32)), (.int (0 : Int32)), (.int (0 : Int32)), (.int (0 : Int32))] := V48'
      have N48 := Fr.snoc X48 N47 gb36
      have Z48 : n0 ≤ H48.size := Nat.le_trans Z47 (Nat.le_of_eq W48.size.symm)
      obtain ⟨T49, H49, X49, e49, V49', W49, st49⟩ := own_stI X48 hx hZ e48 V48 (n := 17) (k := 12) rfl (by decide) (by decide) (g := (mkF m 101 #[.val (.int p1), .val (.int p2), .val (.int ((p1 &&& (31 : Int32)) + (1 : Int32))), .unset, .unset] [(.int (5 : Int32)), (.int (12 : Int32)), (.ref b36), (.ref b36)])) rfl rfl (hb hby at_101)
      have V49 : own_VA Z H49 b36 .int [(.int (100 : Int32)), (.int (80 : Int32)), (.int (64 : Int32)), (.int (51 : Int32)), (.int (40 : Int32)), (.int (32 : Int32)), (.int (25 : Int32)), (.int (20 : Int32)), (.int (16 : Int32)), (.int (12 : Int32)), (.int (9 : Int32)), (.int (7 : Int32)), (.int (5 : Int32)), (.int (0 : Int32)), (.int (0 : Int32)), (.int (0 : Int32)), (.int (0 : Int32))] := V49'
      have N49 := Fr.snoc X49 N48 gb36
      have Z49 : n0 ≤ H49.size := Nat.le_trans Z48 (Nat.le_of_eq W49.size.symm)
      obtain ⟨T50, H50, X50, e50, V50', W50, st50⟩ := own_stI X49 hx hZ e49 V49 (n := 17) (k := 13) rfl (by decide) (by decide) (g := (mkF m 106 #[.val (.int p1), .val (.int p2), .val (.int ((p1 &&& (31 : Int32)) + (1 : Int32))), .unset, .unset] [(.int (4 : Int32)), (.int (13 : Int32)), (.ref b36), (.ref b36)])) rfl rfl (hb hby at_106)
      have V50 : own_VA Z H50 b36 .int [(.int (100 : Int32)), (.int (80 : Int32)), (.int (64 : Int32)), (.int (51 : Int32)), (.int (40 : Int32)), (.int (32 : Int32)), (.int (25 : Int32)), (.int (20 : Int32)), (.int (16 : Int32)), (.int (12 : Int32)), (.int (9 : Int32)), (.int (7 : Int32)), (.int (5 : Int32)), (.int (4 : Int32)), (.int (0 : Int32)), (.int (0 : Int32)), (.int (0 : Int32))] := V50'
      have N50 := Fr.snoc X50 N49 gb36
      have Z50 : n0 ≤ H50.size := Nat.le_trans Z49 (Nat.le_of_eq W50.size.symm)
      obtain ⟨T51, H51, X51, e51, V51', W51, st51⟩ := own_stI X50 hx hZ e50 V50 (n := 17) (k := 14) rfl (by decide) (by decide) (g := (mkF m 111 #[.val (.int p1), .val (.int p2), .val (.int ((p1 &&& (31 : Int32)) + (1 : Int32))), .unset, .unset] [(.int (3 : Int32)), (.int (14 : Int32)), (.ref b36), (.ref b36)])) rfl rfl (hb hby at_111)
      have V51 : own_VA Z H51 b36 .int [(.int (100 : Int32)), (.int (80 : Int32)), (.int (64 : Int32)), (.int (51 : Int32)), (.int (40 : Int32)), (.int (32 : Int32)), (.int (25 : Int32)), (.int (20 : Int32)), (.int (16 : Int32)), (.int (12 : Int32)), (.int (9 : Int32)), (.int (7 : Int32)), (.int (5 : Int32)), (.int (4 : Int32)), (.int (3 : Int32)), (.int (0 : Int32)), (.int (0 : Int32))] := V51'
      have N51 := Fr.snoc X51 N50 gb36
      have Z51 : n0 ≤ H51.size := Nat.le_trans Z50 (Nat.le_of_eq W51.size.symm)
      obtain ⟨T52, H52, X52, e52, V52', W52, st52⟩ := own_stI X51 hx hZ e51 V51 (n := 17) (k := 15) rfl (by decide) (by decide) (g := (mkF m 116 #[.val (.int p1), .val (.int p2), .val (.int ((p1 &&& (31 : Int32)) + (1 : Int32))), .unset, .unset] [(.int (2 : Int32)), (.int (15 : Int32)), (.ref b36), (.ref b36)])) rfl rfl (hb hby at_116)
      have V52 : own_VA Z H52 b36 .int [(.int (100 : Int32)), (.int (80 : Int32)), (.int (64 : Int32)), (.int (51 : Int32)), (.int (40 : Int32)), (.int (32 : Int32)), (.int (25 : Int32)), (.int (20 : Int32)), (.int (16 : Int32)), (.int (12 : Int32)), (.int (9 : Int32)), (.int (7 : Int32)), (.int (5 : Int32)), (.int (4 : Int32)), (.int (3 : Int32)), (.int (2 : Int32)), (.int (0 : Int32))] := V52'
      have N52 := Fr.snoc X52 N51 gb36
      have Z52 : n0 ≤ H52.size := Nat.le_trans Z51 (Nat.le_of_eq W52.size.symm)
      obtain ⟨T53, H53, X53, e53, V53', W53, st53⟩ := own_stI X52 hx hZ e52 V52 (n := 17) (k := 16) rfl (by decide) (by decide) (g := (mkF m 121 #[.val (.int p1), .val (.int p2), .val (.int ((p1 &&& (31 : Int32)) + (1 : Int32))), .unset, .unset] [(.int (1 : Int32)), (.int (16 : Int32)), (.ref b36), (.ref b36)])) rfl rfl (hb hby at_121)
      have V53 : own_VA Z H53 b36 .int [(.int (100 : Int32)), (.int (80 : Int32)), (.int (64 : Int32)), (.int (51 : Int32)), (.int (40 : Int32)), (.int (32 : Int32)), (.int (25 : Int32)), (.int (20 : Int32)), (.int (16 : Int32)), (.int (12 : Int32)), (.int (9 : Int32)), (.int (7 : Int32)), (.int (5 : Int32)), (.int (4 : Int32)), (.int (3 : Int32)), (.int (2 : Int32)), (.int (1 : Int32))] := V53'
      have N53 := Fr.snoc X53 N52 gb36
      have Z53 : n0 ≤ H53.size := Nat.le_trans Z52 (Nat.le_of_eq W53.size.symm)
      have pre55 : ∀ t, Steps p.tables e below (T53.setTop (mkF m 126 #[.val (.int p1), .val (.int p2), .val (.int ((p1 &&& (31 : Int32)) + (1 : Int32))), .val (.ref b36), .unset] [(.int (17 : Int32)), (.int ((p1 &&& (31 : Int32)) + (1 : Int32)))])) t → Steps p.tables e below (s₁.setTop (entryFrame m #[(.int p1), (.int p2)] maxLocals)) t := by
        intro t k
        refine pre34 t ?_
        refine XS.icmpYes X0.here hx rfl (pc0 := 22) (pc' := 27) rfl (hb hby at_22) rfl (flt h22_33).2.1 (by decide) (by decide) ?_
        show Steps p.tables e below (s₁.setTop (mkF m 27 #[.val (.int p1), .val (.int p2), .val (.int ((p1 &&& (31 : Int32)) + (1 : Int32))), .unset, .unset] [])) _
        refine XS.bipush X0.here hx rfl (hb hby at_27) ?_
        show Steps p.tables e below (s₁.setTop (mkF m 29 #[.val (.int p1), .val (.int p2), .val (.int ((p1 &&& (31 : Int32)) + (1 : Int32))), .unset, .unset] [(.int (17 : Int32))])) _
        refine st36 _ ?_
        show Steps p.tables e below (T36.setTop (mkF m 31 #[.val (.int p1), .val (.int p2), .val (.int ((p1 &&& (31 : Int32)) + (1 : Int32))), .unset, .unset] [(.ref b36)])) _
        refine XS.dup X36.here hx rfl (hb hby at_31) rfl rfl ?_
        show Steps p.tables e below (T36.setTop (mkF m 32 #[.val (.int p1), .val (.int p2), .val (.int ((p1 &&& (31 : Int32)) + (1 : Int32))), .unset, .unset] [(.ref b36), (.ref b36)])) _
        refine XS.iconst X36.here hx rfl (hb hby at_32) ?_
        show Steps p.tables e below (T36.setTop (mkF m 33 #[.val (.int p1), .val (.int p2), .val (.int ((p1 &&& (31 : Int32)) + (1 : Int32))), .unset, .unset] [(.int (0 : Int32)), (.ref b36), (.ref b36)])) _
        refine XS.bipush X36.here hx rfl (hb hby at_33) ?_
        show Steps p.tables e below (T36.setTop (mkF m 35 #[.val (.int p1), .val (.int p2), .val (.int ((p1 &&& (31 : Int32)) + (1 : Int32))), .unset, .unset] [(.int (100 : Int32)), (.int (0 : Int32)), (.ref b36), (.ref b36)])) _
        refine st37 _ ?_
        show Steps p.tables e below (T37.setTop (mkF m 36 #[.val (.int p1), .val (.int p2), .val (.int ((p1 &&& (31 : Int32)) + (1 : Int32))), .unset, .unset] [(.ref b36)])) _
        refine XS.dup X37.here hx rfl (hb hby at_36) rfl rfl ?_
        show Steps p.tables e below (T37.setTop (mkF m 37 #[.val (.int p1), .val (.int p2), .val (.int ((p1 &&& (31 : Int32)) + (1 : Int32))), .unset, .unset] [(.ref b36), (.ref b36)])) _
        refine XS.iconst X37.here hx rfl (hb hby at_37) ?_
        show Steps p.tables e below (T37.setTop (mkF m 38 #[.val (.int p1), .val (.int p2), .val (.int ((p1 &&& (31 : Int32)) + (1 : Int32))), .unset, .unset] [(.int (1 : Int32)), (.ref b36), (.ref b36)])) _
        refine XS.bipush X37.here hx rfl (hb hby at_38) ?_
        show Steps p.tables e below (T37.setTop (mkF m 40 #[.val (.int p1), .val (.int p2), .val (.int ((p1 &&& (31 : Int32)) + (1 : Int32))), .unset, .unset] [(.int (80 : Int32)), (.int (1 : Int32)), (.ref b36), (.ref b36)])) _
        refine st38 _ ?_
        show Steps p.tables e below (T38.setTop (mkF m 41 #[.val (.int p1), .val (.int p2), .val (.int ((p1 &&& (31 : Int32)) + (1 : Int32))), .unset, .unset] [(.ref b36)])) _
        refine XS.dup X38.here hx rfl (hb hby at_41) rfl rfl ?_
        show Steps p.tables e below (T38.setTop (mkF m 42 #[.val (.int p1), .val (.int p2), .val (.int ((p1 &&& (31 : Int32)) + (1 : Int32))), .unset, .unset] [(.ref b36), (.ref b36)])) _
        refine XS.iconst X38.here hx rfl (hb hby at_42) ?_
        show Steps p.tables e below (T38.setTop (mkF m 43 #[.val (.int p1), .val (.int p2), .val (.int ((p1 &&& (31 : Int32)) + (1 : Int32))), .unset, .unset] [(.int (2 : Int32)), (.ref b36), (.ref b36)])) _
        refine XS.bipush X38.here hx rfl (hb hby at_43) ?_
        show Steps p.tables e below (T38.setTop (mkF m 45 #[.val (.int p1), .val (.int p2), .val (.int ((p1 &&& (31 : Int32)) + (1 : Int32))), .unset, .unset] [(.int (64 : Int32)), (.int (2 : Int32)), (.ref b36), (.ref b36)])) _
        refine st39 _ ?_
        show Steps p.tables e below (T39.setTop (mkF m 46 #[.val (.int p1), .val (.int p2), .val (.int ((p1 &&& (31 : Int32)) + (1 : Int32))), .unset, .unset] [(.ref b36)])) _
        refine XS.dup X39.here hx rfl (hb hby at_46) rfl rfl ?_
        show Steps p.tables e below (T39.setTop (mkF m 47 #[.val (.int p1), .val (.int p2), .val (.int ((p1 &&& (31 : Int32)) + (1 : Int32))), .unset, .unset] [(.ref b36), (.ref b36)])) _
        refine XS.iconst X39.here hx rfl (hb hby at_47) ?_
        show Steps p.tables e below (T39.setTop (mkF m 48 #[.val (.int p1), .val (.int p2), .val (.int ((p1 &&& (31 : Int32)) + (1 : Int32))), .unset, .unset] [(.int (3 : Int32)), (.ref b36), (.ref b36)])) _
        refine XS.bipush X39.here hx rfl (hb hby at_48) ?_
        show Steps p.tables e below (T39.setTop (mkF m 50 #[.val (.int p1), .val (.int p2), .val (.int ((p1 &&& (31 : Int32)) + (1 : Int32))), .unset, .unset] [(.int (51 : Int32)), (.int (3 : Int32)), (.ref b36), (.ref b36)])) _
        refine st40 _ ?_
        show Steps p.tables e below (T40.setTop (mkF m 51 #[.val (.int p1), .val (.int p2), .val (.int ((p1 &&& (31 : Int32)) + (1 : Int32))), .unset, .unset] [(.ref b36)])) _
        refine XS.dup X40.here hx rfl (hb hby at_51) rfl rfl ?_
        show Steps p.tables e below (T40.setTop (mkF m 52 #[.val (.int p1), .val (.int p2), .val (.int ((p1 &&& (31 : Int32)) + (1 : Int32))), .unset, .unset] [(.ref b36), (.ref b36)])) _
        refine XS.iconst X40.here hx rfl (hb hby at_52) ?_
        show Steps p.tables e below (T40.setTop (mkF m 53 #[.val (.int p1), .val (.int p2), .val (.int ((p1 &&& (31 : Int32)) + (1 : Int32))), .unset, .unset] [(.int (4 : Int32)), (.ref b36), (.ref b36)])) _
        refine XS.bipush X40.here hx rfl (hb hby at_53) ?_
        show Steps p.tables e below (T40.setTop (mkF m 55 #[.val (.int p1), .val (.int p2), .val (.int ((p1 &&& (31 : Int32)) + (1 : Int32))), .unset, .unset] [(.int (40 : Int32)), (.int (4 : Int32)), (.ref b36), (.ref b36)])) _
        refine st41 _ ?_
        show Steps p.tables e below (T41.setTop (mkF m 56 #[.val (.int p1), .val (.int p2), .val (.int ((p1 &&& (31 : Int32)) + (1 : Int32))), .unset, .unset] [(.ref b36)])) _
        refine XS.dup X41.here hx rfl (hb hby at_56) rfl rfl ?_
        show Steps p.tables e below (T41.setTop (mkF m 57 #[.val (.int p1), .val (.int p2), .val (.int ((p1 &&& (31 : Int32)) + (1 : Int32))), .unset, .unset] [(.ref b36), (.ref b36)])) _
        refine XS.iconst X41.here hx rfl (hb hby at_57) ?_
        show Steps p.tables e below (T41.setTop (mkF m 58 #[.val (.int p1), .val (.int p2), .val (.int ((p1 &&& (31 : Int32)) + (1 : Int32))), .unset, .unset] [(.int (5 : Int32)), (.ref b36), (.ref b36)])) _
        refine XS.bipush X41.here hx rfl (hb hby at_58) ?_
        show Steps p.tables e below (T41.setTop (mkF m 60 #[.val (.int p1), .val (.int p2), .val (.int ((p1 &&& (31 : Int32)) + (1 : Int32))), .unset, .unset] [(.int (32 : Int32)), (.int (5 : Int32)), (.ref b36), (.ref b36)])) _
        refine st42 _ ?_
        show Steps p.tables e below (T42.setTop (mkF m 61 #[.val (.int p1), .val (.int p2), .val (.int ((p1 &&& (31 : Int32)) + (1 : Int32))), .unset, .unset] [(.ref b36)])) _
        refine XS.dup X42.here hx rfl (hb hby at_61) rfl rfl ?_
        show Steps p.tables e below (T42.setTop (mkF m 62 #[.val (.int p1), .val (.int p2), .val (.int ((p1 &&& (31 : Int32)) + (1 : Int32))), .unset, .unset] [(.ref b36), (.ref b36)])) _
        refine XS.bipush X42.here hx rfl (hb hby at_62) ?_
        show Steps p.tables e below (T42.setTop (mkF m 64 #[.val (.int p1), .val (.int p2), .val (.int ((p1 &&& (31 : Int32)) + (1 : Int32))), .unset, .unset] [(.int (6 : Int32)), (.ref b36), (.ref b36)])) _
        refine XS.bipush X42.here hx rfl (hb hby at_64) ?_
        show Steps p.tables e below (T42.setTop (mkF m 66 #[.val (.int p1), .val (.int p2), .val (.int ((p1 &&& (31 : Int32)) + (1 : Int32))), .unset, .unset] [(.int (25 : Int32)), (.int (6 : Int32)), (.ref b36), (.ref b36)])) _
        refine st43 _ ?_
        show Steps p.tables e below (T43.setTop (mkF m 67 #[.val (.int p1), .val (.int p2), .val (.int ((p1 &&& (31 : Int32)) + (1 : Int32))), .unset, .unset] [(.ref b36)])) _
        refine XS.dup X43.here hx rfl (hb hby at_67) rfl rfl ?_
        show Steps p.tables e below (T43.setTop (mkF m 68 #[.val (.int p1), .val (.int p2), .val (.int ((p1 &&& (31 : Int32)) + (1 : Int32))), .unset, .unset] [(.ref b36), (.ref b36)])) _
        refine XS.bipush X43.here hx rfl (hb hby at_68) ?_
        show Steps p.tables e below (T43.setTop (mkF m 70 #[.val (.int p1), .val (.int p2), .val (.int ((p1 &&& (31 : Int32)) + (1 : Int32))), .unset, .unset] [(.int (7 : Int32)), (.ref b36), (.ref b36)])) _
        refine XS.bipush X43.here hx rfl (hb hby at_70) ?_
        show Steps p.tables e below (T43.setTop (mkF m 72 #[.val (.int p1), .val (.int p2), .val (.int ((p1 &&& (31 : Int32)) + (1 : Int32))), .unset, .unset] [(.int (20 : Int32)), (.int (7 : Int32)), (.ref b36), (.ref b36)])) _
        refine st44 _ ?_
        show Steps p.tables e below (T44.setTop (mkF m 73 #[.val (.int p1), .val (.int p2), .val (.int ((p1 &&& (31 : Int32)) + (1 : Int32))), .unset, .unset] [(.ref b36)])) _
        refine XS.dup X44.here hx rfl (hb hby at_73) rfl rfl ?_
        show Steps p.tables e below (T44.setTop (mkF m 74 #[.val (.int p1), .val (.int p2), .val (.int ((p1 &&& (31 : Int32)) + (1 : Int32))), .unset, .unset] [(.ref b36), (.ref b36)])) _
        refine XS.bipush X44.here hx rfl (hb hby at_74) ?_
        show Steps p.tables e below (T44.setTop (mkF m 76 #[.val (.int p1), .val (.int p2), .val (.int ((p1 &&& (31 : Int32)) + (1 : Int32))), .unset, .unset] [(.int (8 : Int32)), (.ref b36), (.ref b36)])) _
        refine XS.bipush X44.here hx rfl (hb hby at_76) ?_
        show Steps p.tables e below (T44.setTop (mkF m 78 #[.val (.int p1), .val (.int p2), .val (.int ((p1 &&& (31 : Int32)) + (1 : Int32))), .unset, .unset] [(.int (16 : Int32)), (.int (8 : Int32)), (.ref b36), (.ref b36)])) _
        refine st45 _ ?_
        show Steps p.tables e below (T45.setTop (mkF m 79 #[.val (.int p1), .val (.int p2), .val (.int ((p1 &&& (31 : Int32)) + (1 : Int32))), .unset, .unset] [(.ref b36)])) _
        refine XS.dup X45.here hx rfl (hb hby at_79) rfl rfl ?_
        show Steps p.tables e below (T45.setTop (mkF m 80 #[.val (.int p1), .val (.int p2), .val (.int ((p1 &&& (31 : Int32)) + (1 : Int32))), .unset, .unset] [(.ref b36), (.ref b36)])) _
        refine XS.bipush X45.here hx rfl (hb hby at_80) ?_
        show Steps p.tables e below (T45.setTop (mkF m 82 #[.val (.int p1), .val (.int p2), .val (.int ((p1 &&& (31 : Int32)) + (1 : Int32))), .unset, .unset] [(.int (9 : Int32)), (.ref b36), (.ref b36)])) _
        refine XS.bipush X45.here hx rfl (hb hby at_82) ?_
        show Steps p.tables e below (T45.setTop (mkF m 84 #[.val (.int p1), .val (.int p2), .val (.int ((p1 &&& (31 : Int32)) + (1 : Int32))), .unset, .unset] [(.int (12 : Int32)), (.int (9 : Int32)), (.ref b36), (.ref b36)])) _
        refine st46 _ ?_
        show Steps p.tables e below (T46.setTop (mkF m 85 #[.val (.int p1), .val (.int p2), .val (.int ((p1 &&& (31 : Int32)) + (1 : Int32))), .unset, .unset] [(.ref b36)])) _
        refine XS.dup X46.here hx rfl (hb hby at_85) rfl rfl ?_
        show Steps p.tables e below (T46.setTop (mkF m 86 #[.val (.int p1), .val (.int p2), .val (.int ((p1 &&& (31 : Int32)) + (1 : Int32))), .unset, .unset] [(.ref b36), (.ref b36)])) _
        refine XS.bipush X46.here hx rfl (hb hby at_86) ?_
        show Steps p.tables e below (T46.setTop (mkF m 88 #[.val (.int p1), .val (.int p2), .val (.int ((p1 &&& (31 : Int32)) + (1 : Int32))), .unset, .unset] [(.int (10 : Int32)), (.ref b36), (.ref b36)])) _
        refine XS.bipush X46.here hx rfl (hb hby at_88) ?_
        show Steps p.tables e below (T46.setTop (mkF m 90 #[.val (.int p1), .val (.int p2), .val (.int ((p1 &&& (31 : Int32)) + (1 : Int32))), .unset, .unset] [(.int (9 : Int32)), (.int (10 : Int32)), (.ref b36), (.ref b36)])) _
        refine st47 _ ?_
        show Steps p.tables e below (T47.setTop (mkF m 91 #[.val (.int p1), .val (.int p2), .val (.int ((p1 &&& (31 : Int32)) + (1 : Int32))), .unset, .unset] [(.ref b36)])) _
        refine XS.dup X47.here hx rfl (hb hby at_91) rfl rfl ?_
        show Steps p.tables e below (T47.setTop (mkF m 92 #[.val (.int p1), .val (.int p2), .val (.int ((p1 &&& (31 : Int32)) + (1 : Int32))), .unset, .unset] [(.ref b36), (.ref b36)])) _
        refine XS.bipush X47.here hx rfl (hb hby at_92) ?_
        show Steps p.tables e below (T47.setTop (mkF m 94 #[.val (.int p1), .val (.int p2), .val (.int ((p1 &&& (31 : Int32)) + (1 : Int32))), .unset, .unset] [(.int (11 : Int32)), (.ref b36), (.ref b36)])) _
        refine XS.bipush X47.here hx rfl (hb hby at_94) ?_
        show Steps p.tables e below (T47.setTop (mkF m 96 #[.val (.int p1), .val (.int p2), .val (.int ((p1 &&& (31 : Int32)) + (1 : Int32))), .unset, .unset] [(.int (7 : Int32)), (.int (11 : Int32)), (.ref b36), (.ref b36)])) _
        refine st48 _ ?_
        show Steps p.tables e below (T48.setTop (mkF m 97 #[.val (.int p1), .val (.int p2), .val (.int ((p1 &&& (31 : Int32)) + (1 : Int32))), .unset, .unset] [(.ref b36)])) _
        refine XS.dup X48.here hx rfl (hb hby at_97) rfl rfl ?_
        show Steps p.tables e below (T48.setTop (mkF m 98 #[.val (.int p1), .val (.int p2), .val (.int ((p1 &&& (31 : Int32)) + (1 : Int32))), .unset, .unset] [(.ref b36), (.ref b36)])) _
        refine XS.bipush X48.here hx rfl (hb hby at_98) ?_
        show Steps p.tables e below (T48.setTop (mkF m 100 #[.val (.int p1), .val (.int p2), .val (.int ((p1 &&& (31 : Int32)) + (1 : Int32))), .unset, .unset] [(.int (12 : Int32)), (.ref b36), (.ref b36)])) _
        refine XS.iconst X48.here hx rfl (hb hby at_100) ?_
        show Steps p.tables e below (T48.setTop (mkF m 101 #[.val (.int p1), .val (.int p2), .val (.int ((p1 &&& (31 : Int32)) + (1 : Int32))), .unset, .unset] [(.int (5 : Int32)), (.int (12 : Int32)), (.ref b36), (.ref b36)])) _
        refine st49 _ ?_
        show Steps p.tables e below (T49.setTop (mkF m 102 #[.val (.int p1), .val (.int p2), .val (.int ((p1 &&& (31 : Int32)) + (1 : Int32))), .unset, .unset] [(.ref b36)])) _
        refine XS.dup X49.here hx rfl (hb hby at_102) rfl rfl ?_
        show Steps p.tables e below (T49.setTop (mkF m 103 #[.val (.int p1), .val (.int p2), .val (.int ((p1 &&& (31 : Int32)) + (1 : Int32))), .unset, .unset] [(.ref b36), (.ref b36)])) _
        refine XS.bipush X49.here hx rfl (hb hby at_103) ?_
        show Steps p.tables e below (T49.setTop (mkF m 105 #[.val (.int p1), .val (.int p2), .val (.int ((p1 &&& (31 : Int32)) + (1 : Int32))), .unset, .unset] [(.int (13 : Int32)), (.ref b36), (.ref b36)])) _
        refine XS.iconst X49.here hx rfl (hb hby at_105) ?_
        show Steps p.tables e below (T49.setTop (mkF m 106 #[.val (.int p1), .val (.int p2), .val (.int ((p1 &&& (31 : Int32)) + (1 : Int32))), .unset, .unset] [(.int (4 : Int32)), (.int (13 : Int32)), (.ref b36), (.ref b36)])) _
        refine st50 _ ?_
        show Steps p.tables e below (T50.setTop (mkF m 107 #[.val (.int p1), .val (.int p2), .val (.int ((p1 &&& (31 : Int32)) + (1 : Int32))), .unset, .unset] [(.ref b36)])) _
        refine XS.dup X50.here hx rfl (hb hby at_107) rfl rfl ?_
        show Steps p.tables e below (T50.setTop (mkF m 108 #[.val (.int p1), .val (.int p2), .val (.int ((p1 &&& (31 : Int32)) + (1 : Int32))), .unset, .unset] [(.ref b36), (.ref b36)])) _
        refine XS.bipush X50.here hx rfl (hb hby at_108) ?_
        show Steps p.tables e below (T50.setTop (mkF m 110 #[.val (.int p1), .val (.int p2), .val (.int ((p1 &&& (31 : Int32)) + (1 : Int32))), .unset, .unset] [(.int (14 : Int32)), (.ref b36), (.ref b36)])) _
        refine XS.iconst X50.here hx rfl (hb hby at_110) ?_
        show Steps p.tables e below (T50.setTop (mkF m 111 #[.val (.int p1), .val (.int p2), .val (.int ((p1 &&& (31 : Int32)) + (1 : Int32))), .unset, .unset] [(.int (3 : Int32)), (.int (14 : Int32)), (.ref b36), (.ref b36)])) _
        refine st51 _ ?_
        show Steps p.tables e below (T51.setTop (mkF m 112 #[.val (.int p1), .val (.int p2), .val (.int ((p1 &&& (31 : Int32)) + (1 : Int32))), .unset, .unset] [(.ref b36)])) _
        refine XS.dup X51.here hx rfl (hb hby at_112) rfl rfl ?_
        show Steps p.tables e below (T51.setTop (mkF m 113 #[.val (.int p1), .val (.int p2), .val (.int ((p1 &&& (31 : Int32)) + (1 : Int32))), .unset, .unset] [(.ref b36), (.ref b36)])) _
        refine XS.bipush X51.here hx rfl (hb hby at_113) ?_
        show Steps p.tables e below (T51.setTop (mkF m 115 #[.val (.int p1), .val (.int p2), .val (.int ((p1 &&& (31 : Int32)) + (1 : Int32))), .unset, .unset] [(.int (15 : Int32)), (.ref b36), (.ref b36)])) _
        refine XS.iconst X51.here hx rfl (hb hby at_115) ?_
        show Steps p.tables e below (T51.setTop (mkF m 116 #[.val (.int p1), .val (.int p2), .val (.int ((p1 &&& (31 : Int32)) + (1 : Int32))), .unset, .unset] [(.int (2 : Int32)), (.int (15 : Int32)), (.ref b36), (.ref b36)])) _
        refine st52 _ ?_
        show Steps p.tables e below (T52.setTop (mkF m 117 #[.val (.int p1), .val (.int p2), .val (.int ((p1 &&& (31 : Int32)) + (1 : Int32))), .unset, .unset] [(.ref b36)])) _
        refine XS.dup X52.here hx rfl (hb hby at_117) rfl rfl ?_
        show Steps p.tables e below (T52.setTop (mkF m 118 #[.val (.int p1), .val (.int p2), .val (.int ((p1 &&& (31 : Int32)) + (1 : Int32))), .unset, .unset] [(.ref b36), (.ref b36)])) _
        refine XS.bipush X52.here hx rfl (hb hby at_118) ?_
        show Steps p.tables e below (T52.setTop (mkF m 120 #[.val (.int p1), .val (.int p2), .val (.int ((p1 &&& (31 : Int32)) + (1 : Int32))), .unset, .unset] [(.int (16 : Int32)), (.ref b36), (.ref b36)])) _
        refine XS.iconst X52.here hx rfl (hb hby at_120) ?_
        show Steps p.tables e below (T52.setTop (mkF m 121 #[.val (.int p1), .val (.int p2), .val (.int ((p1 &&& (31 : Int32)) + (1 : Int32))), .unset, .unset] [(.int (1 : Int32)), (.int (16 : Int32)), (.ref b36), (.ref b36)])) _
        refine st53 _ ?_
        show Steps p.tables e below (T53.setTop (mkF m 122 #[.val (.int p1), .val (.int p2), .val (.int ((p1 &&& (31 : Int32)) + (1 : Int32))), .unset, .unset] [(.ref b36)])) _
        refine XS.astoreN X53.here hx rfl (hb hby at_122) rfl rfl (l' := #[.val (.int p1), .val (.int p2), .val (.int ((p1 &&& (31 : Int32)) + (1 : Int32))), .val (.ref b36), .unset]) rfl ?_
        show Steps p.tables e below (T53.setTop (mkF m 123 #[.val (.int p1), .val (.int p2), .val (.int ((p1 &&& (31 : Int32)) + (1 : Int32))), .val (.ref b36), .unset] [])) _
        refine XS.iloadN X53.here hx rfl (hb hby at_123) rfl ?_
        show Steps p.tables e below (T53.setTop (mkF m 124 #[.val (.int p1), .val (.int p2), .val (.int ((p1 &&& (31 : Int32)) + (1 : Int32))), .val (.ref b36), .unset] [(.int ((p1 &&& (31 : Int32)) + (1 : Int32)))])) _
        refine XS.bipush X53.here hx rfl (hb hby at_124) ?_
        show Steps p.tables e below (T53.setTop (mkF m 126 #[.val (.int p1), .val (.int p2), .val (.int ((p1 &&& (31 : Int32)) + (1 : Int32))), .val (.ref b36), .unset] [(.int (17 : Int32)), (.int ((p1 &&& (31 : Int32)) + (1 : Int32)))])) _
        exact k
      by_cases h126_54 : (17 : Int32) < ((p1 &&& (31 : Int32)) + (1 : Int32))
      · obtain ⟨_, _, ⟨T56, L56, k56, n56⟩, -, X56, ⟨Lc56, hQ56, l56, y56, z56⟩, st56⟩ := Jvm.LawKit.callS X53 hx (y := (⟨"com/example/rumblecourt/rumblecourt/referee/Scoring", "ladder", "(I)I"⟩ : MethodName)) hown (mvT hZ (hw _ (List.mem_of_getElem? (i := 1) rfl))) (mvT hZ (hw _ (List.mem_of_getElem? (i := 2) rfl))) (mvT hZ (hw _ (List.mem_of_getElem? (i := 3) rfl))) (mvT hZ (hw _ (List.mem_of_getElem? (i := 4) rfl))) (by decide) (backOf (W := 0) (rm1 l Z a0 hw [] ((p1 &&& (31 : Int32)) + (1 : Int32)) H53 n0) hZ (hw _ (List.mem_of_getElem? (i := 4) rfl)) (hw _ (List.mem_of_getElem? (i := 3) rfl)) (by decide) (by decide)) (g := (mkF m 141 #[.val (.int p1), .val (.int p2), .val (.int ((p1 &&& (31 : Int32)) + (1 : Int32))), .val (.ref b36), .val (.int (0 : Int32))] [(.int ((p1 &&& (31 : Int32)) + (1 : Int32)))])) rfl (by rw [hml]; rfl) (argsL := [(.int ((p1 &&& (31 : Int32)) + (1 : Int32)))]) (rest := []) (lenOf pd_0_0 rfl) rfl (by show 2 * 0 + _ ≤ _; exact Nat.le_of_eq rfl) (hb hby at_141) (fun _ _ => ⟨rfl, e53, (by decide : 1 + 0 ≤ _), (by decide : 17 + 0 ≤ _)⟩)
        dsimp only [Pt.U, Pt.locs, Pt.cells, Pt.slots] at X56 l56 y56 z56 st56 hQ56
        subst l56 y56 z56
        obtain ⟨rfl, N56q, e56⟩ := hQ56
        have N56 := Fr.app N53 N56q
        have h146_57 : (f1_0 ((p1 &&& (31 : Int32)) + (1 : Int32))) = (0 : Int32) := own_big h126_54
        have pre58 : ∀ t, Steps p.tables e below (T56.setTop (mkF m 154 #[.val (.int p1), .val (.int p2), .val (.int ((p1 &&& (31 : Int32)) + (1 : Int32))), .val (.ref b36), .val (.int (0 : Int32))] [(.int (1 : Int32))])) t → Steps p.tables e below (s₁.setTop (entryFrame m #[(.int p1), (.int p2)] maxLocals)) t := by
          intro t k
          refine pre55 t ?_
          refine XS.icmpYes X53.here hx rfl (pc0 := 126) (pc' := 137) rfl (hb hby at_126) rfl (tlt h126_54).2.2.1 (by decide) (by decide) ?_
          show Steps p.tables e below (T53.setTop (mkF m 137 #[.val (.int p1), .val (.int p2), .val (.int ((p1 &&& (31 : Int32)) + (1 : Int32))), .val (.ref b36), .unset] [])) _
          refine XS.iconst X53.here hx rfl (hb hby at_137) ?_
          show Steps p.tables e below (T53.setTop (mkF m 138 #[.val (.int p1), .val (.int p2), .val (.int ((p1 &&& (31 : Int32)) + (1 : Int32))), .val (.ref b36), .unset] [(.int (0 : Int32))])) _
          refine XS.istore X53.here hx rfl (hb hby at_138) rfl (l' := #[.val (.int p1), .val (.int p2), .val (.int ((p1 &&& (31 : Int32)) + (1 : Int32))), .val (.ref b36), .val (.int (0 : Int32))]) rfl ?_
          show Steps p.tables e below (T53.setTop (mkF m 140 #[.val (.int p1), .val (.int p2), .val (.int ((p1 &&& (31 : Int32)) + (1 : Int32))), .val (.ref b36), .val (.int (0 : Int32))] [])) _
          refine XS.iloadN X53.here hx rfl (hb hby at_140) rfl ?_
          show Steps p.tables e below (T53.setTop (mkF m 141 #[.val (.int p1), .val (.int p2), .val (.int ((p1 &&& (31 : Int32)) + (1 : Int32))), .val (.ref b36), .val (.int (0 : Int32))] [(.int ((p1 &&& (31 : Int32)) + (1 : Int32)))])) _
          refine st56 _ ?_
          show Steps p.tables e below (T56.setTop (mkF m 144 #[.val (.int p1), .val (.int p2), .val (.int ((p1 &&& (31 : Int32)) + (1 : Int32))), .val (.ref b36), .val (.int (0 : Int32))] [(.int (f1_0 ((p1 &&& (31 : Int32)) + (1 : Int32))))])) _
          refine XS.iload X56.here hx rfl (hb hby at_144) rfl ?_
          show Steps p.tables e below (T56.setTop (mkF m 146 #[.val (.int p1), .val (.int p2), .val (.int ((p1 &&& (31 : Int32)) + (1 : Int32))), .val (.ref b36), .val (.int (0 : Int32))] [(.int (0 : Int32)), (.int (f1_0 ((p1 &&& (31 : Int32)) + (1 : Int32))))])) _
          refine XS.icmpNo X56.here hx rfl (hb hby at_146) rfl (teq h146_57).2 ?_
          show Steps p.tables e below (T56.setTop (mkF m 149 #[.val (.int p1), .val (.int p2), .val (.int ((p1 &&& (31 : Int32)) + (1 : Int32))), .val (.ref b36), .val (.int (0 : Int32))] [])) _
          refine XS.iconst X56.here hx rfl (hb hby at_149) ?_
          show Steps p.tables e below (T56.setTop (mkF m 150 #[.val (.int p1), .val (.int p2), .val (.int ((p1 &&& (31 : Int32)) + (1 : Int32))), .val (.ref b36), .val (.int (0 : Int32))] [(.int (1 : Int32))])) _
          refine XS.goto X56.here hx rfl (pc0 := 150) (pc' := 154) rfl (hb hby at_150) (by decide) (by decide) ?_
          show Steps p.tables e below (T56.setTop (mkF m 154 #[.val (.int p1), .val (.int p2), .val (.int ((p1 &&& (31 : Int32)) + (1 : Int32))), .val (.ref b36), .val (.int (0 : Int32))] [(.int (1 : Int32))])) _
          exact k
        obtain ⟨fs, hr, hrun, hended, hW, hsame⟩ := X56.leave (v := some (.int (1 : Int32))) (fun h => by rw [Bd.returns] at h; cases h)
        refine ⟨_, _, pre58 _ ?_, hrun, hended, _, _, rfl, ?_, ⟨_, rfl⟩, hW, hsame.mono (by decide) (by decide)⟩
        · exact retN X56 hx (t := .boolean) Bd.returns (by simp) (hb hby at_154) hr
        · exact ⟨rfl, N56⟩
      · have hj59 : ¬ ((((p1 &&& (31 : Int32)) + (1 : Int32)) - (1 : Int32)) < 0 ∨ 17 ≤ ((((p1 &&& (31 : Int32)) + (1 : Int32)) - (1 : Int32))).toNatClampNeg) := own_in h22_33 h126_54
        have hv59 : ([(.int (100 : Int32)), (.int (80 : Int32)), (.int (64 : Int32)), (.int (51 : Int32)), (.int (40 : Int32)), (.int (32 : Int32)), (.int (25 : Int32)), (.int (20 : Int32)), (.int (16 : Int32)), (.int (12 : Int32)), (.int (9 : Int32)), (.int (7 : Int32)), (.int (5 : Int32)), (.int (4 : Int32)), (.int (3 : Int32)), (.int (2 : Int32)), (.int (1 : Int32))] : List Value)[((((p1 &&& (31 : Int32)) + (1 : Int32)) - (1 : Int32))).toNatClampNeg]? = some (.int (f1_0 ((p1 &&& (31 : Int32)) + (1 : Int32)))) := own_tab h22_33 h126_54
        obtain ⟨_, _, ⟨T60, L60, k60, n60⟩, -, X60, ⟨Lc60, hQ60, l60, y60, z60⟩, st60⟩ := Jvm.LawKit.callS X53 hx (y := (⟨"com/example/rumblecourt/rumblecourt/referee/Scoring", "ladder", "(I)I"⟩ : MethodName)) hown (mvT hZ (hw _ (List.mem_of_getElem? (i := 1) rfl))) (mvT hZ (hw _ (List.mem_of_getElem? (i := 2) rfl))) (mvT hZ (hw _ (List.mem_of_getElem? (i := 3) rfl))) (mvT hZ (hw _ (List.mem_of_getElem? (i := 4) rfl))) (by decide) (backOf (W := 0) (rm1 l Z a0 hw [] ((p1 &&& (31 : Int32)) + (1 : Int32)) H53 n0) hZ (hw _ (List.mem_of_getElem? (i := 4) rfl)) (hw _ (List.mem_of_getElem? (i := 3) rfl)) (by decide) (by decide)) (g := (mkF m 141 #[.val (.int p1), .val (.int p2), .val (.int ((p1 &&& (31 : Int32)) + (1 : Int32))), .val (.ref b36), .val (.int (f1_0 ((p1 &&& (31 : Int32)) + (1 : Int32))))] [(.int ((p1 &&& (31 : Int32)) + (1 : Int32)))])) rfl (by rw [hml]; rfl) (argsL := [(.int ((p1 &&& (31 : Int32)) + (1 : Int32)))]) (rest := []) (lenOf pd_0_0 rfl) rfl (by show 2 * 0 + _ ≤ _; exact Nat.le_of_eq rfl) (hb hby at_141) (fun _ _ => ⟨rfl, e53, (by decide : 1 + 0 ≤ _), (by decide : 17 + 0 ≤ _)⟩)
        dsimp only [Pt.U, Pt.locs, Pt.cells, Pt.slots] at X60 l60 y60 z60 st60 hQ60
        subst l60 y60 z60
        obtain ⟨rfl, N60q, e60⟩ := hQ60
        have N60 := Fr.app N53 N60q
        have h146_61 : (f1_0 ((p1 &&& (31 : Int32)) + (1 : Int32))) = (f1_0 ((p1 &&& (31 : Int32)) + (1 : Int32))) := rfl
        have pre62 : ∀ t, Steps p.tables e below (T60.setTop (mkF m 154 #[.val (.int p1), .val (.int p2), .val (.int ((p1 &&& (31 : Int32)) + (1 : Int32))), .val (.ref b36), .val (.int (f1_0 ((p1 &&& (31 : Int32)) + (1 : Int32))))] [(.int (1 : Int32))])) t → Steps p.tables e below (s₁.setTop (entryFrame m #[(.int p1), (.int p2)] maxLocals)) t := by
          intro t k
          refine pre55 t ?_
          refine XS.icmpNo X53.here hx rfl (hb hby at_126) rfl (flt h126_54).2.2.1 ?_
          show Steps p.tables e below (T53.setTop (mkF m 129 #[.val (.int p1), .val (.int p2), .val (.int ((p1 &&& (31 : Int32)) + (1 : Int32))), .val (.ref b36), .unset] [])) _
          refine XS.aloadN X53.here hx rfl (hb hby at_129) rfl rfl ?_
          show Steps p.tables e below (T53.setTop (mkF m 130 #[.val (.int p1), .val (.int p2), .val (.int ((p1 &&& (31 : Int32)) + (1 : Int32))), .val (.ref b36), .unset] [(.ref b36)])) _
          refine XS.iloadN X53.here hx rfl (hb hby at_130) rfl ?_
          show Steps p.tables e below (T53.setTop (mkF m 131 #[.val (.int p1), .val (.int p2), .val (.int ((p1 &&& (31 : Int32)) + (1 : Int32))), .val (.ref b36), .unset] [(.int ((p1 &&& (31 : Int32)) + (1 : Int32))), (.ref b36)])) _
          refine XS.iconst X53.here hx rfl (hb hby at_131) ?_
          show Steps p.tables e below (T53.setTop (mkF m 132 #[.val (.int p1), .val (.int p2), .val (.int ((p1 &&& (31 : Int32)) + (1 : Int32))), .val (.ref b36), .unset] [(.int (1 : Int32)), (.int ((p1 &&& (31 : Int32)) + (1 : Int32))), (.ref b36)])) _
          refine XS.isub X53.here hx rfl (hb hby at_132) rfl ?_
          show Steps p.tables e below (T53.setTop (mkF m 133 #[.val (.int p1), .val (.int p2), .val (.int ((p1 &&& (31 : Int32)) + (1 : Int32))), .val (.ref b36), .unset] [(.int (((p1 &&& (31 : Int32)) + (1 : Int32)) - (1 : Int32))), (.ref b36)])) _
          refine own_ldI X53 hx hZ e53 V53 (n := 17) (v := (.int (f1_0 ((p1 &&& (31 : Int32)) + (1 : Int32))))) rfl hj59 hv59 (g := (mkF m 133 #[.val (.int p1), .val (.int p2), .val (.int ((p1 &&& (31 : Int32)) + (1 : Int32))), .val (.ref b36), .unset] [(.int (((p1 &&& (31 : Int32)) + (1 : Int32)) - (1 : Int32))), (.ref b36)])) rfl rfl (hb hby at_133) _ ?_
          show Steps p.tables e below (T53.setTop (mkF m 134 #[.val (.int p1), .val (.int p2), .val (.int ((p1 &&& (31 : Int32)) + (1 : Int32))), .val (.ref b36), .unset] [(.int (f1_0 ((p1 &&& (31 : Int32)) + (1 : Int32))))])) _
          refine XS.goto X53.here hx rfl (pc0 := 134) (pc' := 138) rfl (hb hby at_134) (by decide) (by decide) ?_
          show Steps p.tables e below (T53.setTop (mkF m 138 #[.val (.int p1), .val (.int p2), .val (.int ((p1 &&& (31 : Int32)) + (1 : Int32))), .val (.ref b36), .unset] [(.int (f1_0 ((p1 &&& (31 : Int32)) + (1 : Int32))))])) _
          refine XS.istore X53.here hx rfl (hb hby at_138) rfl (l' := #[.val (.int p1), .val (.int p2), .val (.int ((p1 &&& (31 : Int32)) + (1 : Int32))), .val (.ref b36), .val (.int (f1_0 ((p1 &&& (31 : Int32)) + (1 : Int32))))]) rfl ?_
          show Steps p.tables e below (T53.setTop (mkF m 140 #[.val (.int p1), .val (.int p2), .val (.int ((p1 &&& (31 : Int32)) + (1 : Int32))), .val (.ref b36), .val (.int (f1_0 ((p1 &&& (31 : Int32)) + (1 : Int32))))] [])) _
          refine XS.iloadN X53.here hx rfl (hb hby at_140) rfl ?_
          show Steps p.tables e below (T53.setTop (mkF m 141 #[.val (.int p1), .val (.int p2), .val (.int ((p1 &&& (31 : Int32)) + (1 : Int32))), .val (.ref b36), .val (.int (f1_0 ((p1 &&& (31 : Int32)) + (1 : Int32))))] [(.int ((p1 &&& (31 : Int32)) + (1 : Int32)))])) _
          refine st60 _ ?_
          show Steps p.tables e below (T60.setTop (mkF m 144 #[.val (.int p1), .val (.int p2), .val (.int ((p1 &&& (31 : Int32)) + (1 : Int32))), .val (.ref b36), .val (.int (f1_0 ((p1 &&& (31 : Int32)) + (1 : Int32))))] [(.int (f1_0 ((p1 &&& (31 : Int32)) + (1 : Int32))))])) _
          refine XS.iload X60.here hx rfl (hb hby at_144) rfl ?_
          show Steps p.tables e below (T60.setTop (mkF m 146 #[.val (.int p1), .val (.int p2), .val (.int ((p1 &&& (31 : Int32)) + (1 : Int32))), .val (.ref b36), .val (.int (f1_0 ((p1 &&& (31 : Int32)) + (1 : Int32))))] [(.int (f1_0 ((p1 &&& (31 : Int32)) + (1 : Int32)))), (.int (f1_0 ((p1 &&& (31 : Int32)) + (1 : Int32))))])) _
          refine XS.icmpNo X60.here hx rfl (hb hby at_146) rfl (teq h146_61).2 ?_
          show Steps p.tables e below (T60.setTop (mkF m 149 #[.val (.int p1), .val (.int p2), .val (.int ((p1 &&& (31 : Int32)) + (1 : Int32))), .val (.ref b36), .val (.int (f1_0 ((p1 &&& (31 : Int32)) + (1 : Int32))))] [])) _
          refine XS.iconst X60.here hx rfl (hb hby at_149) ?_
          show Steps p.tables e below (T60.setTop (mkF m 150 #[.val (.int p1), .val (.int p2), .val (.int ((p1 &&& (31 : Int32)) + (1 : Int32))), .val (.ref b36), .val (.int (f1_0 ((p1 &&& (31 : Int32)) + (1 : Int32))))] [(.int (1 : Int32))])) _
          refine XS.goto X60.here hx rfl (pc0 := 150) (pc' := 154) rfl (hb hby at_150) (by decide) (by decide) ?_
          show Steps p.tables e below (T60.setTop (mkF m 154 #[.val (.int p1), .val (.int p2), .val (.int ((p1 &&& (31 : Int32)) + (1 : Int32))), .val (.ref b36), .val (.int (f1_0 ((p1 &&& (31 : Int32)) + (1 : Int32))))] [(.int (1 : Int32))])) _
          exact k
        obtain ⟨fs, hr, hrun, hended, hW, hsame⟩ := X60.leave (v := some (.int (1 : Int32))) (fun h => by rw [Bd.returns] at h; cases h)
        refine ⟨_, _, pre62 _ ?_, hrun, hended, _, _, rfl, ?_, ⟨_, rfl⟩, hW, hsame.mono (by decide) (by decide)⟩
        · exact retN X60 hx (t := .boolean) Bd.returns (by simp) (hb hby at_154) hr
        · exact ⟨rfl, N60⟩
set_option maxRecDepth 65536 in
set_option maxHeartbeats 40000000 in
theorem comes_1 {Post : Tables → Env → Array Value → State → Outcome → State → Prop} (hpost : ∀ tb e args s v u, (limb_1_1.after args s (.returned v) u = true ∧ limb_1_2.after args s (.returned v) u = true ∧ True) → FrameEnd s (.returned v) u (Jvm.fieldLocs frame_1_writes args s ++ Jvm.arrayLocs frame_1_arrays args s ++ Jvm.staticLocs frame_1_statics s) 16 128 → Post tb e args s (.returned v) u) :
    ArmFor flags0 classFile x code maxLocals ret World_1 tables_1 room_1 Calls_1 rest_1 Pre_1 Post := by
  intro l hfl _ _ p e ha hc hk s m args below hf hA hF happ hP
  obtain ⟨hcalls, hrest, hpre⟩ := hP
  obtain ⟨-, -, -, hnamed, -, -, -, hat⟩ := (Spec.applies_iff hf).mp happ
  obtain ⟨hg, hn⟩ := and_e (Cond.before_iff.mp (show (Jvm.Cond.and given_1 narrow_1).before args s = true from hpre))
  obtain ⟨hc0, hr1⟩ := and_e hg
  obtain ⟨ha0, hr2⟩ := and_e hr1
  obtain ⟨w0, w1, rfl⟩ : ∃ w0 w1 : Value, args = #[w0, w1] := by
    have hs : args.size = 2 := by simpa [Cond.value, given_1] using hc0
    obtain ⟨L⟩ := args
    match L, hs with
    | [w0, w1], _ => exact ⟨w0, w1, rfl⟩
  have hw := fun d (hd : d ∈ tables_1) => atoms_spec (ws := Jvm.Cond.code x code maxLocals ret :: tables_1) hat d (List.mem_cons_of_mem _ hd)
  have hfit : Fit s := fun {y c} hc i hi => by
    obtain ⟨ha, rfl⟩ := Array.getElem?_eq_some_iff.mp hc
    have q := List.all_eq_true.mp ((Array.all_eq_true_iff_forall_mem.mp hF) _ (Array.getElem_mem ha)) i (List.mem_range.mpr hi)
    simpa [Array.getElem?_eq_getElem hi] using q
  obtain ⟨i0, ei0⟩ := is_v ha0
  obtain rfl : w0 = (.int i0) := Option.some.inj ei0
  obtain ⟨i1, ei1⟩ := is_v hr2
  obtain rfl : w1 = (.int i1) := Option.some.inj ei1
  obtain ⟨n, o, h1, h2, h3, _, L, rfl, ⟨rfl, N⟩, hq⟩ := rm0 l s _ hw tables_1 i0 i1 s.heap s.heap.size (Nat.le_refl _) p e ha hc hk s m _ below hf ((Spec.applies_iff_loose hf).mp happ).1 ⟨rfl, State.Warmed39.refl s, rfl⟩ trivial
  refine ⟨n, _, h1, h2, h3, hpost _ _ _ _ _ _ ⟨Cond.after_iff.mpr rfl, Cond.after_iff.mpr (eq_i res_at (Term.int_eval (1)) rfl), trivial⟩ ⟨hq.1, hq.2.1, (hq.2.2.sift fun y hy => Or.inr (N y hy)).mono (by decide) (by decide)⟩⟩
theorem main_1_1 : Claimed_1_1 := comes_1 fun _ _ _ _ _ _ h hF => ⟨h.1, hF⟩
theorem main_1_2 : Claimed_1_2 := comes_1 fun _ _ _ _ _ _ h hF => ⟨h.2.1, hF⟩
end Jvm.Pilot.@@N@@
namespace Jvm.Pilot.@@N@@
open Jvm Jvm.ClassFile Sem Op Lib Jvm.Free Jvm.Stand Jvm.Pilot.@@N@@.Jvm.D
/-! MADE BY PROGRAM (witnessworld.py) out of the Statement's table words and the real class files: 12 classes; the members and pool entries that the words name. The judged class is class 1, her method 1. -/
namespace start1
open Jvm.ClassFile
def u (s : String) : CpInfo := .utf8 (stringToUtf16 s)
/-- a pool by its gaps: so many unusable entries, then the entry; so many at the end -/
def gap : Nat → List CpInfo → List CpInfo
  | 0, r => r
  | n + 1, r => .unusable :: gap n r
def poolList (es : List (Nat × CpInfo)) (last : Nat) : List CpInfo := es.foldr (fun e r => gap e.1 (e.2 :: r)) (gap last [])
def pool (es : List (Nat × CpInfo)) (last : Nat) : Array CpInfo := ⟨poolList es last⟩
def fileOf (pool : Array CpInfo) (this : Nat) (attrs : Array Attribute := #[]) (ms : Array MethodInfo := #[]) (fl : Nat := 33) (sup : Nat := 0) (ifs : Array Nat := #[]) (fds : Array FieldInfo := #[]) : ClassFile where
  minorVersion := 0
  majorVersion := 65
  constantPool := pool
  accessFlags := fl
  thisClass := this
  superClass := sup
  interfaces := ifs
  fields := fds
  methods := ms
  attributes := attrs
def plain (name : String) (sup : Option ClassId) : Class where
  name := name
  kind := .ordinary
  loader := none
  accessFlags := 33
  super := sup
  interfaces := #[]
  cf := none
  fields := #[]
  methods := #[]
  instanceTypes := #[]
  staticTypes := #[]
  resolved := #[]
  callSites := []
  init := .initialized
  statics := none
  mirror := none

def pool0 : Array CpInfo := pool [(5, u "<init>"), (0, u "()V"), (1, .class_ 10), (1, u "java/lang/Object")] 113

def k0m0 : Method := { name := "<init>", desc := "()V", sig := { parameters := [], returnType := none }, accessFlags := 1, code := none }
/-- java/lang/Object -/
def k0 : Class := { plain "java/lang/Object" none with
  accessFlags := 33
  interfaces := #[]
  cf := some (fileOf pool0 8 #[] #[{ accessFlags := 1, nameIndex := 5, descriptorIndex := 6, attributes := #[] }] 33 0 #[] #[])
  fields := #[]
  methods := #[k0m0]
  instanceTypes := #[]
  staticTypes := #[]
  resolved := Array.replicate 124 none
  statics := none }

def pool1 : Array CpInfo := pool [(2, .class_ 4), (1, u "java/lang/Object"), (0, u "<init>"), (0, u "()V"), (0, .integer 2147483647), (0, .methodref 9 10), (0, .class_ 11), (0, .nameAndType 12 13), (0, u "com/example/rumblecourt/rumblecourt/referee/Scoring"), (0, u "ladder"), (0, u "(I)I"), (0, .class_ 15), (0, u "com/example/rumblecourt/rumblecourt/referee/ScoringLadderPinLaw"), (2, u "law"), (0, u "(II)Z")] 5

def k1m0 : Method := { name := "<init>", desc := "()V", sig := { parameters := [], returnType := none }, accessFlags := 2, code := none }
def k1c1 : Code := { maxStack := 4, maxLocals := 5, code := code, exceptionTable := #[], attributes := #[] }
def k1m1 : Method := { name := "law", desc := "(II)Z", sig := { parameters := [.int, .int], returnType := some .boolean }, accessFlags := 9, code := some k1c1 }
/-- com/example/rumblecourt/rumblecourt/referee/ScoringLadderPinLaw -/
def k1 : Class := { plain "com/example/rumblecourt/rumblecourt/referee/ScoringLadderPinLaw" (some 0) with
  accessFlags := 49
  interfaces := #[]
  cf := some (fileOf pool1 14 #[] #[{ accessFlags := 2, nameIndex := 5, descriptorIndex := 6, attributes := #[] }, { accessFlags := 9, nameIndex := 18, descriptorIndex := 19, attributes := #[] }] 49 2 #[] #[])
  fields := #[]
  methods := #[k1m0, k1m1]
  instanceTypes := #[]
  staticTypes := #[]
  resolved := Array.replicate 25 none
  statics := none }

def pool2 : Array CpInfo := pool [(1, .class_ 2), (0, u "java/lang/constant/Constable"), (0, .class_ 4), (0, u "java/lang/Object")] 6

/-- java/lang/constant/Constable -/
def k2 : Class := { plain "java/lang/constant/Constable" (some 0) with
  accessFlags := 1537
  interfaces := #[]
  cf := some (fileOf pool2 1 #[] #[] 1537 3 #[] #[])
  fields := #[]
  methods := #[]
  instanceTypes := #[]
  staticTypes := #[]
  resolved := Array.replicate 11 none
  statics := none }

def pool3 : Array CpInfo := pool [(1, .class_ 2), (0, u "java/lang/Comparable"), (0, .class_ 4), (0, u "java/lang/Object")] 7

/-- java/lang/Comparable -/
def k3 : Class := { plain "java/lang/Comparable" (some 0) with
  accessFlags := 1537
  interfaces := #[]
  cf := some (fileOf pool3 1 #[] #[] 1537 3 #[] #[])
  fields := #[]
  methods := #[]
  instanceTypes := #[]
  staticTypes := #[]
  resolved := Array.replicate 12 none
  statics := none }

def pool4 : Array CpInfo := pool [(1, .class_ 2), (0, u "java/io/Serializable"), (0, .class_ 4), (0, u "java/lang/Object")] 2

/-- java/io/Serializable -/
def k4 : Class := { plain "java/io/Serializable" (some 0) with
  accessFlags := 1537
  interfaces := #[]
  cf := some (fileOf pool4 1 #[] #[] 1537 3 #[] #[])
  fields := #[]
  methods := #[]
  instanceTypes := #[]
  staticTypes := #[]
  resolved := Array.replicate 7 none
  statics := none }

def pool5 : Array CpInfo := pool [(2, .class_ 4), (1, u "java/lang/Enum"), (0, u "name"), (0, u "Ljava/lang/String;"), (2, u "ordinal"), (0, u "I"), (1, .class_ 14), (1, u "java/lang/Object"), (4, u "hash"), (86, .class_ 108), (1, u "java/lang/Enum$EnumDesc"), (2, .class_ 112), (0, u "java/lang/constant/Constable"), (0, .class_ 114), (0, u "java/lang/Comparable"), (0, .class_ 116), (0, u "java/io/Serializable")] 87

/-- java/lang/Enum -/
def k5 : Class := { plain "java/lang/Enum" (some 0) with
  accessFlags := 1057
  interfaces := #[2, 3, 4]
  cf := some (fileOf pool5 2 #[.nestMembers #[106]] #[] 1057 12 #[111, 113, 115] #[{ accessFlags := 18, nameIndex := 5, descriptorIndex := 6, attributes := #[] }, { accessFlags := 18, nameIndex := 9, descriptorIndex := 10, attributes := #[] }, { accessFlags := 2, nameIndex := 19, descriptorIndex := 10, attributes := #[] }])
  fields := #[{ name := "name", type := (.object "java/lang/String"), accessFlags := 18, slot := 0, constantValue := 0 }, { name := "ordinal", type := .int, accessFlags := 18, slot := 1, constantValue := 0 }, { name := "hash", type := .int, accessFlags := 2, slot := 2, constantValue := 0 }]
  methods := #[]
  instanceTypes := #[(.object "java/lang/String"), .int, .int]
  staticTypes := #[]
  resolved := Array.replicate 204 none
  statics := none }

def pool6 : Array CpInfo := pool [(1, .class_ 2), (0, u "com/example/rumblecourt/rumblecourt/referee/Scoring"), (2, u "LADDER"), (0, u "Lcom/example/rumblecourt/rumblecourt/referee/Scoring;"), (2, u "MEAN"), (2, u "$VALUES"), (0, u "[Lcom/example/rumblecourt/rumblecourt/referee/Scoring;"), (6, .class_ 22), (1, u "java/lang/Enum"), (61, u "ladder"), (0, u "(I)I"), (10, u "FIRST"), (0, u "I")] 50

def k6c0 : Code := { maxStack := 2, maxLocals := 3, code := prog_43_method_4_code, exceptionTable := #[], attributes := #[] }
def k6m0 : Method := { name := "ladder", desc := "(I)I", sig := { parameters := [.int], returnType := some .int }, accessFlags := 8, code := some k6c0 }
/-- com/example/rumblecourt/rumblecourt/referee/Scoring -/
def k6 : Class := { plain "com/example/rumblecourt/rumblecourt/referee/Scoring" (some 5) with
  accessFlags := 16433
  interfaces := #[]
  cf := some (fileOf pool6 1 #[] #[{ accessFlags := 8, nameIndex := 84, descriptorIndex := 85, attributes := #[] }] 16433 20 #[] #[{ accessFlags := 16409, nameIndex := 5, descriptorIndex := 6, attributes := #[] }, { accessFlags := 16409, nameIndex := 9, descriptorIndex := 6, attributes := #[] }, { accessFlags := 26, nameIndex := 96, descriptorIndex := 97, attributes := #[] }, { accessFlags := 4122, nameIndex := 12, descriptorIndex := 13, attributes := #[] }])
  fields := #[{ name := "LADDER", type := (.object "com/example/rumblecourt/rumblecourt/referee/Scoring"), accessFlags := 16409, slot := 0, constantValue := 0 }, { name := "MEAN", type := (.object "com/example/rumblecourt/rumblecourt/referee/Scoring"), accessFlags := 16409, slot := 1, constantValue := 0 }, { name := "FIRST", type := .int, accessFlags := 26, slot := 2, constantValue := 0 }, { name := "$VALUES", type := (.array (.object "com/example/rumblecourt/rumblecourt/referee/Scoring")), accessFlags := 4122, slot := 3, constantValue := 0 }]
  methods := #[k6m0]
  instanceTypes := #[(.object "java/lang/String"), .int, .int]
  staticTypes := #[(.object "com/example/rumblecourt/rumblecourt/referee/Scoring"), (.object "com/example/rumblecourt/rumblecourt/referee/Scoring"), .int, (.array (.object "com/example/rumblecourt/rumblecourt/referee/Scoring"))]
  resolved := Array.replicate 148 none
  statics := none }

def pool7 : Array CpInfo := pool [(1, u "java/lang/Cloneable"), (0, .class_ 1), (0, u "java/lang/Object"), (0, .class_ 3)] 3

/-- java/lang/Cloneable -/
def k7 : Class := { plain "java/lang/Cloneable" (some 0) with
  accessFlags := 1537
  interfaces := #[]
  cf := some (fileOf pool7 2 #[] #[] 1537 4 #[] #[])
  fields := #[]
  methods := #[]
  instanceTypes := #[]
  staticTypes := #[]
  resolved := Array.replicate 8 none
  statics := none }

/-- the primitive byte -/
def k8 : Class := { plain "byte" none with kind := .primitive 'B', accessFlags := 0x411 }
/-- [B -/
def k9 : Class := { plain "[B" (some 0) with kind := .array 8 .byte, interfaces := #[7, 4], accessFlags := 1041 }

/-- the primitive int -/
def k10 : Class := { plain "int" none with kind := .primitive 'I', accessFlags := 0x411 }
/-- [I -/
def k11 : Class := { plain "[I" (some 0) with kind := .array 10 .int, interfaces := #[7, 4], accessFlags := 1041 }

def heap : Heap := #[]
def classes : Array Class := #[k0, k1, k2, k3, k4, k5, k6, k7, k8, k9, k10, k11]
def interned : List (Array UInt16 × Addr) := []
def slotsUsed : Nat := 0
def theMethod : MethodId := ⟨1, 1⟩
def args0 : Array Value := #[.int 5, .int 3]
def aboutOver (below : List Frame) : State where
  vm := { classes := classes, interned := interned.toArray }
  heap := heap
  slotsUsed := slotsUsed
  threads := #[{ frames := .invoking theMethod args0 :: below }]
def below0 : List Frame := [.native { method := ⟨0, 0⟩, args := #[] }]
def about1 : State := aboutOver below0
def p0 : Program := .bare "" "" ""
def e0 : Env := launch0.env 0 0 0
theorem w_frames : about1.frames = Frame.invoking theMethod args0 :: below0 := rfl
set_option maxRecDepth 65536 in
theorem w_args : argsFit about1.vm theMethod args0 = true := by decide +kernel
set_option maxRecDepth 65536 in
theorem w_heap : heapFits about1 = true := by decide +kernel
set_option maxRecDepth 65536 in
theorem w_runnable : about1.curStatus? = some .runnable := by decide +kernel
set_option maxRecDepth 65536 in
theorem w_alone : about1.alone = true := by decide +kernel
set_option maxRecDepth 65536 in
theorem w_named : about1.methodNamed? x = some theMethod := by decide +kernel
set_option maxRecDepth 65536 in
theorem w_hears : about1.hears theMethod below0 = true := by decide +kernel
set_option maxRecDepth 65536 in
theorem w_ripe : about1.ripe theMethod args0 below0 = true := by decide +kernel
theorem w_running : about1.status = .running := rfl
set_option maxRecDepth 65536 in
theorem w_room : about1.hasRoom e0.platform room_1 = true :=
  launch0.hasRoom_least _ room_1 (by decide +kernel) (by decide +kernel) (by decide +kernel) (by decide +kernel) (by decide +kernel) (by decide +kernel)
theorem allAtoms_all (ts : List Jvm.Cond) (a : Array Jvm.Value) (st : Jvm.State) : (allAtoms ts).before a st = ts.all (fun c => c.before a st) := by
  induction ts with
  | nil => rfl
  | cons c t ih =>
    show (Jvm.Cond.and c (allAtoms t)).before a st = _
    rw [Jvm.Cond.before_and, ih, List.all_cons]
def words1 : List Jvm.Cond := Jvm.Cond.code x code maxLocals ret :: tables_1
/-- a 'code' word, met by the world's own term for the bytes: nothing is compared byte by byte -/
theorem code_word {y : MethodName} {bytes : ByteArray} {mx : Nat} {rt : Option FieldType} {a : Array Value} {s : State} {m : MethodId} {meth : Method} {c : Code} (h1 : s.methodNamed? y = some m) (h2 : s.vm.method? m = some meth) (h3 : meth.code = some c) (h4 : c.code = bytes)
    (h5 : (c.maxLocals == mx && c.exceptionTable.isEmpty && decide (c.maxStack ≤ mostOperands) && decide (meth.sig.returnType = rt) && !meth.locks && decide (parseMethodDescriptor y.desc = some meth.sig)) = true) : (Jvm.Cond.code y bytes mx rt).before a s = true := by
  simp only [Bool.and_eq_true, beq_iff_eq, Bool.not_eq_true', decide_eq_true_eq] at h5
  obtain ⟨⟨⟨⟨⟨g1, g2⟩, g3⟩, g4⟩, g5⟩, g6⟩ := h5
  simp [Cond.before, Cond.holds, Cond.value, h1, h2, h3, h4, g1, g2, g3, g4, g5, g6]
def isCode : Jvm.Cond → Bool
  | .code _ _ _ _ => true
  | _ => false
theorem all_split {L : List Jvm.Cond} {P : Jvm.Cond → Bool} (h1 : L.all (fun c => isCode c || P c) = true) (h2 : ∀ c ∈ L.filter isCode, P c = true) : L.all P = true := by
  refine List.all_eq_true.mpr fun c hc => ?_
  have h := List.all_eq_true.mp h1 c hc
  rcases Bool.eq_false_or_eq_true (isCode c) with hi | hi
  · exact h2 c (List.mem_filter.mpr ⟨hc, hi⟩)
  · simpa [hi] using h
set_option maxRecDepth 65536 in
theorem w_c0 : (Jvm.Cond.code x code maxLocals ret).before args0 about1 = true := code_word (m := ⟨1, 1⟩) (meth := k1m1) (c := k1c1) (by decide +kernel) rfl rfl rfl (by decide +kernel)
set_option maxRecDepth 65536 in
theorem w_c1 : (Jvm.Cond.code ({ cls := "com/example/rumblecourt/rumblecourt/referee/Scoring", name := "ladder", desc := "(I)I" } : Jvm.MethodName) prog_43_method_4_code (3 : Nat) (Option.some Jvm.ClassFile.FieldType.int)).before args0 about1 = true := code_word (m := ⟨6, 0⟩) (meth := k6m0) (c := k6c0) (by decide +kernel) rfl rfl rfl (by decide +kernel)
def codes1 : List Jvm.Cond := [Jvm.Cond.code x code maxLocals ret, Jvm.Cond.code ({ cls := "com/example/rumblecourt/rumblecourt/referee/Scoring", name := "ladder", desc := "(I)I" } : Jvm.MethodName) prog_43_method_4_code (3 : Nat) (Option.some Jvm.ClassFile.FieldType.int)]
set_option maxRecDepth 65536 in
theorem codes_eq : words1.filter isCode = codes1 := rfl
theorem w_codes : ∀ c ∈ words1.filter isCode, c.before args0 about1 = true := by
  rw [codes_eq]
  intro c hc
  simp only [codes1, List.mem_cons, List.not_mem_nil, or_false] at hc
  rcases hc with rfl | rfl
  · exact w_c0
  · exact w_c1
set_option maxRecDepth 65536 in
theorem w_t1 : words1.all (fun c => isCode c || c.before args0 about1) = true := by decide +kernel
theorem w_tables : (allAtoms (Jvm.Cond.code x code maxLocals ret :: tables_1)).before args0 about1 = true := by
  rw [allAtoms_all]
  show words1.all (fun c => c.before args0 about1) = true
  refine all_split ?_ w_codes
  rw [w_t1]
set_option maxRecDepth 65536 in
theorem w_case : (Jvm.Cond.and given_1 narrow_1).before args0 about1 = true := by decide +kernel
theorem w_applies : (headSpec (Jvm.Cond.code x code maxLocals ret :: tables_1) room_1).applies x e0.platform about1 = true :=
  (Spec.applies_iff w_frames).mpr ⟨w_running, w_runnable, w_alone, w_named, w_hears, w_ripe, w_room, w_tables⟩
theorem atStart : AtStart classFile x code maxLocals ret World_1 tables_1 room_1 Calls_1 rest_1 Pre_1 launch0 p0 e0 about1 theMethod args0 below0 :=
  ⟨lists_1, trivial, launch0.admits_env _ _ _, launch0.least_env, fairChoices_fair.cas, fairChoices_fair.clock, w_frames, w_args, w_heap, w_applies, trivial, trivial, w_case⟩
end start1
theorem witness_1 : WitnessClaimed_1 := ⟨start1.p0, start1.e0, start1.about1, start1.theMethod, start1.args0, start1.below0, start1.atStart⟩
end Jvm.Pilot.@@N@@
