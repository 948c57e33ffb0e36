import JvmDerived
import JvmDerived.Pilot.@@N@@Statement
import JvmDerived.Pilot.@@N@@Code
set_option linter.unusedVariables false
set_option linter.unusedSimpArgs false
@@BLOCK:NumsL.lean.txt@@
namespace Jvm.RoadKit
open Sem ClassFile Op Lib Jvm.Stand Jvm.Free Jvm.LawKit
section New
variable {p : Program} {l : Launch} {e : Env} {R : Room} {s : State} {m : MethodId} {args : Array Value} {below : List Frame} {meth : Method} {c : Code} {T : State} {locs : List Loc} {cells slots : Nat}
theorem retI (X : Stand p l e R s m args below meth c T locs cells slots) (hx : p.tables.exec = Jvm.exec) {pc : Nat} {Ls : Array Slot} {z : Int32} {rest : List Value} (hret : meth.sig.returnType = some .int) (hd : decode c.code pc = .ok (.ireturn, 1)) {fs : List Frame}
    (hl : ∀ (f : JFrame) (acts : List Action), f.method = m → f.locked = none → f.entered = [] → (doReturn e (T.setTop f) acts (some (.int z))).1 = T.setFrames fs) : Steps p.tables e below (T.setTop (mkF m pc Ls (.int z :: rest))) (T.setFrames fs) := by
  have hm' : T.vm.method? m = some meth := X.method'
  have hn : narrow .int (.int z) = .int z := rfl
  show Steps p.tables e below (T.setTop { method := m, pc := pc, locals := Ls, stack := _ :: rest, locked := none }) _
  jvm_step X.here [X.here.top, hx, hd, hm', hret, hn]
  first | (intro acts; rw [hl _ acts rfl rfl rfl]) | rw [hl _ _ rfl rfl rfl]
  exact Steps.refl _
end New
end Jvm.RoadKit
namespace Jvm.Pilot.@@N@@
open Jvm Jvm.ClassFile Sem Op Lib Jvm.Free Jvm.Stand Jvm.LawKit Jvm.RoadKit Bundle Jvm.Pilot.@@N@@.Jvm.D
def own_VA (Z : State) (h : Heap) (a : Addr) (ty : FieldType) (vs : List Value) : Prop := ∃ cl : Cell, Arr Z h a cl ty ∧ cl.slots = vs.toArray
theorem own_VA_new {Z : State} {h : Heap} {a : Addr} {cA : ClassId} {ty : FieldType} {n : Int32} {k : Nat} (A : Arr Z h a (newA cA ty n) ty) (hk : n.toNatClampNeg = k) : own_VA Z h a ty (List.replicate k (defaultValue ty)) := ⟨_, A, by show Array.replicate n.toNatClampNeg (defaultValue ty) = _; rw [hk]; simp⟩
theorem own_VA_set {Z : State} {h h' : Heap} {a : Addr} {ty : FieldType} {vs : List Value} {k : Nat} {v : Value} (A : own_VA Z h a ty vs) (W : Wr h h' a k v) : own_VA Z h' a ty (vs.set k v) := by
  obtain ⟨cl, A, e⟩ := A
  exact ⟨_, A.same W, by show cl.slots.setIfInBounds k v = _; rw [e]; simp⟩
theorem own_VA_other {Z : State} {h h' : Heap} {a b : Addr} {ty : FieldType} {vs : List Value} {k : Nat} {v : Value} (A : own_VA Z h b ty vs) (W : Wr h h' a k v) (hne : b ≠ a) : own_VA Z h' b ty vs := by
  obtain ⟨cl, A, e⟩ := A
  exact ⟨_, A.other W hne, e⟩
theorem own_VA_ext {Z : State} {h h' : Heap} {a : Addr} {ty : FieldType} {vs : List Value} (A : own_VA Z h a ty vs) (E : Ext h h') : own_VA Z h' a ty vs := by
  obtain ⟨cl, A, e⟩ := A
  exact ⟨_, A.ext E, e⟩
theorem own_VA_keep {Z : State} {h h' : Heap} {a : Addr} {ty : FieldType} {vs : List Value} {ws : List Addr} (A : own_VA Z h a ty vs) (K : Keep h h' ws) (hn : a ∉ ws) : own_VA Z h' a ty vs := by
  obtain ⟨cl, A, e⟩ := A
  exact ⟨cl, ⟨K.2.1 _ _ A.1 hn, A.2⟩, e⟩
theorem own_VA_lt {Z : State} {h : Heap} {a : Addr} {ty : FieldType} {vs : List Value} (A : own_VA Z h a ty vs) : a < h.size := by
  obtain ⟨cl, A, e⟩ := A
  exact A.lt
section OwnArr
variable {p : Program} {l : Launch} {e : Env} {R : Room} {s : State} {m : MethodId} {args : Array Value} {below : List Frame} {meth : Method} {c : Code} {T : State} {locs : List Loc} {cells slots : Nat} {Z : State} {h : Heap}
theorem own_stI (X : Stand p l e R s m args below meth c T locs cells slots) (hx : p.tables.exec = Jvm.exec) (hZ : Z.Warmed39 s.vm) (eT : T.heap = h) {a : Addr} {vs : List Value} (A : own_VA Z h a .int vs) {j : Int32} {k n : Nat} {x : Int32} (hn : vs.length = n) (hj : ¬ (j < 0 ∨ n ≤ j.toNatClampNeg)) (hk : j.toNatClampNeg = k) {g : JFrame} (hg : g.method = m) {rest : List Value} (hs : g.stack = .int x :: .int j :: .ref a :: rest) (hd : decode c.code g.pc = .ok (.iastore, 1)) :
    ∃ T' h' ls, Stand p l e R s m args below meth c T' ls cells slots ∧ T'.heap = h' ∧ own_VA Z h' a .int (vs.set k (.int x)) ∧ Wr h h' a k (.int x) ∧ (∀ n0, Fr n0 locs → n0 ≤ a → Fr n0 ls) ∧ ∀ target, Steps p.tables e below (T'.setTop { g with pc := g.pc + 1, stack := rest }) target → Steps p.tables e below (T.setTop g) target := by
  subst hk
  obtain ⟨cl, A1, ec⟩ := A
  obtain ⟨T', h', X', e', W, st⟩ := stI X hx hZ eT A1 (j := j) (x := x) (by rw [ec]; simpa [hn] using hj) hg hs hd
  exact ⟨T', h', _, X', e', own_VA_set ⟨cl, A1, ec⟩ W, W, fun n0 N q => Fr.snoc X' N q, st⟩
theorem own_stJ (X : Stand p l e R s m args below meth c T locs cells slots) (hx : p.tables.exec = Jvm.exec) (hZ : Z.Warmed39 s.vm) (eT : T.heap = h) {a : Addr} {vs : List Value} (A : own_VA Z h a .long vs) {j : Int32} {k n : Nat} {x : Int64} (hn : vs.length = n) (hj : ¬ (j < 0 ∨ n ≤ j.toNatClampNeg)) (hk : j.toNatClampNeg = k) {g : JFrame} (hg : g.method = m) {rest : List Value} (hs : g.stack = .long x :: .int j :: .ref a :: rest) (hd : decode c.code g.pc = .ok (.lastore, 1)) :
    ∃ T' h' ls, Stand p l e R s m args below meth c T' ls cells slots ∧ T'.heap = h' ∧ own_VA Z h' a .long (vs.set k (.long x)) ∧ Wr h h' a k (.long x) ∧ (∀ n0, Fr n0 locs → n0 ≤ a → Fr n0 ls) ∧ ∀ target, Steps p.tables e below (T'.setTop { g with pc := g.pc + 1, stack := rest }) target → Steps p.tables e below (T.setTop g) target := by
  subst hk
  obtain ⟨cl, A1, ec⟩ := A
  obtain ⟨T', h', X', e', W, st⟩ := stJ X hx hZ eT A1 (j := j) (x := x) (by rw [ec]; simpa [hn] using hj) hg hs hd
  exact ⟨T', h', _, X', e', own_VA_set ⟨cl, A1, ec⟩ W, W, fun n0 N q => Fr.snoc X' N q, st⟩
theorem own_ldI (X : Stand p l e R s m args below meth c T locs cells slots) (hx : p.tables.exec = Jvm.exec) (hZ : Z.Warmed39 s.vm) (eT : T.heap = h) {a : Addr} {vs : List Value} (A : own_VA Z h a .int vs) {j : Int32} {n : Nat} {v : Value} (hn : vs.length = n) (hj : ¬ (j < 0 ∨ n ≤ j.toNatClampNeg)) (hv : vs[j.toNatClampNeg]? = some v) {g : JFrame} (hg : g.method = m) {rest : List Value} (hs : g.stack = .int j :: .ref a :: rest) (hd : decode c.code g.pc = .ok (.iaload, 1)) :
    ∀ target, Steps p.tables e below (T.setTop { g with pc := g.pc + 1, stack := v :: rest }) target → Steps p.tables e below (T.setTop g) target := by
  obtain ⟨cl, A1, ec⟩ := A
  intro target k
  exact X.iaload hx (by rw [eT]; exact A1.1) (State.isArrayOf_alike hZ.alike A1.2.1) A1.2.2 (by rw [ec]; simpa [hn] using hj) (by rw [ec]; simpa using hv) hg hs hd target k
theorem own_ldJ (X : Stand p l e R s m args below meth c T locs cells slots) (hx : p.tables.exec = Jvm.exec) (hZ : Z.Warmed39 s.vm) (eT : T.heap = h) {a : Addr} {vs : List Value} (A : own_VA Z h a .long vs) {j : Int32} {n : Nat} {v : Value} (hn : vs.length = n) (hj : ¬ (j < 0 ∨ n ≤ j.toNatClampNeg)) (hv : vs[j.toNatClampNeg]? = some v) {g : JFrame} (hg : g.method = m) {rest : List Value} (hs : g.stack = .int j :: .ref a :: rest) (hd : decode c.code g.pc = .ok (.laload, 1)) :
    ∀ target, Steps p.tables e below (T.setTop { g with pc := g.pc + 1, stack := v :: rest }) target → Steps p.tables e below (T.setTop g) target := by
  obtain ⟨cl, A1, ec⟩ := A
  intro target k
  exact X.laload hx (by rw [eT]; exact A1.1) (State.isArrayOf_alike hZ.alike A1.2.1) A1.2.2 (by rw [ec]; simpa [hn] using hj) (by rw [ec]; simpa using hv) hg hs hd target k
theorem own_len (X : Stand p l e R s m args below meth c T locs cells slots) (hx : p.tables.exec = Jvm.exec) (hZ : Z.Warmed39 s.vm) (eT : T.heap = h) {a : Addr} {vs : List Value} {ty : FieldType} (A : own_VA Z h a ty vs) {n : Nat} {k : Int32} (hn : vs.length = n) (hk : n.toInt32 = k) {g : JFrame} (hg : g.method = m) {rest : List Value} (hs : g.stack = .ref a :: rest) (hd : decode c.code g.pc = .ok (.arraylength, 1)) :
    ∀ target, Steps p.tables e below (T.setTop { g with pc := g.pc + 1, stack := .int k :: rest }) target → Steps p.tables e below (T.setTop g) target := by
  obtain ⟨cl, A1, ec⟩ := A
  intro target q
  have z : cl.slots.size.toInt32 = k := by rw [ec, ← hk, ← hn]; simp
  refine X.arraylength hx (by rw [eT]; exact A1.1) (State.isArrayOf_alike hZ.alike A1.2.1) hg hs hd target ?_
  rw [z]; exact q
end OwnArr
theorem own_some {us : List Int32} {vs : List Value} (e : vs = us.map Value.int) {n i : Nat} (hn : vs.length = n) (h : i < n) : ∃ w : Int32, vs[i]? = some (.int w) := by
  subst e hn
  have h' : i < us.length := by simpa using h
  exact ⟨us[i], by simp [h']⟩
theorem own_idx {j : Int32} {n : Nat} (h0 : 0 ≤ j.toInt) (h1 : j.toInt < n) : ¬ (j < 0 ∨ n ≤ j.toNatClampNeg) := by
  have z : (0 : Int32).toInt = 0 := by decide
  intro q
  rcases q with q | q
  · rw [Int32.lt_iff_toInt_lt] at q; omega
  · have : j.toNatClampNeg = j.toInt.toNat := rfl
    omega
theorem own_lt {j : Int32} {n : Nat} (h : ¬ (j < 0 ∨ n ≤ j.toNatClampNeg)) : j.toNatClampNeg < n := Nat.lt_of_not_le fun q => h (Or.inr q)
theorem own_rem (q n : Int32) (hq : 0 ≤ q.toInt) : (q - (q / n) * n).toInt = q.toInt % n.toInt := by
  rw [rem_toInt, Int.tmod_eq_emod_of_nonneg hq]
theorem own_nn (p : Int32) : 0 ≤ (p &&& (2147483647 : Int32)).toInt := by
  rw [Jvm.Kit.i32_mask p 2147483647 (k := 31) (by decide) (by decide)]; omega
theorem own_remin {q n : Int32} {k : Nat} (hq : 0 ≤ q.toInt) (hn : n.toInt = k) (hk : 0 < k) : ¬ ((q - (q / n) * n) < 0 ∨ k ≤ (q - (q / n) * n).toNatClampNeg) := by
  have h := own_rem q n hq
  rw [hn] at h
  have h1 := Int.emod_nonneg q.toInt (show (k : Int) ≠ 0 by omega)
  have h2 := Int.emod_lt_of_pos q.toInt (show (0 : Int) < k by omega)
  exact own_idx (by omega) (by omega)
theorem d1_0 : decode prog_83_method_10_code 0 = .ok (.iload_n 0, 1) := by decide +kernel
theorem d1_1 : decode prog_83_method_10_code 1 = .ok (.bipush 9, 2) := by decide +kernel
theorem d1_3 : decode prog_83_method_10_code 3 = .ok (.if_icmp .eq 56, 3) := by decide +kernel
theorem d1_6 : decode prog_83_method_10_code 6 = .ok (.iload_n 0, 1) := by decide +kernel
theorem d1_7 : decode prog_83_method_10_code 7 = .ok (.bipush 10, 2) := by decide +kernel
theorem d1_9 : decode prog_83_method_10_code 9 = .ok (.if_icmp .eq 50, 3) := by decide +kernel
theorem d1_12 : decode prog_83_method_10_code 12 = .ok (.iload_n 0, 1) := by decide +kernel
theorem d1_13 : decode prog_83_method_10_code 13 = .ok (.bipush 13, 2) := by decide +kernel
theorem d1_15 : decode prog_83_method_10_code 15 = .ok (.if_icmp .eq 44, 3) := by decide +kernel
theorem d1_18 : decode prog_83_method_10_code 18 = .ok (.iload_n 0, 1) := by decide +kernel
theorem d1_19 : decode prog_83_method_10_code 19 = .ok (.bipush 32, 2) := by decide +kernel
theorem d1_21 : decode prog_83_method_10_code 21 = .ok (.if_icmp .lt 10, 3) := by decide +kernel
theorem d1_24 : decode prog_83_method_10_code 24 = .ok (.iload_n 0, 1) := by decide +kernel
theorem d1_25 : decode prog_83_method_10_code 25 = .ok (.ldc_w 367, 3) := by decide +kernel
theorem d1_28 : decode prog_83_method_10_code 28 = .ok (.if_icmp .le 31, 3) := by decide +kernel
theorem d1_31 : decode prog_83_method_10_code 31 = .ok (.iload_n 0, 1) := by decide +kernel
theorem d1_32 : decode prog_83_method_10_code 32 = .ok (.ldc_w 368, 3) := by decide +kernel
theorem d1_35 : decode prog_83_method_10_code 35 = .ok (.if_icmp .lt 10, 3) := by decide +kernel
theorem d1_38 : decode prog_83_method_10_code 38 = .ok (.iload_n 0, 1) := by decide +kernel
theorem d1_39 : decode prog_83_method_10_code 39 = .ok (.ldc_w 369, 3) := by decide +kernel
theorem d1_42 : decode prog_83_method_10_code 42 = .ok (.if_icmp .le 17, 3) := by decide +kernel
theorem d1_45 : decode prog_83_method_10_code 45 = .ok (.iload_n 0, 1) := by decide +kernel
theorem d1_46 : decode prog_83_method_10_code 46 = .ok (.ldc_w 370, 3) := by decide +kernel
theorem d1_49 : decode prog_83_method_10_code 49 = .ok (.if_icmp .lt 14, 3) := by decide +kernel
theorem d1_52 : decode prog_83_method_10_code 52 = .ok (.iload_n 0, 1) := by decide +kernel
theorem d1_53 : decode prog_83_method_10_code 53 = .ok (.ldc_w 371, 3) := by decide +kernel
theorem d1_56 : decode prog_83_method_10_code 56 = .ok (.if_icmp .gt 7, 3) := by decide +kernel
theorem d1_59 : decode prog_83_method_10_code 59 = .ok (.iconst 1, 1) := by decide +kernel
theorem d1_60 : decode prog_83_method_10_code 60 = .ok (.goto 4, 3) := by decide +kernel
theorem d1_63 : decode prog_83_method_10_code 63 = .ok (.iconst 0, 1) := by decide +kernel
theorem d1_64 : decode prog_83_method_10_code 64 = .ok (.ireturn, 1) := by decide +kernel
theorem pn_1 : plainName "com/example/axislint/axislint/schema/EntityFiles" = true := by first | (simp [plainName, overriddenIn]; done) | decide +kernel
def f1_64 (x0 : Int32) (y0 : Int32) : Int32 := nar .boolean y0
theorem b1_64 {p : Program} {l : Launch} {e : Env} {R : Room} {s : State} {m : MethodId} {args : Array Value} {below : List Frame} {meth : Method} {c : Code} {T : State} {locs : List Loc} {cells slots : Nat} (X : Stand p l e R s m args below meth c T locs cells slots) (hx : p.tables.exec = Jvm.exec) (hby : c.code = prog_83_method_10_code) (hown : s.vm.findClass "com/example/axislint/axislint/schema/EntityFiles" = some m.cls) (hret : meth.sig.returnType = some .boolean) {fs : List Frame} {z : Int32} (hl : ∀ (f : JFrame) (acts : List Action), f.method = m → f.locked = none → f.entered = [] → (doReturn e (T.setTop f) acts (some (.int z))).1 = T.setFrames fs) (k367 : (Jvm.Cond.constant "com/example/axislint/axislint/schema/EntityFiles" 367 (55295 : Int32)).before args s = true) (k368 : (Jvm.Cond.constant "com/example/axislint/axislint/schema/EntityFiles" 368 (57344 : Int32)).before args s = true) (k369 : (Jvm.Cond.constant "com/example/axislint/axislint/schema/EntityFiles" 369 (65533 : Int32)).before args s = true) (k370 : (Jvm.Cond.constant "com/example/axislint/axislint/schema/EntityFiles" 370 (65536 : Int32)).before args s = true) (k371 : (Jvm.Cond.constant "com/example/axislint/axislint/schema/EntityFiles" 371 (1114111 : Int32)).before args s = true) (x0 : Int32) (y0 : Int32) (hz : f1_64 x0 y0 = z) :
    Steps p.tables e below (T.setTop (mkF m 64 #[.val (.int x0)] [(.int y0)])) (T.setFrames fs) := by
  unfold f1_64 at hz
  subst hz
  exact retN X hx hret (by simp) (hb hby d1_64) hl
def f1_59 (x0 : Int32) : Int32 := f1_64 x0 (1 : Int32)
theorem b1_59 {p : Program} {l : Launch} {e : Env} {R : Room} {s : State} {m : MethodId} {args : Array Value} {below : List Frame} {meth : Method} {c : Code} {T : State} {locs : List Loc} {cells slots : Nat} (X : Stand p l e R s m args below meth c T locs cells slots) (hx : p.tables.exec = Jvm.exec) (hby : c.code = prog_83_method_10_code) (hown : s.vm.findClass "com/example/axislint/axislint/schema/EntityFiles" = some m.cls) (hret : meth.sig.returnType = some .boolean) {fs : List Frame} {z : Int32} (hl : ∀ (f : JFrame) (acts : List Action), f.method = m → f.locked = none → f.entered = [] → (doReturn e (T.setTop f) acts (some (.int z))).1 = T.setFrames fs) (k367 : (Jvm.Cond.constant "com/example/axislint/axislint/schema/EntityFiles" 367 (55295 : Int32)).before args s = true) (k368 : (Jvm.Cond.constant "com/example/axislint/axislint/schema/EntityFiles" 368 (57344 : Int32)).before args s = true) (k369 : (Jvm.Cond.constant "com/example/axislint/axislint/schema/EntityFiles" 369 (65533 : Int32)).before args s = true) (k370 : (Jvm.Cond.constant "com/example/axislint/axislint/schema/EntityFiles" 370 (65536 : Int32)).before args s = true) (k371 : (Jvm.Cond.constant "com/example/axislint/axislint/schema/EntityFiles" 371 (1114111 : Int32)).before args s = true) (x0 : Int32) (hz : f1_59 x0 = z) :
    Steps p.tables e below (T.setTop (mkF m 59 #[.val (.int x0)] [])) (T.setFrames fs) := by
  unfold f1_59 at hz
  refine XS.iconst X.here hx rfl (hb hby d1_59) ?_
  show Steps p.tables e below (T.setTop (mkF m 60 #[.val (.int x0)] [(.int (1 : Int32))])) _
  refine XS.goto X.here hx rfl (pc0 := 60) (pc' := 64) rfl (hb hby d1_60) (by decide) (by decide) ?_
  show Steps p.tables e below (T.setTop (mkF m 64 #[.val (.int x0)] [(.int (1 : Int32))])) _
  exact b1_64 X hx hby hown hret hl k367 k368 k369 k370 k371 x0 (1 : Int32)  hz
def f1_63 (x0 : Int32) : Int32 := f1_64 x0 (0 : Int32)
theorem b1_63 {p : Program} {l : Launch} {e : Env} {R : Room} {s : State} {m : MethodId} {args : Array Value} {below : List Frame} {meth : Method} {c : Code} {T : State} {locs : List Loc} {cells slots : Nat} (X : Stand p l e R s m args below meth c T locs cells slots) (hx : p.tables.exec = Jvm.exec) (hby : c.code = prog_83_method_10_code) (hown : s.vm.findClass "com/example/axislint/axislint/schema/EntityFiles" = some m.cls) (hret : meth.sig.returnType = some .boolean) {fs : List Frame} {z : Int32} (hl : ∀ (f : JFrame) (acts : List Action), f.method = m → f.locked = none → f.entered = [] → (doReturn e (T.setTop f) acts (some (.int z))).1 = T.setFrames fs) (k367 : (Jvm.Cond.constant "com/example/axislint/axislint/schema/EntityFiles" 367 (55295 : Int32)).before args s = true) (k368 : (Jvm.Cond.constant "com/example/axislint/axislint/schema/EntityFiles" 368 (57344 : Int32)).before args s = true) (k369 : (Jvm.Cond.constant "com/example/axislint/axislint/schema/EntityFiles" 369 (65533 : Int32)).before args s = true) (k370 : (Jvm.Cond.constant "com/example/axislint/axislint/schema/EntityFiles" 370 (65536 : Int32)).before args s = true) (k371 : (Jvm.Cond.constant "com/example/axislint/axislint/schema/EntityFiles" 371 (1114111 : Int32)).before args s = true) (x0 : Int32) (hz : f1_63 x0 = z) :
    Steps p.tables e below (T.setTop (mkF m 63 #[.val (.int x0)] [])) (T.setFrames fs) := by
  unfold f1_63 at hz
  refine XS.iconst X.here hx rfl (hb hby d1_63) ?_
  show Steps p.tables e below (T.setTop (mkF m 64 #[.val (.int x0)] [(.int (0 : Int32))])) _
  exact b1_64 X hx hby hown hret hl k367 k368 k369 k370 k371 x0 (0 : Int32)  hz
def f1_45 (x0 : Int32) : Int32 := if x0 < (65536 : Int32) then f1_63 x0 else (if (1114111 : Int32) < x0 then f1_63 x0 else f1_59 x0)
theorem b1_45 {p : Program} {l : Launch} {e : Env} {R : Room} {s : State} {m : MethodId} {args : Array Value} {below : List Frame} {meth : Method} {c : Code} {T : State} {locs : List Loc} {cells slots : Nat} (X : Stand p l e R s m args below meth c T locs cells slots) (hx : p.tables.exec = Jvm.exec) (hby : c.code = prog_83_method_10_code) (hown : s.vm.findClass "com/example/axislint/axislint/schema/EntityFiles" = some m.cls) (hret : meth.sig.returnType = some .boolean) {fs : List Frame} {z : Int32} (hl : ∀ (f : JFrame) (acts : List Action), f.method = m → f.locked = none → f.entered = [] → (doReturn e (T.setTop f) acts (some (.int z))).1 = T.setFrames fs) (k367 : (Jvm.Cond.constant "com/example/axislint/axislint/schema/EntityFiles" 367 (55295 : Int32)).before args s = true) (k368 : (Jvm.Cond.constant "com/example/axislint/axislint/schema/EntityFiles" 368 (57344 : Int32)).before args s = true) (k369 : (Jvm.Cond.constant "com/example/axislint/axislint/schema/EntityFiles" 369 (65533 : Int32)).before args s = true) (k370 : (Jvm.Cond.constant "com/example/axislint/axislint/schema/EntityFiles" 370 (65536 : Int32)).before args s = true) (k371 : (Jvm.Cond.constant "com/example/axislint/axislint/schema/EntityFiles" 371 (1114111 : Int32)).before args s = true) (x0 : Int32) (hz : f1_45 x0 = z) :
    Steps p.tables e below (T.setTop (mkF m 45 #[.val (.int x0)] [])) (T.setFrames fs) := by
  unfold f1_45 at hz
  refine XS.iloadN X.here hx rfl (hb hby d1_45) rfl ?_
  show Steps p.tables e below (T.setTop (mkF m 46 #[.val (.int x0)] [(.int x0)])) _
  refine X.ldcwInt hx hown k370 (g := (mkF m 46 #[.val (.int x0)] [(.int x0)])) rfl (hb hby d1_46) _ ?_
  show Steps p.tables e below (T.setTop (mkF m 49 #[.val (.int x0)] [(.int (65536 : Int32)), (.int x0)])) _
  by_cases h49 : x0 < (65536 : Int32)
  · rw [if_pos h49] at hz
    refine XS.icmpYes X.here hx rfl (pc0 := 49) (pc' := 63) rfl (hb hby d1_49) rfl (tlt h49).1 (by decide) (by decide) ?_
    show Steps p.tables e below (T.setTop (mkF m 63 #[.val (.int x0)] [])) _
    exact b1_63 X hx hby hown hret hl k367 k368 k369 k370 k371 x0  hz
  · rw [if_neg h49] at hz
    refine XS.icmpNo X.here hx rfl (hb hby d1_49) rfl (flt h49).1 ?_
    show Steps p.tables e below (T.setTop (mkF m 52 #[.val (.int x0)] [])) _
    refine XS.iloadN X.here hx rfl (hb hby d1_52) rfl ?_
    show Steps p.tables e below (T.setTop (mkF m 53 #[.val (.int x0)] [(.int x0)])) _
    refine X.ldcwInt hx hown k371 (g := (mkF m 53 #[.val (.int x0)] [(.int x0)])) rfl (hb hby d1_53) _ ?_
    show Steps p.tables e below (T.setTop (mkF m 56 #[.val (.int x0)] [(.int (1114111 : Int32)), (.int x0)])) _
    by_cases h56 : (1114111 : Int32) < x0
    · rw [if_pos h56] at hz
      refine XS.icmpYes X.here hx rfl (pc0 := 56) (pc' := 63) rfl (hb hby d1_56) rfl (tlt h56).2.2.1 (by decide) (by decide) ?_
      show Steps p.tables e below (T.setTop (mkF m 63 #[.val (.int x0)] [])) _
      exact b1_63 X hx hby hown hret hl k367 k368 k369 k370 k371 x0  hz
    · rw [if_neg h56] at hz
      refine XS.icmpNo X.here hx rfl (hb hby d1_56) rfl (flt h56).2.2.1 ?_
      show Steps p.tables e below (T.setTop (mkF m 59 #[.val (.int x0)] [])) _
      exact b1_59 X hx hby hown hret hl k367 k368 k369 k370 k371 x0  hz
def f1_31 (x0 : Int32) : Int32 := if x0 < (57344 : Int32) then f1_45 x0 else (if (65533 : Int32) < x0 then f1_45 x0 else f1_59 x0)
theorem b1_31 {p : Program} {l : Launch} {e : Env} {R : Room} {s : State} {m : MethodId} {args : Array Value} {below : List Frame} {meth : Method} {c : Code} {T : State} {locs : List Loc} {cells slots : Nat} (X : Stand p l e R s m args below meth c T locs cells slots) (hx : p.tables.exec = Jvm.exec) (hby : c.code = prog_83_method_10_code) (hown : s.vm.findClass "com/example/axislint/axislint/schema/EntityFiles" = some m.cls) (hret : meth.sig.returnType = some .boolean) {fs : List Frame} {z : Int32} (hl : ∀ (f : JFrame) (acts : List Action), f.method = m → f.locked = none → f.entered = [] → (doReturn e (T.setTop f) acts (some (.int z))).1 = T.setFrames fs) (k367 : (Jvm.Cond.constant "com/example/axislint/axislint/schema/EntityFiles" 367 (55295 : Int32)).before args s = true) (k368 : (Jvm.Cond.constant "com/example/axislint/axislint/schema/EntityFiles" 368 (57344 : Int32)).before args s = true) (k369 : (Jvm.Cond.constant "com/example/axislint/axislint/schema/EntityFiles" 369 (65533 : Int32)).before args s = true) (k370 : (Jvm.Cond.constant "com/example/axislint/axislint/schema/EntityFiles" 370 (65536 : Int32)).before args s = true) (k371 : (Jvm.Cond.constant "com/example/axislint/axislint/schema/EntityFiles" 371 (1114111 : Int32)).before args s = true) (x0 : Int32) (hz : f1_31 x0 = z) :
    Steps p.tables e below (T.setTop (mkF m 31 #[.val (.int x0)] [])) (T.setFrames fs) := by
  unfold f1_31 at hz
  refine XS.iloadN X.here hx rfl (hb hby d1_31) rfl ?_
  show Steps p.tables e below (T.setTop (mkF m 32 #[.val (.int x0)] [(.int x0)])) _
  refine X.ldcwInt hx hown k368 (g := (mkF m 32 #[.val (.int x0)] [(.int x0)])) rfl (hb hby d1_32) _ ?_
  show Steps p.tables e below (T.setTop (mkF m 35 #[.val (.int x0)] [(.int (57344 : Int32)), (.int x0)])) _
  by_cases h35 : x0 < (57344 : Int32)
  · rw [if_pos h35] at hz
    refine XS.icmpYes X.here hx rfl (pc0 := 35) (pc' := 45) rfl (hb hby d1_35) rfl (tlt h35).1 (by decide) (by decide) ?_
    show Steps p.tables e below (T.setTop (mkF m 45 #[.val (.int x0)] [])) _
    exact b1_45 X hx hby hown hret hl k367 k368 k369 k370 k371 x0  hz
  · rw [if_neg h35] at hz
    refine XS.icmpNo X.here hx rfl (hb hby d1_35) rfl (flt h35).1 ?_
    show Steps p.tables e below (T.setTop (mkF m 38 #[.val (.int x0)] [])) _
    refine XS.iloadN X.here hx rfl (hb hby d1_38) rfl ?_
    show Steps p.tables e below (T.setTop (mkF m 39 #[.val (.int x0)] [(.int x0)])) _
    refine X.ldcwInt hx hown k369 (g := (mkF m 39 #[.val (.int x0)] [(.int x0)])) rfl (hb hby d1_39) _ ?_
    show Steps p.tables e below (T.setTop (mkF m 42 #[.val (.int x0)] [(.int (65533 : Int32)), (.int x0)])) _
    by_cases h42 : (65533 : Int32) < x0
    · rw [if_pos h42] at hz
      refine XS.icmpNo X.here hx rfl (hb hby d1_42) rfl (tlt h42).2.2.2 ?_
      show Steps p.tables e below (T.setTop (mkF m 45 #[.val (.int x0)] [])) _
      exact b1_45 X hx hby hown hret hl k367 k368 k369 k370 k371 x0  hz
    · rw [if_neg h42] at hz
      refine XS.icmpYes X.here hx rfl (pc0 := 42) (pc' := 59) rfl (hb hby d1_42) rfl (flt h42).2.2.2 (by decide) (by decide) ?_
      show Steps p.tables e below (T.setTop (mkF m 59 #[.val (.int x0)] [])) _
      exact b1_59 X hx hby hown hret hl k367 k368 k369 k370 k371 x0  hz
def f1_0 (x0 : Int32) : Int32 := if x0 = (9 : Int32) then f1_59 x0 else (if x0 = (10 : Int32) then f1_59 x0 else (if x0 = (13 : Int32) then f1_59 x0 else (if x0 < (32 : Int32) then f1_31 x0 else (if (55295 : Int32) < x0 then f1_31 x0 else f1_59 x0))))
theorem b1_0 {p : Program} {l : Launch} {e : Env} {R : Room} {s : State} {m : MethodId} {args : Array Value} {below : List Frame} {meth : Method} {c : Code} {T : State} {locs : List Loc} {cells slots : Nat} (X : Stand p l e R s m args below meth c T locs cells slots) (hx : p.tables.exec = Jvm.exec) (hby : c.code = prog_83_method_10_code) (hown : s.vm.findClass "com/example/axislint/axislint/schema/EntityFiles" = some m.cls) (hret : meth.sig.returnType = some .boolean) {fs : List Frame} {z : Int32} (hl : ∀ (f : JFrame) (acts : List Action), f.method = m → f.locked = none → f.entered = [] → (doReturn e (T.setTop f) acts (some (.int z))).1 = T.setFrames fs) (k367 : (Jvm.Cond.constant "com/example/axislint/axislint/schema/EntityFiles" 367 (55295 : Int32)).before args s = true) (k368 : (Jvm.Cond.constant "com/example/axislint/axislint/schema/EntityFiles" 368 (57344 : Int32)).before args s = true) (k369 : (Jvm.Cond.constant "com/example/axislint/axislint/schema/EntityFiles" 369 (65533 : Int32)).before args s = true) (k370 : (Jvm.Cond.constant "com/example/axislint/axislint/schema/EntityFiles" 370 (65536 : Int32)).before args s = true) (k371 : (Jvm.Cond.constant "com/example/axislint/axislint/schema/EntityFiles" 371 (1114111 : Int32)).before args s = true) (x0 : Int32) (hz : f1_0 x0 = z) :
    Steps p.tables e below (T.setTop (mkF m 0 #[.val (.int x0)] [])) (T.setFrames fs) := by
  unfold f1_0 at hz
  refine XS.iloadN X.here hx rfl (hb hby d1_0) rfl ?_
  show Steps p.tables e below (T.setTop (mkF m 1 #[.val (.int x0)] [(.int x0)])) _
  refine XS.bipush X.here hx rfl (hb hby d1_1) ?_
  show Steps p.tables e below (T.setTop (mkF m 3 #[.val (.int x0)] [(.int (9 : Int32)), (.int x0)])) _
  by_cases h3 : x0 = (9 : Int32)
  · rw [if_pos h3] at hz
    refine XS.icmpYes X.here hx rfl (pc0 := 3) (pc' := 59) rfl (hb hby d1_3) rfl (teq h3).1 (by decide) (by decide) ?_
    show Steps p.tables e below (T.setTop (mkF m 59 #[.val (.int x0)] [])) _
    exact b1_59 X hx hby hown hret hl k367 k368 k369 k370 k371 x0  hz
  · rw [if_neg h3] at hz
    refine XS.icmpNo X.here hx rfl (hb hby d1_3) rfl (feq h3).1 ?_
    show Steps p.tables e below (T.setTop (mkF m 6 #[.val (.int x0)] [])) _
    refine XS.iloadN X.here hx rfl (hb hby d1_6) rfl ?_
    show Steps p.tables e below (T.setTop (mkF m 7 #[.val (.int x0)] [(.int x0)])) _
    refine XS.bipush X.here hx rfl (hb hby d1_7) ?_
    show Steps p.tables e below (T.setTop (mkF m 9 #[.val (.int x0)] [(.int (10 : Int32)), (.int x0)])) _
    by_cases h9 : x0 = (10 : Int32)
    · rw [if_pos h9] at hz
      refine XS.icmpYes X.here hx rfl (pc0 := 9) (pc' := 59) rfl (hb hby d1_9) rfl (teq h9).1 (by decide) (by decide) ?_
      show Steps p.tables e below (T.setTop (mkF m 59 #[.val (.int x0)] [])) _
      exact b1_59 X hx hby hown hret hl k367 k368 k369 k370 k371 x0  hz
    · rw [if_neg h9] at hz
      refine XS.icmpNo X.here hx rfl (hb hby d1_9) rfl (feq h9).1 ?_
      show Steps p.tables e below (T.setTop (mkF m 12 #[.val (.int x0)] [])) _
      refine XS.iloadN X.here hx rfl (hb hby d1_12) rfl ?_
      show Steps p.tables e below (T.setTop (mkF m 13 #[.val (.int x0)] [(.int x0)])) _
      refine XS.bipush X.here hx rfl (hb hby d1_13) ?_
      show Steps p.tables e below (T.setTop (mkF m 15 #[.val (.int x0)] [(.int (13 : Int32)), (.int x0)])) _
      by_cases h15 : x0 = (13 : Int32)
      · rw [if_pos h15] at hz
        refine XS.icmpYes X.here hx rfl (pc0 := 15) (pc' := 59) rfl (hb hby d1_15) rfl (teq h15).1 (by decide) (by decide) ?_
        show Steps p.tables e below (T.setTop (mkF m 59 #[.val (.int x0)] [])) _
        exact b1_59 X hx hby hown hret hl k367 k368 k369 k370 k371 x0  hz
      · rw [if_neg h15] at hz
        refine XS.icmpNo X.here hx rfl (hb hby d1_15) rfl (feq h15).1 ?_
        show Steps p.tables e below (T.setTop (mkF m 18 #[.val (.int x0)] [])) _
        refine XS.iloadN X.here hx rfl (hb hby d1_18) rfl ?_
        show Steps p.tables e below (T.setTop (mkF m 19 #[.val (.int x0)] [(.int x0)])) _
        refine XS.bipush X.here hx rfl (hb hby d1_19) ?_
        show Steps p.tables e below (T.setTop (mkF m 21 #[.val (.int x0)] [(.int (32 : Int32)), (.int x0)])) _
        by_cases h21 : x0 < (32 : Int32)
        · rw [if_pos h21] at hz
          refine XS.icmpYes X.here hx rfl (pc0 := 21) (pc' := 31) rfl (hb hby d1_21) rfl (tlt h21).1 (by decide) (by decide) ?_
          show Steps p.tables e below (T.setTop (mkF m 31 #[.val (.int x0)] [])) _
          exact b1_31 X hx hby hown hret hl k367 k368 k369 k370 k371 x0  hz
        · rw [if_neg h21] at hz
          refine XS.icmpNo X.here hx rfl (hb hby d1_21) rfl (flt h21).1 ?_
          show Steps p.tables e below (T.setTop (mkF m 24 #[.val (.int x0)] [])) _
          refine XS.iloadN X.here hx rfl (hb hby d1_24) rfl ?_
          show Steps p.tables e below (T.setTop (mkF m 25 #[.val (.int x0)] [(.int x0)])) _
          refine X.ldcwInt hx hown k367 (g := (mkF m 25 #[.val (.int x0)] [(.int x0)])) rfl (hb hby d1_25) _ ?_
          show Steps p.tables e below (T.setTop (mkF m 28 #[.val (.int x0)] [(.int (55295 : Int32)), (.int x0)])) _
          by_cases h28 : (55295 : Int32) < x0
          · rw [if_pos h28] at hz
            refine XS.icmpNo X.here hx rfl (hb hby d1_28) rfl (tlt h28).2.2.2 ?_
            show Steps p.tables e below (T.setTop (mkF m 31 #[.val (.int x0)] [])) _
            exact b1_31 X hx hby hown hret hl k367 k368 k369 k370 k371 x0  hz
          · rw [if_neg h28] at hz
            refine XS.icmpYes X.here hx rfl (pc0 := 28) (pc' := 59) rfl (hb hby d1_28) rfl (flt h28).2.2.2 (by decide) (by decide) ?_
            show Steps p.tables e below (T.setTop (mkF m 59 #[.val (.int x0)] [])) _
            exact b1_59 X hx hby hown hret hl k367 k368 k369 k370 k371 x0  hz
theorem ef_1 (m : MethodId) (p1 : Int32) : entryFrame m #[(.int p1)] 1 = mkF m 0 #[.val (.int p1)] [] := by first | (simp [entryFrame, mkF, argsToLocals, Value.category]; done) | rfl
def Q1 (p1 : Int32) (h0 : Heap) (n0 : Nat) (v : Option Value) (h : Heap) (L : List Loc) : Prop := v = some (.int (f1_0 p1)) ∧ Fr n0 L ∧ h = h0
set_option maxRecDepth 65536 in
set_option maxHeartbeats 40000000 in
theorem rm1 (l : Launch) (Z : State) (a0 : Array Value) (hw : ∀ d ∈ tables_1, d.before a0 Z = true) (ws : List Jvm.Cond) (p1 : Int32) (h0 : Heap) (n0 : Nat) :
    MetFree l (⟨"com/example/axislint/axislint/schema/EntityFiles", "isChar", "(I)Z"⟩ : MethodName) (head1 (Jvm.Cond.code (⟨"com/example/axislint/axislint/schema/EntityFiles", "isChar", "(I)Z"⟩ : MethodName) prog_83_method_10_code 1 (some .boolean) :: ws) ({ frames := 0, cells := 0, slots := 0, locals := 0 } : Room)) (fun a U => a = #[(.int p1)] ∧ Z.Warmed39 U.vm ∧ U.heap = h0) (fun _ _ _ _ _ => True) (fun _ U o U' => ∃ v L, o = .returned v ∧ Q1 p1 h0 n0 v U'.heap L ∧ FrameEnd U o U' L ({ frames := 0, cells := 0, slots := 0, locals := 0 } : Room).cells ({ frames := 0, cells := 0, slots := 0, locals := 0 } : Room).slots) := by
  refine MetFree.of_bodySF (plainFor_of_name pn_1) hisR ?_
  intro p e s m args below meth c s₁ Bd hml0 hP hK
  obtain ⟨rfl, hZ, hh⟩ := hP
  have hx := Bd.exec
  have hby := Bd.bytes
  have hml : c.maxLocals = 1 := hml0
  have hown : s.vm.findClass "com/example/axislint/axislint/schema/EntityFiles" = some m.cls := findClass_of_methodNamed Bd.named
  have hnm := (name_of_methodNamed Bd.named Bd.method).1
  have X0 : Stand p l e ({ frames := 0, cells := 0, slots := 0, locals := 0 } : Room) s m #[(.int p1)] below meth c s₁ [] 0 0 := Stand.of_body Bd
  have e0 : s₁.heap = h0 := by rw [← hh, Bd.state]; rfl
  have N0 := Fr.nil n0
  have pre0 : ∀ t, Steps p.tables e below (s₁.setTop (mkF m 0 #[.val (.int p1)] [])) t → Steps p.tables e below (s₁.setTop (entryFrame m #[(.int p1)] 1)) t := fun t k => castTop (ef_1 m p1) k
  obtain ⟨fs, hr, hrun, hended, hW, hsame⟩ := X0.leave (v := some (.int (f1_0 p1))) (fun h => by rw [Bd.returns] at h; cases h)
  refine ⟨_, _, pre0 _ ?_, hrun, hended, _, _, rfl, ?_, ⟨_, rfl⟩, hW, hsame.mono (by decide) (by decide)⟩
  · exact b1_0 X0 hx hby hown Bd.returns hr (mvT hZ (hw _ (List.mem_of_getElem? (i := 11) rfl))) (mvT hZ (hw _ (List.mem_of_getElem? (i := 4) rfl))) (mvT hZ (hw _ (List.mem_of_getElem? (i := 23) rfl))) (mvT hZ (hw _ (List.mem_of_getElem? (i := 5) rfl))) (mvT hZ (hw _ (List.mem_of_getElem? (i := 24) rfl))) p1 rfl
  · show Q1 p1 h0 n0 _ s₁.heap _
    rw [e0]
    exact ⟨rfl, N0, rfl⟩
theorem d2_0 : decode method_3_code 0 = .ok (.iload_n 0, 1) := by decide +kernel
theorem d2_1 : decode method_3_code 1 = .ok (.ifCond .lt 9, 3) := by decide +kernel
theorem d2_4 : decode method_3_code 4 = .ok (.iload_n 0, 1) := by decide +kernel
theorem d2_5 : decode method_3_code 5 = .ok (.ldc 13, 2) := by decide +kernel
theorem d2_7 : decode method_3_code 7 = .ok (.if_icmp .le 8, 3) := by decide +kernel
theorem d2_10 : decode method_3_code 10 = .ok (.iconst 0, 1) := by decide +kernel
theorem d2_11 : decode method_3_code 11 = .ok (.istore_n 1, 1) := by decide +kernel
theorem d2_12 : decode method_3_code 12 = .ok (.goto 72, 3) := by decide +kernel
theorem d2_15 : decode method_3_code 15 = .ok (.iload_n 0, 1) := by decide +kernel
theorem d2_16 : decode method_3_code 16 = .ok (.bipush 32, 2) := by decide +kernel
theorem d2_18 : decode method_3_code 18 = .ok (.if_icmp .ge 30, 3) := by decide +kernel
theorem d2_21 : decode method_3_code 21 = .ok (.iload_n 0, 1) := by decide +kernel
theorem d2_22 : decode method_3_code 22 = .ok (.bipush 9, 2) := by decide +kernel
theorem d2_24 : decode method_3_code 24 = .ok (.if_icmp .eq 15, 3) := by decide +kernel
theorem d2_27 : decode method_3_code 27 = .ok (.iload_n 0, 1) := by decide +kernel
theorem d2_28 : decode method_3_code 28 = .ok (.bipush 10, 2) := by decide +kernel
theorem d2_30 : decode method_3_code 30 = .ok (.if_icmp .eq 9, 3) := by decide +kernel
theorem d2_33 : decode method_3_code 33 = .ok (.iload_n 0, 1) := by decide +kernel
theorem d2_34 : decode method_3_code 34 = .ok (.bipush 13, 2) := by decide +kernel
theorem d2_36 : decode method_3_code 36 = .ok (.if_icmp .ne 7, 3) := by decide +kernel
theorem d2_39 : decode method_3_code 39 = .ok (.iconst 1, 1) := by decide +kernel
theorem d2_40 : decode method_3_code 40 = .ok (.goto 4, 3) := by decide +kernel
theorem d2_43 : decode method_3_code 43 = .ok (.iconst 0, 1) := by decide +kernel
theorem d2_44 : decode method_3_code 44 = .ok (.istore_n 1, 1) := by decide +kernel
theorem d2_45 : decode method_3_code 45 = .ok (.goto 39, 3) := by decide +kernel
theorem d2_48 : decode method_3_code 48 = .ok (.iload_n 0, 1) := by decide +kernel
theorem d2_49 : decode method_3_code 49 = .ok (.ldc 29, 2) := by decide +kernel
theorem d2_51 : decode method_3_code 51 = .ok (.if_icmp .lt 14, 3) := by decide +kernel
theorem d2_54 : decode method_3_code 54 = .ok (.iload_n 0, 1) := by decide +kernel
theorem d2_55 : decode method_3_code 55 = .ok (.ldc 8, 2) := by decide +kernel
theorem d2_57 : decode method_3_code 57 = .ok (.if_icmp .gt 8, 3) := by decide +kernel
theorem d2_60 : decode method_3_code 60 = .ok (.iconst 0, 1) := by decide +kernel
theorem d2_61 : decode method_3_code 61 = .ok (.istore_n 1, 1) := by decide +kernel
theorem d2_62 : decode method_3_code 62 = .ok (.goto 22, 3) := by decide +kernel
theorem d2_65 : decode method_3_code 65 = .ok (.iload_n 0, 1) := by decide +kernel
theorem d2_66 : decode method_3_code 66 = .ok (.ldc 30, 2) := by decide +kernel
theorem d2_68 : decode method_3_code 68 = .ok (.if_icmp .eq 9, 3) := by decide +kernel
theorem d2_71 : decode method_3_code 71 = .ok (.iload_n 0, 1) := by decide +kernel
theorem d2_72 : decode method_3_code 72 = .ok (.ldc 11, 2) := by decide +kernel
theorem d2_74 : decode method_3_code 74 = .ok (.if_icmp .ne 8, 3) := by decide +kernel
theorem d2_77 : decode method_3_code 77 = .ok (.iconst 0, 1) := by decide +kernel
theorem d2_78 : decode method_3_code 78 = .ok (.istore_n 1, 1) := by decide +kernel
theorem d2_79 : decode method_3_code 79 = .ok (.goto 5, 3) := by decide +kernel
theorem d2_82 : decode method_3_code 82 = .ok (.iconst 1, 1) := by decide +kernel
theorem d2_83 : decode method_3_code 83 = .ok (.istore_n 1, 1) := by decide +kernel
theorem d2_84 : decode method_3_code 84 = .ok (.iload_n 1, 1) := by decide +kernel
theorem d2_85 : decode method_3_code 85 = .ok (.ireturn, 1) := by decide +kernel
theorem pn_2 : plainName "com/example/axislint/axislint/schema/EntityFilesIsCharPinLaw" = true := by first | (simp [plainName, overriddenIn]; done) | decide +kernel
def f2_84 (x0 : Int32) (x1 : Int32) : Int32 := nar .boolean x1
theorem b2_84 {p : Program} {l : Launch} {e : Env} {R : Room} {s : State} {m : MethodId} {args : Array Value} {below : List Frame} {meth : Method} {c : Code} {T : State} {locs : List Loc} {cells slots : Nat} (X : Stand p l e R s m args below meth c T locs cells slots) (hx : p.tables.exec = Jvm.exec) (hby : c.code = method_3_code) (hown : s.vm.findClass "com/example/axislint/axislint/schema/EntityFilesIsCharPinLaw" = some m.cls) (hret : meth.sig.returnType = some .boolean) {fs : List Frame} {z : Int32} (hl : ∀ (f : JFrame) (acts : List Action), f.method = m → f.locked = none → f.entered = [] → (doReturn e (T.setTop f) acts (some (.int z))).1 = T.setFrames fs) (k8 : (Jvm.Cond.constant "com/example/axislint/axislint/schema/EntityFilesIsCharPinLaw" 8 (57343 : Int32)).before args s = true) (k11 : (Jvm.Cond.constant "com/example/axislint/axislint/schema/EntityFilesIsCharPinLaw" 11 (65535 : Int32)).before args s = true) (k13 : (Jvm.Cond.constant "com/example/axislint/axislint/schema/EntityFilesIsCharPinLaw" 13 (1114111 : Int32)).before args s = true) (k29 : (Jvm.Cond.constant "com/example/axislint/axislint/schema/EntityFilesIsCharPinLaw" 29 (55296 : Int32)).before args s = true) (k30 : (Jvm.Cond.constant "com/example/axislint/axislint/schema/EntityFilesIsCharPinLaw" 30 (65534 : Int32)).before args s = true) (x0 : Int32) (x1 : Int32) (hz : f2_84 x0 x1 = z) :
    Steps p.tables e below (T.setTop (mkF m 84 #[.val (.int x0), .val (.int x1)] [])) (T.setFrames fs) := by
  unfold f2_84 at hz
  refine XS.iloadN X.here hx rfl (hb hby d2_84) rfl ?_
  show Steps p.tables e below (T.setTop (mkF m 85 #[.val (.int x0), .val (.int x1)] [(.int x1)])) _
  subst hz
  exact retN X hx hret (by simp) (hb hby d2_85) hl
def f2_77 (x0 : Int32) : Int32 := f2_84 x0 (0 : Int32)
theorem b2_77 {p : Program} {l : Launch} {e : Env} {R : Room} {s : State} {m : MethodId} {args : Array Value} {below : List Frame} {meth : Method} {c : Code} {T : State} {locs : List Loc} {cells slots : Nat} (X : Stand p l e R s m args below meth c T locs cells slots) (hx : p.tables.exec = Jvm.exec) (hby : c.code = method_3_code) (hown : s.vm.findClass "com/example/axislint/axislint/schema/EntityFilesIsCharPinLaw" = some m.cls) (hret : meth.sig.returnType = some .boolean) {fs : List Frame} {z : Int32} (hl : ∀ (f : JFrame) (acts : List Action), f.method = m → f.locked = none → f.entered = [] → (doReturn e (T.setTop f) acts (some (.int z))).1 = T.setFrames fs) (k8 : (Jvm.Cond.constant "com/example/axislint/axislint/schema/EntityFilesIsCharPinLaw" 8 (57343 : Int32)).before args s = true) (k11 : (Jvm.Cond.constant "com/example/axislint/axislint/schema/EntityFilesIsCharPinLaw" 11 (65535 : Int32)).before args s = true) (k13 : (Jvm.Cond.constant "com/example/axislint/axislint/schema/EntityFilesIsCharPinLaw" 13 (1114111 : Int32)).before args s = true) (k29 : (Jvm.Cond.constant "com/example/axislint/axislint/schema/EntityFilesIsCharPinLaw" 29 (55296 : Int32)).before args s = true) (k30 : (Jvm.Cond.constant "com/example/axislint/axislint/schema/EntityFilesIsCharPinLaw" 30 (65534 : Int32)).before args s = true) (x0 : Int32) (hz : f2_77 x0 = z) :
    Steps p.tables e below (T.setTop (mkF m 77 #[.val (.int x0), .unset] [])) (T.setFrames fs) := by
  unfold f2_77 at hz
  refine XS.iconst X.here hx rfl (hb hby d2_77) ?_
  show Steps p.tables e below (T.setTop (mkF m 78 #[.val (.int x0), .unset] [(.int (0 : Int32))])) _
  refine XS.istoreN X.here hx rfl (hb hby d2_78) rfl (l' := #[.val (.int x0), .val (.int (0 : Int32))]) rfl ?_
  show Steps p.tables e below (T.setTop (mkF m 79 #[.val (.int x0), .val (.int (0 : Int32))] [])) _
  refine XS.goto X.here hx rfl (pc0 := 79) (pc' := 84) rfl (hb hby d2_79) (by decide) (by decide) ?_
  show Steps p.tables e below (T.setTop (mkF m 84 #[.val (.int x0), .val (.int (0 : Int32))] [])) _
  exact b2_84 X hx hby hown hret hl k8 k11 k13 k29 k30 x0 (0 : Int32)  hz
def f2_65 (x0 : Int32) : Int32 := if x0 = (65534 : Int32) then f2_77 x0 else (if x0 = (65535 : Int32) then f2_77 x0 else f2_84 x0 (1 : Int32))
theorem b2_65 {p : Program} {l : Launch} {e : Env} {R : Room} {s : State} {m : MethodId} {args : Array Value} {below : List Frame} {meth : Method} {c : Code} {T : State} {locs : List Loc} {cells slots : Nat} (X : Stand p l e R s m args below meth c T locs cells slots) (hx : p.tables.exec = Jvm.exec) (hby : c.code = method_3_code) (hown : s.vm.findClass "com/example/axislint/axislint/schema/EntityFilesIsCharPinLaw" = some m.cls) (hret : meth.sig.returnType = some .boolean) {fs : List Frame} {z : Int32} (hl : ∀ (f : JFrame) (acts : List Action), f.method = m → f.locked = none → f.entered = [] → (doReturn e (T.setTop f) acts (some (.int z))).1 = T.setFrames fs) (k8 : (Jvm.Cond.constant "com/example/axislint/axislint/schema/EntityFilesIsCharPinLaw" 8 (57343 : Int32)).before args s = true) (k11 : (Jvm.Cond.constant "com/example/axislint/axislint/schema/EntityFilesIsCharPinLaw" 11 (65535 : Int32)).before args s = true) (k13 : (Jvm.Cond.constant "com/example/axislint/axislint/schema/EntityFilesIsCharPinLaw" 13 (1114111 : Int32)).before args s = true) (k29 : (Jvm.Cond.constant "com/example/axislint/axislint/schema/EntityFilesIsCharPinLaw" 29 (55296 : Int32)).before args s = true) (k30 : (Jvm.Cond.constant "com/example/axislint/axislint/schema/EntityFilesIsCharPinLaw" 30 (65534 : Int32)).before args s = true) (x0 : Int32) (hz : f2_65 x0 = z) :
    Steps p.tables e below (T.setTop (mkF m 65 #[.val (.int x0), .unset] [])) (T.setFrames fs) := by
  unfold f2_65 at hz
  refine XS.iloadN X.here hx rfl (hb hby d2_65) rfl ?_
  show Steps p.tables e below (T.setTop (mkF m 66 #[.val (.int x0), .unset] [(.int x0)])) _
  refine X.ldcInt hx hown k30 (g := (mkF m 66 #[.val (.int x0), .unset] [(.int x0)])) rfl (hb hby d2_66) _ ?_
  show Steps p.tables e below (T.setTop (mkF m 68 #[.val (.int x0), .unset] [(.int (65534 : Int32)), (.int x0)])) _
  by_cases h68 : x0 = (65534 : Int32)
  · rw [if_pos h68] at hz
    refine XS.icmpYes X.here hx rfl (pc0 := 68) (pc' := 77) rfl (hb hby d2_68) rfl (teq h68).1 (by decide) (by decide) ?_
    show Steps p.tables e below (T.setTop (mkF m 77 #[.val (.int x0), .unset] [])) _
    exact b2_77 X hx hby hown hret hl k8 k11 k13 k29 k30 x0  hz
  · rw [if_neg h68] at hz
    refine XS.icmpNo X.here hx rfl (hb hby d2_68) rfl (feq h68).1 ?_
    show Steps p.tables e below (T.setTop (mkF m 71 #[.val (.int x0), .unset] [])) _
    refine XS.iloadN X.here hx rfl (hb hby d2_71) rfl ?_
    show Steps p.tables e below (T.setTop (mkF m 72 #[.val (.int x0), .unset] [(.int x0)])) _
    refine X.ldcInt hx hown k11 (g := (mkF m 72 #[.val (.int x0), .unset] [(.int x0)])) rfl (hb hby d2_72) _ ?_
    show Steps p.tables e below (T.setTop (mkF m 74 #[.val (.int x0), .unset] [(.int (65535 : Int32)), (.int x0)])) _
    by_cases h74 : x0 = (65535 : Int32)
    · rw [if_pos h74] at hz
      refine XS.icmpNo X.here hx rfl (hb hby d2_74) rfl (teq h74).2 ?_
      show Steps p.tables e below (T.setTop (mkF m 77 #[.val (.int x0), .unset] [])) _
      exact b2_77 X hx hby hown hret hl k8 k11 k13 k29 k30 x0  hz
    · rw [if_neg h74] at hz
      refine XS.icmpYes X.here hx rfl (pc0 := 74) (pc' := 82) rfl (hb hby d2_74) rfl (feq h74).2 (by decide) (by decide) ?_
      show Steps p.tables e below (T.setTop (mkF m 82 #[.val (.int x0), .unset] [])) _
      refine XS.iconst X.here hx rfl (hb hby d2_82) ?_
      show Steps p.tables e below (T.setTop (mkF m 83 #[.val (.int x0), .unset] [(.int (1 : Int32))])) _
      refine XS.istoreN X.here hx rfl (hb hby d2_83) rfl (l' := #[.val (.int x0), .val (.int (1 : Int32))]) rfl ?_
      show Steps p.tables e below (T.setTop (mkF m 84 #[.val (.int x0), .val (.int (1 : Int32))] [])) _
      exact b2_84 X hx hby hown hret hl k8 k11 k13 k29 k30 x0 (1 : Int32)  hz
def f2_44 (x0 : Int32) (y0 : Int32) : Int32 := f2_84 x0 y0
theorem b2_44 {p : Program} {l : Launch} {e : Env} {R : Room} {s : State} {m : MethodId} {args : Array Value} {below : List Frame} {meth : Method} {c : Code} {T : State} {locs : List Loc} {cells slots : Nat} (X : Stand p l e R s m args below meth c T locs cells slots) (hx : p.tables.exec = Jvm.exec) (hby : c.code = method_3_code) (hown : s.vm.findClass "com/example/axislint/axislint/schema/EntityFilesIsCharPinLaw" = some m.cls) (hret : meth.sig.returnType = some .boolean) {fs : List Frame} {z : Int32} (hl : ∀ (f : JFrame) (acts : List Action), f.method = m → f.locked = none → f.entered = [] → (doReturn e (T.setTop f) acts (some (.int z))).1 = T.setFrames fs) (k8 : (Jvm.Cond.constant "com/example/axislint/axislint/schema/EntityFilesIsCharPinLaw" 8 (57343 : Int32)).before args s = true) (k11 : (Jvm.Cond.constant "com/example/axislint/axislint/schema/EntityFilesIsCharPinLaw" 11 (65535 : Int32)).before args s = true) (k13 : (Jvm.Cond.constant "com/example/axislint/axislint/schema/EntityFilesIsCharPinLaw" 13 (1114111 : Int32)).before args s = true) (k29 : (Jvm.Cond.constant "com/example/axislint/axislint/schema/EntityFilesIsCharPinLaw" 29 (55296 : Int32)).before args s = true) (k30 : (Jvm.Cond.constant "com/example/axislint/axislint/schema/EntityFilesIsCharPinLaw" 30 (65534 : Int32)).before args s = true) (x0 : Int32) (y0 : Int32) (hz : f2_44 x0 y0 = z) :
    Steps p.tables e below (T.setTop (mkF m 44 #[.val (.int x0), .unset] [(.int y0)])) (T.setFrames fs) := by
  unfold f2_44 at hz
  refine XS.istoreN X.here hx rfl (hb hby d2_44) rfl (l' := #[.val (.int x0), .val (.int y0)]) rfl ?_
  show Steps p.tables e below (T.setTop (mkF m 45 #[.val (.int x0), .val (.int y0)] [])) _
  refine XS.goto X.here hx rfl (pc0 := 45) (pc' := 84) rfl (hb hby d2_45) (by decide) (by decide) ?_
  show Steps p.tables e below (T.setTop (mkF m 84 #[.val (.int x0), .val (.int y0)] [])) _
  exact b2_84 X hx hby hown hret hl k8 k11 k13 k29 k30 x0 y0  hz
def f2_39 (x0 : Int32) : Int32 := f2_44 x0 (1 : Int32)
theorem b2_39 {p : Program} {l : Launch} {e : Env} {R : Room} {s : State} {m : MethodId} {args : Array Value} {below : List Frame} {meth : Method} {c : Code} {T : State} {locs : List Loc} {cells slots : Nat} (X : Stand p l e R s m args below meth c T locs cells slots) (hx : p.tables.exec = Jvm.exec) (hby : c.code = method_3_code) (hown : s.vm.findClass "com/example/axislint/axislint/schema/EntityFilesIsCharPinLaw" = some m.cls) (hret : meth.sig.returnType = some .boolean) {fs : List Frame} {z : Int32} (hl : ∀ (f : JFrame) (acts : List Action), f.method = m → f.locked = none → f.entered = [] → (doReturn e (T.setTop f) acts (some (.int z))).1 = T.setFrames fs) (k8 : (Jvm.Cond.constant "com/example/axislint/axislint/schema/EntityFilesIsCharPinLaw" 8 (57343 : Int32)).before args s = true) (k11 : (Jvm.Cond.constant "com/example/axislint/axislint/schema/EntityFilesIsCharPinLaw" 11 (65535 : Int32)).before args s = true) (k13 : (Jvm.Cond.constant "com/example/axislint/axislint/schema/EntityFilesIsCharPinLaw" 13 (1114111 : Int32)).before args s = true) (k29 : (Jvm.Cond.constant "com/example/axislint/axislint/schema/EntityFilesIsCharPinLaw" 29 (55296 : Int32)).before args s = true) (k30 : (Jvm.Cond.constant "com/example/axislint/axislint/schema/EntityFilesIsCharPinLaw" 30 (65534 : Int32)).before args s = true) (x0 : Int32) (hz : f2_39 x0 = z) :
    Steps p.tables e below (T.setTop (mkF m 39 #[.val (.int x0), .unset] [])) (T.setFrames fs) := by
  unfold f2_39 at hz
  refine XS.iconst X.here hx rfl (hb hby d2_39) ?_
  show Steps p.tables e below (T.setTop (mkF m 40 #[.val (.int x0), .unset] [(.int (1 : Int32))])) _
  refine XS.goto X.here hx rfl (pc0 := 40) (pc' := 44) rfl (hb hby d2_40) (by decide) (by decide) ?_
  show Steps p.tables e below (T.setTop (mkF m 44 #[.val (.int x0), .unset] [(.int (1 : Int32))])) _
  exact b2_44 X hx hby hown hret hl k8 k11 k13 k29 k30 x0 (1 : Int32)  hz
def f2_10 (x0 : Int32) : Int32 := f2_84 x0 (0 : Int32)
theorem b2_10 {p : Program} {l : Launch} {e : Env} {R : Room} {s : State} {m : MethodId} {args : Array Value} {below : List Frame} {meth : Method} {c : Code} {T : State} {locs : List Loc} {cells slots : Nat} (X : Stand p l e R s m args below meth c T locs cells slots) (hx : p.tables.exec = Jvm.exec) (hby : c.code = method_3_code) (hown : s.vm.findClass "com/example/axislint/axislint/schema/EntityFilesIsCharPinLaw" = some m.cls) (hret : meth.sig.returnType = some .boolean) {fs : List Frame} {z : Int32} (hl : ∀ (f : JFrame) (acts : List Action), f.method = m → f.locked = none → f.entered = [] → (doReturn e (T.setTop f) acts (some (.int z))).1 = T.setFrames fs) (k8 : (Jvm.Cond.constant "com/example/axislint/axislint/schema/EntityFilesIsCharPinLaw" 8 (57343 : Int32)).before args s = true) (k11 : (Jvm.Cond.constant "com/example/axislint/axislint/schema/EntityFilesIsCharPinLaw" 11 (65535 : Int32)).before args s = true) (k13 : (Jvm.Cond.constant "com/example/axislint/axislint/schema/EntityFilesIsCharPinLaw" 13 (1114111 : Int32)).before args s = true) (k29 : (Jvm.Cond.constant "com/example/axislint/axislint/schema/EntityFilesIsCharPinLaw" 29 (55296 : Int32)).before args s = true) (k30 : (Jvm.Cond.constant "com/example/axislint/axislint/schema/EntityFilesIsCharPinLaw" 30 (65534 : Int32)).before args s = true) (x0 : Int32) (hz : f2_10 x0 = z) :
    Steps p.tables e below (T.setTop (mkF m 10 #[.val (.int x0), .unset] [])) (T.setFrames fs) := by
  unfold f2_10 at hz
  refine XS.iconst X.here hx rfl (hb hby d2_10) ?_
  show Steps p.tables e below (T.setTop (mkF m 11 #[.val (.int x0), .unset] [(.int (0 : Int32))])) _
  refine XS.istoreN X.here hx rfl (hb hby d2_11) rfl (l' := #[.val (.int x0), .val (.int (0 : Int32))]) rfl ?_
  show Steps p.tables e below (T.setTop (mkF m 12 #[.val (.int x0), .val (.int (0 : Int32))] [])) _
  refine XS.goto X.here hx rfl (pc0 := 12) (pc' := 84) rfl (hb hby d2_12) (by decide) (by decide) ?_
  show Steps p.tables e below (T.setTop (mkF m 84 #[.val (.int x0), .val (.int (0 : Int32))] [])) _
  exact b2_84 X hx hby hown hret hl k8 k11 k13 k29 k30 x0 (0 : Int32)  hz
def f2_0 (x0 : Int32) : Int32 := if x0 < (0 : Int32) then f2_10 x0 else (if (1114111 : Int32) < x0 then f2_10 x0 else (if x0 < (32 : Int32) then (if x0 = (9 : Int32) then f2_39 x0 else (if x0 = (10 : Int32) then f2_39 x0 else (if x0 = (13 : Int32) then f2_39 x0 else f2_44 x0 (0 : Int32)))) else (if x0 < (55296 : Int32) then f2_65 x0 else (if (57343 : Int32) < x0 then f2_65 x0 else f2_84 x0 (0 : Int32)))))
theorem b2_0 {p : Program} {l : Launch} {e : Env} {R : Room} {s : State} {m : MethodId} {args : Array Value} {below : List Frame} {meth : Method} {c : Code} {T : State} {locs : List Loc} {cells slots : Nat} (X : Stand p l e R s m args below meth c T locs cells slots) (hx : p.tables.exec = Jvm.exec) (hby : c.code = method_3_code) (hown : s.vm.findClass "com/example/axislint/axislint/schema/EntityFilesIsCharPinLaw" = some m.cls) (hret : meth.sig.returnType = some .boolean) {fs : List Frame} {z : Int32} (hl : ∀ (f : JFrame) (acts : List Action), f.method = m → f.locked = none → f.entered = [] → (doReturn e (T.setTop f) acts (some (.int z))).1 = T.setFrames fs) (k8 : (Jvm.Cond.constant "com/example/axislint/axislint/schema/EntityFilesIsCharPinLaw" 8 (57343 : Int32)).before args s = true) (k11 : (Jvm.Cond.constant "com/example/axislint/axislint/schema/EntityFilesIsCharPinLaw" 11 (65535 : Int32)).before args s = true) (k13 : (Jvm.Cond.constant "com/example/axislint/axislint/schema/EntityFilesIsCharPinLaw" 13 (1114111 : Int32)).before args s = true) (k29 : (Jvm.Cond.constant "com/example/axislint/axislint/schema/EntityFilesIsCharPinLaw" 29 (55296 : Int32)).before args s = true) (k30 : (Jvm.Cond.constant "com/example/axislint/axislint/schema/EntityFilesIsCharPinLaw" 30 (65534 : Int32)).before args s = true) (x0 : Int32) (hz : f2_0 x0 = z) :
    Steps p.tables e below (T.setTop (mkF m 0 #[.val (.int x0), .unset] [])) (T.setFrames fs) := by
  unfold f2_0 at hz
  refine XS.iloadN X.here hx rfl (hb hby d2_0) rfl ?_
  show Steps p.tables e below (T.setTop (mkF m 1 #[.val (.int x0), .unset] [(.int x0)])) _
  by_cases h1 : x0 < (0 : Int32)
  · rw [if_pos h1] at hz
    refine XS.ifYes X.here hx rfl (pc0 := 1) (pc' := 10) rfl (hb hby d2_1) rfl ((if0 _ _).trans (tlt h1).1) (by decide) (by decide) ?_
    show Steps p.tables e below (T.setTop (mkF m 10 #[.val (.int x0), .unset] [])) _
    exact b2_10 X hx hby hown hret hl k8 k11 k13 k29 k30 x0  hz
  · rw [if_neg h1] at hz
    refine XS.ifNo X.here hx rfl (hb hby d2_1) rfl ((if0 _ _).trans (flt h1).1) ?_
    show Steps p.tables e below (T.setTop (mkF m 4 #[.val (.int x0), .unset] [])) _
    refine XS.iloadN X.here hx rfl (hb hby d2_4) rfl ?_
    show Steps p.tables e below (T.setTop (mkF m 5 #[.val (.int x0), .unset] [(.int x0)])) _
    refine X.ldcInt hx hown k13 (g := (mkF m 5 #[.val (.int x0), .unset] [(.int x0)])) rfl (hb hby d2_5) _ ?_
    show Steps p.tables e below (T.setTop (mkF m 7 #[.val (.int x0), .unset] [(.int (1114111 : Int32)), (.int x0)])) _
    by_cases h7 : (1114111 : Int32) < x0
    · rw [if_pos h7] at hz
      refine XS.icmpNo X.here hx rfl (hb hby d2_7) rfl (tlt h7).2.2.2 ?_
      show Steps p.tables e below (T.setTop (mkF m 10 #[.val (.int x0), .unset] [])) _
      exact b2_10 X hx hby hown hret hl k8 k11 k13 k29 k30 x0  hz
    · rw [if_neg h7] at hz
      refine XS.icmpYes X.here hx rfl (pc0 := 7) (pc' := 15) rfl (hb hby d2_7) rfl (flt h7).2.2.2 (by decide) (by decide) ?_
      show Steps p.tables e below (T.setTop (mkF m 15 #[.val (.int x0), .unset] [])) _
      refine XS.iloadN X.here hx rfl (hb hby d2_15) rfl ?_
      show Steps p.tables e below (T.setTop (mkF m 16 #[.val (.int x0), .unset] [(.int x0)])) _
      refine XS.bipush X.here hx rfl (hb hby d2_16) ?_
      show Steps p.tables e below (T.setTop (mkF m 18 #[.val (.int x0), .unset] [(.int (32 : Int32)), (.int x0)])) _
      by_cases h18 : x0 < (32 : Int32)
      · rw [if_pos h18] at hz
        refine XS.icmpNo X.here hx rfl (hb hby d2_18) rfl (tlt h18).2.1 ?_
        show Steps p.tables e below (T.setTop (mkF m 21 #[.val (.int x0), .unset] [])) _
        refine XS.iloadN X.here hx rfl (hb hby d2_21) rfl ?_
        show Steps p.tables e below (T.setTop (mkF m 22 #[.val (.int x0), .unset] [(.int x0)])) _
        refine XS.bipush X.here hx rfl (hb hby d2_22) ?_
        show Steps p.tables e below (T.setTop (mkF m 24 #[.val (.int x0), .unset] [(.int (9 : Int32)), (.int x0)])) _
        by_cases h24 : x0 = (9 : Int32)
        · rw [if_pos h24] at hz
          refine XS.icmpYes X.here hx rfl (pc0 := 24) (pc' := 39) rfl (hb hby d2_24) rfl (teq h24).1 (by decide) (by decide) ?_
          show Steps p.tables e below (T.setTop (mkF m 39 #[.val (.int x0), .unset] [])) _
          exact b2_39 X hx hby hown hret hl k8 k11 k13 k29 k30 x0  hz
        · rw [if_neg h24] at hz
          refine XS.icmpNo X.here hx rfl (hb hby d2_24) rfl (feq h24).1 ?_
          show Steps p.tables e below (T.setTop (mkF m 27 #[.val (.int x0), .unset] [])) _
          refine XS.iloadN X.here hx rfl (hb hby d2_27) rfl ?_
          show Steps p.tables e below (T.setTop (mkF m 28 #[.val (.int x0), .unset] [(.int x0)])) _
          refine XS.bipush X.here hx rfl (hb hby d2_28) ?_
          show Steps p.tables e below (T.setTop (mkF m 30 #[.val (.int x0), .unset] [(.int (10 : Int32)), (.int x0)])) _
          by_cases h30 : x0 = (10 : Int32)
          · rw [if_pos h30] at hz
            refine XS.icmpYes X.here hx rfl (pc0 := 30) (pc' := 39) rfl (hb hby d2_30) rfl (teq h30).1 (by decide) (by decide) ?_
            show Steps p.tables e below (T.setTop (mkF m 39 #[.val (.int x0), .unset] [])) _
            exact b2_39 X hx hby hown hret hl k8 k11 k13 k29 k30 x0  hz
          · rw [if_neg h30] at hz
            refine XS.icmpNo X.here hx rfl (hb hby d2_30) rfl (feq h30).1 ?_
            show Steps p.tables e below (T.setTop (mkF m 33 #[.val (.int x0), .unset] [])) _
            refine XS.iloadN X.here hx rfl (hb hby d2_33) rfl ?_
            show Steps p.tables e below (T.setTop (mkF m 34 #[.val (.int x0), .unset] [(.int x0)])) _
            refine XS.bipush X.here hx rfl (hb hby d2_34) ?_
            show Steps p.tables e below (T.setTop (mkF m 36 #[.val (.int x0), .unset] [(.int (13 : Int32)), (.int x0)])) _
            by_cases h36 : x0 = (13 : Int32)
            · rw [if_pos h36] at hz
              refine XS.icmpNo X.here hx rfl (hb hby d2_36) rfl (teq h36).2 ?_
              show Steps p.tables e below (T.setTop (mkF m 39 #[.val (.int x0), .unset] [])) _
              exact b2_39 X hx hby hown hret hl k8 k11 k13 k29 k30 x0  hz
            · rw [if_neg h36] at hz
              refine XS.icmpYes X.here hx rfl (pc0 := 36) (pc' := 43) rfl (hb hby d2_36) rfl (feq h36).2 (by decide) (by decide) ?_
              show Steps p.tables e below (T.setTop (mkF m 43 #[.val (.int x0), .unset] [])) _
              refine XS.iconst X.here hx rfl (hb hby d2_43) ?_
              show Steps p.tables e below (T.setTop (mkF m 44 #[.val (.int x0), .unset] [(.int (0 : Int32))])) _
              exact b2_44 X hx hby hown hret hl k8 k11 k13 k29 k30 x0 (0 : Int32)  hz
      · rw [if_neg h18] at hz
        refine XS.icmpYes X.here hx rfl (pc0 := 18) (pc' := 48) rfl (hb hby d2_18) rfl (flt h18).2.1 (by decide) (by decide) ?_
        show Steps p.tables e below (T.setTop (mkF m 48 #[.val (.int x0), .unset] [])) _
        refine XS.iloadN X.here hx rfl (hb hby d2_48) rfl ?_
        show Steps p.tables e below (T.setTop (mkF m 49 #[.val (.int x0), .unset] [(.int x0)])) _
        refine X.ldcInt hx hown k29 (g := (mkF m 49 #[.val (.int x0), .unset] [(.int x0)])) rfl (hb hby d2_49) _ ?_
        show Steps p.tables e below (T.setTop (mkF m 51 #[.val (.int x0), .unset] [(.int (55296 : Int32)), (.int x0)])) _
        by_cases h51 : x0 < (55296 : Int32)
        · rw [if_pos h51] at hz
          refine XS.icmpYes X.here hx rfl (pc0 := 51) (pc' := 65) rfl (hb hby d2_51) rfl (tlt h51).1 (by decide) (by decide) ?_
          show Steps p.tables e below (T.setTop (mkF m 65 #[.val (.int x0), .unset] [])) _
          exact b2_65 X hx hby hown hret hl k8 k11 k13 k29 k30 x0  hz
        · rw [if_neg h51] at hz
          refine XS.icmpNo X.here hx rfl (hb hby d2_51) rfl (flt h51).1 ?_
          show Steps p.tables e below (T.setTop (mkF m 54 #[.val (.int x0), .unset] [])) _
          refine XS.iloadN X.here hx rfl (hb hby d2_54) rfl ?_
          show Steps p.tables e below (T.setTop (mkF m 55 #[.val (.int x0), .unset] [(.int x0)])) _
          refine X.ldcInt hx hown k8 (g := (mkF m 55 #[.val (.int x0), .unset] [(.int x0)])) rfl (hb hby d2_55) _ ?_
          show Steps p.tables e below (T.setTop (mkF m 57 #[.val (.int x0), .unset] [(.int (57343 : Int32)), (.int x0)])) _
          by_cases h57 : (57343 : Int32) < x0
          · rw [if_pos h57] at hz
            refine XS.icmpYes X.here hx rfl (pc0 := 57) (pc' := 65) rfl (hb hby d2_57) rfl (tlt h57).2.2.1 (by decide) (by decide) ?_
            show Steps p.tables e below (T.setTop (mkF m 65 #[.val (.int x0), .unset] [])) _
            exact b2_65 X hx hby hown hret hl k8 k11 k13 k29 k30 x0  hz
          · rw [if_neg h57] at hz
            refine XS.icmpNo X.here hx rfl (hb hby d2_57) rfl (flt h57).2.2.1 ?_
            show Steps p.tables e below (T.setTop (mkF m 60 #[.val (.int x0), .unset] [])) _
            refine XS.iconst X.here hx rfl (hb hby d2_60) ?_
            show Steps p.tables e below (T.setTop (mkF m 61 #[.val (.int x0), .unset] [(.int (0 : Int32))])) _
            refine XS.istoreN X.here hx rfl (hb hby d2_61) rfl (l' := #[.val (.int x0), .val (.int (0 : Int32))]) rfl ?_
            show Steps p.tables e below (T.setTop (mkF m 62 #[.val (.int x0), .val (.int (0 : Int32))] [])) _
            refine XS.goto X.here hx rfl (pc0 := 62) (pc' := 84) rfl (hb hby d2_62) (by decide) (by decide) ?_
            show Steps p.tables e below (T.setTop (mkF m 84 #[.val (.int x0), .val (.int (0 : Int32))] [])) _
            exact b2_84 X hx hby hown hret hl k8 k11 k13 k29 k30 x0 (0 : Int32)  hz
theorem ef_2 (m : MethodId) (p1 : Int32) : entryFrame m #[(.int p1)] 2 = mkF m 0 #[.val (.int p1), .unset] [] := by first | (simp [entryFrame, mkF, argsToLocals, Value.category]; done) | rfl
def Q2 (p1 : Int32) (h0 : Heap) (n0 : Nat) (v : Option Value) (h : Heap) (L : List Loc) : Prop := v = some (.int (f2_0 p1)) ∧ Fr n0 L ∧ h = h0
set_option maxRecDepth 65536 in
set_option maxHeartbeats 40000000 in
theorem rm2 (l : Launch) (Z : State) (a0 : Array Value) (hw : ∀ d ∈ tables_1, d.before a0 Z = true) (ws : List Jvm.Cond) (p1 : Int32) (h0 : Heap) (n0 : Nat) :
    MetFree l (⟨"com/example/axislint/axislint/schema/EntityFilesIsCharPinLaw", "expected", "(I)Z"⟩ : MethodName) (head1 (Jvm.Cond.code (⟨"com/example/axislint/axislint/schema/EntityFilesIsCharPinLaw", "expected", "(I)Z"⟩ : MethodName) method_3_code 2 (some .boolean) :: ws) ({ frames := 0, cells := 0, slots := 0, locals := 0 } : Room)) (fun a U => a = #[(.int p1)] ∧ Z.Warmed39 U.vm ∧ U.heap = h0) (fun _ _ _ _ _ => True) (fun _ U o U' => ∃ v L, o = .returned v ∧ Q2 p1 h0 n0 v U'.heap L ∧ FrameEnd U o U' L ({ frames := 0, cells := 0, slots := 0, locals := 0 } : Room).cells ({ frames := 0, cells := 0, slots := 0, locals := 0 } : Room).slots) := by
  refine MetFree.of_bodySF (plainFor_of_name pn_2) hisR ?_
  intro p e s m args below meth c s₁ Bd hml0 hP hK
  obtain ⟨rfl, hZ, hh⟩ := hP
  have hx := Bd.exec
  have hby := Bd.bytes
  have hml : c.maxLocals = 2 := hml0
  have hown : s.vm.findClass "com/example/axislint/axislint/schema/EntityFilesIsCharPinLaw" = some m.cls := findClass_of_methodNamed Bd.named
  have hnm := (name_of_methodNamed Bd.named Bd.method).1
  have X0 : Stand p l e ({ frames := 0, cells := 0, slots := 0, locals := 0 } : Room) s m #[(.int p1)] below meth c s₁ [] 0 0 := Stand.of_body Bd
  have e0 : s₁.heap = h0 := by rw [← hh, Bd.state]; rfl
  have N0 := Fr.nil n0
  have pre0 : ∀ t, Steps p.tables e below (s₁.setTop (mkF m 0 #[.val (.int p1), .unset] [])) t → Steps p.tables e below (s₁.setTop (entryFrame m #[(.int p1)] 2)) t := fun t k => castTop (ef_2 m p1) k
  obtain ⟨fs, hr, hrun, hended, hW, hsame⟩ := X0.leave (v := some (.int (f2_0 p1))) (fun h => by rw [Bd.returns] at h; cases h)
  refine ⟨_, _, pre0 _ ?_, hrun, hended, _, _, rfl, ?_, ⟨_, rfl⟩, hW, hsame.mono (by decide) (by decide)⟩
  · exact b2_0 X0 hx hby hown Bd.returns hr (mvT hZ (hw _ (List.mem_of_getElem? (i := 17) rfl))) (mvT hZ (hw _ (List.mem_of_getElem? (i := 14) rfl))) (mvT hZ (hw _ (List.mem_of_getElem? (i := 10) rfl))) (mvT hZ (hw _ (List.mem_of_getElem? (i := 12) rfl))) (mvT hZ (hw _ (List.mem_of_getElem? (i := 13) rfl))) p1 rfl
  · show Q2 p1 h0 n0 _ s₁.heap _
    rw [e0]
    exact ⟨rfl, N0, rfl⟩
theorem own_nar (x : Int32) : nar .boolean x = x &&& 1 := rfl
theorem own_nar1 : nar .boolean (1 : Int32) = 1 := by decide
theorem own_nar0 : nar .boolean (0 : Int32) = 0 := by decide
theorem own_10 : ((1 : Int32) = 0) = False := by decide
theorem own_00 : ((0 : Int32) = 0) = True := by decide
theorem own_i0 : (0 : Int32).toInt = 0 := by decide
theorem own_i1 : (1 : Int32).toInt = 1 := by decide
theorem own_i9 : (9 : Int32).toInt = 9 := by decide
theorem own_i10 : (10 : Int32).toInt = 10 := by decide
theorem own_i13 : (13 : Int32).toInt = 13 := by decide
theorem own_i32 : (32 : Int32).toInt = 32 := by decide
theorem own_i55295 : (55295 : Int32).toInt = 55295 := by decide
theorem own_i55296 : (55296 : Int32).toInt = 55296 := by decide
theorem own_i57343 : (57343 : Int32).toInt = 57343 := by decide
theorem own_i57344 : (57344 : Int32).toInt = 57344 := by decide
theorem own_i65533 : (65533 : Int32).toInt = 65533 := by decide
theorem own_i65534 : (65534 : Int32).toInt = 65534 := by decide
theorem own_i65535 : (65535 : Int32).toInt = 65535 := by decide
theorem own_i65536 : (65536 : Int32).toInt = 65536 := by decide
theorem own_i1114111 : (1114111 : Int32).toInt = 1114111 := by decide
theorem sf1_59 (x : Int32) : f1_59 x = if True then 1 else 0 := by
  unfold f1_59
  have he : ∀ c : Int32, (x = c) = (x.toInt = c.toInt) := fun c => propext Int32.toInt_inj.symm
  simp only [own_nar1, own_nar0, own_10, own_00, ↓reduceIte, Int32.lt_iff_toInt_lt, he, own_i1, f1_64]
  all_goals
    have hl := Int32.le_toInt x
    have hh := Int32.toInt_lt x
    clear he
    generalize x.toInt = n at *
    repeat' split
    all_goals first | rfl | (exfalso; omega)
theorem sf1_63 (x : Int32) : f1_63 x = if False then 1 else 0 := by
  unfold f1_63
  have he : ∀ c : Int32, (x = c) = (x.toInt = c.toInt) := fun c => propext Int32.toInt_inj.symm
  simp only [own_nar1, own_nar0, own_10, own_00, ↓reduceIte, Int32.lt_iff_toInt_lt, he, own_i0, f1_64]
  all_goals
    have hl := Int32.le_toInt x
    have hh := Int32.toInt_lt x
    clear he
    generalize x.toInt = n at *
    repeat' split
    all_goals first | rfl | (exfalso; omega)
theorem sf1_45 (x : Int32) : f1_45 x = if (65536 ≤ x.toInt ∧ x.toInt ≤ 1114111) then 1 else 0 := by
  unfold f1_45
  have he : ∀ c : Int32, (x = c) = (x.toInt = c.toInt) := fun c => propext Int32.toInt_inj.symm
  simp only [own_nar1, own_nar0, own_10, own_00, ↓reduceIte, Int32.lt_iff_toInt_lt, he, own_i1114111, own_i65536, sf1_59, sf1_63]
  all_goals
    have hl := Int32.le_toInt x
    have hh := Int32.toInt_lt x
    clear he
    generalize x.toInt = n at *
    repeat' split
    all_goals first | rfl | (exfalso; omega)
theorem sf1_31 (x : Int32) : f1_31 x = if (57344 ≤ x.toInt ∧ x.toInt ≤ 65533) ∨ (65536 ≤ x.toInt ∧ x.toInt ≤ 1114111) then 1 else 0 := by
  unfold f1_31
  have he : ∀ c : Int32, (x = c) = (x.toInt = c.toInt) := fun c => propext Int32.toInt_inj.symm
  simp only [own_nar1, own_nar0, own_10, own_00, ↓reduceIte, Int32.lt_iff_toInt_lt, he, own_i57344, own_i65533, sf1_45, sf1_59]
  all_goals
    have hl := Int32.le_toInt x
    have hh := Int32.toInt_lt x
    clear he
    generalize x.toInt = n at *
    repeat' split
    all_goals first | rfl | (exfalso; omega)
theorem sf1_0 (x : Int32) : f1_0 x = if (9 ≤ x.toInt ∧ x.toInt ≤ 10) ∨ x.toInt = 13 ∨ (32 ≤ x.toInt ∧ x.toInt ≤ 55295) ∨ (57344 ≤ x.toInt ∧ x.toInt ≤ 65533) ∨ (65536 ≤ x.toInt ∧ x.toInt ≤ 1114111) then 1 else 0 := by
  unfold f1_0
  have he : ∀ c : Int32, (x = c) = (x.toInt = c.toInt) := fun c => propext Int32.toInt_inj.symm
  simp only [own_nar1, own_nar0, own_10, own_00, ↓reduceIte, Int32.lt_iff_toInt_lt, he, own_i10, own_i13, own_i32, own_i55295, own_i9, sf1_31, sf1_59]
  all_goals
    have hl := Int32.le_toInt x
    have hh := Int32.toInt_lt x
    clear he
    generalize x.toInt = n at *
    repeat' split
    all_goals first | rfl | (exfalso; omega)
theorem sf2_77 (x : Int32) : f2_77 x = if False then 1 else 0 := by
  unfold f2_77
  have he : ∀ c : Int32, (x = c) = (x.toInt = c.toInt) := fun c => propext Int32.toInt_inj.symm
  simp only [own_nar1, own_nar0, own_10, own_00, ↓reduceIte, Int32.lt_iff_toInt_lt, he, own_i0, f2_84]
  all_goals
    have hl := Int32.le_toInt x
    have hh := Int32.toInt_lt x
    clear he
    generalize x.toInt = n at *
    repeat' split
    all_goals first | rfl | (exfalso; omega)
theorem sf2_65 (x : Int32) : f2_65 x = if x.toInt ≤ 65533 ∨ 65536 ≤ x.toInt then 1 else 0 := by
  unfold f2_65
  have he : ∀ c : Int32, (x = c) = (x.toInt = c.toInt) := fun c => propext Int32.toInt_inj.symm
  simp only [own_nar1, own_nar0, own_10, own_00, ↓reduceIte, Int32.lt_iff_toInt_lt, he, own_i1, own_i65534, own_i65535, sf2_77, f2_84]
  all_goals
    have hl := Int32.le_toInt x
    have hh := Int32.toInt_lt x
    clear he
    generalize x.toInt = n at *
    repeat' split
    all_goals first | rfl | (exfalso; omega)
theorem sf2_39 (x : Int32) : f2_39 x = if True then 1 else 0 := by
  unfold f2_39
  have he : ∀ c : Int32, (x = c) = (x.toInt = c.toInt) := fun c => propext Int32.toInt_inj.symm
  simp only [own_nar1, own_nar0, own_10, own_00, ↓reduceIte, Int32.lt_iff_toInt_lt, he, own_i1, f2_44, f2_84]
  all_goals
    have hl := Int32.le_toInt x
    have hh := Int32.toInt_lt x
    clear he
    generalize x.toInt = n at *
    repeat' split
    all_goals first | rfl | (exfalso; omega)
theorem sf2_10 (x : Int32) : f2_10 x = if False then 1 else 0 := by
  unfold f2_10
  have he : ∀ c : Int32, (x = c) = (x.toInt = c.toInt) := fun c => propext Int32.toInt_inj.symm
  simp only [own_nar1, own_nar0, own_10, own_00, ↓reduceIte, Int32.lt_iff_toInt_lt, he, own_i0, f2_84]
  all_goals
    have hl := Int32.le_toInt x
    have hh := Int32.toInt_lt x
    clear he
    generalize x.toInt = n at *
    repeat' split
    all_goals first | rfl | (exfalso; omega)
theorem sf2_0 (x : Int32) : f2_0 x = if (9 ≤ x.toInt ∧ x.toInt ≤ 10) ∨ x.toInt = 13 ∨ (32 ≤ x.toInt ∧ x.toInt ≤ 55295) ∨ (57344 ≤ x.toInt ∧ x.toInt ≤ 65533) ∨ (65536 ≤ x.toInt ∧ x.toInt ≤ 1114111) then 1 else 0 := by
  unfold f2_0
  have he : ∀ c : Int32, (x = c) = (x.toInt = c.toInt) := fun c => propext Int32.toInt_inj.symm
  simp only [own_nar1, own_nar0, own_10, own_00, ↓reduceIte, Int32.lt_iff_toInt_lt, he, own_i0, own_i10, own_i1114111, own_i13, own_i32, own_i55296, own_i57343, own_i9, sf2_10, sf2_39, f2_44, f2_84, sf2_65]
  all_goals
    have hl := Int32.le_toInt x
    have hh := Int32.toInt_lt x
    clear he
    generalize x.toInt = n at *
    repeat' split
    all_goals first | rfl | (exfalso; omega)
theorem own_eq (x : Int32) : f1_0 x = f2_0 x := by rw [sf1_0, sf2_0]
theorem pn_0 : plainName "com/example/axislint/axislint/schema/EntityFilesIsCharPinLaw" = true := by first | (simp [plainName, overriddenIn]; done) | decide +kernel
theorem ef_0 (m : MethodId) (p1 : Int32) (p2 : Int32) (p3 : Int32) : entryFrame m #[(.int p1), (.int p2), (.int p3)] maxLocals = mkF m 0 #[.val (.int p1), .val (.int p2), .val (.int p3), .unset, .unset, .unset] [] := by first | (simp [entryFrame, mkF, argsToLocals, Value.category, maxLocals]; done) | rfl
theorem pd_0_0 : parseMethodDescriptor "(I)Z" = some ⟨[.int], some .boolean⟩ := by decide +kernel
def Q0 (n0 : Nat) (v : Option Value) (L : List Loc) : Prop := v = some (.int 1) ∧ Fr n0 L
set_option maxRecDepth 65536 in
set_option maxHeartbeats 40000000 in
theorem rm0 (l : Launch) (Z : State) (a0 : Array Value) (hw : ∀ d ∈ tables_1, d.before a0 Z = true) (ws : List Jvm.Cond) (p1 : Int32) (p2 : Int32) (p3 : Int32) (h0 : Heap) (n0 : Nat) (Z0 : n0 ≤ h0.size) :
    MetFree l x (head1 (Jvm.Cond.code x code maxLocals ret :: ws) room_1) (fun a U => a = #[(.int p1), (.int p2), (.int p3)] ∧ Z.Warmed39 U.vm ∧ U.heap = h0) (fun _ _ _ _ _ => True) (fun _ U o U' => ∃ v L, o = .returned v ∧ Q0 n0 v L ∧ FrameEnd U o U' L room_1.cells room_1.slots) := by
  refine MetFree.of_bodySF (plainFor_of_name pn_0) hisR ?_
  intro p e s m args below meth c s₁ Bd hml0 hP hK
  obtain ⟨rfl, hZ, hh⟩ := hP
  have hx := Bd.exec
  have hby := Bd.bytes
  have hml : c.maxLocals = 6 := hml0
  have hown : s.vm.findClass "com/example/axislint/axislint/schema/EntityFilesIsCharPinLaw" = some m.cls := findClass_of_methodNamed Bd.named
  have hnm := (name_of_methodNamed Bd.named Bd.method).1
  have X0 : Stand p l e room_1 s m #[(.int p1), (.int p2), (.int p3)] below meth c s₁ [] 0 0 := Stand.of_body Bd
  have e0 : s₁.heap = h0 := by rw [← hh, Bd.state]; rfl
  have N0 := Fr.nil n0
  have pre0 : ∀ t, Steps p.tables e below (s₁.setTop (mkF m 0 #[.val (.int p1), .val (.int p2), .val (.int p3), .unset, .unset, .unset] [])) t → Steps p.tables e below (s₁.setTop (entryFrame m #[(.int p1), (.int p2), (.int p3)] maxLocals)) t := fun t k => castTop (ef_0 m p1 p2 p3) k
  have pre2 : ∀ t, Steps p.tables e below (s₁.setTop (mkF m 5 #[.val (.int p1), .val (.int p2), .val (.int p3), .unset, .unset, .unset] [(.int (p2 &&& (256 : Int32)))])) t → Steps p.tables e below (s₁.setTop (entryFrame m #[(.int p1), (.int p2), (.int p3)] maxLocals)) t := by
    intro t k
    refine pre0 t ?_
    show Steps p.tables e below (s₁.setTop (mkF m 0 #[.val (.int p1), .val (.int p2), .val (.int p3), .unset, .unset, .unset] [])) _
    refine XS.iloadN X0.here hx rfl (hb hby at_0) rfl ?_
    show Steps p.tables e below (s₁.setTop (mkF m 1 #[.val (.int p1), .val (.int p2), .val (.int p3), .unset, .unset, .unset] [(.int p2)])) _
    refine XS.sipush X0.here hx rfl (hb hby at_1) ?_
    show Steps p.tables e below (s₁.setTop (mkF m 4 #[.val (.int p1), .val (.int p2), .val (.int p3), .unset, .unset, .unset] [(.int (256 : Int32)), (.int p2)])) _
    refine XS.iand X0.here hx rfl (hb hby at_4) rfl ?_
    show Steps p.tables e below (s₁.setTop (mkF m 5 #[.val (.int p1), .val (.int p2), .val (.int p3), .unset, .unset, .unset] [(.int (p2 &&& (256 : Int32)))])) _
    exact k
  by_cases h5_1 : (p2 &&& (256 : Int32)) = (0 : Int32)
  · obtain ⟨_, _, ⟨T3, L3, k3, n3⟩, -, X3, ⟨Lc3, hQ3, l3, y3, z3⟩, st3⟩ := Jvm.LawKit.callS X0 hx (y := (⟨"com/example/axislint/axislint/schema/EntityFiles", "isChar", "(I)Z"⟩ : MethodName)) hown (mvT hZ (hw _ (List.mem_of_getElem? (i := 0) rfl))) (mvT hZ (hw _ (List.mem_of_getElem? (i := 1) rfl))) (mvT hZ (hw _ (List.mem_of_getElem? (i := 2) rfl))) (mvT hZ (hw _ (List.mem_of_getElem? (i := 3) rfl))) (by decide) (backOf (W := 0) (rm1 l Z a0 hw [] p1 h0 n0) hZ (hw _ (List.mem_of_getElem? (i := 3) rfl)) (hw _ (List.mem_of_getElem? (i := 2) rfl)) (by decide) (by decide)) (g := (mkF m 120 #[.val (.int p1), .val (.int p2), .val (.int p3), .val (.int p1), .unset, .unset] [(.int p1)])) rfl (by rw [hml]; rfl) (argsL := [(.int p1)]) (rest := []) (lenOf pd_0_0 rfl) rfl (by show 2 * 0 + _ ≤ _; exact Nat.le_of_eq rfl) (hb hby at_120) (fun _ _ => ⟨rfl, e0, (by decide : 0 + 0 ≤ _), (by decide : 0 + 0 ≤ _)⟩)
    dsimp only [Pt.U, Pt.locs, Pt.cells, Pt.slots] at X3 l3 y3 z3 st3 hQ3
    subst l3 y3 z3
    obtain ⟨rfl, N3q, e3⟩ := hQ3
    have N3 := Fr.app N0 N3q
    obtain ⟨_, _, ⟨T4, L4, k4, n4⟩, -, X4, ⟨Lc4, hQ4, l4, y4, z4⟩, st4⟩ := Jvm.LawKit.callS X3 hx (y := (⟨"com/example/axislint/axislint/schema/EntityFilesIsCharPinLaw", "expected", "(I)Z"⟩ : MethodName)) hown (mvT hZ (hw _ (List.mem_of_getElem? (i := 6) rfl))) (mvT hZ (hw _ (List.mem_of_getElem? (i := 7) rfl))) (mvT hZ (hw _ (List.mem_of_getElem? (i := 8) rfl))) (mvT hZ (hw _ (List.mem_of_getElem? (i := 9) rfl))) (by decide) (backOf (W := 1) (rm2 l Z a0 hw [] p1 h0 n0) hZ (hw _ (List.mem_of_getElem? (i := 9) rfl)) (hw _ (List.mem_of_getElem? (i := 8) rfl)) (by decide) (by decide)) (g := (mkF m 124 #[.val (.int p1), .val (.int p2), .val (.int p3), .val (.int p1), .unset, .unset] [(.int p1), (.int (f1_0 p1))])) rfl (by rw [hml]; rfl) (argsL := [(.int p1)]) (rest := [(.int (f1_0 p1))]) (lenOf pd_0_0 rfl) rfl (by show 2 * 0 + _ ≤ _; exact Nat.le_of_eq rfl) (hb hby at_124) (fun _ _ => ⟨rfl, e3, (by decide : 0 + 0 ≤ _), (by decide : 0 + 0 ≤ _)⟩)
    dsimp only [Pt.U, Pt.locs, Pt.cells, Pt.slots] at X4 l4 y4 z4 st4 hQ4
    subst l4 y4 z4
    obtain ⟨rfl, N4q, e4⟩ := hQ4
    have N4 := Fr.app N3 N4q
    have h127_5 : (f1_0 p1) = (f2_0 p1) := own_eq _
    have pre6 : ∀ t, Steps p.tables e below (T4.setTop (mkF m 135 #[.val (.int p1), .val (.int p2), .val (.int p3), .val (.int p1), .unset, .unset] [(.int (1 : Int32))])) t → Steps p.tables e below (s₁.setTop (entryFrame m #[(.int p1), (.int p2), (.int p3)] maxLocals)) t := by
      intro t k
      refine pre2 t ?_
      refine XS.ifNo X0.here hx rfl (hb hby at_5) rfl ((if0 _ _).trans (teq h5_1).2) ?_
      show Steps p.tables e below (s₁.setTop (mkF m 8 #[.val (.int p1), .val (.int p2), .val (.int p3), .unset, .unset, .unset] [])) _
      refine XS.iloadN X0.here hx rfl (hb hby at_8) rfl ?_
      show Steps p.tables e below (s₁.setTop (mkF m 9 #[.val (.int p1), .val (.int p2), .val (.int p3), .unset, .unset, .unset] [(.int p1)])) _
      refine XS.istoreN X0.here hx rfl (hb hby at_9) rfl (l' := #[.val (.int p1), .val (.int p2), .val (.int p3), .val (.int p1), .unset, .unset]) rfl ?_
      show Steps p.tables e below (s₁.setTop (mkF m 10 #[.val (.int p1), .val (.int p2), .val (.int p3), .val (.int p1), .unset, .unset] [])) _
      refine XS.goto X0.here hx rfl (pc0 := 10) (pc' := 119) rfl (hb hby at_10) (by decide) (by decide) ?_
      show Steps p.tables e below (s₁.setTop (mkF m 119 #[.val (.int p1), .val (.int p2), .val (.int p3), .val (.int p1), .unset, .unset] [])) _
      refine XS.iloadN X0.here hx rfl (hb hby at_119) rfl ?_
      show Steps p.tables e below (s₁.setTop (mkF m 120 #[.val (.int p1), .val (.int p2), .val (.int p3), .val (.int p1), .unset, .unset] [(.int p1)])) _
      refine st3 _ ?_
      show Steps p.tables e below (T3.setTop (mkF m 123 #[.val (.int p1), .val (.int p2), .val (.int p3), .val (.int p1), .unset, .unset] [(.int (f1_0 p1))])) _
      refine XS.iloadN X3.here hx rfl (hb hby at_123) rfl ?_
      show Steps p.tables e below (T3.setTop (mkF m 124 #[.val (.int p1), .val (.int p2), .val (.int p3), .val (.int p1), .unset, .unset] [(.int p1), (.int (f1_0 p1))])) _
      refine st4 _ ?_
      show Steps p.tables e below (T4.setTop (mkF m 127 #[.val (.int p1), .val (.int p2), .val (.int p3), .val (.int p1), .unset, .unset] [(.int (f2_0 p1)), (.int (f1_0 p1))])) _
      refine XS.icmpNo X4.here hx rfl (hb hby at_127) rfl (teq h127_5).2 ?_
      show Steps p.tables e below (T4.setTop (mkF m 130 #[.val (.int p1), .val (.int p2), .val (.int p3), .val (.int p1), .unset, .unset] [])) _
      refine XS.iconst X4.here hx rfl (hb hby at_130) ?_
      show Steps p.tables e below (T4.setTop (mkF m 131 #[.val (.int p1), .val (.int p2), .val (.int p3), .val (.int p1), .unset, .unset] [(.int (1 : Int32))])) _
      refine XS.goto X4.here hx rfl (pc0 := 131) (pc' := 135) rfl (hb hby at_131) (by decide) (by decide) ?_
      show Steps p.tables e below (T4.setTop (mkF m 135 #[.val (.int p1), .val (.int p2), .val (.int p3), .val (.int p1), .unset, .unset] [(.int (1 : Int32))])) _
      exact k
    obtain ⟨fs, hr, hrun, hended, hW, hsame⟩ := X4.leave (v := some (.int (1 : Int32))) (fun h => by rw [Bd.returns] at h; cases h)
    refine ⟨_, _, pre6 _ ?_, hrun, hended, _, _, rfl, ?_, ⟨_, rfl⟩, hW, hsame.mono (by decide) (by decide)⟩
    · exact retN X4 hx (t := .boolean) Bd.returns (by simp) (hb hby at_135) hr
    · exact ⟨rfl, N4⟩
  · obtain ⟨T7, H7, cA7, X7, e7, E7, A7, st7⟩ := newP X0 hx hZ (aty := .int) (hw _ (List.mem_of_getElem? (i := 15) rfl)) e0 (g := (mkF m 15 #[.val (.int p1), .val (.int p2), .val (.int p3), .unset, .unset, .unset] [(.int (14 : Int32))])) rfl (hb hby at_15) rfl (by decide) (cap := 14) (by decide) (by decide) (by decide) (by decide)
    obtain ⟨b7, g7⟩ : ∃ z, z = h0.size := ⟨_, rfl⟩
    rw [← g7] at A7 st7
    have V7 : own_VA Z H7 b7 .int [(.int (0 : Int32)), (.int (0 : Int32)), (.int (0 : Int32)), (.int (0 : Int32)), (.int (0 : Int32)), (.int (0 : Int32)), (.int (0 : Int32)), (.int (0 : Int32)), (.int (0 : Int32)), (.int (0 : Int32)), (.int (0 : Int32)), (.int (0 : Int32)), (.int (0 : Int32)), (.int (0 : Int32))] := own_VA_new (ty := .int) A7 (k := 14) (by decide)
    have Z7 : n0 ≤ H7.size := Nat.le_trans Z0 E7.1
    have gb7 : n0 ≤ b7 := Nat.le_trans Z0 (Nat.le_of_eq g7.symm)
    obtain ⟨T8, H8, Ls8, X8, e8, V8', W8, FF8, st8⟩ := own_stI X7 hx hZ e7 V7 (n := 14) (k := 0) rfl (by decide) (by decide) (g := (mkF m 20 #[.val (.int p1), .val (.int p2), .val (.int p3), .unset, .unset, .unset] [(.int (0 : Int32)), (.int (0 : Int32)), (.ref b7), (.ref b7)])) rfl rfl (hb hby at_20)
    have V8 : own_VA Z H8 b7 .int [(.int (0 : Int32)), (.int (0 : Int32)), (.int (0 : Int32)), (.int (0 : Int32)), (.int (0 : Int32)), (.int (0 : Int32)), (.int (0 : Int32)), (.int (0 : Int32)), (.int (0 : Int32)), (.int (0 : Int32)), (.int (0 : Int32)), (.int (0 : Int32)), (.int (0 : Int32)), (.int (0 : Int32))] := V8'
    have N8 := FF8 _ N0 gb7
    have Z8 : n0 ≤ H8.size := Nat.le_trans Z7 (Nat.le_of_eq W8.size.symm)
    obtain ⟨T9, H9, Ls9, X9, e9, V9', W9, FF9, st9⟩ := own_stI X8 hx hZ e8 V8 (n := 14) (k := 1) rfl (by decide) (by decide) (g := (mkF m 25 #[.val (.int p1), .val (.int p2), .val (.int p3), .unset, .unset, .unset] [(.int (9 : Int32)), (.int (1 : Int32)), (.ref b7), (.ref b7)])) rfl rfl (hb hby at_25)
    have V9 : own_VA Z H9 b7 .int [(.int (0 : Int32)), (.int (9 : Int32)), (.int (0 : Int32)), (.int (0 : Int32)), (.int (0 : Int32)), (.int (0 : Int32)), (.int (0 : Int32)), (.int (0 : Int32)), (.int (0 : Int32)), (.int (0 : Int32)), (.int (0 : Int32)), (.int (0 : Int32)), (.int (0 : Int32)), (.int (0 : Int32))] := V9'
    have N9 := FF9 _ N8 gb7
    have Z9 : n0 ≤ H9.size := Nat.le_trans Z8 (Nat.le_of_eq W9.size.symm)
    obtain ⟨T10, H10, Ls10, X10, e10, V10', W10, FF10, st10⟩ := own_stI X9 hx hZ e9 V9 (n := 14) (k := 2) rfl (by decide) (by decide) (g := (mkF m 30 #[.val (.int p1), .val (.int p2), .val (.int p3), .unset, .unset, .unset] [(.int (10 : Int32)), (.int (2 : Int32)), (.ref b7), (.ref b7)])) rfl rfl (hb hby at_30)
    have V10 : own_VA Z H10 b7 .int [(.int (0 : Int32)), (.int (9 : Int32)), (.int (10 : Int32)), (.int (0 : Int32)), (.int (0 : Int32)), (.int (0 : Int32)), (.int (0 : Int32)), (.int (0 : Int32)), (.int (0 : Int32)), (.int (0 : Int32)), (.int (0 : Int32)), (.int (0 : Int32)), (.int (0 : Int32)), (.int (0 : Int32))] := V10'
    have N10 := FF10 _ N9 gb7
    have Z10 : n0 ≤ H10.size := Nat.le_trans Z9 (Nat.le_of_eq W10.size.symm)
    obtain ⟨T11, H11, Ls11, X11, e11, V11', W11, FF11, st11⟩ := own_stI X10 hx hZ e10 V10 (n := 14) (k := 3) rfl (by decide) (by decide) (g := (mkF m 35 #[.val (.int p1), .val (.int p2), .val (.int p3), .unset, .unset, .unset] [(.int (13 : Int32)), (.int (3 : Int32)), (.ref b7), (.ref b7)])) rfl rfl (hb hby at_35)
    have V11 : own_VA Z H11 b7 .int [(.int (0 : Int32)), (.int (9 : Int32)), (.int (10 : Int32)), (.int (13 : Int32)), (.int (0 : Int32)), (.int (0 : Int32)), (.int (0 : Int32)), (.int (0 : Int32)), (.int (0 : Int32)), (.int (0 : Int32)), (.int (0 : Int32)), (.int (0 : Int32)), (.int (0 : Int32)), (.int (0 : Int32))] := V11'
    have N11 := FF11 _ N10 gb7
    have Z11 : n0 ≤ H11.size := Nat.le_trans Z10 (Nat.le_of_eq W11.size.symm)
    obtain ⟨T12, H12, Ls12, X12, e12, V12', W12, FF12, st12⟩ := own_stI X11 hx hZ e11 V11 (n := 14) (k := 4) rfl (by decide) (by decide) (g := (mkF m 40 #[.val (.int p1), .val (.int p2), .val (.int p3), .unset, .unset, .unset] [(.int (32 : Int32)), (.int (4 : Int32)), (.ref b7), (.ref b7)])) rfl rfl (hb hby at_40)
    have V12 : own_VA Z H12 b7 .int [(.int (0 : Int32)), (.int (9 : Int32)), (.int (10 : Int32)), (.int (13 : Int32)), (.int (32 : Int32)), (.int (0 : Int32)), (.int (0 : Int32)), (.int (0 : Int32)), (.int (0 : Int32)), (.int (0 : Int32)), (.int (0 : Int32)), (.int (0 : Int32)), (.int (0 : Int32)), (.int (0 : Int32))] := V12'
    have N12 := FF12 _ N11 gb7
    have Z12 : n0 ≤ H12.size := Nat.le_trans Z11 (Nat.le_of_eq W12.size.symm)
    obtain ⟨T13, H13, Ls13, X13, e13, V13', W13, FF13, st13⟩ := own_stI X12 hx hZ e12 V12 (n := 14) (k := 5) rfl (by decide) (by decide) (g := (mkF m 45 #[.val (.int p1), .val (.int p2), .val (.int p3), .unset, .unset, .unset] [(.int (55295 : Int32)), (.int (5 : Int32)), (.ref b7), (.ref b7)])) rfl rfl (hb hby at_45)
    have V13 : own_VA Z H13 b7 .int [(.int (0 : Int32)), (.int (9 : Int32)), (.int (10 : Int32)), (.int (13 : Int32)), (.int (32 : Int32)), (.int (55295 : Int32)), (.int (0 : Int32)), (.int (0 : Int32)), (.int (0 : Int32)), (.int (0 : Int32)), (.int (0 : Int32)), (.int (0 : Int32)), (.int (0 : Int32)), (.int (0 : Int32))] := V13'
    have N13 := FF13 _ N12 gb7
    have Z13 : n0 ≤ H13.size := Nat.le_trans Z12 (Nat.le_of_eq W13.size.symm)
    obtain ⟨T14, H14, Ls14, X14, e14, V14', W14, FF14, st14⟩ := own_stI X13 hx hZ e13 V13 (n := 14) (k := 6) rfl (by decide) (by decide) (g := (mkF m 51 #[.val (.int p1), .val (.int p2), .val (.int p3), .unset, .unset, .unset] [(.int (57343 : Int32)), (.int (6 : Int32)), (.ref b7), (.ref b7)])) rfl rfl (hb hby at_51)
    have V14 : own_VA Z H14 b7 .int [(.int (0 : Int32)), (.int (9 : Int32)), (.int (10 : Int32)), (.int (13 : Int32)), (.int (32 : Int32)), (.int (55295 : Int32)), (.int (57343 : Int32)), (.int (0 : Int32)), (.int (0 : Int32)), (.int (0 : Int32)), (.int (0 : Int32)), (.int (0 : Int32)), (.int (0 : Int32)), (.int (0 : Int32))] := V14'
    have N14 := FF14 _ N13 gb7
    have Z14 : n0 ≤ H14.size := Nat.le_trans Z13 (Nat.le_of_eq W14.size.symm)
    obtain ⟨T15, H15, Ls15, X15, e15, V15', W15, FF15, st15⟩ := own_stI X14 hx hZ e14 V14 (n := 14) (k := 7) rfl (by decide) (by decide) (g := (mkF m 57 #[.val (.int p1), .val (.int p2), .val (.int p3), .unset, .unset, .unset] [(.int (57344 : Int32)), (.int (7 : Int32)), (.ref b7), (.ref b7)])) rfl rfl (hb hby at_57)
    have V15 : own_VA Z H15 b7 .int [(.int (0 : Int32)), (.int (9 : Int32)), (.int (10 : Int32)), (.int (13 : Int32)), (.int (32 : Int32)), (.int (55295 : Int32)), (.int (57343 : Int32)), (.int (57344 : Int32)), (.int (0 : Int32)), (.int (0 : Int32)), (.int (0 : Int32)), (.int (0 : Int32)), (.int (0 : Int32)), (.int (0 : Int32))] := V15'
    have N15 := FF15 _ N14 gb7
    have Z15 : n0 ≤ H15.size := Nat.le_trans Z14 (Nat.le_of_eq W15.size.symm)
    obtain ⟨T16, H16, Ls16, X16, e16, V16', W16, FF16, st16⟩ := own_stI X15 hx hZ e15 V15 (n := 14) (k := 8) rfl (by decide) (by decide) (g := (mkF m 63 #[.val (.int p1), .val (.int p2), .val (.int p3), .unset, .unset, .unset] [(.int (65533 : Int32)), (.int (8 : Int32)), (.ref b7), (.ref b7)])) rfl rfl (hb hby at_63)
    have V16 : own_VA Z H16 b7 .int [(.int (0 : Int32)), (.int (9 : Int32)), (.int (10 : Int32)), (.int (13 : Int32)), (.int (32 : Int32)), (.int (55295 : Int32)), (.int (57343 : Int32)), (.int (57344 : Int32)), (.int (65533 : Int32)), (.int (0 : Int32)), (.int (0 : Int32)), (.int (0 : Int32)), (.int (0 : Int32)), (.int (0 : Int32))] := V16'
    have N16 := FF16 _ N15 gb7
    have Z16 : n0 ≤ H16.size := Nat.le_trans Z15 (Nat.le_of_eq W16.size.symm)
    obtain ⟨T17, H17, Ls17, X17, e17, V17', W17, FF17, st17⟩ := own_stI X16 hx hZ e16 V16 (n := 14) (k := 9) rfl (by decide) (by decide) (g := (mkF m 69 #[.val (.int p1), .val (.int p2), .val (.int p3), .unset, .unset, .unset] [(.int (65535 : Int32)), (.int (9 : Int32)), (.ref b7), (.ref b7)])) rfl rfl (hb hby at_69)
    have V17 : own_VA Z H17 b7 .int [(.int (0 : Int32)), (.int (9 : Int32)), (.int (10 : Int32)), (.int (13 : Int32)), (.int (32 : Int32)), (.int (55295 : Int32)), (.int (57343 : Int32)), (.int (57344 : Int32)), (.int (65533 : Int32)), (.int (65535 : Int32)), (.int (0 : Int32)), (.int (0 : Int32)), (.int (0 : Int32)), (.int (0 : Int32))] := V17'
    have N17 := FF17 _ N16 gb7
    have Z17 : n0 ≤ H17.size := Nat.le_trans Z16 (Nat.le_of_eq W17.size.symm)
    obtain ⟨T18, H18, Ls18, X18, e18, V18', W18, FF18, st18⟩ := own_stI X17 hx hZ e17 V17 (n := 14) (k := 10) rfl (by decide) (by decide) (g := (mkF m 75 #[.val (.int p1), .val (.int p2), .val (.int p3), .unset, .unset, .unset] [(.int (65536 : Int32)), (.int (10 : Int32)), (.ref b7), (.ref b7)])) rfl rfl (hb hby at_75)
    have V18 : own_VA Z H18 b7 .int [(.int (0 : Int32)), (.int (9 : Int32)), (.int (10 : Int32)), (.int (13 : Int32)), (.int (32 : Int32)), (.int (55295 : Int32)), (.int (57343 : Int32)), (.int (57344 : Int32)), (.int (65533 : Int32)), (.int (65535 : Int32)), (.int (65536 : Int32)), (.int (0 : Int32)), (.int (0 : Int32)), (.int (0 : Int32))] := V18'
    have N18 := FF18 _ N17 gb7
    have Z18 : n0 ≤ H18.size := Nat.le_trans Z17 (Nat.le_of_eq W18.size.symm)
    obtain ⟨T19, H19, Ls19, X19, e19, V19', W19, FF19, st19⟩ := own_stI X18 hx hZ e18 V18 (n := 14) (k := 11) rfl (by decide) (by decide) (g := (mkF m 81 #[.val (.int p1), .val (.int p2), .val (.int p3), .unset, .unset, .unset] [(.int (1114111 : Int32)), (.int (11 : Int32)), (.ref b7), (.ref b7)])) rfl rfl (hb hby at_81)
    have V19 : own_VA Z H19 b7 .int [(.int (0 : Int32)), (.int (9 : Int32)), (.int (10 : Int32)), (.int (13 : Int32)), (.int (32 : Int32)), (.int (55295 : Int32)), (.int (57343 : Int32)), (.int (57344 : Int32)), (.int (65533 : Int32)), (.int (65535 : Int32)), (.int (65536 : Int32)), (.int (1114111 : Int32)), (.int (0 : Int32)), (.int (0 : Int32))] := V19'
    have N19 := FF19 _ N18 gb7
    have Z19 : n0 ≤ H19.size := Nat.le_trans Z18 (Nat.le_of_eq W19.size.symm)
    obtain ⟨T20, H20, Ls20, X20, e20, V20', W20, FF20, st20⟩ := own_stI X19 hx hZ e19 V19 (n := 14) (k := 12) rfl (by decide) (by decide) (g := (mkF m 87 #[.val (.int p1), .val (.int p2), .val (.int p3), .unset, .unset, .unset] [(.int (-2147483648 : Int32)), (.int (12 : Int32)), (.ref b7), (.ref b7)])) rfl rfl (hb hby at_87)
    have V20 : own_VA Z H20 b7 .int [(.int (0 : Int32)), (.int (9 : Int32)), (.int (10 : Int32)), (.int (13 : Int32)), (.int (32 : Int32)), (.int (55295 : Int32)), (.int (57343 : Int32)), (.int (57344 : Int32)), (.int (65533 : Int32)), (.int (65535 : Int32)), (.int (65536 : Int32)), (.int (1114111 : Int32)), (.int (-2147483648 : Int32)), (.int (0 : Int32))] := V20'
    have N20 := FF20 _ N19 gb7
    have Z20 : n0 ≤ H20.size := Nat.le_trans Z19 (Nat.le_of_eq W20.size.symm)
    obtain ⟨T21, H21, Ls21, X21, e21, V21', W21, FF21, st21⟩ := own_stI X20 hx hZ e20 V20 (n := 14) (k := 13) rfl (by decide) (by decide) (g := (mkF m 93 #[.val (.int p1), .val (.int p2), .val (.int p3), .unset, .unset, .unset] [(.int (2147483647 : Int32)), (.int (13 : Int32)), (.ref b7), (.ref b7)])) rfl rfl (hb hby at_93)
    have V21 : own_VA Z H21 b7 .int [(.int (0 : Int32)), (.int (9 : Int32)), (.int (10 : Int32)), (.int (13 : Int32)), (.int (32 : Int32)), (.int (55295 : Int32)), (.int (57343 : Int32)), (.int (57344 : Int32)), (.int (65533 : Int32)), (.int (65535 : Int32)), (.int (65536 : Int32)), (.int (1114111 : Int32)), (.int (-2147483648 : Int32)), (.int (2147483647 : Int32))] := V21'
    have N21 := FF21 _ N20 gb7
    have Z21 : n0 ≤ H21.size := Nat.le_trans Z20 (Nat.le_of_eq W21.size.symm)
    have hj22 : ¬ (((p2 &&& (2147483647 : Int32)) - ((p2 &&& (2147483647 : Int32)) / (14 : Int32)) * (14 : Int32)) < 0 ∨ 14 ≤ (((p2 &&& (2147483647 : Int32)) - ((p2 &&& (2147483647 : Int32)) / (14 : Int32)) * (14 : Int32))).toNatClampNeg) := own_remin (own_nn _) (by decide) (by decide)
    obtain ⟨w22, hv22⟩ := own_some (us := [(0 : Int32), (9 : Int32), (10 : Int32), (13 : Int32), (32 : Int32), (55295 : Int32), (57343 : Int32), (57344 : Int32), (65533 : Int32), (65535 : Int32), (65536 : Int32), (1114111 : Int32), (-2147483648 : Int32), (2147483647 : Int32)]) (vs := [(.int (0 : Int32)), (.int (9 : Int32)), (.int (10 : Int32)), (.int (13 : Int32)), (.int (32 : Int32)), (.int (55295 : Int32)), (.int (57343 : Int32)), (.int (57344 : Int32)), (.int (65533 : Int32)), (.int (65535 : Int32)), (.int (65536 : Int32)), (.int (1114111 : Int32)), (.int (-2147483648 : Int32)), (.int (2147483647 : Int32))]) rfl (n := 14) rfl (own_lt hj22)
    obtain ⟨_, _, ⟨T23, L23, k23, n23⟩, -, X23, ⟨Lc23, hQ23, l23, y23, z23⟩, st23⟩ := Jvm.LawKit.callS X21 hx (y := (⟨"com/example/axislint/axislint/schema/EntityFiles", "isChar", "(I)Z"⟩ : MethodName)) hown (mvT hZ (hw _ (List.mem_of_getElem? (i := 0) rfl))) (mvT hZ (hw _ (List.mem_of_getElem? (i := 1) rfl))) (mvT hZ (hw _ (List.mem_of_getElem? (i := 2) rfl))) (mvT hZ (hw _ (List.mem_of_getElem? (i := 3) rfl))) (by decide) (backOf (W := 0) (rm1 l Z a0 hw [] (w22 + ((p3 &&& (7 : Int32)) - (4 : Int32))) H21 n0) hZ (hw _ (List.mem_of_getElem? (i := 3) rfl)) (hw _ (List.mem_of_getElem? (i := 2) rfl)) (by decide) (by decide)) (g := (mkF m 120 #[.val (.int p1), .val (.int p2), .val (.int p3), .val (.int (w22 + ((p3 &&& (7 : Int32)) - (4 : Int32)))), .val (.ref b7), .val (.int w22)] [(.int (w22 + ((p3 &&& (7 : Int32)) - (4 : Int32))))])) rfl (by rw [hml]; rfl) (argsL := [(.int (w22 + ((p3 &&& (7 : Int32)) - (4 : Int32))))]) (rest := []) (lenOf pd_0_0 rfl) rfl (by show 2 * 0 + _ ≤ _; exact Nat.le_of_eq rfl) (hb hby at_120) (fun _ _ => ⟨rfl, e21, (by decide : 1 + 0 ≤ _), (by decide : 14 + 0 ≤ _)⟩)
    dsimp only [Pt.U, Pt.locs, Pt.cells, Pt.slots] at X23 l23 y23 z23 st23 hQ23
    subst l23 y23 z23
    obtain ⟨rfl, N23q, e23⟩ := hQ23
    have N23 := Fr.app N21 N23q
    obtain ⟨_, _, ⟨T24, L24, k24, n24⟩, -, X24, ⟨Lc24, hQ24, l24, y24, z24⟩, st24⟩ := Jvm.LawKit.callS X23 hx (y := (⟨"com/example/axislint/axislint/schema/EntityFilesIsCharPinLaw", "expected", "(I)Z"⟩ : MethodName)) hown (mvT hZ (hw _ (List.mem_of_getElem? (i := 6) rfl))) (mvT hZ (hw _ (List.mem_of_getElem? (i := 7) rfl))) (mvT hZ (hw _ (List.mem_of_getElem? (i := 8) rfl))) (mvT hZ (hw _ (List.mem_of_getElem? (i := 9) rfl))) (by decide) (backOf (W := 1) (rm2 l Z a0 hw [] (w22 + ((p3 &&& (7 : Int32)) - (4 : Int32))) H21 n0) hZ (hw _ (List.mem_of_getElem? (i := 9) rfl)) (hw _ (List.mem_of_getElem? (i := 8) rfl)) (by decide) (by decide)) (g := (mkF m 124 #[.val (.int p1), .val (.int p2), .val (.int p3), .val (.int (w22 + ((p3 &&& (7 : Int32)) - (4 : Int32)))), .val (.ref b7), .val (.int w22)] [(.int (w22 + ((p3 &&& (7 : Int32)) - (4 : Int32)))), (.int (f1_0 (w22 + ((p3 &&& (7 : Int32)) - (4 : Int32)))))])) rfl (by rw [hml]; rfl) (argsL := [(.int (w22 + ((p3 &&& (7 : Int32)) - (4 : Int32))))]) (rest := [(.int (f1_0 (w22 + ((p3 &&& (7 : Int32)) - (4 : Int32)))))]) (lenOf pd_0_0 rfl) rfl (by show 2 * 0 + _ ≤ _; exact Nat.le_of_eq rfl) (hb hby at_124) (fun _ _ => ⟨rfl, e23, (by decide : 1 + 0 ≤ _), (by decide : 14 + 0 ≤ _)⟩)
    dsimp only [Pt.U, Pt.locs, Pt.cells, Pt.slots] at X24 l24 y24 z24 st24 hQ24
    subst l24 y24 z24
    obtain ⟨rfl, N24q, e24⟩ := hQ24
    have N24 := Fr.app N23 N24q
    have h127_25 : (f1_0 (w22 + ((p3 &&& (7 : Int32)) - (4 : Int32)))) = (f2_0 (w22 + ((p3 &&& (7 : Int32)) - (4 : Int32)))) := own_eq _
    have pre26 : ∀ t, Steps p.tables e below (T24.setTop (mkF m 135 #[.val (.int p1), .val (.int p2), .val (.int p3), .val (.int (w22 + ((p3 &&& (7 : Int32)) - (4 : Int32)))), .val (.ref b7), .val (.int w22)] [(.int (1 : Int32))])) t → Steps p.tables e below (s₁.setTop (entryFrame m #[(.int p1), (.int p2), (.int p3)] maxLocals)) t := by
      intro t k
      refine pre2 t ?_
      refine XS.ifYes X0.here hx rfl (pc0 := 5) (pc' := 13) rfl (hb hby at_5) rfl ((if0 _ _).trans (feq h5_1).2) (by decide) (by decide) ?_
      show Steps p.tables e below (s₁.setTop (mkF m 13 #[.val (.int p1), .val (.int p2), .val (.int p3), .unset, .unset, .unset] [])) _
      refine XS.bipush X0.here hx rfl (hb hby at_13) ?_
      show Steps p.tables e below (s₁.setTop (mkF m 15 #[.val (.int p1), .val (.int p2), .val (.int p3), .unset, .unset, .unset] [(.int (14 : Int32))])) _
      refine st7 _ ?_
      show Steps p.tables e below (T7.setTop (mkF m 17 #[.val (.int p1), .val (.int p2), .val (.int p3), .unset, .unset, .unset] [(.ref b7)])) _
      refine XS.dup X7.here hx rfl (hb hby at_17) rfl rfl ?_
      show Steps p.tables e below (T7.setTop (mkF m 18 #[.val (.int p1), .val (.int p2), .val (.int p3), .unset, .unset, .unset] [(.ref b7), (.ref b7)])) _
      refine XS.iconst X7.here hx rfl (hb hby at_18) ?_
      show Steps p.tables e below (T7.setTop (mkF m 19 #[.val (.int p1), .val (.int p2), .val (.int p3), .unset, .unset, .unset] [(.int (0 : Int32)), (.ref b7), (.ref b7)])) _
      refine XS.iconst X7.here hx rfl (hb hby at_19) ?_
      show Steps p.tables e below (T7.setTop (mkF m 20 #[.val (.int p1), .val (.int p2), .val (.int p3), .unset, .unset, .unset] [(.int (0 : Int32)), (.int (0 : Int32)), (.ref b7), (.ref b7)])) _
      refine st8 _ ?_
      show Steps p.tables e below (T8.setTop (mkF m 21 #[.val (.int p1), .val (.int p2), .val (.int p3), .unset, .unset, .unset] [(.ref b7)])) _
      refine XS.dup X8.here hx rfl (hb hby at_21) rfl rfl ?_
      show Steps p.tables e below (T8.setTop (mkF m 22 #[.val (.int p1), .val (.int p2), .val (.int p3), .unset, .unset, .unset] [(.ref b7), (.ref b7)])) _
      refine XS.iconst X8.here hx rfl (hb hby at_22) ?_
      show Steps p.tables e below (T8.setTop (mkF m 23 #[.val (.int p1), .val (.int p2), .val (.int p3), .unset, .unset, .unset] [(.int (1 : Int32)), (.ref b7), (.ref b7)])) _
      refine XS.bipush X8.here hx rfl (hb hby at_23) ?_
      show Steps p.tables e below (T8.setTop (mkF m 25 #[.val (.int p1), .val (.int p2), .val (.int p3), .unset, .unset, .unset] [(.int (9 : Int32)), (.int (1 : Int32)), (.ref b7), (.ref b7)])) _
      refine st9 _ ?_
      show Steps p.tables e below (T9.setTop (mkF m 26 #[.val (.int p1), .val (.int p2), .val (.int p3), .unset, .unset, .unset] [(.ref b7)])) _
      refine XS.dup X9.here hx rfl (hb hby at_26) rfl rfl ?_
      show Steps p.tables e below (T9.setTop (mkF m 27 #[.val (.int p1), .val (.int p2), .val (.int p3), .unset, .unset, .unset] [(.ref b7), (.ref b7)])) _
      refine XS.iconst X9.here hx rfl (hb hby at_27) ?_
      show Steps p.tables e below (T9.setTop (mkF m 28 #[.val (.int p1), .val (.int p2), .val (.int p3), .unset, .unset, .unset] [(.int (2 : Int32)), (.ref b7), (.ref b7)])) _
      refine XS.bipush X9.here hx rfl (hb hby at_28) ?_
      show Steps p.tables e below (T9.setTop (mkF m 30 #[.val (.int p1), .val (.int p2), .val (.int p3), .unset, .unset, .unset] [(.int (10 : Int32)), (.int (2 : Int32)), (.ref b7), (.ref b7)])) _
      refine st10 _ ?_
      show Steps p.tables e below (T10.setTop (mkF m 31 #[.val (.int p1), .val (.int p2), .val (.int p3), .unset, .unset, .unset] [(.ref b7)])) _
      refine XS.dup X10.here hx rfl (hb hby at_31) rfl rfl ?_
      show Steps p.tables e below (T10.setTop (mkF m 32 #[.val (.int p1), .val (.int p2), .val (.int p3), .unset, .unset, .unset] [(.ref b7), (.ref b7)])) _
      refine XS.iconst X10.here hx rfl (hb hby at_32) ?_
      show Steps p.tables e below (T10.setTop (mkF m 33 #[.val (.int p1), .val (.int p2), .val (.int p3), .unset, .unset, .unset] [(.int (3 : Int32)), (.ref b7), (.ref b7)])) _
      refine XS.bipush X10.here hx rfl (hb hby at_33) ?_
      show Steps p.tables e below (T10.setTop (mkF m 35 #[.val (.int p1), .val (.int p2), .val (.int p3), .unset, .unset, .unset] [(.int (13 : Int32)), (.int (3 : Int32)), (.ref b7), (.ref b7)])) _
      refine st11 _ ?_
      show Steps p.tables e below (T11.setTop (mkF m 36 #[.val (.int p1), .val (.int p2), .val (.int p3), .unset, .unset, .unset] [(.ref b7)])) _
      refine XS.dup X11.here hx rfl (hb hby at_36) rfl rfl ?_
      show Steps p.tables e below (T11.setTop (mkF m 37 #[.val (.int p1), .val (.int p2), .val (.int p3), .unset, .unset, .unset] [(.ref b7), (.ref b7)])) _
      refine XS.iconst X11.here hx rfl (hb hby at_37) ?_
      show Steps p.tables e below (T11.setTop (mkF m 38 #[.val (.int p1), .val (.int p2), .val (.int p3), .unset, .unset, .unset] [(.int (4 : Int32)), (.ref b7), (.ref b7)])) _
      refine XS.bipush X11.here hx rfl (hb hby at_38) ?_
      show Steps p.tables e below (T11.setTop (mkF m 40 #[.val (.int p1), .val (.int p2), .val (.int p3), .unset, .unset, .unset] [(.int (32 : Int32)), (.int (4 : Int32)), (.ref b7), (.ref b7)])) _
      refine st12 _ ?_
      show Steps p.tables e below (T12.setTop (mkF m 41 #[.val (.int p1), .val (.int p2), .val (.int p3), .unset, .unset, .unset] [(.ref b7)])) _
      refine XS.dup X12.here hx rfl (hb hby at_41) rfl rfl ?_
      show Steps p.tables e below (T12.setTop (mkF m 42 #[.val (.int p1), .val (.int p2), .val (.int p3), .unset, .unset, .unset] [(.ref b7), (.ref b7)])) _
      refine XS.iconst X12.here hx rfl (hb hby at_42) ?_
      show Steps p.tables e below (T12.setTop (mkF m 43 #[.val (.int p1), .val (.int p2), .val (.int p3), .unset, .unset, .unset] [(.int (5 : Int32)), (.ref b7), (.ref b7)])) _
      refine X12.ldcInt hx hown (mvT hZ (hw _ (List.mem_of_getElem? (i := 16) rfl))) (g := (mkF m 43 #[.val (.int p1), .val (.int p2), .val (.int p3), .unset, .unset, .unset] [(.int (5 : Int32)), (.ref b7), (.ref b7)])) rfl (hb hby at_43) _ ?_
      show Steps p.tables e below (T12.setTop (mkF m 45 #[.val (.int p1), .val (.int p2), .val (.int p3), .unset, .unset, .unset] [(.int (55295 : Int32)), (.int (5 : Int32)), (.ref b7), (.ref b7)])) _
      refine st13 _ ?_
      show Steps p.tables e below (T13.setTop (mkF m 46 #[.val (.int p1), .val (.int p2), .val (.int p3), .unset, .unset, .unset] [(.ref b7)])) _
      refine XS.dup X13.here hx rfl (hb hby at_46) rfl rfl ?_
      show Steps p.tables e below (T13.setTop (mkF m 47 #[.val (.int p1), .val (.int p2), .val (.int p3), .unset, .unset, .unset] [(.ref b7), (.ref b7)])) _
      refine XS.bipush X13.here hx rfl (hb hby at_47) ?_
      show Steps p.tables e below (T13.setTop (mkF m 49 #[.val (.int p1), .val (.int p2), .val (.int p3), .unset, .unset, .unset] [(.int (6 : Int32)), (.ref b7), (.ref b7)])) _
      refine X13.ldcInt hx hown (mvT hZ (hw _ (List.mem_of_getElem? (i := 17) rfl))) (g := (mkF m 49 #[.val (.int p1), .val (.int p2), .val (.int p3), .unset, .unset, .unset] [(.int (6 : Int32)), (.ref b7), (.ref b7)])) rfl (hb hby at_49) _ ?_
      show Steps p.tables e below (T13.setTop (mkF m 51 #[.val (.int p1), .val (.int p2), .val (.int p3), .unset, .unset, .unset] [(.int (57343 : Int32)), (.int (6 : Int32)), (.ref b7), (.ref b7)])) _
      refine st14 _ ?_
      show Steps p.tables e below (T14.setTop (mkF m 52 #[.val (.int p1), .val (.int p2), .val (.int p3), .unset, .unset, .unset] [(.ref b7)])) _
      refine XS.dup X14.here hx rfl (hb hby at_52) rfl rfl ?_
      show Steps p.tables e below (T14.setTop (mkF m 53 #[.val (.int p1), .val (.int p2), .val (.int p3), .unset, .unset, .unset] [(.ref b7), (.ref b7)])) _
      refine XS.bipush X14.here hx rfl (hb hby at_53) ?_
      show Steps p.tables e below (T14.setTop (mkF m 55 #[.val (.int p1), .val (.int p2), .val (.int p3), .unset, .unset, .unset] [(.int (7 : Int32)), (.ref b7), (.ref b7)])) _
      refine X14.ldcInt hx hown (mvT hZ (hw _ (List.mem_of_getElem? (i := 18) rfl))) (g := (mkF m 55 #[.val (.int p1), .val (.int p2), .val (.int p3), .unset, .unset, .unset] [(.int (7 : Int32)), (.ref b7), (.ref b7)])) rfl (hb hby at_55) _ ?_
      show Steps p.tables e below (T14.setTop (mkF m 57 #[.val (.int p1), .val (.int p2), .val (.int p3), .unset, .unset, .unset] [(.int (57344 : Int32)), (.int (7 : Int32)), (.ref b7), (.ref b7)])) _
      refine st15 _ ?_
      show Steps p.tables e below (T15.setTop (mkF m 58 #[.val (.int p1), .val (.int p2), .val (.int p3), .unset, .unset, .unset] [(.ref b7)])) _
      refine XS.dup X15.here hx rfl (hb hby at_58) rfl rfl ?_
      show Steps p.tables e below (T15.setTop (mkF m 59 #[.val (.int p1), .val (.int p2), .val (.int p3), .unset, .unset, .unset] [(.ref b7), (.ref b7)])) _
      refine XS.bipush X15.here hx rfl (hb hby at_59) ?_
      show Steps p.tables e below (T15.setTop (mkF m 61 #[.val (.int p1), .val (.int p2), .val (.int p3), .unset, .unset, .unset] [(.int (8 : Int32)), (.ref b7), (.ref b7)])) _
      refine X15.ldcInt hx hown (mvT hZ (hw _ (List.mem_of_getElem? (i := 19) rfl))) (g := (mkF m 61 #[.val (.int p1), .val (.int p2), .val (.int p3), .unset, .unset, .unset] [(.int (8 : Int32)), (.ref b7), (.ref b7)])) rfl (hb hby at_61) _ ?_
      show Steps p.tables e below (T15.setTop (mkF m 63 #[.val (.int p1), .val (.int p2), .val (.int p3), .unset, .unset, .unset] [(.int (65533 : Int32)), (.int (8 : Int32)), (.ref b7), (.ref b7)])) _
      refine st16 _ ?_
      show Steps p.tables e below (T16.setTop (mkF m 64 #[.val (.int p1), .val (.int p2), .val (.int p3), .unset, .unset, .unset] [(.ref b7)])) _
      refine XS.dup X16.here hx rfl (hb hby at_64) rfl rfl ?_
      show Steps p.tables e below (T16.setTop (mkF m 65 #[.val (.int p1), .val (.int p2), .val (.int p3), .unset, .unset, .unset] [(.ref b7), (.ref b7)])) _
      refine XS.bipush X16.here hx rfl (hb hby at_65) ?_
      show Steps p.tables e below (T16.setTop (mkF m 67 #[.val (.int p1), .val (.int p2), .val (.int p3), .unset, .unset, .unset] [(.int (9 : Int32)), (.ref b7), (.ref b7)])) _
      refine X16.ldcInt hx hown (mvT hZ (hw _ (List.mem_of_getElem? (i := 14) rfl))) (g := (mkF m 67 #[.val (.int p1), .val (.int p2), .val (.int p3), .unset, .unset, .unset] [(.int (9 : Int32)), (.ref b7), (.ref b7)])) rfl (hb hby at_67) _ ?_
      show Steps p.tables e below (T16.setTop (mkF m 69 #[.val (.int p1), .val (.int p2), .val (.int p3), .unset, .unset, .unset] [(.int (65535 : Int32)), (.int (9 : Int32)), (.ref b7), (.ref b7)])) _
      refine st17 _ ?_
      show Steps p.tables e below (T17.setTop (mkF m 70 #[.val (.int p1), .val (.int p2), .val (.int p3), .unset, .unset, .unset] [(.ref b7)])) _
      refine XS.dup X17.here hx rfl (hb hby at_70) rfl rfl ?_
      show Steps p.tables e below (T17.setTop (mkF m 71 #[.val (.int p1), .val (.int p2), .val (.int p3), .unset, .unset, .unset] [(.ref b7), (.ref b7)])) _
      refine XS.bipush X17.here hx rfl (hb hby at_71) ?_
      show Steps p.tables e below (T17.setTop (mkF m 73 #[.val (.int p1), .val (.int p2), .val (.int p3), .unset, .unset, .unset] [(.int (10 : Int32)), (.ref b7), (.ref b7)])) _
      refine X17.ldcInt hx hown (mvT hZ (hw _ (List.mem_of_getElem? (i := 20) rfl))) (g := (mkF m 73 #[.val (.int p1), .val (.int p2), .val (.int p3), .unset, .unset, .unset] [(.int (10 : Int32)), (.ref b7), (.ref b7)])) rfl (hb hby at_73) _ ?_
      show Steps p.tables e below (T17.setTop (mkF m 75 #[.val (.int p1), .val (.int p2), .val (.int p3), .unset, .unset, .unset] [(.int (65536 : Int32)), (.int (10 : Int32)), (.ref b7), (.ref b7)])) _
      refine st18 _ ?_
      show Steps p.tables e below (T18.setTop (mkF m 76 #[.val (.int p1), .val (.int p2), .val (.int p3), .unset, .unset, .unset] [(.ref b7)])) _
      refine XS.dup X18.here hx rfl (hb hby at_76) rfl rfl ?_
      show Steps p.tables e below (T18.setTop (mkF m 77 #[.val (.int p1), .val (.int p2), .val (.int p3), .unset, .unset, .unset] [(.ref b7), (.ref b7)])) _
      refine XS.bipush X18.here hx rfl (hb hby at_77) ?_
      show Steps p.tables e below (T18.setTop (mkF m 79 #[.val (.int p1), .val (.int p2), .val (.int p3), .unset, .unset, .unset] [(.int (11 : Int32)), (.ref b7), (.ref b7)])) _
      refine X18.ldcInt hx hown (mvT hZ (hw _ (List.mem_of_getElem? (i := 10) rfl))) (g := (mkF m 79 #[.val (.int p1), .val (.int p2), .val (.int p3), .unset, .unset, .unset] [(.int (11 : Int32)), (.ref b7), (.ref b7)])) rfl (hb hby at_79) _ ?_
      show Steps p.tables e below (T18.setTop (mkF m 81 #[.val (.int p1), .val (.int p2), .val (.int p3), .unset, .unset, .unset] [(.int (1114111 : Int32)), (.int (11 : Int32)), (.ref b7), (.ref b7)])) _
      refine st19 _ ?_
      show Steps p.tables e below (T19.setTop (mkF m 82 #[.val (.int p1), .val (.int p2), .val (.int p3), .unset, .unset, .unset] [(.ref b7)])) _
      refine XS.dup X19.here hx rfl (hb hby at_82) rfl rfl ?_
      show Steps p.tables e below (T19.setTop (mkF m 83 #[.val (.int p1), .val (.int p2), .val (.int p3), .unset, .unset, .unset] [(.ref b7), (.ref b7)])) _
      refine XS.bipush X19.here hx rfl (hb hby at_83) ?_
      show Steps p.tables e below (T19.setTop (mkF m 85 #[.val (.int p1), .val (.int p2), .val (.int p3), .unset, .unset, .unset] [(.int (12 : Int32)), (.ref b7), (.ref b7)])) _
      refine X19.ldcInt hx hown (mvT hZ (hw _ (List.mem_of_getElem? (i := 21) rfl))) (g := (mkF m 85 #[.val (.int p1), .val (.int p2), .val (.int p3), .unset, .unset, .unset] [(.int (12 : Int32)), (.ref b7), (.ref b7)])) rfl (hb hby at_85) _ ?_
      show Steps p.tables e below (T19.setTop (mkF m 87 #[.val (.int p1), .val (.int p2), .val (.int p3), .unset, .unset, .unset] [(.int (-2147483648 : Int32)), (.int (12 : Int32)), (.ref b7), (.ref b7)])) _
      refine st20 _ ?_
      show Steps p.tables e below (T20.setTop (mkF m 88 #[.val (.int p1), .val (.int p2), .val (.int p3), .unset, .unset, .unset] [(.ref b7)])) _
      refine XS.dup X20.here hx rfl (hb hby at_88) rfl rfl ?_
      show Steps p.tables e below (T20.setTop (mkF m 89 #[.val (.int p1), .val (.int p2), .val (.int p3), .unset, .unset, .unset] [(.ref b7), (.ref b7)])) _
      refine XS.bipush X20.here hx rfl (hb hby at_89) ?_
      show Steps p.tables e below (T20.setTop (mkF m 91 #[.val (.int p1), .val (.int p2), .val (.int p3), .unset, .unset, .unset] [(.int (13 : Int32)), (.ref b7), (.ref b7)])) _
      refine X20.ldcInt hx hown (mvT hZ (hw _ (List.mem_of_getElem? (i := 22) rfl))) (g := (mkF m 91 #[.val (.int p1), .val (.int p2), .val (.int p3), .unset, .unset, .unset] [(.int (13 : Int32)), (.ref b7), (.ref b7)])) rfl (hb hby at_91) _ ?_
      show Steps p.tables e below (T20.setTop (mkF m 93 #[.val (.int p1), .val (.int p2), .val (.int p3), .unset, .unset, .unset] [(.int (2147483647 : Int32)), (.int (13 : Int32)), (.ref b7), (.ref b7)])) _
      refine st21 _ ?_
      show Steps p.tables e below (T21.setTop (mkF m 94 #[.val (.int p1), .val (.int p2), .val (.int p3), .unset, .unset, .unset] [(.ref b7)])) _
      refine XS.astore X21.here hx rfl (hb hby at_94) rfl rfl (l' := #[.val (.int p1), .val (.int p2), .val (.int p3), .unset, .val (.ref b7), .unset]) rfl ?_
      show Steps p.tables e below (T21.setTop (mkF m 96 #[.val (.int p1), .val (.int p2), .val (.int p3), .unset, .val (.ref b7), .unset] [])) _
      refine XS.aload X21.here hx rfl (hb hby at_96) rfl rfl ?_
      show Steps p.tables e below (T21.setTop (mkF m 98 #[.val (.int p1), .val (.int p2), .val (.int p3), .unset, .val (.ref b7), .unset] [(.ref b7)])) _
      refine XS.iloadN X21.here hx rfl (hb hby at_98) rfl ?_
      show Steps p.tables e below (T21.setTop (mkF m 99 #[.val (.int p1), .val (.int p2), .val (.int p3), .unset, .val (.ref b7), .unset] [(.int p2), (.ref b7)])) _
      refine X21.ldcInt hx hown (mvT hZ (hw _ (List.mem_of_getElem? (i := 22) rfl))) (g := (mkF m 99 #[.val (.int p1), .val (.int p2), .val (.int p3), .unset, .val (.ref b7), .unset] [(.int p2), (.ref b7)])) rfl (hb hby at_99) _ ?_
      show Steps p.tables e below (T21.setTop (mkF m 101 #[.val (.int p1), .val (.int p2), .val (.int p3), .unset, .val (.ref b7), .unset] [(.int (2147483647 : Int32)), (.int p2), (.ref b7)])) _
      refine XS.iand X21.here hx rfl (hb hby at_101) rfl ?_
      show Steps p.tables e below (T21.setTop (mkF m 102 #[.val (.int p1), .val (.int p2), .val (.int p3), .unset, .val (.ref b7), .unset] [(.int (p2 &&& (2147483647 : Int32))), (.ref b7)])) _
      refine XS.aload X21.here hx rfl (hb hby at_102) rfl rfl ?_
      show Steps p.tables e below (T21.setTop (mkF m 104 #[.val (.int p1), .val (.int p2), .val (.int p3), .unset, .val (.ref b7), .unset] [(.ref b7), (.int (p2 &&& (2147483647 : Int32))), (.ref b7)])) _
      refine own_len X21 hx hZ e21 V21 (n := 14) (k := (14 : Int32)) rfl (by decide) (g := (mkF m 104 #[.val (.int p1), .val (.int p2), .val (.int p3), .unset, .val (.ref b7), .unset] [(.ref b7), (.int (p2 &&& (2147483647 : Int32))), (.ref b7)])) rfl rfl (hb hby at_104) _ ?_
      show Steps p.tables e below (T21.setTop (mkF m 105 #[.val (.int p1), .val (.int p2), .val (.int p3), .unset, .val (.ref b7), .unset] [(.int (14 : Int32)), (.int (p2 &&& (2147483647 : Int32))), (.ref b7)])) _
      refine XS.irem X21.here hx rfl (hb hby at_105) rfl (by decide) ?_
      show Steps p.tables e below (T21.setTop (mkF m 106 #[.val (.int p1), .val (.int p2), .val (.int p3), .unset, .val (.ref b7), .unset] [(.int ((p2 &&& (2147483647 : Int32)) - ((p2 &&& (2147483647 : Int32)) / (14 : Int32)) * (14 : Int32))), (.ref b7)])) _
      refine own_ldI X21 hx hZ e21 V21 (n := 14) (v := (.int w22)) rfl hj22 hv22 (g := (mkF m 106 #[.val (.int p1), .val (.int p2), .val (.int p3), .unset, .val (.ref b7), .unset] [(.int ((p2 &&& (2147483647 : Int32)) - ((p2 &&& (2147483647 : Int32)) / (14 : Int32)) * (14 : Int32))), (.ref b7)])) rfl rfl (hb hby at_106) _ ?_
      show Steps p.tables e below (T21.setTop (mkF m 107 #[.val (.int p1), .val (.int p2), .val (.int p3), .unset, .val (.ref b7), .unset] [(.int w22)])) _
      refine XS.istore X21.here hx rfl (hb hby at_107) rfl (l' := #[.val (.int p1), .val (.int p2), .val (.int p3), .unset, .val (.ref b7), .val (.int w22)]) rfl ?_
      show Steps p.tables e below (T21.setTop (mkF m 109 #[.val (.int p1), .val (.int p2), .val (.int p3), .unset, .val (.ref b7), .val (.int w22)] [])) _
      refine XS.iload X21.here hx rfl (hb hby at_109) rfl ?_
      show Steps p.tables e below (T21.setTop (mkF m 111 #[.val (.int p1), .val (.int p2), .val (.int p3), .unset, .val (.ref b7), .val (.int w22)] [(.int w22)])) _
      refine XS.iloadN X21.here hx rfl (hb hby at_111) rfl ?_
      show Steps p.tables e below (T21.setTop (mkF m 112 #[.val (.int p1), .val (.int p2), .val (.int p3), .unset, .val (.ref b7), .val (.int w22)] [(.int p3), (.int w22)])) _
      refine XS.bipush X21.here hx rfl (hb hby at_112) ?_
      show Steps p.tables e below (T21.setTop (mkF m 114 #[.val (.int p1), .val (.int p2), .val (.int p3), .unset, .val (.ref b7), .val (.int w22)] [(.int (7 : Int32)), (.int p3), (.int w22)])) _
      refine XS.iand X21.here hx rfl (hb hby at_114) rfl ?_
      show Steps p.tables e below (T21.setTop (mkF m 115 #[.val (.int p1), .val (.int p2), .val (.int p3), .unset, .val (.ref b7), .val (.int w22)] [(.int (p3 &&& (7 : Int32))), (.int w22)])) _
      refine XS.iconst X21.here hx rfl (hb hby at_115) ?_
      show Steps p.tables e below (T21.setTop (mkF m 116 #[.val (.int p1), .val (.int p2), .val (.int p3), .unset, .val (.ref b7), .val (.int w22)] [(.int (4 : Int32)), (.int (p3 &&& (7 : Int32))), (.int w22)])) _
      refine XS.isub X21.here hx rfl (hb hby at_116) rfl ?_
      show Steps p.tables e below (T21.setTop (mkF m 117 #[.val (.int p1), .val (.int p2), .val (.int p3), .unset, .val (.ref b7), .val (.int w22)] [(.int ((p3 &&& (7 : Int32)) - (4 : Int32))), (.int w22)])) _
      refine XS.iadd X21.here hx rfl (hb hby at_117) rfl ?_
      show Steps p.tables e below (T21.setTop (mkF m 118 #[.val (.int p1), .val (.int p2), .val (.int p3), .unset, .val (.ref b7), .val (.int w22)] [(.int (w22 + ((p3 &&& (7 : Int32)) - (4 : Int32))))])) _
      refine XS.istoreN X21.here hx rfl (hb hby at_118) rfl (l' := #[.val (.int p1), .val (.int p2), .val (.int p3), .val (.int (w22 + ((p3 &&& (7 : Int32)) - (4 : Int32)))), .val (.ref b7), .val (.int w22)]) rfl ?_
      show Steps p.tables e below (T21.setTop (mkF m 119 #[.val (.int p1), .val (.int p2), .val (.int p3), .val (.int (w22 + ((p3 &&& (7 : Int32)) - (4 : Int32)))), .val (.ref b7), .val (.int w22)] [])) _
      refine XS.iloadN X21.here hx rfl (hb hby at_119) rfl ?_
      show Steps p.tables e below (T21.setTop (mkF m 120 #[.val (.int p1), .val (.int p2), .val (.int p3), .val (.int (w22 + ((p3 &&& (7 : Int32)) - (4 : Int32)))), .val (.ref b7), .val (.int w22)] [(.int (w22 + ((p3 &&& (7 : Int32)) - (4 : Int32))))])) _
      refine st23 _ ?_
      show Steps p.tables e below (T23.setTop (mkF m 123 #[.val (.int p1), .val (.int p2), .val (.int p3), .val (.int (w22 + ((p3 &&& (7 : Int32)) - (4 : Int32)))), .val (.ref b7), .val (.int w22)] [(.int (f1_0 (w22 + ((p3 &&& (7 : Int32)) - (4 : Int32)))))])) _
      refine XS.iloadN X23.here hx rfl (hb hby at_123) rfl ?_
      show Steps p.tables e below (T23.setTop (mkF m 124 #[.val (.int p1), .val (.int p2), .val (.int p3), .val (.int (w22 + ((p3 &&& (7 : Int32)) - (4 : Int32)))), .val (.ref b7), .val (.int w22)] [(.int (w22 + ((p3 &&& (7 : Int32)) - (4 : Int32)))), (.int (f1_0 (w22 + ((p3 &&& (7 : Int32)) - (4 : Int32)))))])) _
      refine st24 _ ?_
      show Steps p.tables e below (T24.setTop (mkF m 127 #[.val (.int p1), .val (.int p2), .val (.int p3), .val (.int (w22 + ((p3 &&& (7 : Int32)) - (4 : Int32)))), .val (.ref b7), .val (.int w22)] [(.int (f2_0 (w22 + ((p3 &&& (7 : Int32)) - (4 : Int32))))), (.int (f1_0 (w22 + ((p3 &&& (7 : Int32)) - (4 : Int32)))))])) _
      refine XS.icmpNo X24.here hx rfl (hb hby at_127) rfl (teq h127_25).2 ?_
      show Steps p.tables e below (T24.setTop (mkF m 130 #[.val (.int p1), .val (.int p2), .val (.int p3), .val (.int (w22 + ((p3 &&& (7 : Int32)) - (4 : Int32)))), .val (.ref b7), .val (.int w22)] [])) _
      refine XS.iconst X24.here hx rfl (hb hby at_130) ?_
      show Steps p.tables e below (T24.setTop (mkF m 131 #[.val (.int p1), .val (.int p2), .val (.int p3), .val (.int (w22 + ((p3 &&& (7 : Int32)) - (4 : Int32)))), .val (.ref b7), .val (.int w22)] [(.int (1 : Int32))])) _
      refine XS.goto X24.here hx rfl (pc0 := 131) (pc' := 135) rfl (hb hby at_131) (by decide) (by decide) ?_
      show Steps p.tables e below (T24.setTop (mkF m 135 #[.val (.int p1), .val (.int p2), .val (.int p3), .val (.int (w22 + ((p3 &&& (7 : Int32)) - (4 : Int32)))), .val (.ref b7), .val (.int w22)] [(.int (1 : Int32))])) _
      exact k
    obtain ⟨fs, hr, hrun, hended, hW, hsame⟩ := X24.leave (v := some (.int (1 : Int32))) (fun h => by rw [Bd.returns] at h; cases h)
    refine ⟨_, _, pre26 _ ?_, hrun, hended, _, _, rfl, ?_, ⟨_, rfl⟩, hW, hsame.mono (by decide) (by decide)⟩
    · exact retN X24 hx (t := .boolean) Bd.returns (by simp) (hb hby at_135) hr
    · exact ⟨rfl, N24⟩
set_option maxRecDepth 65536 in
set_option maxHeartbeats 40000000 in
theorem comes_1 {Post : Tables → Env → Array Value → State → Outcome → State → Prop} (hpost : ∀ tb e args s v u, (limb_1_1.after args s (.returned v) u = true ∧ limb_1_2.after args s (.returned v) u = true ∧ True) → FrameEnd s (.returned v) u (Jvm.fieldLocs frame_1_writes args s ++ Jvm.arrayLocs frame_1_arrays args s ++ Jvm.staticLocs frame_1_statics s) 16 128 → Post tb e args s (.returned v) u) :
    ArmFor flags0 classFile x code maxLocals ret World_1 tables_1 room_1 Calls_1 rest_1 Pre_1 Post := by
  intro l hfl _ _ p e ha hc hk s m args below hf hA hF happ hP
  obtain ⟨hcalls, hrest, hpre⟩ := hP
  obtain ⟨-, -, -, hnamed, -, -, -, hat⟩ := (Spec.applies_iff hf).mp happ
  obtain ⟨hg, hn⟩ := and_e (Cond.before_iff.mp (show (Jvm.Cond.and given_1 narrow_1).before args s = true from hpre))
  obtain ⟨hc0, hr1⟩ := and_e hg
  obtain ⟨ha0, hr2⟩ := and_e hr1
  obtain ⟨ha1, hr3⟩ := and_e hr2
  obtain ⟨w0, w1, w2, rfl⟩ : ∃ w0 w1 w2 : Value, args = #[w0, w1, w2] := by
    have hs : args.size = 3 := by simpa [Cond.value, given_1] using hc0
    obtain ⟨L⟩ := args
    match L, hs with
    | [w0, w1, w2], _ => exact ⟨w0, w1, w2, rfl⟩
  have hw := fun d (hd : d ∈ tables_1) => atoms_spec (ws := Jvm.Cond.code x code maxLocals ret :: tables_1) hat d (List.mem_cons_of_mem _ hd)
  have hfit : Fit s := fun {y c} hc i hi => by
    obtain ⟨ha, rfl⟩ := Array.getElem?_eq_some_iff.mp hc
    have q := List.all_eq_true.mp ((Array.all_eq_true_iff_forall_mem.mp hF) _ (Array.getElem_mem ha)) i (List.mem_range.mpr hi)
    simpa [Array.getElem?_eq_getElem hi] using q
  obtain ⟨i0, ei0⟩ := is_v ha0
  obtain rfl : w0 = (.int i0) := Option.some.inj ei0
  obtain ⟨i1, ei1⟩ := is_v ha1
  obtain rfl : w1 = (.int i1) := Option.some.inj ei1
  obtain ⟨i2, ei2⟩ := is_v hr3
  obtain rfl : w2 = (.int i2) := Option.some.inj ei2
  obtain ⟨n, o, h1, h2, h3, _, L, rfl, ⟨rfl, N⟩, hq⟩ := rm0 l s _ hw tables_1 i0 i1 i2 s.heap s.heap.size (Nat.le_refl _) p e ha hc hk s m _ below hf ((Spec.applies_iff_loose hf).mp happ).1 ⟨rfl, State.Warmed39.refl s, rfl⟩ trivial
  refine ⟨n, _, h1, h2, h3, hpost _ _ _ _ _ _ ⟨Cond.after_iff.mpr rfl, Cond.after_iff.mpr (eq_i res_at (Term.int_eval (1)) rfl), trivial⟩ ⟨hq.1, hq.2.1, (hq.2.2.sift fun y hy => Or.inr (N y hy)).mono (by decide) (by decide)⟩⟩
theorem main_1_1 : Claimed_1_1 := comes_1 fun _ _ _ _ _ _ h hF => ⟨h.1, hF⟩
theorem main_1_2 : Claimed_1_2 := comes_1 fun _ _ _ _ _ _ h hF => ⟨h.2.1, hF⟩
end Jvm.Pilot.@@N@@
namespace Jvm.Pilot.@@N@@
open Jvm Jvm.ClassFile Sem Op Lib Jvm.Free Jvm.Stand Jvm.Pilot.@@N@@.Jvm.D
/-! MADE BY PROGRAM (witnessworld.py) out of the Statement's table words and the real class files: 9 classes; the members and pool entries that the words name. The judged class is class 1, her method 1. -/
namespace start1
open Jvm.ClassFile
def u (s : String) : CpInfo := .utf8 (stringToUtf16 s)
/-- a pool by its gaps: so many unusable entries, then the entry; so many at the end -/
def gap : Nat → List CpInfo → List CpInfo
  | 0, r => r
  | n + 1, r => .unusable :: gap n r
def poolList (es : List (Nat × CpInfo)) (last : Nat) : List CpInfo := es.foldr (fun e r => gap e.1 (e.2 :: r)) (gap last [])
def pool (es : List (Nat × CpInfo)) (last : Nat) : Array CpInfo := ⟨poolList es last⟩
def fileOf (pool : Array CpInfo) (this : Nat) (attrs : Array Attribute := #[]) (ms : Array MethodInfo := #[]) (fl : Nat := 33) (sup : Nat := 0) (ifs : Array Nat := #[]) (fds : Array FieldInfo := #[]) : ClassFile where
  minorVersion := 0
  majorVersion := 65
  constantPool := pool
  accessFlags := fl
  thisClass := this
  superClass := sup
  interfaces := ifs
  fields := fds
  methods := ms
  attributes := attrs
def plain (name : String) (sup : Option ClassId) : Class where
  name := name
  kind := .ordinary
  loader := none
  accessFlags := 33
  super := sup
  interfaces := #[]
  cf := none
  fields := #[]
  methods := #[]
  instanceTypes := #[]
  staticTypes := #[]
  resolved := #[]
  callSites := []
  init := .initialized
  statics := none
  mirror := none

def pool0 : Array CpInfo := pool [(5, u "<init>"), (0, u "()V"), (1, .class_ 10), (1, u "java/lang/Object")] 113

def k0m0 : Method := { name := "<init>", desc := "()V", sig := { parameters := [], returnType := none }, accessFlags := 1, code := none }
/-- java/lang/Object -/
def k0 : Class := { plain "java/lang/Object" none with
  accessFlags := 33
  interfaces := #[]
  cf := some (fileOf pool0 8 #[] #[{ accessFlags := 1, nameIndex := 5, descriptorIndex := 6, attributes := #[] }] 33 0 #[] #[])
  fields := #[]
  methods := #[k0m0]
  instanceTypes := #[]
  staticTypes := #[]
  resolved := Array.replicate 124 none
  statics := none }

def pool1 : Array CpInfo := pool [(2, .class_ 4), (1, u "java/lang/Object"), (0, u "<init>"), (0, u "()V"), (0, .integer 55295), (0, .integer 57343), (0, .integer 57344), (0, .integer 65533), (0, .integer 65535), (0, .integer 65536), (0, .integer 1114111), (2, .integer 2147483648), (0, .integer 2147483647), (0, .methodref 19 20), (0, .class_ 21), (0, .nameAndType 22 23), (0, u "com/example/axislint/axislint/schema/EntityFiles"), (0, u "isChar"), (0, u "(I)Z"), (0, .methodref 25 26), (0, .class_ 27), (0, .nameAndType 28 23), (0, u "com/example/axislint/axislint/schema/EntityFilesIsCharPinLaw"), (0, u "expected"), (0, .integer 55296), (0, .integer 65534), (2, u "law"), (0, u "(III)Z")] 3

def k1m0 : Method := { name := "<init>", desc := "()V", sig := { parameters := [], returnType := none }, accessFlags := 2, code := none }
def k1c1 : Code := { maxStack := 4, maxLocals := 6, code := code, exceptionTable := #[], attributes := #[] }
def k1m1 : Method := { name := "law", desc := "(III)Z", sig := { parameters := [.int, .int, .int], returnType := some .boolean }, accessFlags := 9, code := some k1c1 }
def k1c2 : Code := { maxStack := 2, maxLocals := 2, code := method_3_code, exceptionTable := #[], attributes := #[] }
def k1m2 : Method := { name := "expected", desc := "(I)Z", sig := { parameters := [.int], returnType := some .boolean }, accessFlags := 10, code := some k1c2 }
/-- com/example/axislint/axislint/schema/EntityFilesIsCharPinLaw -/
def k1 : Class := { plain "com/example/axislint/axislint/schema/EntityFilesIsCharPinLaw" (some 0) with
  accessFlags := 49
  interfaces := #[]
  cf := some (fileOf pool1 25 #[] #[{ accessFlags := 2, nameIndex := 5, descriptorIndex := 6, attributes := #[] }, { accessFlags := 9, nameIndex := 33, descriptorIndex := 34, attributes := #[] }, { accessFlags := 10, nameIndex := 28, descriptorIndex := 23, attributes := #[] }] 49 2 #[] #[])
  fields := #[]
  methods := #[k1m0, k1m1, k1m2]
  instanceTypes := #[]
  staticTypes := #[]
  resolved := Array.replicate 38 none
  statics := none }

def pool2 : Array CpInfo := pool [(4, .class_ 6), (1, u "java/lang/Object"), (3, .class_ 12), (1, u "com/example/axislint/axislint/schema/EntityFiles"), (0, u "catalog"), (0, u "Lcom/example/axislint/axislint/schema/Catalog;"), (119, u "SCHEME"), (0, u "Ljava/util/regex/Pattern;"), (59, u "TEXT_DECLARATION"), (42, u "(I)Z"), (22, .class_ 262), (0, u "com/example/axislint/axislint/schema/EntityFiles$Characters"), (36, u "isChar"), (67, .integer 55295), (0, .integer 57344), (0, .integer 65533), (0, .integer 65536), (0, .integer 1114111), (14, u "HEAD_BYTES"), (0, u "I"), (2, u "BLOCK"), (1, u "MAX_LENGTH")] 83

def k2c0 : Code := { maxStack := 2, maxLocals := 1, code := prog_83_method_10_code, exceptionTable := #[], attributes := #[] }
def k2m0 : Method := { name := "isChar", desc := "(I)Z", sig := { parameters := [.int], returnType := some .boolean }, accessFlags := 8, code := some k2c0 }
/-- com/example/axislint/axislint/schema/EntityFiles -/
def k2 : Class := { plain "com/example/axislint/axislint/schema/EntityFiles" (some 0) with
  accessFlags := 48
  interfaces := #[]
  cf := some (fileOf pool2 10 #[.nestMembers #[261]] #[{ accessFlags := 8, nameIndex := 299, descriptorIndex := 238, attributes := #[] }] 48 4 #[] #[{ accessFlags := 26, nameIndex := 195, descriptorIndex := 135, attributes := #[] }, { accessFlags := 26, nameIndex := 134, descriptorIndex := 135, attributes := #[] }, { accessFlags := 26, nameIndex := 386, descriptorIndex := 387, attributes := #[] }, { accessFlags := 26, nameIndex := 390, descriptorIndex := 387, attributes := #[] }, { accessFlags := 26, nameIndex := 392, descriptorIndex := 387, attributes := #[] }, { accessFlags := 18, nameIndex := 13, descriptorIndex := 14, attributes := #[] }])
  fields := #[{ name := "TEXT_DECLARATION", type := (.object "java/util/regex/Pattern"), accessFlags := 26, slot := 0, constantValue := 0 }, { name := "SCHEME", type := (.object "java/util/regex/Pattern"), accessFlags := 26, slot := 1, constantValue := 0 }, { name := "HEAD_BYTES", type := .int, accessFlags := 26, slot := 2, constantValue := 0 }, { name := "BLOCK", type := .int, accessFlags := 26, slot := 3, constantValue := 0 }, { name := "MAX_LENGTH", type := .int, accessFlags := 26, slot := 4, constantValue := 0 }, { name := "catalog", type := (.object "com/example/axislint/axislint/schema/Catalog"), accessFlags := 18, slot := 0, constantValue := 0 }]
  methods := #[k2m0]
  instanceTypes := #[(.object "com/example/axislint/axislint/schema/Catalog")]
  staticTypes := #[(.object "java/util/regex/Pattern"), (.object "java/util/regex/Pattern"), .int, .int, .int]
  resolved := Array.replicate 476 none
  statics := none }

def pool3 : Array CpInfo := pool [(1, u "java/lang/Cloneable"), (0, .class_ 1), (0, u "java/lang/Object"), (0, .class_ 3)] 3

/-- java/lang/Cloneable -/
def k3 : Class := { plain "java/lang/Cloneable" (some 0) with
  accessFlags := 1537
  interfaces := #[]
  cf := some (fileOf pool3 2 #[] #[] 1537 4 #[] #[])
  fields := #[]
  methods := #[]
  instanceTypes := #[]
  staticTypes := #[]
  resolved := Array.replicate 8 none
  statics := none }

def pool4 : Array CpInfo := pool [(1, u "java/io/Serializable"), (0, .class_ 1), (0, u "java/lang/Object"), (0, .class_ 3)] 3

/-- java/io/Serializable -/
def k4 : Class := { plain "java/io/Serializable" (some 0) with
  accessFlags := 1537
  interfaces := #[]
  cf := some (fileOf pool4 2 #[] #[] 1537 4 #[] #[])
  fields := #[]
  methods := #[]
  instanceTypes := #[]
  staticTypes := #[]
  resolved := Array.replicate 8 none
  statics := none }

/-- the primitive byte -/
def k5 : Class := { plain "byte" none with kind := .primitive 'B', accessFlags := 0x411 }
/-- [B -/
def k6 : Class := { plain "[B" (some 0) with kind := .array 5 .byte, interfaces := #[3, 4], accessFlags := 1041 }

/-- the primitive int -/
def k7 : Class := { plain "int" none with kind := .primitive 'I', accessFlags := 0x411 }
/-- [I -/
def k8 : Class := { plain "[I" (some 0) with kind := .array 7 .int, interfaces := #[3, 4], accessFlags := 1041 }

def heap : Heap := #[]
def classes : Array Class := #[k0, k1, k2, k3, k4, k5, k6, k7, k8]
def interned : List (Array UInt16 × Addr) := []
def slotsUsed : Nat := 0
def theMethod : MethodId := ⟨1, 1⟩
def args0 : Array Value := #[.int 5, .int 1, .int 7]
def aboutOver (below : List Frame) : State where
  vm := { classes := classes, interned := interned.toArray }
  heap := heap
  slotsUsed := slotsUsed
  threads := #[{ frames := .invoking theMethod args0 :: below }]
def below0 : List Frame := [.native { method := ⟨0, 0⟩, args := #[] }]
def about1 : State := aboutOver below0
def p0 : Program := .bare "" "" ""
def e0 : Env := launch0.env 0 0 0
theorem w_frames : about1.frames = Frame.invoking theMethod args0 :: below0 := rfl
set_option maxRecDepth 65536 in
theorem w_args : argsFit about1.vm theMethod args0 = true := by decide +kernel
set_option maxRecDepth 65536 in
theorem w_heap : heapFits about1 = true := by decide +kernel
set_option maxRecDepth 65536 in
theorem w_runnable : about1.curStatus? = some .runnable := by decide +kernel
set_option maxRecDepth 65536 in
theorem w_alone : about1.alone = true := by decide +kernel
set_option maxRecDepth 65536 in
theorem w_named : about1.methodNamed? x = some theMethod := by decide +kernel
set_option maxRecDepth 65536 in
theorem w_hears : about1.hears theMethod below0 = true := by decide +kernel
set_option maxRecDepth 65536 in
theorem w_ripe : about1.ripe theMethod args0 below0 = true := by decide +kernel
theorem w_running : about1.status = .running := rfl
set_option maxRecDepth 65536 in
theorem w_room : about1.hasRoom e0.platform room_1 = true :=
  launch0.hasRoom_least _ room_1 (by decide +kernel) (by decide +kernel) (by decide +kernel) (by decide +kernel) (by decide +kernel) (by decide +kernel)
theorem allAtoms_all (ts : List Jvm.Cond) (a : Array Jvm.Value) (st : Jvm.State) : (allAtoms ts).before a st = ts.all (fun c => c.before a st) := by
  induction ts with
  | nil => rfl
  | cons c t ih =>
    show (Jvm.Cond.and c (allAtoms t)).before a st = _
    rw [Jvm.Cond.before_and, ih, List.all_cons]
def words1 : List Jvm.Cond := Jvm.Cond.code x code maxLocals ret :: tables_1
/-- a 'code' word, met by the world's own term for the bytes: nothing is compared byte by byte -/
theorem code_word {y : MethodName} {bytes : ByteArray} {mx : Nat} {rt : Option FieldType} {a : Array Value} {s : State} {m : MethodId} {meth : Method} {c : Code} (h1 : s.methodNamed? y = some m) (h2 : s.vm.method? m = some meth) (h3 : meth.code = some c) (h4 : c.code = bytes)
    (h5 : (c.maxLocals == mx && c.exceptionTable.isEmpty && decide (c.maxStack ≤ mostOperands) && decide (meth.sig.returnType = rt) && !meth.locks && decide (parseMethodDescriptor y.desc = some meth.sig)) = true) : (Jvm.Cond.code y bytes mx rt).before a s = true := by
  simp only [Bool.and_eq_true, beq_iff_eq, Bool.not_eq_true', decide_eq_true_eq] at h5
  obtain ⟨⟨⟨⟨⟨g1, g2⟩, g3⟩, g4⟩, g5⟩, g6⟩ := h5
  simp [Cond.before, Cond.holds, Cond.value, h1, h2, h3, h4, g1, g2, g3, g4, g5, g6]
def isCode : Jvm.Cond → Bool
  | .code _ _ _ _ => true
  | _ => false
theorem all_split {L : List Jvm.Cond} {P : Jvm.Cond → Bool} (h1 : L.all (fun c => isCode c || P c) = true) (h2 : ∀ c ∈ L.filter isCode, P c = true) : L.all P = true := by
  refine List.all_eq_true.mpr fun c hc => ?_
  have h := List.all_eq_true.mp h1 c hc
  rcases Bool.eq_false_or_eq_true (isCode c) with hi | hi
  · exact h2 c (List.mem_filter.mpr ⟨hc, hi⟩)
  · simpa [hi] using h
set_option maxRecDepth 65536 in
theorem w_c0 : (Jvm.Cond.code x code maxLocals ret).before args0 about1 = true := code_word (m := ⟨1, 1⟩) (meth := k1m1) (c := k1c1) (by decide +kernel) rfl rfl rfl (by decide +kernel)
set_option maxRecDepth 65536 in
theorem w_c1 : (Jvm.Cond.code ({ cls := "com/example/axislint/axislint/schema/EntityFiles", name := "isChar", desc := "(I)Z" } : Jvm.MethodName) prog_83_method_10_code (1 : Nat) (Option.some Jvm.ClassFile.FieldType.boolean)).before args0 about1 = true := code_word (m := ⟨2, 0⟩) (meth := k2m0) (c := k2c0) (by decide +kernel) rfl rfl rfl (by decide +kernel)
set_option maxRecDepth 65536 in
theorem w_c2 : (Jvm.Cond.code ({ cls := "com/example/axislint/axislint/schema/EntityFilesIsCharPinLaw", name := "expected", desc := "(I)Z" } : Jvm.MethodName) method_3_code (2 : Nat) (Option.some Jvm.ClassFile.FieldType.boolean)).before args0 about1 = true := code_word (m := ⟨1, 2⟩) (meth := k1m2) (c := k1c2) (by decide +kernel) rfl rfl rfl (by decide +kernel)
def codes1 : List Jvm.Cond := [Jvm.Cond.code x code maxLocals ret, Jvm.Cond.code ({ cls := "com/example/axislint/axislint/schema/EntityFiles", name := "isChar", desc := "(I)Z" } : Jvm.MethodName) prog_83_method_10_code (1 : Nat) (Option.some Jvm.ClassFile.FieldType.boolean), Jvm.Cond.code ({ cls := "com/example/axislint/axislint/schema/EntityFilesIsCharPinLaw", name := "expected", desc := "(I)Z" } : Jvm.MethodName) method_3_code (2 : Nat) (Option.some Jvm.ClassFile.FieldType.boolean)]
set_option maxRecDepth 65536 in
theorem codes_eq : words1.filter isCode = codes1 := rfl
theorem w_codes : ∀ c ∈ words1.filter isCode, c.before args0 about1 = true := by
  rw [codes_eq]
  intro c hc
  simp only [codes1, List.mem_cons, List.not_mem_nil, or_false] at hc
  rcases hc with rfl | rfl | rfl
  · exact w_c0
  · exact w_c1
  · exact w_c2
set_option maxRecDepth 65536 in
theorem w_t1 : (words1.take 24).all (fun c => isCode c || c.before args0 about1) = true := by decide +kernel
set_option maxRecDepth 65536 in
theorem w_t2 : (words1.drop 24).all (fun c => isCode c || c.before args0 about1) = true := by decide +kernel
theorem w_tables : (allAtoms (Jvm.Cond.code x code maxLocals ret :: tables_1)).before args0 about1 = true := by
  rw [allAtoms_all]
  show words1.all (fun c => c.before args0 about1) = true
  refine all_split ?_ w_codes
  rw [← List.take_append_drop 24 words1, List.all_append, w_t1, w_t2]
  rfl
set_option maxRecDepth 65536 in
theorem w_case : (Jvm.Cond.and given_1 narrow_1).before args0 about1 = true := by decide +kernel
theorem w_applies : (headSpec (Jvm.Cond.code x code maxLocals ret :: tables_1) room_1).applies x e0.platform about1 = true :=
  (Spec.applies_iff w_frames).mpr ⟨w_running, w_runnable, w_alone, w_named, w_hears, w_ripe, w_room, w_tables⟩
theorem atStart : AtStart classFile x code maxLocals ret World_1 tables_1 room_1 Calls_1 rest_1 Pre_1 launch0 p0 e0 about1 theMethod args0 below0 :=
  ⟨lists_1, trivial, launch0.admits_env _ _ _, launch0.least_env, fairChoices_fair.cas, fairChoices_fair.clock, w_frames, w_args, w_heap, w_applies, trivial, trivial, w_case⟩
end start1
theorem witness_1 : WitnessClaimed_1 := ⟨start1.p0, start1.e0, start1.about1, start1.theMethod, start1.args0, start1.below0, start1.atStart⟩
end Jvm.Pilot.@@N@@
