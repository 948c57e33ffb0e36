import JvmDerived
import JvmDerived.Pilot.@@N@@Statement
import JvmDerived.Pilot.@@N@@Code
set_option linter.unusedVariables false
set_option linter.unusedSimpArgs false
@@BLOCK:NumsL.lean.txt@@
namespace Jvm.RoadKit
open Sem ClassFile Op Lib Jvm.Stand Jvm.Free Jvm.LawKit
section New
variable {p : Program} {l : Launch} {e : Env} {R : Room} {s : State} {m : MethodId} {args : Array Value} {below : List Frame} {meth : Method} {c : Code} {T : State} {locs : List Loc} {cells slots : Nat}
theorem retI (X : Stand p l e R s m args below meth c T locs cells slots) (hx : p.tables.exec = Jvm.exec) {pc : Nat} {Ls : Array Slot} {z : Int32} {rest : List Value} (hret : meth.sig.returnType = some .int) (hd : decode c.code pc = .ok (.ireturn, 1)) {fs : List Frame}
    (hl : ∀ (f : JFrame) (acts : List Action), f.method = m → f.locked = none → f.entered = [] → (doReturn e (T.setTop f) acts (some (.int z))).1 = T.setFrames fs) : Steps p.tables e below (T.setTop (mkF m pc Ls (.int z :: rest))) (T.setFrames fs) := by
  have hm' : T.vm.method? m = some meth := X.method'
  have hn : narrow .int (.int z) = .int z := rfl
  show Steps p.tables e below (T.setTop { method := m, pc := pc, locals := Ls, stack := _ :: rest, locked := none }) _
  jvm_step X.here [X.here.top, hx, hd, hm', hret, hn]
  first | (intro acts; rw [hl _ acts rfl rfl rfl]) | rw [hl _ _ rfl rfl rfl]
  exact Steps.refl _
end New
end Jvm.RoadKit
namespace Jvm.Pilot.@@N@@
open Jvm Jvm.ClassFile Sem Op Lib Jvm.Free Jvm.Stand Jvm.LawKit Jvm.RoadKit Bundle Jvm.Pilot.@@N@@.Jvm.D
def own_VA (Z : State) (h : Heap) (a : Addr) (ty : FieldType) (vs : List Value) : Prop := ∃ cl : Cell, Arr Z h a cl ty ∧ cl.slots = vs.toArray
theorem own_VA_new {Z : State} {h : Heap} {a : Addr} {cA : ClassId} {ty : FieldType} {n : Int32} {k : Nat} (A : Arr Z h a (newA cA ty n) ty) (hk : n.toNatClampNeg = k) : own_VA Z h a ty (List.replicate k (defaultValue ty)) := ⟨_, A, by show Array.replicate n.toNatClampNeg (defaultValue ty) = _; rw [hk]; simp⟩
theorem own_VA_set {Z : State} {h h' : Heap} {a : Addr} {ty : FieldType} {vs : List Value} {k : Nat} {v : Value} (A : own_VA Z h a ty vs) (W : Wr h h' a k v) : own_VA Z h' a ty (vs.set k v) := by
  obtain ⟨cl, A, e⟩ := A
  exact ⟨_, A.same W, by show cl.slots.setIfInBounds k v = _; rw [e]; simp⟩
theorem own_VA_other {Z : State} {h h' : Heap} {a b : Addr} {ty : FieldType} {vs : List Value} {k : Nat} {v : Value} (A : own_VA Z h b ty vs) (W : Wr h h' a k v) (hne : b ≠ a) : own_VA Z h' b ty vs := by
  obtain ⟨cl, A, e⟩ := A
  exact ⟨_, A.other W hne, e⟩
theorem own_VA_ext {Z : State} {h h' : Heap} {a : Addr} {ty : FieldType} {vs : List Value} (A : own_VA Z h a ty vs) (E : Ext h h') : own_VA Z h' a ty vs := by
  obtain ⟨cl, A, e⟩ := A
  exact ⟨_, A.ext E, e⟩
theorem own_VA_keep {Z : State} {h h' : Heap} {a : Addr} {ty : FieldType} {vs : List Value} {ws : List Addr} (A : own_VA Z h a ty vs) (K : Keep h h' ws) (hn : a ∉ ws) : own_VA Z h' a ty vs := by
  obtain ⟨cl, A, e⟩ := A
  exact ⟨cl, ⟨K.2.1 _ _ A.1 hn, A.2⟩, e⟩
theorem own_VA_lt {Z : State} {h : Heap} {a : Addr} {ty : FieldType} {vs : List Value} (A : own_VA Z h a ty vs) : a < h.size := by
  obtain ⟨cl, A, e⟩ := A
  exact A.lt
section OwnArr
variable {p : Program} {l : Launch} {e : Env} {R : Room} {s : State} {m : MethodId} {args : Array Value} {below : List Frame} {meth : Method} {c : Code} {T : State} {locs : List Loc} {cells slots : Nat} {Z : State} {h : Heap}
theorem own_stI (X : Stand p l e R s m args below meth c T locs cells slots) (hx : p.tables.exec = Jvm.exec) (hZ : Z.Warmed39 s.vm) (eT : T.heap = h) {a : Addr} {vs : List Value} (A : own_VA Z h a .int vs) {j : Int32} {k n : Nat} {x : Int32} (hn : vs.length = n) (hj : ¬ (j < 0 ∨ n ≤ j.toNatClampNeg)) (hk : j.toNatClampNeg = k) {g : JFrame} (hg : g.method = m) {rest : List Value} (hs : g.stack = .int x :: .int j :: .ref a :: rest) (hd : decode c.code g.pc = .ok (.iastore, 1)) :
    ∃ T' h', Stand p l e R s m args below meth c T' (locs ++ [⟨a, k⟩]) cells slots ∧ T'.heap = h' ∧ own_VA Z h' a .int (vs.set k (.int x)) ∧ Wr h h' a k (.int x) ∧ ∀ target, Steps p.tables e below (T'.setTop { g with pc := g.pc + 1, stack := rest }) target → Steps p.tables e below (T.setTop g) target := by
  subst hk
  obtain ⟨cl, A1, ec⟩ := A
  obtain ⟨T', h', X', e', W, st⟩ := stI X hx hZ eT A1 (j := j) (x := x) (by rw [ec]; simpa [hn] using hj) hg hs hd
  exact ⟨T', h', X', e', own_VA_set ⟨cl, A1, ec⟩ W, W, st⟩
theorem own_stJ (X : Stand p l e R s m args below meth c T locs cells slots) (hx : p.tables.exec = Jvm.exec) (hZ : Z.Warmed39 s.vm) (eT : T.heap = h) {a : Addr} {vs : List Value} (A : own_VA Z h a .long vs) {j : Int32} {k n : Nat} {x : Int64} (hn : vs.length = n) (hj : ¬ (j < 0 ∨ n ≤ j.toNatClampNeg)) (hk : j.toNatClampNeg = k) {g : JFrame} (hg : g.method = m) {rest : List Value} (hs : g.stack = .long x :: .int j :: .ref a :: rest) (hd : decode c.code g.pc = .ok (.lastore, 1)) :
    ∃ T' h', Stand p l e R s m args below meth c T' (locs ++ [⟨a, k⟩]) cells slots ∧ T'.heap = h' ∧ own_VA Z h' a .long (vs.set k (.long x)) ∧ Wr h h' a k (.long x) ∧ ∀ target, Steps p.tables e below (T'.setTop { g with pc := g.pc + 1, stack := rest }) target → Steps p.tables e below (T.setTop g) target := by
  subst hk
  obtain ⟨cl, A1, ec⟩ := A
  obtain ⟨T', h', X', e', W, st⟩ := stJ X hx hZ eT A1 (j := j) (x := x) (by rw [ec]; simpa [hn] using hj) hg hs hd
  exact ⟨T', h', X', e', own_VA_set ⟨cl, A1, ec⟩ W, W, st⟩
theorem own_ldI (X : Stand p l e R s m args below meth c T locs cells slots) (hx : p.tables.exec = Jvm.exec) (hZ : Z.Warmed39 s.vm) (eT : T.heap = h) {a : Addr} {vs : List Value} (A : own_VA Z h a .int vs) {j : Int32} {n : Nat} {v : Value} (hn : vs.length = n) (hj : ¬ (j < 0 ∨ n ≤ j.toNatClampNeg)) (hv : vs[j.toNatClampNeg]? = some v) {g : JFrame} (hg : g.method = m) {rest : List Value} (hs : g.stack = .int j :: .ref a :: rest) (hd : decode c.code g.pc = .ok (.iaload, 1)) :
    ∀ target, Steps p.tables e below (T.setTop { g with pc := g.pc + 1, stack := v :: rest }) target → Steps p.tables e below (T.setTop g) target := by
  obtain ⟨cl, A1, ec⟩ := A
  intro target k
  exact X.iaload hx (by rw [eT]; exact A1.1) (State.isArrayOf_alike hZ.alike A1.2.1) A1.2.2 (by rw [ec]; simpa [hn] using hj) (by rw [ec]; simpa using hv) hg hs hd target k
theorem own_ldJ (X : Stand p l e R s m args below meth c T locs cells slots) (hx : p.tables.exec = Jvm.exec) (hZ : Z.Warmed39 s.vm) (eT : T.heap = h) {a : Addr} {vs : List Value} (A : own_VA Z h a .long vs) {j : Int32} {n : Nat} {v : Value} (hn : vs.length = n) (hj : ¬ (j < 0 ∨ n ≤ j.toNatClampNeg)) (hv : vs[j.toNatClampNeg]? = some v) {g : JFrame} (hg : g.method = m) {rest : List Value} (hs : g.stack = .int j :: .ref a :: rest) (hd : decode c.code g.pc = .ok (.laload, 1)) :
    ∀ target, Steps p.tables e below (T.setTop { g with pc := g.pc + 1, stack := v :: rest }) target → Steps p.tables e below (T.setTop g) target := by
  obtain ⟨cl, A1, ec⟩ := A
  intro target k
  exact X.laload hx (by rw [eT]; exact A1.1) (State.isArrayOf_alike hZ.alike A1.2.1) A1.2.2 (by rw [ec]; simpa [hn] using hj) (by rw [ec]; simpa using hv) hg hs hd target k
theorem own_len (X : Stand p l e R s m args below meth c T locs cells slots) (hx : p.tables.exec = Jvm.exec) (hZ : Z.Warmed39 s.vm) (eT : T.heap = h) {a : Addr} {vs : List Value} {ty : FieldType} (A : own_VA Z h a ty vs) {n : Nat} {k : Int32} (hn : vs.length = n) (hk : n.toInt32 = k) {g : JFrame} (hg : g.method = m) {rest : List Value} (hs : g.stack = .ref a :: rest) (hd : decode c.code g.pc = .ok (.arraylength, 1)) :
    ∀ target, Steps p.tables e below (T.setTop { g with pc := g.pc + 1, stack := .int k :: rest }) target → Steps p.tables e below (T.setTop g) target := by
  obtain ⟨cl, A1, ec⟩ := A
  intro target q
  have z : cl.slots.size.toInt32 = k := by rw [ec, ← hk, ← hn]; simp
  refine X.arraylength hx (by rw [eT]; exact A1.1) (State.isArrayOf_alike hZ.alike A1.2.1) hg hs hd target ?_
  rw [z]; exact q
end OwnArr
theorem own_some {us : List Int32} {vs : List Value} (e : vs = us.map Value.int) {n i : Nat} (hn : vs.length = n) (h : i < n) : ∃ w : Int32, vs[i]? = some (.int w) := by
  subst e hn
  have h' : i < us.length := by simpa using h
  exact ⟨us[i], by simp [h']⟩
theorem own_idx {j : Int32} {n : Nat} (h0 : 0 ≤ j.toInt) (h1 : j.toInt < n) : ¬ (j < 0 ∨ n ≤ j.toNatClampNeg) := by
  have z : (0 : Int32).toInt = 0 := by decide
  intro q
  rcases q with q | q
  · rw [Int32.lt_iff_toInt_lt] at q; omega
  · have : j.toNatClampNeg = j.toInt.toNat := rfl
    omega
theorem own_lt {j : Int32} {n : Nat} (h : ¬ (j < 0 ∨ n ≤ j.toNatClampNeg)) : j.toNatClampNeg < n := Nat.lt_of_not_le fun q => h (Or.inr q)
theorem own_m15 (p : Int32) : ¬ ((p &&& (15 : Int32)) < 0 ∨ 16 ≤ (p &&& (15 : Int32)).toNatClampNeg) := by
  have h := Jvm.Kit.i32_mask p 15 (k := 4) (by decide) (by decide)
  exact own_idx (by omega) (by omega)
theorem d2_0 : decode prog_262_method_2_code 0 = .ok (.iload_n 0, 1) := by decide +kernel
theorem d2_1 : decode prog_262_method_2_code 1 = .ok (.bipush 9, 2) := by decide +kernel
theorem d2_3 : decode prog_262_method_2_code 3 = .ok (.if_icmp .eq 51, 3) := by decide +kernel
theorem d2_6 : decode prog_262_method_2_code 6 = .ok (.iload_n 0, 1) := by decide +kernel
theorem d2_7 : decode prog_262_method_2_code 7 = .ok (.bipush 10, 2) := by decide +kernel
theorem d2_9 : decode prog_262_method_2_code 9 = .ok (.if_icmp .eq 45, 3) := by decide +kernel
theorem d2_12 : decode prog_262_method_2_code 12 = .ok (.iload_n 0, 1) := by decide +kernel
theorem d2_13 : decode prog_262_method_2_code 13 = .ok (.bipush 13, 2) := by decide +kernel
theorem d2_15 : decode prog_262_method_2_code 15 = .ok (.if_icmp .eq 39, 3) := by decide +kernel
theorem d2_18 : decode prog_262_method_2_code 18 = .ok (.iload_n 0, 1) := by decide +kernel
theorem d2_19 : decode prog_262_method_2_code 19 = .ok (.bipush 32, 2) := by decide +kernel
theorem d2_21 : decode prog_262_method_2_code 21 = .ok (.if_icmp .lt 9, 3) := by decide +kernel
theorem d2_24 : decode prog_262_method_2_code 24 = .ok (.iload_n 0, 1) := by decide +kernel
theorem d2_25 : decode prog_262_method_2_code 25 = .ok (.ldc 7, 2) := by decide +kernel
theorem d2_27 : decode prog_262_method_2_code 27 = .ok (.if_icmp .le 27, 3) := by decide +kernel
theorem d2_30 : decode prog_262_method_2_code 30 = .ok (.iload_n 0, 1) := by decide +kernel
theorem d2_31 : decode prog_262_method_2_code 31 = .ok (.ldc 8, 2) := by decide +kernel
theorem d2_33 : decode prog_262_method_2_code 33 = .ok (.if_icmp .lt 9, 3) := by decide +kernel
theorem d2_36 : decode prog_262_method_2_code 36 = .ok (.iload_n 0, 1) := by decide +kernel
theorem d2_37 : decode prog_262_method_2_code 37 = .ok (.ldc 9, 2) := by decide +kernel
theorem d2_39 : decode prog_262_method_2_code 39 = .ok (.if_icmp .le 15, 3) := by decide +kernel
theorem d2_42 : decode prog_262_method_2_code 42 = .ok (.iload_n 0, 1) := by decide +kernel
theorem d2_43 : decode prog_262_method_2_code 43 = .ok (.ldc 10, 2) := by decide +kernel
theorem d2_45 : decode prog_262_method_2_code 45 = .ok (.if_icmp .lt 13, 3) := by decide +kernel
theorem d2_48 : decode prog_262_method_2_code 48 = .ok (.iload_n 0, 1) := by decide +kernel
theorem d2_49 : decode prog_262_method_2_code 49 = .ok (.ldc 11, 2) := by decide +kernel
theorem d2_51 : decode prog_262_method_2_code 51 = .ok (.if_icmp .gt 7, 3) := by decide +kernel
theorem d2_54 : decode prog_262_method_2_code 54 = .ok (.iconst 1, 1) := by decide +kernel
theorem d2_55 : decode prog_262_method_2_code 55 = .ok (.goto 4, 3) := by decide +kernel
theorem d2_58 : decode prog_262_method_2_code 58 = .ok (.iconst 0, 1) := by decide +kernel
theorem d2_59 : decode prog_262_method_2_code 59 = .ok (.ireturn, 1) := by decide +kernel
theorem pn_2 : plainName "com/example/twyg/twyg/xml/XmlCharacters" = true := by first | (simp [plainName, overriddenIn]; done) | decide +kernel
def f2_59 (x0 : Int32) (y0 : Int32) : Int32 := nar .boolean y0
theorem b2_59 {p : Program} {l : Launch} {e : Env} {R : Room} {s : State} {m : MethodId} {args : Array Value} {below : List Frame} {meth : Method} {c : Code} {T : State} {locs : List Loc} {cells slots : Nat} (X : Stand p l e R s m args below meth c T locs cells slots) (hx : p.tables.exec = Jvm.exec) (hby : c.code = prog_262_method_2_code) (hown : s.vm.findClass "com/example/twyg/twyg/xml/XmlCharacters" = some m.cls) (hret : meth.sig.returnType = some .boolean) {fs : List Frame} {z : Int32} (hl : ∀ (f : JFrame) (acts : List Action), f.method = m → f.locked = none → f.entered = [] → (doReturn e (T.setTop f) acts (some (.int z))).1 = T.setFrames fs) (k7 : (Jvm.Cond.constant "com/example/twyg/twyg/xml/XmlCharacters" 7 (55295 : Int32)).before args s = true) (k8 : (Jvm.Cond.constant "com/example/twyg/twyg/xml/XmlCharacters" 8 (57344 : Int32)).before args s = true) (k9 : (Jvm.Cond.constant "com/example/twyg/twyg/xml/XmlCharacters" 9 (65533 : Int32)).before args s = true) (k10 : (Jvm.Cond.constant "com/example/twyg/twyg/xml/XmlCharacters" 10 (65536 : Int32)).before args s = true) (k11 : (Jvm.Cond.constant "com/example/twyg/twyg/xml/XmlCharacters" 11 (1114111 : Int32)).before args s = true) (x0 : Int32) (y0 : Int32) (hz : f2_59 x0 y0 = z) :
    Steps p.tables e below (T.setTop (mkF m 59 #[.val (.int x0)] [(.int y0)])) (T.setFrames fs) := by
  unfold f2_59 at hz
  subst hz
  exact retN X hx hret (by simp) (hb hby d2_59) hl
def f2_54 (x0 : Int32) : Int32 := f2_59 x0 (1 : Int32)
theorem b2_54 {p : Program} {l : Launch} {e : Env} {R : Room} {s : State} {m : MethodId} {args : Array Value} {below : List Frame} {meth : Method} {c : Code} {T : State} {locs : List Loc} {cells slots : Nat} (X : Stand p l e R s m args below meth c T locs cells slots) (hx : p.tables.exec = Jvm.exec) (hby : c.code = prog_262_method_2_code) (hown : s.vm.findClass "com/example/twyg/twyg/xml/XmlCharacters" = some m.cls) (hret : meth.sig.returnType = some .boolean) {fs : List Frame} {z : Int32} (hl : ∀ (f : JFrame) (acts : List Action), f.method = m → f.locked = none → f.entered = [] → (doReturn e (T.setTop f) acts (some (.int z))).1 = T.setFrames fs) (k7 : (Jvm.Cond.constant "com/example/twyg/twyg/xml/XmlCharacters" 7 (55295 : Int32)).before args s = true) (k8 : (Jvm.Cond.constant "com/example/twyg/twyg/xml/XmlCharacters" 8 (57344 : Int32)).before args s = true) (k9 : (Jvm.Cond.constant "com/example/twyg/twyg/xml/XmlCharacters" 9 (65533 : Int32)).before args s = true) (k10 : (Jvm.Cond.constant "com/example/twyg/twyg/xml/XmlCharacters" 10 (65536 : Int32)).before args s = true) (k11 : (Jvm.Cond.constant "com/example/twyg/twyg/xml/XmlCharacters" 11 (1114111 : Int32)).before args s = true) (x0 : Int32) (hz : f2_54 x0 = z) :
    Steps p.tables e below (T.setTop (mkF m 54 #[.val (.int x0)] [])) (T.setFrames fs) := by
  unfold f2_54 at hz
  refine XS.iconst X.here hx rfl (hb hby d2_54) ?_
  show Steps p.tables e below (T.setTop (mkF m 55 #[.val (.int x0)] [(.int (1 : Int32))])) _
  refine XS.goto X.here hx rfl (pc0 := 55) (pc' := 59) rfl (hb hby d2_55) (by decide) (by decide) ?_
  show Steps p.tables e below (T.setTop (mkF m 59 #[.val (.int x0)] [(.int (1 : Int32))])) _
  exact b2_59 X hx hby hown hret hl k7 k8 k9 k10 k11 x0 (1 : Int32)  hz
def f2_58 (x0 : Int32) : Int32 := f2_59 x0 (0 : Int32)
theorem b2_58 {p : Program} {l : Launch} {e : Env} {R : Room} {s : State} {m : MethodId} {args : Array Value} {below : List Frame} {meth : Method} {c : Code} {T : State} {locs : List Loc} {cells slots : Nat} (X : Stand p l e R s m args below meth c T locs cells slots) (hx : p.tables.exec = Jvm.exec) (hby : c.code = prog_262_method_2_code) (hown : s.vm.findClass "com/example/twyg/twyg/xml/XmlCharacters" = some m.cls) (hret : meth.sig.returnType = some .boolean) {fs : List Frame} {z : Int32} (hl : ∀ (f : JFrame) (acts : List Action), f.method = m → f.locked = none → f.entered = [] → (doReturn e (T.setTop f) acts (some (.int z))).1 = T.setFrames fs) (k7 : (Jvm.Cond.constant "com/example/twyg/twyg/xml/XmlCharacters" 7 (55295 : Int32)).before args s = true) (k8 : (Jvm.Cond.constant "com/example/twyg/twyg/xml/XmlCharacters" 8 (57344 : Int32)).before args s = true) (k9 : (Jvm.Cond.constant "com/example/twyg/twyg/xml/XmlCharacters" 9 (65533 : Int32)).before args s = true) (k10 : (Jvm.Cond.constant "com/example/twyg/twyg/xml/XmlCharacters" 10 (65536 : Int32)).before args s = true) (k11 : (Jvm.Cond.constant "com/example/twyg/twyg/xml/XmlCharacters" 11 (1114111 : Int32)).before args s = true) (x0 : Int32) (hz : f2_58 x0 = z) :
    Steps p.tables e below (T.setTop (mkF m 58 #[.val (.int x0)] [])) (T.setFrames fs) := by
  unfold f2_58 at hz
  refine XS.iconst X.here hx rfl (hb hby d2_58) ?_
  show Steps p.tables e below (T.setTop (mkF m 59 #[.val (.int x0)] [(.int (0 : Int32))])) _
  exact b2_59 X hx hby hown hret hl k7 k8 k9 k10 k11 x0 (0 : Int32)  hz
def f2_42 (x0 : Int32) : Int32 := if x0 < (65536 : Int32) then f2_58 x0 else (if (1114111 : Int32) < x0 then f2_58 x0 else f2_54 x0)
theorem b2_42 {p : Program} {l : Launch} {e : Env} {R : Room} {s : State} {m : MethodId} {args : Array Value} {below : List Frame} {meth : Method} {c : Code} {T : State} {locs : List Loc} {cells slots : Nat} (X : Stand p l e R s m args below meth c T locs cells slots) (hx : p.tables.exec = Jvm.exec) (hby : c.code = prog_262_method_2_code) (hown : s.vm.findClass "com/example/twyg/twyg/xml/XmlCharacters" = some m.cls) (hret : meth.sig.returnType = some .boolean) {fs : List Frame} {z : Int32} (hl : ∀ (f : JFrame) (acts : List Action), f.method = m → f.locked = none → f.entered = [] → (doReturn e (T.setTop f) acts (some (.int z))).1 = T.setFrames fs) (k7 : (Jvm.Cond.constant "com/example/twyg/twyg/xml/XmlCharacters" 7 (55295 : Int32)).before args s = true) (k8 : (Jvm.Cond.constant "com/example/twyg/twyg/xml/XmlCharacters" 8 (57344 : Int32)).before args s = true) (k9 : (Jvm.Cond.constant "com/example/twyg/twyg/xml/XmlCharacters" 9 (65533 : Int32)).before args s = true) (k10 : (Jvm.Cond.constant "com/example/twyg/twyg/xml/XmlCharacters" 10 (65536 : Int32)).before args s = true) (k11 : (Jvm.Cond.constant "com/example/twyg/twyg/xml/XmlCharacters" 11 (1114111 : Int32)).before args s = true) (x0 : Int32) (hz : f2_42 x0 = z) :
    Steps p.tables e below (T.setTop (mkF m 42 #[.val (.int x0)] [])) (T.setFrames fs) := by
  unfold f2_42 at hz
  refine XS.iloadN X.here hx rfl (hb hby d2_42) rfl ?_
  show Steps p.tables e below (T.setTop (mkF m 43 #[.val (.int x0)] [(.int x0)])) _
  refine X.ldcInt hx hown k10 (g := (mkF m 43 #[.val (.int x0)] [(.int x0)])) rfl (hb hby d2_43) _ ?_
  show Steps p.tables e below (T.setTop (mkF m 45 #[.val (.int x0)] [(.int (65536 : Int32)), (.int x0)])) _
  by_cases h45 : x0 < (65536 : Int32)
  · rw [if_pos h45] at hz
    refine XS.icmpYes X.here hx rfl (pc0 := 45) (pc' := 58) rfl (hb hby d2_45) rfl (tlt h45).1 (by decide) (by decide) ?_
    show Steps p.tables e below (T.setTop (mkF m 58 #[.val (.int x0)] [])) _
    exact b2_58 X hx hby hown hret hl k7 k8 k9 k10 k11 x0  hz
  · rw [if_neg h45] at hz
    refine XS.icmpNo X.here hx rfl (hb hby d2_45) rfl (flt h45).1 ?_
    show Steps p.tables e below (T.setTop (mkF m 48 #[.val (.int x0)] [])) _
    refine XS.iloadN X.here hx rfl (hb hby d2_48) rfl ?_
    show Steps p.tables e below (T.setTop (mkF m 49 #[.val (.int x0)] [(.int x0)])) _
    refine X.ldcInt hx hown k11 (g := (mkF m 49 #[.val (.int x0)] [(.int x0)])) rfl (hb hby d2_49) _ ?_
    show Steps p.tables e below (T.setTop (mkF m 51 #[.val (.int x0)] [(.int (1114111 : Int32)), (.int x0)])) _
    by_cases h51 : (1114111 : Int32) < x0
    · rw [if_pos h51] at hz
      refine XS.icmpYes X.here hx rfl (pc0 := 51) (pc' := 58) rfl (hb hby d2_51) rfl (tlt h51).2.2.1 (by decide) (by decide) ?_
      show Steps p.tables e below (T.setTop (mkF m 58 #[.val (.int x0)] [])) _
      exact b2_58 X hx hby hown hret hl k7 k8 k9 k10 k11 x0  hz
    · rw [if_neg h51] at hz
      refine XS.icmpNo X.here hx rfl (hb hby d2_51) rfl (flt h51).2.2.1 ?_
      show Steps p.tables e below (T.setTop (mkF m 54 #[.val (.int x0)] [])) _
      exact b2_54 X hx hby hown hret hl k7 k8 k9 k10 k11 x0  hz
def f2_30 (x0 : Int32) : Int32 := if x0 < (57344 : Int32) then f2_42 x0 else (if (65533 : Int32) < x0 then f2_42 x0 else f2_54 x0)
theorem b2_30 {p : Program} {l : Launch} {e : Env} {R : Room} {s : State} {m : MethodId} {args : Array Value} {below : List Frame} {meth : Method} {c : Code} {T : State} {locs : List Loc} {cells slots : Nat} (X : Stand p l e R s m args below meth c T locs cells slots) (hx : p.tables.exec = Jvm.exec) (hby : c.code = prog_262_method_2_code) (hown : s.vm.findClass "com/example/twyg/twyg/xml/XmlCharacters" = some m.cls) (hret : meth.sig.returnType = some .boolean) {fs : List Frame} {z : Int32} (hl : ∀ (f : JFrame) (acts : List Action), f.method = m → f.locked = none → f.entered = [] → (doReturn e (T.setTop f) acts (some (.int z))).1 = T.setFrames fs) (k7 : (Jvm.Cond.constant "com/example/twyg/twyg/xml/XmlCharacters" 7 (55295 : Int32)).before args s = true) (k8 : (Jvm.Cond.constant "com/example/twyg/twyg/xml/XmlCharacters" 8 (57344 : Int32)).before args s = true) (k9 : (Jvm.Cond.constant "com/example/twyg/twyg/xml/XmlCharacters" 9 (65533 : Int32)).before args s = true) (k10 : (Jvm.Cond.constant "com/example/twyg/twyg/xml/XmlCharacters" 10 (65536 : Int32)).before args s = true) (k11 : (Jvm.Cond.constant "com/example/twyg/twyg/xml/XmlCharacters" 11 (1114111 : Int32)).before args s = true) (x0 : Int32) (hz : f2_30 x0 = z) :
    Steps p.tables e below (T.setTop (mkF m 30 #[.val (.int x0)] [])) (T.setFrames fs) := by
  unfold f2_30 at hz
  refine XS.iloadN X.here hx rfl (hb hby d2_30) rfl ?_
  show Steps p.tables e below (T.setTop (mkF m 31 #[.val (.int x0)] [(.int x0)])) _
  refine X.ldcInt hx hown k8 (g := (mkF m 31 #[.val (.int x0)] [(.int x0)])) rfl (hb hby d2_31) _ ?_
  show Steps p.tables e below (T.setTop (mkF m 33 #[.val (.int x0)] [(.int (57344 : Int32)), (.int x0)])) _
  by_cases h33 : x0 < (57344 : Int32)
  · rw [if_pos h33] at hz
    refine XS.icmpYes X.here hx rfl (pc0 := 33) (pc' := 42) rfl (hb hby d2_33) rfl (tlt h33).1 (by decide) (by decide) ?_
    show Steps p.tables e below (T.setTop (mkF m 42 #[.val (.int x0)] [])) _
    exact b2_42 X hx hby hown hret hl k7 k8 k9 k10 k11 x0  hz
  · rw [if_neg h33] at hz
    refine XS.icmpNo X.here hx rfl (hb hby d2_33) rfl (flt h33).1 ?_
    show Steps p.tables e below (T.setTop (mkF m 36 #[.val (.int x0)] [])) _
    refine XS.iloadN X.here hx rfl (hb hby d2_36) rfl ?_
    show Steps p.tables e below (T.setTop (mkF m 37 #[.val (.int x0)] [(.int x0)])) _
    refine X.ldcInt hx hown k9 (g := (mkF m 37 #[.val (.int x0)] [(.int x0)])) rfl (hb hby d2_37) _ ?_
    show Steps p.tables e below (T.setTop (mkF m 39 #[.val (.int x0)] [(.int (65533 : Int32)), (.int x0)])) _
    by_cases h39 : (65533 : Int32) < x0
    · rw [if_pos h39] at hz
      refine XS.icmpNo X.here hx rfl (hb hby d2_39) rfl (tlt h39).2.2.2 ?_
      show Steps p.tables e below (T.setTop (mkF m 42 #[.val (.int x0)] [])) _
      exact b2_42 X hx hby hown hret hl k7 k8 k9 k10 k11 x0  hz
    · rw [if_neg h39] at hz
      refine XS.icmpYes X.here hx rfl (pc0 := 39) (pc' := 54) rfl (hb hby d2_39) rfl (flt h39).2.2.2 (by decide) (by decide) ?_
      show Steps p.tables e below (T.setTop (mkF m 54 #[.val (.int x0)] [])) _
      exact b2_54 X hx hby hown hret hl k7 k8 k9 k10 k11 x0  hz
def f2_0 (x0 : Int32) : Int32 := if x0 = (9 : Int32) then f2_54 x0 else (if x0 = (10 : Int32) then f2_54 x0 else (if x0 = (13 : Int32) then f2_54 x0 else (if x0 < (32 : Int32) then f2_30 x0 else (if (55295 : Int32) < x0 then f2_30 x0 else f2_54 x0))))
theorem b2_0 {p : Program} {l : Launch} {e : Env} {R : Room} {s : State} {m : MethodId} {args : Array Value} {below : List Frame} {meth : Method} {c : Code} {T : State} {locs : List Loc} {cells slots : Nat} (X : Stand p l e R s m args below meth c T locs cells slots) (hx : p.tables.exec = Jvm.exec) (hby : c.code = prog_262_method_2_code) (hown : s.vm.findClass "com/example/twyg/twyg/xml/XmlCharacters" = some m.cls) (hret : meth.sig.returnType = some .boolean) {fs : List Frame} {z : Int32} (hl : ∀ (f : JFrame) (acts : List Action), f.method = m → f.locked = none → f.entered = [] → (doReturn e (T.setTop f) acts (some (.int z))).1 = T.setFrames fs) (k7 : (Jvm.Cond.constant "com/example/twyg/twyg/xml/XmlCharacters" 7 (55295 : Int32)).before args s = true) (k8 : (Jvm.Cond.constant "com/example/twyg/twyg/xml/XmlCharacters" 8 (57344 : Int32)).before args s = true) (k9 : (Jvm.Cond.constant "com/example/twyg/twyg/xml/XmlCharacters" 9 (65533 : Int32)).before args s = true) (k10 : (Jvm.Cond.constant "com/example/twyg/twyg/xml/XmlCharacters" 10 (65536 : Int32)).before args s = true) (k11 : (Jvm.Cond.constant "com/example/twyg/twyg/xml/XmlCharacters" 11 (1114111 : Int32)).before args s = true) (x0 : Int32) (hz : f2_0 x0 = z) :
    Steps p.tables e below (T.setTop (mkF m 0 #[.val (.int x0)] [])) (T.setFrames fs) := by
  unfold f2_0 at hz
  refine XS.iloadN X.here hx rfl (hb hby d2_0) rfl ?_
  show Steps p.tables e below (T.setTop (mkF m 1 #[.val (.int x0)] [(.int x0)])) _
  refine XS.bipush X.here hx rfl (hb hby d2_1) ?_
  show Steps p.tables e below (T.setTop (mkF m 3 #[.val (.int x0)] [(.int (9 : Int32)), (.int x0)])) _
  by_cases h3 : x0 = (9 : Int32)
  · rw [if_pos h3] at hz
    refine XS.icmpYes X.here hx rfl (pc0 := 3) (pc' := 54) rfl (hb hby d2_3) rfl (teq h3).1 (by decide) (by decide) ?_
    show Steps p.tables e below (T.setTop (mkF m 54 #[.val (.int x0)] [])) _
    exact b2_54 X hx hby hown hret hl k7 k8 k9 k10 k11 x0  hz
  · rw [if_neg h3] at hz
    refine XS.icmpNo X.here hx rfl (hb hby d2_3) rfl (feq h3).1 ?_
    show Steps p.tables e below (T.setTop (mkF m 6 #[.val (.int x0)] [])) _
    refine XS.iloadN X.here hx rfl (hb hby d2_6) rfl ?_
    show Steps p.tables e below (T.setTop (mkF m 7 #[.val (.int x0)] [(.int x0)])) _
    refine XS.bipush X.here hx rfl (hb hby d2_7) ?_
    show Steps p.tables e below (T.setTop (mkF m 9 #[.val (.int x0)] [(.int (10 : Int32)), (.int x0)])) _
    by_cases h9 : x0 = (10 : Int32)
    · rw [if_pos h9] at hz
      refine XS.icmpYes X.here hx rfl (pc0 := 9) (pc' := 54) rfl (hb hby d2_9) rfl (teq h9).1 (by decide) (by decide) ?_
      show Steps p.tables e below (T.setTop (mkF m 54 #[.val (.int x0)] [])) _
      exact b2_54 X hx hby hown hret hl k7 k8 k9 k10 k11 x0  hz
    · rw [if_neg h9] at hz
      refine XS.icmpNo X.here hx rfl (hb hby d2_9) rfl (feq h9).1 ?_
      show Steps p.tables e below (T.setTop (mkF m 12 #[.val (.int x0)] [])) _
      refine XS.iloadN X.here hx rfl (hb hby d2_12) rfl ?_
      show Steps p.tables e below (T.setTop (mkF m 13 #[.val (.int x0)] [(.int x0)])) _
      refine XS.bipush X.here hx rfl (hb hby d2_13) ?_
      show Steps p.tables e below (T.setTop (mkF m 15 #[.val (.int x0)] [(.int (13 : Int32)), (.int x0)])) _
      by_cases h15 : x0 = (13 : Int32)
      · rw [if_pos h15] at hz
        refine XS.icmpYes X.here hx rfl (pc0 := 15) (pc' := 54) rfl (hb hby d2_15) rfl (teq h15).1 (by decide) (by decide) ?_
        show Steps p.tables e below (T.setTop (mkF m 54 #[.val (.int x0)] [])) _
        exact b2_54 X hx hby hown hret hl k7 k8 k9 k10 k11 x0  hz
      · rw [if_neg h15] at hz
        refine XS.icmpNo X.here hx rfl (hb hby d2_15) rfl (feq h15).1 ?_
        show Steps p.tables e below (T.setTop (mkF m 18 #[.val (.int x0)] [])) _
        refine XS.iloadN X.here hx rfl (hb hby d2_18) rfl ?_
        show Steps p.tables e below (T.setTop (mkF m 19 #[.val (.int x0)] [(.int x0)])) _
        refine XS.bipush X.here hx rfl (hb hby d2_19) ?_
        show Steps p.tables e below (T.setTop (mkF m 21 #[.val (.int x0)] [(.int (32 : Int32)), (.int x0)])) _
        by_cases h21 : x0 < (32 : Int32)
        · rw [if_pos h21] at hz
          refine XS.icmpYes X.here hx rfl (pc0 := 21) (pc' := 30) rfl (hb hby d2_21) rfl (tlt h21).1 (by decide) (by decide) ?_
          show Steps p.tables e below (T.setTop (mkF m 30 #[.val (.int x0)] [])) _
          exact b2_30 X hx hby hown hret hl k7 k8 k9 k10 k11 x0  hz
        · rw [if_neg h21] at hz
          refine XS.icmpNo X.here hx rfl (hb hby d2_21) rfl (flt h21).1 ?_
          show Steps p.tables e below (T.setTop (mkF m 24 #[.val (.int x0)] [])) _
          refine XS.iloadN X.here hx rfl (hb hby d2_24) rfl ?_
          show Steps p.tables e below (T.setTop (mkF m 25 #[.val (.int x0)] [(.int x0)])) _
          refine X.ldcInt hx hown k7 (g := (mkF m 25 #[.val (.int x0)] [(.int x0)])) rfl (hb hby d2_25) _ ?_
          show Steps p.tables e below (T.setTop (mkF m 27 #[.val (.int x0)] [(.int (55295 : Int32)), (.int x0)])) _
          by_cases h27 : (55295 : Int32) < x0
          · rw [if_pos h27] at hz
            refine XS.icmpNo X.here hx rfl (hb hby d2_27) rfl (tlt h27).2.2.2 ?_
            show Steps p.tables e below (T.setTop (mkF m 30 #[.val (.int x0)] [])) _
            exact b2_30 X hx hby hown hret hl k7 k8 k9 k10 k11 x0  hz
          · rw [if_neg h27] at hz
            refine XS.icmpYes X.here hx rfl (pc0 := 27) (pc' := 54) rfl (hb hby d2_27) rfl (flt h27).2.2.2 (by decide) (by decide) ?_
            show Steps p.tables e below (T.setTop (mkF m 54 #[.val (.int x0)] [])) _
            exact b2_54 X hx hby hown hret hl k7 k8 k9 k10 k11 x0  hz
theorem ef_2 (m : MethodId) (p1 : Int32) : entryFrame m #[(.int p1)] 1 = mkF m 0 #[.val (.int p1)] [] := by first | (simp [entryFrame, mkF, argsToLocals, Value.category]; done) | rfl
def Q2 (p1 : Int32) (h0 : Heap) (n0 : Nat) (v : Option Value) (h : Heap) (L : List Loc) : Prop := v = some (.int (f2_0 p1)) ∧ Fr n0 L ∧ h = h0
set_option maxRecDepth 65536 in
set_option maxHeartbeats 40000000 in
theorem rm2 (l : Launch) (Z : State) (a0 : Array Value) (hw : ∀ d ∈ tables_1, d.before a0 Z = true) (ws : List Jvm.Cond) (p1 : Int32) (h0 : Heap) (n0 : Nat) :
    MetFree l (⟨"com/example/twyg/twyg/xml/XmlCharacters", "isCharacter", "(I)Z"⟩ : MethodName) (head1 (Jvm.Cond.code (⟨"com/example/twyg/twyg/xml/XmlCharacters", "isCharacter", "(I)Z"⟩ : MethodName) prog_262_method_2_code 1 (some .boolean) :: ws) ({ frames := 0, cells := 0, slots := 0, locals := 0 } : Room)) (fun a U => a = #[(.int p1)] ∧ Z.Warmed39 U.vm ∧ U.heap = h0) (fun _ _ _ _ _ => True) (fun _ U o U' => ∃ v L, o = .returned v ∧ Q2 p1 h0 n0 v U'.heap L ∧ FrameEnd U o U' L ({ frames := 0, cells := 0, slots := 0, locals := 0 } : Room).cells ({ frames := 0, cells := 0, slots := 0, locals := 0 } : Room).slots) := by
  refine MetFree.of_bodySF (plainFor_of_name pn_2) hisR ?_
  intro p e s m args below meth c s₁ Bd hml0 hP hK
  obtain ⟨rfl, hZ, hh⟩ := hP
  have hx := Bd.exec
  have hby := Bd.bytes
  have hml : c.maxLocals = 1 := hml0
  have hown : s.vm.findClass "com/example/twyg/twyg/xml/XmlCharacters" = some m.cls := findClass_of_methodNamed Bd.named
  have hnm := (name_of_methodNamed Bd.named Bd.method).1
  have X0 : Stand p l e ({ frames := 0, cells := 0, slots := 0, locals := 0 } : Room) s m #[(.int p1)] below meth c s₁ [] 0 0 := Stand.of_body Bd
  have e0 : s₁.heap = h0 := by rw [← hh, Bd.state]; rfl
  have N0 := Fr.nil n0
  have pre0 : ∀ t, Steps p.tables e below (s₁.setTop (mkF m 0 #[.val (.int p1)] [])) t → Steps p.tables e below (s₁.setTop (entryFrame m #[(.int p1)] 1)) t := fun t k => castTop (ef_2 m p1) k
  obtain ⟨fs, hr, hrun, hended, hW, hsame⟩ := X0.leave (v := some (.int (f2_0 p1))) (fun h => by rw [Bd.returns] at h; cases h)
  refine ⟨_, _, pre0 _ ?_, hrun, hended, _, _, rfl, ?_, ⟨_, rfl⟩, hW, hsame.mono (by decide) (by decide)⟩
  · exact b2_0 X0 hx hby hown Bd.returns hr (mvT hZ (hw _ (List.mem_of_getElem? (i := 26) rfl))) (mvT hZ (hw _ (List.mem_of_getElem? (i := 9) rfl))) (mvT hZ (hw _ (List.mem_of_getElem? (i := 27) rfl))) (mvT hZ (hw _ (List.mem_of_getElem? (i := 10) rfl))) (mvT hZ (hw _ (List.mem_of_getElem? (i := 28) rfl))) p1 rfl
  · show Q2 p1 h0 n0 _ s₁.heap _
    rw [e0]
    exact ⟨rfl, N0, rfl⟩
theorem d3_0 : decode method_3_code 0 = .ok (.iload_n 0, 1) := by decide +kernel
theorem d3_1 : decode method_3_code 1 = .ok (.ifCond .lt 9, 3) := by decide +kernel
theorem d3_4 : decode method_3_code 4 = .ok (.iload_n 0, 1) := by decide +kernel
theorem d3_5 : decode method_3_code 5 = .ok (.ldc 16, 2) := by decide +kernel
theorem d3_7 : decode method_3_code 7 = .ok (.if_icmp .le 5, 3) := by decide +kernel
theorem d3_10 : decode method_3_code 10 = .ok (.iconst 0, 1) := by decide +kernel
theorem d3_11 : decode method_3_code 11 = .ok (.ireturn, 1) := by decide +kernel
theorem d3_12 : decode method_3_code 12 = .ok (.iload_n 0, 1) := by decide +kernel
theorem d3_13 : decode method_3_code 13 = .ok (.bipush 32, 2) := by decide +kernel
theorem d3_15 : decode method_3_code 15 = .ok (.if_icmp .ge 27, 3) := by decide +kernel
theorem d3_18 : decode method_3_code 18 = .ok (.iload_n 0, 1) := by decide +kernel
theorem d3_19 : decode method_3_code 19 = .ok (.bipush 9, 2) := by decide +kernel
theorem d3_21 : decode method_3_code 21 = .ok (.if_icmp .eq 15, 3) := by decide +kernel
theorem d3_24 : decode method_3_code 24 = .ok (.iload_n 0, 1) := by decide +kernel
theorem d3_25 : decode method_3_code 25 = .ok (.bipush 10, 2) := by decide +kernel
theorem d3_27 : decode method_3_code 27 = .ok (.if_icmp .eq 9, 3) := by decide +kernel
theorem d3_30 : decode method_3_code 30 = .ok (.iload_n 0, 1) := by decide +kernel
theorem d3_31 : decode method_3_code 31 = .ok (.bipush 13, 2) := by decide +kernel
theorem d3_33 : decode method_3_code 33 = .ok (.if_icmp .ne 7, 3) := by decide +kernel
theorem d3_36 : decode method_3_code 36 = .ok (.iconst 1, 1) := by decide +kernel
theorem d3_37 : decode method_3_code 37 = .ok (.goto 4, 3) := by decide +kernel
theorem d3_40 : decode method_3_code 40 = .ok (.iconst 0, 1) := by decide +kernel
theorem d3_41 : decode method_3_code 41 = .ok (.ireturn, 1) := by decide +kernel
theorem d3_42 : decode method_3_code 42 = .ok (.iload_n 0, 1) := by decide +kernel
theorem d3_43 : decode method_3_code 43 = .ok (.ldc 10, 2) := by decide +kernel
theorem d3_45 : decode method_3_code 45 = .ok (.if_icmp .lt 11, 3) := by decide +kernel
theorem d3_48 : decode method_3_code 48 = .ok (.iload_n 0, 1) := by decide +kernel
theorem d3_49 : decode method_3_code 49 = .ok (.ldc 11, 2) := by decide +kernel
theorem d3_51 : decode method_3_code 51 = .ok (.if_icmp .gt 5, 3) := by decide +kernel
theorem d3_54 : decode method_3_code 54 = .ok (.iconst 0, 1) := by decide +kernel
theorem d3_55 : decode method_3_code 55 = .ok (.ireturn, 1) := by decide +kernel
theorem d3_56 : decode method_3_code 56 = .ok (.iload_n 0, 1) := by decide +kernel
theorem d3_57 : decode method_3_code 57 = .ok (.ldc 14, 2) := by decide +kernel
theorem d3_59 : decode method_3_code 59 = .ok (.if_icmp .eq 9, 3) := by decide +kernel
theorem d3_62 : decode method_3_code 62 = .ok (.iload_n 0, 1) := by decide +kernel
theorem d3_63 : decode method_3_code 63 = .ok (.ldc 8, 2) := by decide +kernel
theorem d3_65 : decode method_3_code 65 = .ok (.if_icmp .ne 5, 3) := by decide +kernel
theorem d3_68 : decode method_3_code 68 = .ok (.iconst 0, 1) := by decide +kernel
theorem d3_69 : decode method_3_code 69 = .ok (.ireturn, 1) := by decide +kernel
theorem d3_70 : decode method_3_code 70 = .ok (.iconst 1, 1) := by decide +kernel
theorem d3_71 : decode method_3_code 71 = .ok (.ireturn, 1) := by decide +kernel
theorem pn_3 : plainName "com/example/twyg/twyg/xml/XmlCharactersIsCharacterPinLaw" = true := by first | (simp [plainName, overriddenIn]; done) | decide +kernel
def f3_68 (x0 : Int32) : Int32 := nar .boolean (0 : Int32)
theorem b3_68 {p : Program} {l : Launch} {e : Env} {R : Room} {s : State} {m : MethodId} {args : Array Value} {below : List Frame} {meth : Method} {c : Code} {T : State} {locs : List Loc} {cells slots : Nat} (X : Stand p l e R s m args below meth c T locs cells slots) (hx : p.tables.exec = Jvm.exec) (hby : c.code = method_3_code) (hown : s.vm.findClass "com/example/twyg/twyg/xml/XmlCharactersIsCharacterPinLaw" = some m.cls) (hret : meth.sig.returnType = some .boolean) {fs : List Frame} {z : Int32} (hl : ∀ (f : JFrame) (acts : List Action), f.method = m → f.locked = none → f.entered = [] → (doReturn e (T.setTop f) acts (some (.int z))).1 = T.setFrames fs) (k8 : (Jvm.Cond.constant "com/example/twyg/twyg/xml/XmlCharactersIsCharacterPinLaw" 8 (65535 : Int32)).before args s = true) (k10 : (Jvm.Cond.constant "com/example/twyg/twyg/xml/XmlCharactersIsCharacterPinLaw" 10 (55296 : Int32)).before args s = true) (k11 : (Jvm.Cond.constant "com/example/twyg/twyg/xml/XmlCharactersIsCharacterPinLaw" 11 (57343 : Int32)).before args s = true) (k14 : (Jvm.Cond.constant "com/example/twyg/twyg/xml/XmlCharactersIsCharacterPinLaw" 14 (65534 : Int32)).before args s = true) (k16 : (Jvm.Cond.constant "com/example/twyg/twyg/xml/XmlCharactersIsCharacterPinLaw" 16 (1114111 : Int32)).before args s = true) (x0 : Int32) (hz : f3_68 x0 = z) :
    Steps p.tables e below (T.setTop (mkF m 68 #[.val (.int x0)] [])) (T.setFrames fs) := by
  unfold f3_68 at hz
  refine XS.iconst X.here hx rfl (hb hby d3_68) ?_
  show Steps p.tables e below (T.setTop (mkF m 69 #[.val (.int x0)] [(.int (0 : Int32))])) _
  subst hz
  exact retN X hx hret (by simp) (hb hby d3_69) hl
def f3_56 (x0 : Int32) : Int32 := if x0 = (65534 : Int32) then f3_68 x0 else (if x0 = (65535 : Int32) then f3_68 x0 else nar .boolean (1 : Int32))
theorem b3_56 {p : Program} {l : Launch} {e : Env} {R : Room} {s : State} {m : MethodId} {args : Array Value} {below : List Frame} {meth : Method} {c : Code} {T : State} {locs : List Loc} {cells slots : Nat} (X : Stand p l e R s m args below meth c T locs cells slots) (hx : p.tables.exec = Jvm.exec) (hby : c.code = method_3_code) (hown : s.vm.findClass "com/example/twyg/twyg/xml/XmlCharactersIsCharacterPinLaw" = some m.cls) (hret : meth.sig.returnType = some .boolean) {fs : List Frame} {z : Int32} (hl : ∀ (f : JFrame) (acts : List Action), f.method = m → f.locked = none → f.entered = [] → (doReturn e (T.setTop f) acts (some (.int z))).1 = T.setFrames fs) (k8 : (Jvm.Cond.constant "com/example/twyg/twyg/xml/XmlCharactersIsCharacterPinLaw" 8 (65535 : Int32)).before args s = true) (k10 : (Jvm.Cond.constant "com/example/twyg/twyg/xml/XmlCharactersIsCharacterPinLaw" 10 (55296 : Int32)).before args s = true) (k11 : (Jvm.Cond.constant "com/example/twyg/twyg/xml/XmlCharactersIsCharacterPinLaw" 11 (57343 : Int32)).before args s = true) (k14 : (Jvm.Cond.constant "com/example/twyg/twyg/xml/XmlCharactersIsCharacterPinLaw" 14 (65534 : Int32)).before args s = true) (k16 : (Jvm.Cond.constant "com/example/twyg/twyg/xml/XmlCharactersIsCharacterPinLaw" 16 (1114111 : Int32)).before args s = true) (x0 : Int32) (hz : f3_56 x0 = z) :
    Steps p.tables e below (T.setTop (mkF m 56 #[.val (.int x0)] [])) (T.setFrames fs) := by
  unfold f3_56 at hz
  refine XS.iloadN X.here hx rfl (hb hby d3_56) rfl ?_
  show Steps p.tables e below (T.setTop (mkF m 57 #[.val (.int x0)] [(.int x0)])) _
  refine X.ldcInt hx hown k14 (g := (mkF m 57 #[.val (.int x0)] [(.int x0)])) rfl (hb hby d3_57) _ ?_
  show Steps p.tables e below (T.setTop (mkF m 59 #[.val (.int x0)] [(.int (65534 : Int32)), (.int x0)])) _
  by_cases h59 : x0 = (65534 : Int32)
  · rw [if_pos h59] at hz
    refine XS.icmpYes X.here hx rfl (pc0 := 59) (pc' := 68) rfl (hb hby d3_59) rfl (teq h59).1 (by decide) (by decide) ?_
    show Steps p.tables e below (T.setTop (mkF m 68 #[.val (.int x0)] [])) _
    exact b3_68 X hx hby hown hret hl k8 k10 k11 k14 k16 x0  hz
  · rw [if_neg h59] at hz
    refine XS.icmpNo X.here hx rfl (hb hby d3_59) rfl (feq h59).1 ?_
    show Steps p.tables e below (T.setTop (mkF m 62 #[.val (.int x0)] [])) _
    refine XS.iloadN X.here hx rfl (hb hby d3_62) rfl ?_
    show Steps p.tables e below (T.setTop (mkF m 63 #[.val (.int x0)] [(.int x0)])) _
    refine X.ldcInt hx hown k8 (g := (mkF m 63 #[.val (.int x0)] [(.int x0)])) rfl (hb hby d3_63) _ ?_
    show Steps p.tables e below (T.setTop (mkF m 65 #[.val (.int x0)] [(.int (65535 : Int32)), (.int x0)])) _
    by_cases h65 : x0 = (65535 : Int32)
    · rw [if_pos h65] at hz
      refine XS.icmpNo X.here hx rfl (hb hby d3_65) rfl (teq h65).2 ?_
      show Steps p.tables e below (T.setTop (mkF m 68 #[.val (.int x0)] [])) _
      exact b3_68 X hx hby hown hret hl k8 k10 k11 k14 k16 x0  hz
    · rw [if_neg h65] at hz
      refine XS.icmpYes X.here hx rfl (pc0 := 65) (pc' := 70) rfl (hb hby d3_65) rfl (feq h65).2 (by decide) (by decide) ?_
      show Steps p.tables e below (T.setTop (mkF m 70 #[.val (.int x0)] [])) _
      refine XS.iconst X.here hx rfl (hb hby d3_70) ?_
      show Steps p.tables e below (T.setTop (mkF m 71 #[.val (.int x0)] [(.int (1 : Int32))])) _
      subst hz
      exact retN X hx hret (by simp) (hb hby d3_71) hl
def f3_41 (x0 : Int32) (y0 : Int32) : Int32 := nar .boolean y0
theorem b3_41 {p : Program} {l : Launch} {e : Env} {R : Room} {s : State} {m : MethodId} {args : Array Value} {below : List Frame} {meth : Method} {c : Code} {T : State} {locs : List Loc} {cells slots : Nat} (X : Stand p l e R s m args below meth c T locs cells slots) (hx : p.tables.exec = Jvm.exec) (hby : c.code = method_3_code) (hown : s.vm.findClass "com/example/twyg/twyg/xml/XmlCharactersIsCharacterPinLaw" = some m.cls) (hret : meth.sig.returnType = some .boolean) {fs : List Frame} {z : Int32} (hl : ∀ (f : JFrame) (acts : List Action), f.method = m → f.locked = none → f.entered = [] → (doReturn e (T.setTop f) acts (some (.int z))).1 = T.setFrames fs) (k8 : (Jvm.Cond.constant "com/example/twyg/twyg/xml/XmlCharactersIsCharacterPinLaw" 8 (65535 : Int32)).before args s = true) (k10 : (Jvm.Cond.constant "com/example/twyg/twyg/xml/XmlCharactersIsCharacterPinLaw" 10 (55296 : Int32)).before args s = true) (k11 : (Jvm.Cond.constant "com/example/twyg/twyg/xml/XmlCharactersIsCharacterPinLaw" 11 (57343 : Int32)).before args s = true) (k14 : (Jvm.Cond.constant "com/example/twyg/twyg/xml/XmlCharactersIsCharacterPinLaw" 14 (65534 : Int32)).before args s = true) (k16 : (Jvm.Cond.constant "com/example/twyg/twyg/xml/XmlCharactersIsCharacterPinLaw" 16 (1114111 : Int32)).before args s = true) (x0 : Int32) (y0 : Int32) (hz : f3_41 x0 y0 = z) :
    Steps p.tables e below (T.setTop (mkF m 41 #[.val (.int x0)] [(.int y0)])) (T.setFrames fs) := by
  unfold f3_41 at hz
  subst hz
  exact retN X hx hret (by simp) (hb hby d3_41) hl
def f3_36 (x0 : Int32) : Int32 := f3_41 x0 (1 : Int32)
theorem b3_36 {p : Program} {l : Launch} {e : Env} {R : Room} {s : State} {m : MethodId} {args : Array Value} {below : List Frame} {meth : Method} {c : Code} {T : State} {locs : List Loc} {cells slots : Nat} (X : Stand p l e R s m args below meth c T locs cells slots) (hx : p.tables.exec = Jvm.exec) (hby : c.code = method_3_code) (hown : s.vm.findClass "com/example/twyg/twyg/xml/XmlCharactersIsCharacterPinLaw" = some m.cls) (hret : meth.sig.returnType = some .boolean) {fs : List Frame} {z : Int32} (hl : ∀ (f : JFrame) (acts : List Action), f.method = m → f.locked = none → f.entered = [] → (doReturn e (T.setTop f) acts (some (.int z))).1 = T.setFrames fs) (k8 : (Jvm.Cond.constant "com/example/twyg/twyg/xml/XmlCharactersIsCharacterPinLaw" 8 (65535 : Int32)).before args s = true) (k10 : (Jvm.Cond.constant "com/example/twyg/twyg/xml/XmlCharactersIsCharacterPinLaw" 10 (55296 : Int32)).before args s = true) (k11 : (Jvm.Cond.constant "com/example/twyg/twyg/xml/XmlCharactersIsCharacterPinLaw" 11 (57343 : Int32)).before args s = true) (k14 : (Jvm.Cond.constant "com/example/twyg/twyg/xml/XmlCharactersIsCharacterPinLaw" 14 (65534 : Int32)).before args s = true) (k16 : (Jvm.Cond.constant "com/example/twyg/twyg/xml/XmlCharactersIsCharacterPinLaw" 16 (1114111 : Int32)).before args s = true) (x0 : Int32) (hz : f3_36 x0 = z) :
    Steps p.tables e below (T.setTop (mkF m 36 #[.val (.int x0)] [])) (T.setFrames fs) := by
  unfold f3_36 at hz
  refine XS.iconst X.here hx rfl (hb hby d3_36) ?_
  show Steps p.tables e below (T.setTop (mkF m 37 #[.val (.int x0)] [(.int (1 : Int32))])) _
  refine XS.goto X.here hx rfl (pc0 := 37) (pc' := 41) rfl (hb hby d3_37) (by decide) (by decide) ?_
  show Steps p.tables e below (T.setTop (mkF m 41 #[.val (.int x0)] [(.int (1 : Int32))])) _
  exact b3_41 X hx hby hown hret hl k8 k10 k11 k14 k16 x0 (1 : Int32)  hz
def f3_10 (x0 : Int32) : Int32 := nar .boolean (0 : Int32)
theorem b3_10 {p : Program} {l : Launch} {e : Env} {R : Room} {s : State} {m : MethodId} {args : Array Value} {below : List Frame} {meth : Method} {c : Code} {T : State} {locs : List Loc} {cells slots : Nat} (X : Stand p l e R s m args below meth c T locs cells slots) (hx : p.tables.exec = Jvm.exec) (hby : c.code = method_3_code) (hown : s.vm.findClass "com/example/twyg/twyg/xml/XmlCharactersIsCharacterPinLaw" = some m.cls) (hret : meth.sig.returnType = some .boolean) {fs : List Frame} {z : Int32} (hl : ∀ (f : JFrame) (acts : List Action), f.method = m → f.locked = none → f.entered = [] → (doReturn e (T.setTop f) acts (some (.int z))).1 = T.setFrames fs) (k8 : (Jvm.Cond.constant "com/example/twyg/twyg/xml/XmlCharactersIsCharacterPinLaw" 8 (65535 : Int32)).before args s = true) (k10 : (Jvm.Cond.constant "com/example/twyg/twyg/xml/XmlCharactersIsCharacterPinLaw" 10 (55296 : Int32)).before args s = true) (k11 : (Jvm.Cond.constant "com/example/twyg/twyg/xml/XmlCharactersIsCharacterPinLaw" 11 (57343 : Int32)).before args s = true) (k14 : (Jvm.Cond.constant "com/example/twyg/twyg/xml/XmlCharactersIsCharacterPinLaw" 14 (65534 : Int32)).before args s = true) (k16 : (Jvm.Cond.constant "com/example/twyg/twyg/xml/XmlCharactersIsCharacterPinLaw" 16 (1114111 : Int32)).before args s = true) (x0 : Int32) (hz : f3_10 x0 = z) :
    Steps p.tables e below (T.setTop (mkF m 10 #[.val (.int x0)] [])) (T.setFrames fs) := by
  unfold f3_10 at hz
  refine XS.iconst X.here hx rfl (hb hby d3_10) ?_
  show Steps p.tables e below (T.setTop (mkF m 11 #[.val (.int x0)] [(.int (0 : Int32))])) _
  subst hz
  exact retN X hx hret (by simp) (hb hby d3_11) hl
def f3_0 (x0 : Int32) : Int32 := if x0 < (0 : Int32) then f3_10 x0 else (if (1114111 : Int32) < x0 then f3_10 x0 else (if x0 < (32 : Int32) then (if x0 = (9 : Int32) then f3_36 x0 else (if x0 = (10 : Int32) then f3_36 x0 else (if x0 = (13 : Int32) then f3_36 x0 else f3_41 x0 (0 : Int32)))) else (if x0 < (55296 : Int32) then f3_56 x0 else (if (57343 : Int32) < x0 then f3_56 x0 else nar .boolean (0 : Int32)))))
theorem b3_0 {p : Program} {l : Launch} {e : Env} {R : Room} {s : State} {m : MethodId} {args : Array Value} {below : List Frame} {meth : Method} {c : Code} {T : State} {locs : List Loc} {cells slots : Nat} (X : Stand p l e R s m args below meth c T locs cells slots) (hx : p.tables.exec = Jvm.exec) (hby : c.code = method_3_code) (hown : s.vm.findClass "com/example/twyg/twyg/xml/XmlCharactersIsCharacterPinLaw" = some m.cls) (hret : meth.sig.returnType = some .boolean) {fs : List Frame} {z : Int32} (hl : ∀ (f : JFrame) (acts : List Action), f.method = m → f.locked = none → f.entered = [] → (doReturn e (T.setTop f) acts (some (.int z))).1 = T.setFrames fs) (k8 : (Jvm.Cond.constant "com/example/twyg/twyg/xml/XmlCharactersIsCharacterPinLaw" 8 (65535 : Int32)).before args s = true) (k10 : (Jvm.Cond.constant "com/example/twyg/twyg/xml/XmlCharactersIsCharacterPinLaw" 10 (55296 : Int32)).before args s = true) (k11 : (Jvm.Cond.constant "com/example/twyg/twyg/xml/XmlCharactersIsCharacterPinLaw" 11 (57343 : Int32)).before args s = true) (k14 : (Jvm.Cond.constant "com/example/twyg/twyg/xml/XmlCharactersIsCharacterPinLaw" 14 (65534 : Int32)).before args s = true) (k16 : (Jvm.Cond.constant "com/example/twyg/twyg/xml/XmlCharactersIsCharacterPinLaw" 16 (1114111 : Int32)).before args s = true) (x0 : Int32) (hz : f3_0 x0 = z) :
    Steps p.tables e below (T.setTop (mkF m 0 #[.val (.int x0)] [])) (T.setFrames fs) := by
  unfold f3_0 at hz
  refine XS.iloadN X.here hx rfl (hb hby d3_0) rfl ?_
  show Steps p.tables e below (T.setTop (mkF m 1 #[.val (.int x0)] [(.int x0)])) _
  by_cases h1 : x0 < (0 : Int32)
  · rw [if_pos h1] at hz
    refine XS.ifYes X.here hx rfl (pc0 := 1) (pc' := 10) rfl (hb hby d3_1) rfl ((if0 _ _).trans (tlt h1).1) (by decide) (by decide) ?_
    show Steps p.tables e below (T.setTop (mkF m 10 #[.val (.int x0)] [])) _
    exact b3_10 X hx hby hown hret hl k8 k10 k11 k14 k16 x0  hz
  · rw [if_neg h1] at hz
    refine XS.ifNo X.here hx rfl (hb hby d3_1) rfl ((if0 _ _).trans (flt h1).1) ?_
    show Steps p.tables e below (T.setTop (mkF m 4 #[.val (.int x0)] [])) _
    refine XS.iloadN X.here hx rfl (hb hby d3_4) rfl ?_
    show Steps p.tables e below (T.setTop (mkF m 5 #[.val (.int x0)] [(.int x0)])) _
    refine X.ldcInt hx hown k16 (g := (mkF m 5 #[.val (.int x0)] [(.int x0)])) rfl (hb hby d3_5) _ ?_
    show Steps p.tables e below (T.setTop (mkF m 7 #[.val (.int x0)] [(.int (1114111 : Int32)), (.int x0)])) _
    by_cases h7 : (1114111 : Int32) < x0
    · rw [if_pos h7] at hz
      refine XS.icmpNo X.here hx rfl (hb hby d3_7) rfl (tlt h7).2.2.2 ?_
      show Steps p.tables e below (T.setTop (mkF m 10 #[.val (.int x0)] [])) _
      exact b3_10 X hx hby hown hret hl k8 k10 k11 k14 k16 x0  hz
    · rw [if_neg h7] at hz
      refine XS.icmpYes X.here hx rfl (pc0 := 7) (pc' := 12) rfl (hb hby d3_7) rfl (flt h7).2.2.2 (by decide) (by decide) ?_
      show Steps p.tables e below (T.setTop (mkF m 12 #[.val (.int x0)] [])) _
      refine XS.iloadN X.here hx rfl (hb hby d3_12) rfl ?_
      show Steps p.tables e below (T.setTop (mkF m 13 #[.val (.int x0)] [(.int x0)])) _
      refine XS.bipush X.here hx rfl (hb hby d3_13) ?_
      show Steps p.tables e below (T.setTop (mkF m 15 #[.val (.int x0)] [(.int (32 : Int32)), (.int x0)])) _
      by_cases h15 : x0 < (32 : Int32)
      · rw [if_pos h15] at hz
        refine XS.icmpNo X.here hx rfl (hb hby d3_15) rfl (tlt h15).2.1 ?_
        show Steps p.tables e below (T.setTop (mkF m 18 #[.val (.int x0)] [])) _
        refine XS.iloadN X.here hx rfl (hb hby d3_18) rfl ?_
        show Steps p.tables e below (T.setTop (mkF m 19 #[.val (.int x0)] [(.int x0)])) _
        refine XS.bipush X.here hx rfl (hb hby d3_19) ?_
        show Steps p.tables e below (T.setTop (mkF m 21 #[.val (.int x0)] [(.int (9 : Int32)), (.int x0)])) _
        by_cases h21 : x0 = (9 : Int32)
        · rw [if_pos h21] at hz
          refine XS.icmpYes X.here hx rfl (pc0 := 21) (pc' := 36) rfl (hb hby d3_21) rfl (teq h21).1 (by decide) (by decide) ?_
          show Steps p.tables e below (T.setTop (mkF m 36 #[.val (.int x0)] [])) _
          exact b3_36 X hx hby hown hret hl k8 k10 k11 k14 k16 x0  hz
        · rw [if_neg h21] at hz
          refine XS.icmpNo X.here hx rfl (hb hby d3_21) rfl (feq h21).1 ?_
          show Steps p.tables e below (T.setTop (mkF m 24 #[.val (.int x0)] [])) _
          refine XS.iloadN X.here hx rfl (hb hby d3_24) rfl ?_
          show Steps p.tables e below (T.setTop (mkF m 25 #[.val (.int x0)] [(.int x0)])) _
          refine XS.bipush X.here hx rfl (hb hby d3_25) ?_
          show Steps p.tables e below (T.setTop (mkF m 27 #[.val (.int x0)] [(.int (10 : Int32)), (.int x0)])) _
          by_cases h27 : x0 = (10 : Int32)
          · rw [if_pos h27] at hz
            refine XS.icmpYes X.here hx rfl (pc0 := 27) (pc' := 36) rfl (hb hby d3_27) rfl (teq h27).1 (by decide) (by decide) ?_
            show Steps p.tables e below (T.setTop (mkF m 36 #[.val (.int x0)] [])) _
            exact b3_36 X hx hby hown hret hl k8 k10 k11 k14 k16 x0  hz
          · rw [if_neg h27] at hz
            refine XS.icmpNo X.here hx rfl (hb hby d3_27) rfl (feq h27).1 ?_
            show Steps p.tables e below (T.setTop (mkF m 30 #[.val (.int x0)] [])) _
            refine XS.iloadN X.here hx rfl (hb hby d3_30) rfl ?_
            show Steps p.tables e below (T.setTop (mkF m 31 #[.val (.int x0)] [(.int x0)])) _
            refine XS.bipush X.here hx rfl (hb hby d3_31) ?_
            show Steps p.tables e below (T.setTop (mkF m 33 #[.val (.int x0)] [(.int (13 : Int32)), (.int x0)])) _
            by_cases h33 : x0 = (13 : Int32)
            · rw [if_pos h33] at hz
              refine XS.icmpNo X.here hx rfl (hb hby d3_33) rfl (teq h33).2 ?_
              show Steps p.tables e below (T.setTop (mkF m 36 #[.val (.int x0)] [])) _
              exact b3_36 X hx hby hown hret hl k8 k10 k11 k14 k16 x0  hz
            · rw [if_neg h33] at hz
              refine XS.icmpYes X.here hx rfl (pc0 := 33) (pc' := 40) rfl (hb hby d3_33) rfl (feq h33).2 (by decide) (by decide) ?_
              show Steps p.tables e below (T.setTop (mkF m 40 #[.val (.int x0)] [])) _
              refine XS.iconst X.here hx rfl (hb hby d3_40) ?_
              show Steps p.tables e below (T.setTop (mkF m 41 #[.val (.int x0)] [(.int (0 : Int32))])) _
              exact b3_41 X hx hby hown hret hl k8 k10 k11 k14 k16 x0 (0 : Int32)  hz
      · rw [if_neg h15] at hz
        refine XS.icmpYes X.here hx rfl (pc0 := 15) (pc' := 42) rfl (hb hby d3_15) rfl (flt h15).2.1 (by decide) (by decide) ?_
        show Steps p.tables e below (T.setTop (mkF m 42 #[.val (.int x0)] [])) _
        refine XS.iloadN X.here hx rfl (hb hby d3_42) rfl ?_
        show Steps p.tables e below (T.setTop (mkF m 43 #[.val (.int x0)] [(.int x0)])) _
        refine X.ldcInt hx hown k10 (g := (mkF m 43 #[.val (.int x0)] [(.int x0)])) rfl (hb hby d3_43) _ ?_
        show Steps p.tables e below (T.setTop (mkF m 45 #[.val (.int x0)] [(.int (55296 : Int32)), (.int x0)])) _
        by_cases h45 : x0 < (55296 : Int32)
        · rw [if_pos h45] at hz
          refine XS.icmpYes X.here hx rfl (pc0 := 45) (pc' := 56) rfl (hb hby d3_45) rfl (tlt h45).1 (by decide) (by decide) ?_
          show Steps p.tables e below (T.setTop (mkF m 56 #[.val (.int x0)] [])) _
          exact b3_56 X hx hby hown hret hl k8 k10 k11 k14 k16 x0  hz
        · rw [if_neg h45] at hz
          refine XS.icmpNo X.here hx rfl (hb hby d3_45) rfl (flt h45).1 ?_
          show Steps p.tables e below (T.setTop (mkF m 48 #[.val (.int x0)] [])) _
          refine XS.iloadN X.here hx rfl (hb hby d3_48) rfl ?_
          show Steps p.tables e below (T.setTop (mkF m 49 #[.val (.int x0)] [(.int x0)])) _
          refine X.ldcInt hx hown k11 (g := (mkF m 49 #[.val (.int x0)] [(.int x0)])) rfl (hb hby d3_49) _ ?_
          show Steps p.tables e below (T.setTop (mkF m 51 #[.val (.int x0)] [(.int (57343 : Int32)), (.int x0)])) _
          by_cases h51 : (57343 : Int32) < x0
          · rw [if_pos h51] at hz
            refine XS.icmpYes X.here hx rfl (pc0 := 51) (pc' := 56) rfl (hb hby d3_51) rfl (tlt h51).2.2.1 (by decide) (by decide) ?_
            show Steps p.tables e below (T.setTop (mkF m 56 #[.val (.int x0)] [])) _
            exact b3_56 X hx hby hown hret hl k8 k10 k11 k14 k16 x0  hz
          · rw [if_neg h51] at hz
            refine XS.icmpNo X.here hx rfl (hb hby d3_51) rfl (flt h51).2.2.1 ?_
            show Steps p.tables e below (T.setTop (mkF m 54 #[.val (.int x0)] [])) _
            refine XS.iconst X.here hx rfl (hb hby d3_54) ?_
            show Steps p.tables e below (T.setTop (mkF m 55 #[.val (.int x0)] [(.int (0 : Int32))])) _
            subst hz
            exact retN X hx hret (by simp) (hb hby d3_55) hl
theorem ef_3 (m : MethodId) (p1 : Int32) : entryFrame m #[(.int p1)] 1 = mkF m 0 #[.val (.int p1)] [] := by first | (simp [entryFrame, mkF, argsToLocals, Value.category]; done) | rfl
def Q3 (p1 : Int32) (h0 : Heap) (n0 : Nat) (v : Option Value) (h : Heap) (L : List Loc) : Prop := v = some (.int (f3_0 p1)) ∧ Fr n0 L ∧ h = h0
set_option maxRecDepth 65536 in
set_option maxHeartbeats 40000000 in
theorem rm3 (l : Launch) (Z : State) (a0 : Array Value) (hw : ∀ d ∈ tables_1, d.before a0 Z = true) (ws : List Jvm.Cond) (p1 : Int32) (h0 : Heap) (n0 : Nat) :
    MetFree l (⟨"com/example/twyg/twyg/xml/XmlCharactersIsCharacterPinLaw", "expected", "(I)Z"⟩ : MethodName) (head1 (Jvm.Cond.code (⟨"com/example/twyg/twyg/xml/XmlCharactersIsCharacterPinLaw", "expected", "(I)Z"⟩ : MethodName) method_3_code 1 (some .boolean) :: ws) ({ frames := 0, cells := 0, slots := 0, locals := 0 } : Room)) (fun a U => a = #[(.int p1)] ∧ Z.Warmed39 U.vm ∧ U.heap = h0) (fun _ _ _ _ _ => True) (fun _ U o U' => ∃ v L, o = .returned v ∧ Q3 p1 h0 n0 v U'.heap L ∧ FrameEnd U o U' L ({ frames := 0, cells := 0, slots := 0, locals := 0 } : Room).cells ({ frames := 0, cells := 0, slots := 0, locals := 0 } : Room).slots) := by
  refine MetFree.of_bodySF (plainFor_of_name pn_3) hisR ?_
  intro p e s m args below meth c s₁ Bd hml0 hP hK
  obtain ⟨rfl, hZ, hh⟩ := hP
  have hx := Bd.exec
  have hby := Bd.bytes
  have hml : c.maxLocals = 1 := hml0
  have hown : s.vm.findClass "com/example/twyg/twyg/xml/XmlCharactersIsCharacterPinLaw" = some m.cls := findClass_of_methodNamed Bd.named
  have hnm := (name_of_methodNamed Bd.named Bd.method).1
  have X0 : Stand p l e ({ frames := 0, cells := 0, slots := 0, locals := 0 } : Room) s m #[(.int p1)] below meth c s₁ [] 0 0 := Stand.of_body Bd
  have e0 : s₁.heap = h0 := by rw [← hh, Bd.state]; rfl
  have N0 := Fr.nil n0
  have pre0 : ∀ t, Steps p.tables e below (s₁.setTop (mkF m 0 #[.val (.int p1)] [])) t → Steps p.tables e below (s₁.setTop (entryFrame m #[(.int p1)] 1)) t := fun t k => castTop (ef_3 m p1) k
  obtain ⟨fs, hr, hrun, hended, hW, hsame⟩ := X0.leave (v := some (.int (f3_0 p1))) (fun h => by rw [Bd.returns] at h; cases h)
  refine ⟨_, _, pre0 _ ?_, hrun, hended, _, _, rfl, ?_, ⟨_, rfl⟩, hW, hsame.mono (by decide) (by decide)⟩
  · exact b3_0 X0 hx hby hown Bd.returns hr (mvT hZ (hw _ (List.mem_of_getElem? (i := 4) rfl))) (mvT hZ (hw _ (List.mem_of_getElem? (i := 17) rfl))) (mvT hZ (hw _ (List.mem_of_getElem? (i := 18) rfl))) (mvT hZ (hw _ (List.mem_of_getElem? (i := 21) rfl))) (mvT hZ (hw _ (List.mem_of_getElem? (i := 14) rfl))) p1 rfl
  · show Q3 p1 h0 n0 _ s₁.heap _
    rw [e0]
    exact ⟨rfl, N0, rfl⟩
theorem own_nar (x : Int32) : nar .boolean x = x &&& 1 := rfl
theorem own_nar1 : nar .boolean (1 : Int32) = 1 := by decide
theorem own_nar0 : nar .boolean (0 : Int32) = 0 := by decide
theorem own_10 : ((1 : Int32) = 0) = False := by decide
theorem own_00 : ((0 : Int32) = 0) = True := by decide
theorem own_i0 : (0 : Int32).toInt = 0 := by decide
theorem own_i1 : (1 : Int32).toInt = 1 := by decide
theorem own_i9 : (9 : Int32).toInt = 9 := by decide
theorem own_i10 : (10 : Int32).toInt = 10 := by decide
theorem own_i13 : (13 : Int32).toInt = 13 := by decide
theorem own_i32 : (32 : Int32).toInt = 32 := by decide
theorem own_i55295 : (55295 : Int32).toInt = 55295 := by decide
theorem own_i55296 : (55296 : Int32).toInt = 55296 := by decide
theorem own_i57343 : (57343 : Int32).toInt = 57343 := by decide
theorem own_i57344 : (57344 : Int32).toInt = 57344 := by decide
theorem own_i65533 : (65533 : Int32).toInt = 65533 := by decide
theorem own_i65534 : (65534 : Int32).toInt = 65534 := by decide
theorem own_i65535 : (65535 : Int32).toInt = 65535 := by decide
theorem own_i65536 : (65536 : Int32).toInt = 65536 := by decide
theorem own_i1114111 : (1114111 : Int32).toInt = 1114111 := by decide
theorem sf2_54 (x : Int32) : f2_54 x = if True then 1 else 0 := by
  unfold f2_54
  have he : ∀ c : Int32, (x = c) = (x.toInt = c.toInt) := fun c => propext Int32.toInt_inj.symm
  simp only [own_nar1, own_nar0, own_10, own_00, ↓reduceIte, Int32.lt_iff_toInt_lt, he, own_i1, f2_59]
  all_goals
    have hl := Int32.le_toInt x
    have hh := Int32.toInt_lt x
    clear he
    generalize x.toInt = n at *
    repeat' split
    all_goals first | rfl | (exfalso; omega)
theorem sf2_58 (x : Int32) : f2_58 x = if False then 1 else 0 := by
  unfold f2_58
  have he : ∀ c : Int32, (x = c) = (x.toInt = c.toInt) := fun c => propext Int32.toInt_inj.symm
  simp only [own_nar1, own_nar0, own_10, own_00, ↓reduceIte, Int32.lt_iff_toInt_lt, he, own_i0, f2_59]
  all_goals
    have hl := Int32.le_toInt x
    have hh := Int32.toInt_lt x
    clear he
    generalize x.toInt = n at *
    repeat' split
    all_goals first | rfl | (exfalso; omega)
theorem sf2_42 (x : Int32) : f2_42 x = if (65536 ≤ x.toInt ∧ x.toInt ≤ 1114111) then 1 else 0 := by
  unfold f2_42
  have he : ∀ c : Int32, (x = c) = (x.toInt = c.toInt) := fun c => propext Int32.toInt_inj.symm
  simp only [own_nar1, own_nar0, own_10, own_00, ↓reduceIte, Int32.lt_iff_toInt_lt, he, own_i1114111, own_i65536, sf2_54, sf2_58]
  all_goals
    have hl := Int32.le_toInt x
    have hh := Int32.toInt_lt x
    clear he
    generalize x.toInt = n at *
    repeat' split
    all_goals first | rfl | (exfalso; omega)
theorem sf2_30 (x : Int32) : f2_30 x = if (57344 ≤ x.toInt ∧ x.toInt ≤ 65533) ∨ (65536 ≤ x.toInt ∧ x.toInt ≤ 1114111) then 1 else 0 := by
  unfold f2_30
  have he : ∀ c : Int32, (x = c) = (x.toInt = c.toInt) := fun c => propext Int32.toInt_inj.symm
  simp only [own_nar1, own_nar0, own_10, own_00, ↓reduceIte, Int32.lt_iff_toInt_lt, he, own_i57344, own_i65533, sf2_42, sf2_54]
  all_goals
    have hl := Int32.le_toInt x
    have hh := Int32.toInt_lt x
    clear he
    generalize x.toInt = n at *
    repeat' split
    all_goals first | rfl | (exfalso; omega)
theorem sf2_0 (x : Int32) : f2_0 x = if (9 ≤ x.toInt ∧ x.toInt ≤ 10) ∨ x.toInt = 13 ∨ (32 ≤ x.toInt ∧ x.toInt ≤ 55295) ∨ (57344 ≤ x.toInt ∧ x.toInt ≤ 65533) ∨ (65536 ≤ x.toInt ∧ x.toInt ≤ 1114111) then 1 else 0 := by
  unfold f2_0
  have he : ∀ c : Int32, (x = c) = (x.toInt = c.toInt) := fun c => propext Int32.toInt_inj.symm
  simp only [own_nar1, own_nar0, own_10, own_00, ↓reduceIte, Int32.lt_iff_toInt_lt, he, own_i10, own_i13, own_i32, own_i55295, own_i9, sf2_30, sf2_54]
  all_goals
    have hl := Int32.le_toInt x
    have hh := Int32.toInt_lt x
    clear he
    generalize x.toInt = n at *
    repeat' split
    all_goals first | rfl | (exfalso; omega)
theorem sf3_68 (x : Int32) : f3_68 x = if False then 1 else 0 := by
  unfold f3_68
  have he : ∀ c : Int32, (x = c) = (x.toInt = c.toInt) := fun c => propext Int32.toInt_inj.symm
  simp only [own_nar1, own_nar0, own_10, own_00, ↓reduceIte, Int32.lt_iff_toInt_lt, he, own_i0]
  all_goals
    have hl := Int32.le_toInt x
    have hh := Int32.toInt_lt x
    clear he
    generalize x.toInt = n at *
    repeat' split
    all_goals first | rfl | (exfalso; omega)
theorem sf3_56 (x : Int32) : f3_56 x = if x.toInt ≤ 65533 ∨ 65536 ≤ x.toInt then 1 else 0 := by
  unfold f3_56
  have he : ∀ c : Int32, (x = c) = (x.toInt = c.toInt) := fun c => propext Int32.toInt_inj.symm
  simp only [own_nar1, own_nar0, own_10, own_00, ↓reduceIte, Int32.lt_iff_toInt_lt, he, own_i1, own_i65534, own_i65535, sf3_68]
  all_goals
    have hl := Int32.le_toInt x
    have hh := Int32.toInt_lt x
    clear he
    generalize x.toInt = n at *
    repeat' split
    all_goals first | rfl | (exfalso; omega)
theorem sf3_36 (x : Int32) : f3_36 x = if True then 1 else 0 := by
  unfold f3_36
  have he : ∀ c : Int32, (x = c) = (x.toInt = c.toInt) := fun c => propext Int32.toInt_inj.symm
  simp only [own_nar1, own_nar0, own_10, own_00, ↓reduceIte, Int32.lt_iff_toInt_lt, he, own_i1, f3_41]
  all_goals
    have hl := Int32.le_toInt x
    have hh := Int32.toInt_lt x
    clear he
    generalize x.toInt = n at *
    repeat' split
    all_goals first | rfl | (exfalso; omega)
theorem sf3_10 (x : Int32) : f3_10 x = if False then 1 else 0 := by
  unfold f3_10
  have he : ∀ c : Int32, (x = c) = (x.toInt = c.toInt) := fun c => propext Int32.toInt_inj.symm
  simp only [own_nar1, own_nar0, own_10, own_00, ↓reduceIte, Int32.lt_iff_toInt_lt, he, own_i0]
  all_goals
    have hl := Int32.le_toInt x
    have hh := Int32.toInt_lt x
    clear he
    generalize x.toInt = n at *
    repeat' split
    all_goals first | rfl | (exfalso; omega)
theorem sf3_0 (x : Int32) : f3_0 x = if (9 ≤ x.toInt ∧ x.toInt ≤ 10) ∨ x.toInt = 13 ∨ (32 ≤ x.toInt ∧ x.toInt ≤ 55295) ∨ (57344 ≤ x.toInt ∧ x.toInt ≤ 65533) ∨ (65536 ≤ x.toInt ∧ x.toInt ≤ 1114111) then 1 else 0 := by
  unfold f3_0
  have he : ∀ c : Int32, (x = c) = (x.toInt = c.toInt) := fun c => propext Int32.toInt_inj.symm
  simp only [own_nar1, own_nar0, own_10, own_00, ↓reduceIte, Int32.lt_iff_toInt_lt, he, own_i0, own_i10, own_i1114111, own_i13, own_i32, own_i55296, own_i57343, own_i9, sf3_10, sf3_36, f3_41, sf3_56]
  all_goals
    have hl := Int32.le_toInt x
    have hh := Int32.toInt_lt x
    clear he
    generalize x.toInt = n at *
    repeat' split
    all_goals first | rfl | (exfalso; omega)
theorem own_eq (x : Int32) : f2_0 x = f3_0 x := by rw [sf2_0, sf3_0]
theorem d1_0 : decode method_2_code 0 = .ok (.iload_n 1, 1) := by decide +kernel
theorem d1_1 : decode method_2_code 1 = .ok (.iconst 3, 1) := by decide +kernel
theorem d1_2 : decode method_2_code 2 = .ok (.iand, 1) := by decide +kernel
theorem d1_3 : decode method_2_code 3 = .ok (.istore_n 3, 1) := by decide +kernel
theorem d1_4 : decode method_2_code 4 = .ok (.iload_n 3, 1) := by decide +kernel
theorem d1_5 : decode method_2_code 5 = .ok (.ifCond .ne 5, 3) := by decide +kernel
theorem d1_8 : decode method_2_code 8 = .ok (.iload_n 0, 1) := by decide +kernel
theorem d1_9 : decode method_2_code 9 = .ok (.ireturn, 1) := by decide +kernel
theorem d1_10 : decode method_2_code 10 = .ok (.iload_n 3, 1) := by decide +kernel
theorem d1_11 : decode method_2_code 11 = .ok (.iconst 1, 1) := by decide +kernel
theorem d1_12 : decode method_2_code 12 = .ok (.if_icmp .ne 8, 3) := by decide +kernel
theorem d1_15 : decode method_2_code 15 = .ok (.iload_n 0, 1) := by decide +kernel
theorem d1_16 : decode method_2_code 16 = .ok (.ldc 7, 2) := by decide +kernel
theorem d1_18 : decode method_2_code 18 = .ok (.iand, 1) := by decide +kernel
theorem d1_19 : decode method_2_code 19 = .ok (.ireturn, 1) := by decide +kernel
theorem d1_20 : decode method_2_code 20 = .ok (.iload_n 3, 1) := by decide +kernel
theorem d1_21 : decode method_2_code 21 = .ok (.iconst 3, 1) := by decide +kernel
theorem d1_22 : decode method_2_code 22 = .ok (.if_icmp .ne 8, 3) := by decide +kernel
theorem d1_25 : decode method_2_code 25 = .ok (.iload_n 0, 1) := by decide +kernel
theorem d1_26 : decode method_2_code 26 = .ok (.ldc 8, 2) := by decide +kernel
theorem d1_28 : decode method_2_code 28 = .ok (.iand, 1) := by decide +kernel
theorem d1_29 : decode method_2_code 29 = .ok (.ireturn, 1) := by decide +kernel
theorem d1_30 : decode method_2_code 30 = .ok (.bipush 16, 2) := by decide +kernel
theorem d1_32 : decode method_2_code 32 = .ok (.newarray .int, 2) := by decide +kernel
theorem d1_34 : decode method_2_code 34 = .ok (.dup, 1) := by decide +kernel
theorem d1_35 : decode method_2_code 35 = .ok (.iconst 0, 1) := by decide +kernel
theorem d1_36 : decode method_2_code 36 = .ok (.iconst 0, 1) := by decide +kernel
theorem d1_37 : decode method_2_code 37 = .ok (.iastore, 1) := by decide +kernel
theorem d1_38 : decode method_2_code 38 = .ok (.dup, 1) := by decide +kernel
theorem d1_39 : decode method_2_code 39 = .ok (.iconst 1, 1) := by decide +kernel
theorem d1_40 : decode method_2_code 40 = .ok (.bipush 9, 2) := by decide +kernel
theorem d1_42 : decode method_2_code 42 = .ok (.iastore, 1) := by decide +kernel
theorem d1_43 : decode method_2_code 43 = .ok (.dup, 1) := by decide +kernel
theorem d1_44 : decode method_2_code 44 = .ok (.iconst 2, 1) := by decide +kernel
theorem d1_45 : decode method_2_code 45 = .ok (.bipush 10, 2) := by decide +kernel
theorem d1_47 : decode method_2_code 47 = .ok (.iastore, 1) := by decide +kernel
theorem d1_48 : decode method_2_code 48 = .ok (.dup, 1) := by decide +kernel
theorem d1_49 : decode method_2_code 49 = .ok (.iconst 3, 1) := by decide +kernel
theorem d1_50 : decode method_2_code 50 = .ok (.bipush 13, 2) := by decide +kernel
theorem d1_52 : decode method_2_code 52 = .ok (.iastore, 1) := by decide +kernel
theorem d1_53 : decode method_2_code 53 = .ok (.dup, 1) := by decide +kernel
theorem d1_54 : decode method_2_code 54 = .ok (.iconst 4, 1) := by decide +kernel
theorem d1_55 : decode method_2_code 55 = .ok (.bipush 32, 2) := by decide +kernel
theorem d1_57 : decode method_2_code 57 = .ok (.iastore, 1) := by decide +kernel
theorem d1_58 : decode method_2_code 58 = .ok (.dup, 1) := by decide +kernel
theorem d1_59 : decode method_2_code 59 = .ok (.iconst 5, 1) := by decide +kernel
theorem d1_60 : decode method_2_code 60 = .ok (.ldc 9, 2) := by decide +kernel
theorem d1_62 : decode method_2_code 62 = .ok (.iastore, 1) := by decide +kernel
theorem d1_63 : decode method_2_code 63 = .ok (.dup, 1) := by decide +kernel
theorem d1_64 : decode method_2_code 64 = .ok (.bipush 6, 2) := by decide +kernel
theorem d1_66 : decode method_2_code 66 = .ok (.ldc 10, 2) := by decide +kernel
theorem d1_68 : decode method_2_code 68 = .ok (.iastore, 1) := by decide +kernel
theorem d1_69 : decode method_2_code 69 = .ok (.dup, 1) := by decide +kernel
theorem d1_70 : decode method_2_code 70 = .ok (.bipush 7, 2) := by decide +kernel
theorem d1_72 : decode method_2_code 72 = .ok (.ldc 11, 2) := by decide +kernel
theorem d1_74 : decode method_2_code 74 = .ok (.iastore, 1) := by decide +kernel
theorem d1_75 : decode method_2_code 75 = .ok (.dup, 1) := by decide +kernel
theorem d1_76 : decode method_2_code 76 = .ok (.bipush 8, 2) := by decide +kernel
theorem d1_78 : decode method_2_code 78 = .ok (.ldc 12, 2) := by decide +kernel
theorem d1_80 : decode method_2_code 80 = .ok (.iastore, 1) := by decide +kernel
theorem d1_81 : decode method_2_code 81 = .ok (.dup, 1) := by decide +kernel
theorem d1_82 : decode method_2_code 82 = .ok (.bipush 9, 2) := by decide +kernel
theorem d1_84 : decode method_2_code 84 = .ok (.ldc 13, 2) := by decide +kernel
theorem d1_86 : decode method_2_code 86 = .ok (.iastore, 1) := by decide +kernel
theorem d1_87 : decode method_2_code 87 = .ok (.dup, 1) := by decide +kernel
theorem d1_88 : decode method_2_code 88 = .ok (.bipush 10, 2) := by decide +kernel
theorem d1_90 : decode method_2_code 90 = .ok (.ldc 14, 2) := by decide +kernel
theorem d1_92 : decode method_2_code 92 = .ok (.iastore, 1) := by decide +kernel
theorem d1_93 : decode method_2_code 93 = .ok (.dup, 1) := by decide +kernel
theorem d1_94 : decode method_2_code 94 = .ok (.bipush 11, 2) := by decide +kernel
theorem d1_96 : decode method_2_code 96 = .ok (.ldc 15, 2) := by decide +kernel
theorem d1_98 : decode method_2_code 98 = .ok (.iastore, 1) := by decide +kernel
theorem d1_99 : decode method_2_code 99 = .ok (.dup, 1) := by decide +kernel
theorem d1_100 : decode method_2_code 100 = .ok (.bipush 12, 2) := by decide +kernel
theorem d1_102 : decode method_2_code 102 = .ok (.ldc 16, 2) := by decide +kernel
theorem d1_104 : decode method_2_code 104 = .ok (.iastore, 1) := by decide +kernel
theorem d1_105 : decode method_2_code 105 = .ok (.dup, 1) := by decide +kernel
theorem d1_106 : decode method_2_code 106 = .ok (.bipush 13, 2) := by decide +kernel
theorem d1_108 : decode method_2_code 108 = .ok (.ldc 17, 2) := by decide +kernel
theorem d1_110 : decode method_2_code 110 = .ok (.iastore, 1) := by decide +kernel
theorem d1_111 : decode method_2_code 111 = .ok (.dup, 1) := by decide +kernel
theorem d1_112 : decode method_2_code 112 = .ok (.bipush 14, 2) := by decide +kernel
theorem d1_114 : decode method_2_code 114 = .ok (.ldc 20, 2) := by decide +kernel
theorem d1_116 : decode method_2_code 116 = .ok (.iastore, 1) := by decide +kernel
theorem d1_117 : decode method_2_code 117 = .ok (.dup, 1) := by decide +kernel
theorem d1_118 : decode method_2_code 118 = .ok (.bipush 15, 2) := by decide +kernel
theorem d1_120 : decode method_2_code 120 = .ok (.ldc 21, 2) := by decide +kernel
theorem d1_122 : decode method_2_code 122 = .ok (.iastore, 1) := by decide +kernel
theorem d1_123 : decode method_2_code 123 = .ok (.astore 4, 2) := by decide +kernel
theorem d1_125 : decode method_2_code 125 = .ok (.aload 4, 2) := by decide +kernel
theorem d1_127 : decode method_2_code 127 = .ok (.iload_n 1, 1) := by decide +kernel
theorem d1_128 : decode method_2_code 128 = .ok (.iconst 2, 1) := by decide +kernel
theorem d1_129 : decode method_2_code 129 = .ok (.iushr, 1) := by decide +kernel
theorem d1_130 : decode method_2_code 130 = .ok (.bipush 15, 2) := by decide +kernel
theorem d1_132 : decode method_2_code 132 = .ok (.iand, 1) := by decide +kernel
theorem d1_133 : decode method_2_code 133 = .ok (.iaload, 1) := by decide +kernel
theorem d1_134 : decode method_2_code 134 = .ok (.iload_n 2, 1) := by decide +kernel
theorem d1_135 : decode method_2_code 135 = .ok (.bipush 7, 2) := by decide +kernel
theorem d1_137 : decode method_2_code 137 = .ok (.iand, 1) := by decide +kernel
theorem d1_138 : decode method_2_code 138 = .ok (.iconst 4, 1) := by decide +kernel
theorem d1_139 : decode method_2_code 139 = .ok (.isub, 1) := by decide +kernel
theorem d1_140 : decode method_2_code 140 = .ok (.iadd, 1) := by decide +kernel
theorem d1_141 : decode method_2_code 141 = .ok (.ireturn, 1) := by decide +kernel
theorem pn_1 : plainName "com/example/twyg/twyg/xml/XmlCharactersIsCharacterPinLaw" = true := by first | (simp [plainName, overriddenIn]; done) | decide +kernel
theorem ef_1 (m : MethodId) (p1 : Int32) (p2 : Int32) (p3 : Int32) : entryFrame m #[(.int p1), (.int p2), (.int p3)] 5 = mkF m 0 #[.val (.int p1), .val (.int p2), .val (.int p3), .unset, .unset] [] := by first | (simp [entryFrame, mkF, argsToLocals, Value.category]; done) | rfl
def Q1 (n0 : Nat) (v : Option Value) (h : Heap) (L : List Loc) : Prop := (∃ r : Int32, v = some (.int r)) ∧ Fr n0 L
set_option maxRecDepth 65536 in
set_option maxHeartbeats 40000000 in
theorem rm1 (l : Launch) (Z : State) (a0 : Array Value) (hw : ∀ d ∈ tables_1, d.before a0 Z = true) (ws : List Jvm.Cond) (p1 : Int32) (p2 : Int32) (p3 : Int32) (h0 : Heap) (n0 : Nat) (Z0 : n0 ≤ h0.size) :
    MetFree l (⟨"com/example/twyg/twyg/xml/XmlCharactersIsCharacterPinLaw", "pick", "(III)I"⟩ : MethodName) (head1 (Jvm.Cond.code (⟨"com/example/twyg/twyg/xml/XmlCharactersIsCharacterPinLaw", "pick", "(III)I"⟩ : MethodName) method_2_code 5 (some .int) :: ws) ({ frames := 0, cells := 1, slots := 16, locals := 0 } : Room)) (fun a U => a = #[(.int p1), (.int p2), (.int p3)] ∧ Z.Warmed39 U.vm ∧ U.heap = h0) (fun _ _ _ _ _ => True) (fun _ U o U' => ∃ v L, o = .returned v ∧ Q1 n0 v U'.heap L ∧ FrameEnd U o U' L ({ frames := 0, cells := 1, slots := 16, locals := 0 } : Room).cells ({ frames := 0, cells := 1, slots := 16, locals := 0 } : Room).slots) := by
  refine MetFree.of_bodySF (plainFor_of_name pn_1) hisR ?_
  intro p e s m args below meth c s₁ Bd hml0 hP hK
  obtain ⟨rfl, hZ, hh⟩ := hP
  have hx := Bd.exec
  have hby := Bd.bytes
  have hml : c.maxLocals = 5 := hml0
  have hown : s.vm.findClass "com/example/twyg/twyg/xml/XmlCharactersIsCharacterPinLaw" = some m.cls := findClass_of_methodNamed Bd.named
  have hnm := (name_of_methodNamed Bd.named Bd.method).1
  have X0 : Stand p l e ({ frames := 0, cells := 1, slots := 16, locals := 0 } : Room) s m #[(.int p1), (.int p2), (.int p3)] below meth c s₁ [] 0 0 := Stand.of_body Bd
  have e0 : s₁.heap = h0 := by rw [← hh, Bd.state]; rfl
  have N0 := Fr.nil n0
  have pre0 : ∀ t, Steps p.tables e below (s₁.setTop (mkF m 0 #[.val (.int p1), .val (.int p2), .val (.int p3), .unset, .unset] [])) t → Steps p.tables e below (s₁.setTop (entryFrame m #[(.int p1), (.int p2), (.int p3)] 5)) t := fun t k => castTop (ef_1 m p1 p2 p3) k
  have pre2 : ∀ t, Steps p.tables e below (s₁.setTop (mkF m 5 #[.val (.int p1), .val (.int p2), .val (.int p3), .val (.int (p2 &&& (3 : Int32))), .unset] [(.int (p2 &&& (3 : Int32)))])) t → Steps p.tables e below (s₁.setTop (entryFrame m #[(.int p1), (.int p2), (.int p3)] 5)) t := by
    intro t k
    refine pre0 t ?_
    show Steps p.tables e below (s₁.setTop (mkF m 0 #[.val (.int p1), .val (.int p2), .val (.int p3), .unset, .unset] [])) _
    refine XS.iloadN X0.here hx rfl (hb hby d1_0) rfl ?_
    show Steps p.tables e below (s₁.setTop (mkF m 1 #[.val (.int p1), .val (.int p2), .val (.int p3), .unset, .unset] [(.int p2)])) _
    refine XS.iconst X0.here hx rfl (hb hby d1_1) ?_
    show Steps p.tables e below (s₁.setTop (mkF m 2 #[.val (.int p1), .val (.int p2), .val (.int p3), .unset, .unset] [(.int (3 : Int32)), (.int p2)])) _
    refine XS.iand X0.here hx rfl (hb hby d1_2) rfl ?_
    show Steps p.tables e below (s₁.setTop (mkF m 3 #[.val (.int p1), .val (.int p2), .val (.int p3), .unset, .unset] [(.int (p2 &&& (3 : Int32)))])) _
    refine XS.istoreN X0.here hx rfl (hb hby d1_3) rfl (l' := #[.val (.int p1), .val (.int p2), .val (.int p3), .val (.int (p2 &&& (3 : Int32))), .unset]) rfl ?_
    show Steps p.tables e below (s₁.setTop (mkF m 4 #[.val (.int p1), .val (.int p2), .val (.int p3), .val (.int (p2 &&& (3 : Int32))), .unset] [])) _
    refine XS.iloadN X0.here hx rfl (hb hby d1_4) rfl ?_
    show Steps p.tables e below (s₁.setTop (mkF m 5 #[.val (.int p1), .val (.int p2), .val (.int p3), .val (.int (p2 &&& (3 : Int32))), .unset] [(.int (p2 &&& (3 : Int32)))])) _
    exact k
  by_cases h5_1 : (p2 &&& (3 : Int32)) = (0 : Int32)
  · have pre3 : ∀ t, Steps p.tables e below (s₁.setTop (mkF m 9 #[.val (.int p1), .val (.int p2), .val (.int p3), .val (.int (p2 &&& (3 : Int32))), .unset] [(.int p1)])) t → Steps p.tables e below (s₁.setTop (entryFrame m #[(.int p1), (.int p2), (.int p3)] 5)) t := by
      intro t k
      refine pre2 t ?_
      refine XS.ifNo X0.here hx rfl (hb hby d1_5) rfl ((if0 _ _).trans (teq h5_1).2) ?_
      show Steps p.tables e below (s₁.setTop (mkF m 8 #[.val (.int p1), .val (.int p2), .val (.int p3), .val (.int (p2 &&& (3 : Int32))), .unset] [])) _
      refine XS.iloadN X0.here hx rfl (hb hby d1_8) rfl ?_
      show Steps p.tables e below (s₁.setTop (mkF m 9 #[.val (.int p1), .val (.int p2), .val (.int p3), .val (.int (p2 &&& (3 : Int32))), .unset] [(.int p1)])) _
      exact k
    obtain ⟨fs, hr, hrun, hended, hW, hsame⟩ := X0.leave (v := some (.int p1)) (fun h => by rw [Bd.returns] at h; cases h)
    refine ⟨_, _, pre3 _ ?_, hrun, hended, _, _, rfl, ?_, ⟨_, rfl⟩, hW, hsame.mono (by decide) (by decide)⟩
    · exact retI X0 hx Bd.returns (hb hby d1_9) hr
    · exact ⟨⟨_, rfl⟩, N0⟩
  · have pre5 : ∀ t, Steps p.tables e below (s₁.setTop (mkF m 12 #[.val (.int p1), .val (.int p2), .val (.int p3), .val (.int (p2 &&& (3 : Int32))), .unset] [(.int (1 : Int32)), (.int (p2 &&& (3 : Int32)))])) t → Steps p.tables e below (s₁.setTop (entryFrame m #[(.int p1), (.int p2), (.int p3)] 5)) t := by
      intro t k
      refine pre2 t ?_
      refine XS.ifYes X0.here hx rfl (pc0 := 5) (pc' := 10) rfl (hb hby d1_5) rfl ((if0 _ _).trans (feq h5_1).2) (by decide) (by decide) ?_
      show Steps p.tables e below (s₁.setTop (mkF m 10 #[.val (.int p1), .val (.int p2), .val (.int p3), .val (.int (p2 &&& (3 : Int32))), .unset] [])) _
      refine XS.iloadN X0.here hx rfl (hb hby d1_10) rfl ?_
      show Steps p.tables e below (s₁.setTop (mkF m 11 #[.val (.int p1), .val (.int p2), .val (.int p3), .val (.int (p2 &&& (3 : Int32))), .unset] [(.int (p2 &&& (3 : Int32)))])) _
      refine XS.iconst X0.here hx rfl (hb hby d1_11) ?_
      show Steps p.tables e below (s₁.setTop (mkF m 12 #[.val (.int p1), .val (.int p2), .val (.int p3), .val (.int (p2 &&& (3 : Int32))), .unset] [(.int (1 : Int32)), (.int (p2 &&& (3 : Int32)))])) _
      exact k
    by_cases h12_4 : (p2 &&& (3 : Int32)) = (1 : Int32)
    · have pre6 : ∀ t, Steps p.tables e below (s₁.setTop (mkF m 19 #[.val (.int p1), .val (.int p2), .val (.int p3), .val (.int (p2 &&& (3 : Int32))), .unset] [(.int (p1 &&& (2097151 : Int32)))])) t → Steps p.tables e below (s₁.setTop (entryFrame m #[(.int p1), (.int p2), (.int p3)] 5)) t := by
        intro t k
        refine pre5 t ?_
        refine XS.icmpNo X0.here hx rfl (hb hby d1_12) rfl (teq h12_4).2 ?_
        show Steps p.tables e below (s₁.setTop (mkF m 15 #[.val (.int p1), .val (.int p2), .val (.int p3), .val (.int (p2 &&& (3 : Int32))), .unset] [])) _
        refine XS.iloadN X0.here hx rfl (hb hby d1_15) rfl ?_
        show Steps p.tables e below (s₁.setTop (mkF m 16 #[.val (.int p1), .val (.int p2), .val (.int p3), .val (.int (p2 &&& (3 : Int32))), .unset] [(.int p1)])) _
        refine X0.ldcInt hx hown (mvT hZ (hw _ (List.mem_of_getElem? (i := 29) rfl))) (g := (mkF m 16 #[.val (.int p1), .val (.int p2), .val (.int p3), .val (.int (p2 &&& (3 : Int32))), .unset] [(.int p1)])) rfl (hb hby d1_16) _ ?_
        show Steps p.tables e below (s₁.setTop (mkF m 18 #[.val (.int p1), .val (.int p2), .val (.int p3), .val (.int (p2 &&& (3 : Int32))), .unset] [(.int (2097151 : Int32)), (.int p1)])) _
        refine XS.iand X0.here hx rfl (hb hby d1_18) rfl ?_
        show Steps p.tables e below (s₁.setTop (mkF m 19 #[.val (.int p1), .val (.int p2), .val (.int p3), .val (.int (p2 &&& (3 : Int32))), .unset] [(.int (p1 &&& (2097151 : Int32)))])) _
        exact k
      obtain ⟨fs, hr, hrun, hended, hW, hsame⟩ := X0.leave (v := some (.int (p1 &&& (2097151 : Int32)))) (fun h => by rw [Bd.returns] at h; cases h)
      refine ⟨_, _, pre6 _ ?_, hrun, hended, _, _, rfl, ?_, ⟨_, rfl⟩, hW, hsame.mono (by decide) (by decide)⟩
      · exact retI X0 hx Bd.returns (hb hby d1_19) hr
      · exact ⟨⟨_, rfl⟩, N0⟩
    · have pre8 : ∀ t, Steps p.tables e below (s₁.setTop (mkF m 22 #[.val (.int p1), .val (.int p2), .val (.int p3), .val (.int (p2 &&& (3 : Int32))), .unset] [(.int (3 : Int32)), (.int (p2 &&& (3 : Int32)))])) t → Steps p.tables e below (s₁.setTop (entryFrame m #[(.int p1), (.int p2), (.int p3)] 5)) t := by
        intro t k
        refine pre5 t ?_
        refine XS.icmpYes X0.here hx rfl (pc0 := 12) (pc' := 20) rfl (hb hby d1_12) rfl (feq h12_4).2 (by decide) (by decide) ?_
        show Steps p.tables e below (s₁.setTop (mkF m 20 #[.val (.int p1), .val (.int p2), .val (.int p3), .val (.int (p2 &&& (3 : Int32))), .unset] [])) _
        refine XS.iloadN X0.here hx rfl (hb hby d1_20) rfl ?_
        show Steps p.tables e below (s₁.setTop (mkF m 21 #[.val (.int p1), .val (.int p2), .val (.int p3), .val (.int (p2 &&& (3 : Int32))), .unset] [(.int (p2 &&& (3 : Int32)))])) _
        refine XS.iconst X0.here hx rfl (hb hby d1_21) ?_
        show Steps p.tables e below (s₁.setTop (mkF m 22 #[.val (.int p1), .val (.int p2), .val (.int p3), .val (.int (p2 &&& (3 : Int32))), .unset] [(.int (3 : Int32)), (.int (p2 &&& (3 : Int32)))])) _
        exact k
      by_cases h22_7 : (p2 &&& (3 : Int32)) = (3 : Int32)
      · have pre9 : ∀ t, Steps p.tables e below (s₁.setTop (mkF m 29 #[.val (.int p1), .val (.int p2), .val (.int p3), .val (.int (p2 &&& (3 : Int32))), .unset] [(.int (p1 &&& (65535 : Int32)))])) t → Steps p.tables e below (s₁.setTop (entryFrame m #[(.int p1), (.int p2), (.int p3)] 5)) t := by
          intro t k
          refine pre8 t ?_
          refine XS.icmpNo X0.here hx rfl (hb hby d1_22) rfl (teq h22_7).2 ?_
          show Steps p.tables e below (s₁.setTop (mkF m 25 #[.val (.int p1), .val (.int p2), .val (.int p3), .val (.int (p2 &&& (3 : Int32))), .unset] [])) _
          refine XS.iloadN X0.here hx rfl (hb hby d1_25) rfl ?_
          show Steps p.tables e below (s₁.setTop (mkF m 26 #[.val (.int p1), .val (.int p2), .val (.int p3), .val (.int (p2 &&& (3 : Int32))), .unset] [(.int p1)])) _
          refine X0.ldcInt hx hown (mvT hZ (hw _ (List.mem_of_getElem? (i := 4) rfl))) (g := (mkF m 26 #[.val (.int p1), .val (.int p2), .val (.int p3), .val (.int (p2 &&& (3 : Int32))), .unset] [(.int p1)])) rfl (hb hby d1_26) _ ?_
          show Steps p.tables e below (s₁.setTop (mkF m 28 #[.val (.int p1), .val (.int p2), .val (.int p3), .val (.int (p2 &&& (3 : Int32))), .unset] [(.int (65535 : Int32)), (.int p1)])) _
          refine XS.iand X0.here hx rfl (hb hby d1_28) rfl ?_
          show Steps p.tables e below (s₁.setTop (mkF m 29 #[.val (.int p1), .val (.int p2), .val (.int p3), .val (.int (p2 &&& (3 : Int32))), .unset] [(.int (p1 &&& (65535 : Int32)))])) _
          exact k
        obtain ⟨fs, hr, hrun, hended, hW, hsame⟩ := X0.leave (v := some (.int (p1 &&& (65535 : Int32)))) (fun h => by rw [Bd.returns] at h; cases h)
        refine ⟨_, _, pre9 _ ?_, hrun, hended, _, _, rfl, ?_, ⟨_, rfl⟩, hW, hsame.mono (by decide) (by decide)⟩
        · exact retI X0 hx Bd.returns (hb hby d1_29) hr
        · exact ⟨⟨_, rfl⟩, N0⟩
      · obtain ⟨T10, H10, cA10, X10, e10, E10, A10, st10⟩ := newP X0 hx hZ (aty := .int) (hw _ (List.mem_of_getElem? (i := 15) rfl)) e0 (g := (mkF m 32 #[.val (.int p1), .val (.int p2), .val (.int p3), .val (.int (p2 &&& (3 : Int32))), .unset] [(.int (16 : Int32))])) rfl (hb hby d1_32) rfl (by decide) (cap := 16) (by decide) (by decide) (by decide) (by decide)
        obtain ⟨b10, g10⟩ : ∃ z, z = h0.size := ⟨_, rfl⟩
        rw [← g10] at A10 st10
        have V10 : own_VA Z H10 b10 .int [(.int (0 : Int32)), (.int (0 : Int32)), (.int (0 : Int32)), (.int (0 : Int32)), (.int (0 : Int32)), (.int (0 : Int32)), (.int (0 : Int32)), (.int (0 : Int32)), (.int (0 : Int32)), (.int (0 : Int32)), (.int (0 : Int32)), (.int (0 : Int32)), (.int (0 : Int32)), (.int (0 : Int32)), (.int (0 : Int32)), (.int (0 : Int32))] := own_VA_new (ty := .int) A10 (k := 16) (by decide)
        have Z10 : n0 ≤ H10.size := Nat.le_trans Z0 E10.1
        have gb10 : n0 ≤ b10 := Nat.le_trans Z0 (Nat.le_of_eq g10.symm)
        obtain ⟨T11, H11, X11, e11, V11', W11, st11⟩ := own_stI X10 hx hZ e10 V10 (n := 16) (k := 0) rfl (by decide) (by decide) (g := (mkF m 37 #[.val (.int p1), .val (.int p2), .val (.int p3), .val (.int (p2 &&& (3 : Int32))), .unset] [(.int (0 : Int32)), (.int (0 : Int32)), (.ref b10), (.ref b10)])) rfl rfl (hb hby d1_37)
        have V11 : own_VA Z H11 b10 .int [(.int (0 : Int32)), (.int (0 : Int32)), (.int (0 : Int32)), (.int (0 : Int32)), (.int (0 : Int32)), (.int (0 : Int32)), (.int (0 : Int32)), (.int (0 : Int32)), (.int (0 : Int32)), (.int (0 : Int32)), (.int (0 : Int32)), (.int (0 : Int32)), (.int (0 : Int32)), (.int (0 : Int32)), (.int (0 : Int32)), (.int (0 : Int32))] := V11'
        have N11 := Fr.snoc X11 N0 gb10
        have Z11 : n0 ≤ H11.size := Nat.le_trans Z10 (Nat.le_of_eq W11.size.symm)
        obtain ⟨T12, H12, X12, e12, V12', W12, st12⟩ := own_stI X11 hx hZ e11 V11 (n := 16) (k := 1) rfl (by decide) (by decide) (g := (mkF m 42 #[.val (.int p1), .val (.int p2), .val (.int p3), .val (.int (p2 &&& (3 : Int32))), .unset] [(.int (9 : Int32)), (.int (1 : Int32)), (.ref b10), (.ref b10)])) rfl rfl (hb hby d1_42)
        have V12 : own_VA Z H12 b10 .int [(.int (0 : Int32)), (.int (9 : Int32)), (.int (0 : Int32)), (.int (0 : Int32)), (.int (0 : Int32)), (.int (0 : Int32)), (.int (0 : Int32)), (.int (0 : Int32)), (.int (0 : Int32)), (.int (0 : Int32)), (.int (0 : Int32)), (.int (0 : Int32)), (.int (0 : Int32)), (.int (0 : Int32)), (.int (0 : Int32)), (.int (0 : Int32))] := V12'
        have N12 := Fr.snoc X12 N11 gb10
        have Z12 : n0 ≤ H12.size := Nat.le_trans Z11 (Nat.le_of_eq W12.size.symm)
        obtain ⟨T13, H13, X13, e13, V13', W13, st13⟩ := own_stI X12 hx hZ e12 V12 (n := 16) (k := 2) rfl (by decide) (by decide) (g := (mkF m 47 #[.val (.int p1), .val (.int p2), .val (.int p3), .val (.int (p2 &&& (3 : Int32))), .unset] [(.int (10 : Int32)), (.int (2 : Int32)), (.ref b10), (.ref b10)])) rfl rfl (hb hby d1_47)
        have V13 : own_VA Z H13 b10 .int [(.int (0 : Int32)), (.int (9 : Int32)), (.int (10 : Int32)), (.int (0 : Int32)), (.int (0 : Int32)), (.int (0 : Int32)), (.int (0 : Int32)), (.int (0 : Int32)), (.int (0 : Int32)), (.int (0 : Int32)), (.int (0 : Int32)), (.int (0 : Int32)), (.int (0 : Int32)), (.int (0 : Int32)), (.int (0 : Int32)), (.int (0 : Int32))] := V13'
        have N13 := Fr.snoc X13 N12 gb10
        have Z13 : n0 ≤ H13.size := Nat.le_trans Z12 (Nat.le_of_eq W13.size.symm)
        obtain ⟨T14, H14, X14, e14, V14', W14, st14⟩ := own_stI X13 hx hZ e13 V13 (n := 16) (k := 3) rfl (by decide) (by decide) (g := (mkF m 52 #[.val (.int p1), .val (.int p2), .val (.int p3), .val (.int (p2 &&& (3 : Int32))), .unset] [(.int (13 : Int32)), (.int (3 : Int32)), (.ref b10), (.ref b10)])) rfl rfl (hb hby d1_52)
        have V14 : own_VA Z H14 b10 .int [(.int (0 : Int32)), (.int (9 : Int32)), (.int (10 : Int32)), (.int (13 : Int32)), (.int (0 : Int32)), (.int (0 : Int32)), (.int (0 : Int32)), (.int (0 : Int32)), (.int (0 : Int32)), (.int (0 : Int32)), (.int (0 : Int32)), (.int (0 : Int32)), (.int (0 : Int32)), (.int (0 : Int32)), (.int (0 : Int32)), (.int (0 : Int32))] := V14'
        have N14 := Fr.snoc X14 N13 gb10
        have Z14 : n0 ≤ H14.size := Nat.le_trans Z13 (Nat.le_of_eq W14.size.symm)
        obtain ⟨T15, H15, X15, e15, V15', W15, st15⟩ := own_stI X14 hx hZ e14 V14 (n := 16) (k := 4) rfl (by decide) (by decide) (g := (mkF m 57 #[.val (.int p1), .val (.int p2), .val (.int p3), .val (.int (p2 &&& (3 : Int32))), .unset] [(.int (32 : Int32)), (.int (4 : Int32)), (.ref b10), (.ref b10)])) rfl rfl (hb hby d1_57)
        have V15 : own_VA Z H15 b10 .int [(.int (0 : Int32)), (.int (9 : Int32)), (.int (10 : Int32)), (.int (13 : Int32)), (.int (32 : Int32)), (.int (0 : Int32)), (.int (0 : Int32)), (.int (0 : Int32)), (.int (0 : Int32)), (.int (0 : Int32)), (.int (0 : Int32)), (.int (0 : Int32)), (.int (0 : Int32)), (.int (0 : Int32)), (.int (0 : Int32)), (.int (0 : Int32))] := V15'
        have N15 := Fr.snoc X15 N14 gb10
        have Z15 : n0 ≤ H15.size := Nat.le_trans Z14 (Nat.le_of_eq W15.size.symm)
        obtain ⟨T16, H16, X16, e16, V16', W16, st16⟩ := own_stI X15 hx hZ e15 V15 (n := 16) (k := 5) rfl (by decide) (by decide) (g := (mkF m 62 #[.val (.int p1), .val (.int p2), .val (.int p3), .val (.int (p2 &&& (3 : Int32))), .unset] [(.int (55295 : Int32)), (.int (5 : Int32)), (.ref b10), (.ref b10)])) rfl rfl (hb hby d1_62)
        have V16 : own_VA Z H16 b10 .int [(.int (0 : Int32)), (.int (9 : Int32)), (.int (10 : Int32)), (.int (13 : Int32)), (.int (32 : Int32)), (.int (55295 : Int32)), (.int (0 : Int32)), (.int (0 : Int32)), (.int (0 : Int32)), (.int (0 : Int32)), (.int (0 : Int32)), (.int (0 : Int32)), (.int (0 : Int32)), (.int (0 : Int32)), (.int (0 : Int32)), (.int (0 : Int32))] := V16'
        have N16 := Fr.snoc X16 N15 gb10
        have Z16 : n0 ≤ H16.size := Nat.le_trans Z15 (Nat.le_of_eq W16.size.symm)
        obtain ⟨T17, H17, X17, e17, V17', W17, st17⟩ := own_stI X16 hx hZ e16 V16 (n := 16) (k := 6) rfl (by decide) (by decide) (g := (mkF m 68 #[.val (.int p1), .val (.int p2), .val (.int p3), .val (.int (p2 &&& (3 : Int32))), .unset] [(.int (55296 : Int32)), (.int (6 : Int32)), (.ref b10), (.ref b10)])) rfl rfl (hb hby d1_68)
        have V17 : own_VA Z H17 b10 .int [(.int (0 : Int32)), (.int (9 : Int32)), (.int (10 : Int32)), (.int (13 : Int32)), (.int (32 : Int32)), (.int (55295 : Int32)), (.int (55296 : Int32)), (.int (0 : Int32)), (.int (0 : Int32)), (.int (0 : Int32)), (.int (0 : Int32)), (.int (0 : Int32)), (.int (0 : Int32)), (.int (0 : Int32)), (.int (0 : Int32)), (.int (0 : Int32))] := V17'
        have N17 := Fr.snoc X17 N16 gb10
        have Z17 : n0 ≤ H17.size := Nat.le_trans Z16 (Nat.le_of_eq W17.size.symm)
        obtain ⟨T18, H18, X18, e18, V18', W18, st18⟩ := own_stI X17 hx hZ e17 V17 (n := 16) (k := 7) rfl (by decide) (by decide) (g := (mkF m 74 #[.val (.int p1), .val (.int p2), .val (.int p3), .val (.int (p2 &&& (3 : Int32))), .unset] [(.int (57343 : Int32)), (.int (7 : Int32)), (.ref b10), (.ref b10)])) rfl rfl (hb hby d1_74)
        have V18 : own_VA Z H18 b10 .int [(.int (0 : Int32)), (.int (9 : Int32)), (.int (10 : Int32)), (.int (13 : Int32)), (.int (32 : Int32)), (.int (55295 : Int32)), (.int (55296 : Int32)), (.int (57343 : Int32)), (.int (0 : Int32)), (.int (0 : Int32)), (.int (0 : Int32)), (.int (0 : Int32)), (.int (0 : Int32)), (.int (0 : Int32)), (.int (0 : Int32)), (.int (0 : Int32))] := V18'
        have N18 := Fr.snoc X18 N17 gb10
        have Z18 : n0 ≤ H18.size := Nat.le_trans Z17 (Nat.le_of_eq W18.size.symm)
        obtain ⟨T19, H19, X19, e19, V19', W19, st19⟩ := own_stI X18 hx hZ e18 V18 (n := 16) (k := 8) rfl (by decide) (by decide) (g := (mkF m 80 #[.val (.int p1), .val (.int p2), .val (.int p3), .val (.int (p2 &&& (3 : Int32))), .unset] [(.int (57344 : Int32)), (.int (8 : Int32)), (.ref b10), (.ref b10)])) rfl rfl (hb hby d1_80)
        have V19 : own_VA Z H19 b10 .int [(.int (0 : Int32)), (.int (9 : Int32)), (.int (10 : Int32)), (.int (13 : Int32)), (.int (32 : Int32)), (.int (55295 : Int32)), (.int (55296 : Int32)), (.int (57343 : Int32)), (.int (57344 : Int32)), (.int (0 : Int32)), (.int (0 : Int32)), (.int (0 : Int32)), (.int (0 : Int32)), (.int (0 : Int32)), (.int (0 : Int32)), (.int (0 : Int32))] := V19'
        have N19 := Fr.snoc X19 N18 gb10
        have Z19 : n0 ≤ H19.size := Nat.le_trans Z18 (Nat.le_of_eq W19.size.symm)
        obtain ⟨T20, H20, X20, e20, V20', W20, st20⟩ := own_stI X19 hx hZ e19 V19 (n := 16) (k := 9) rfl (by decide) (by decide) (g := (mkF m 86 #[.val (.int p1), .val (.int p2), .val (.int p3), .val (.int (p2 &&& (3 : Int32))), .unset] [(.int (65533 : Int32)), (.int (9 : Int32)), (.ref b10), (.ref b10)])) rfl rfl (hb hby d1_86)
        have V20 : own_VA Z H20 b10 .int [(.int (0 : Int32)), (.int (9 : Int32)), (.int (10 : Int32)), (.int (13 : Int32)), (.int (32 : Int32)), (.int (55295 : Int32)), (.int (55296 : Int32)), (.int (57343 : Int32)), (.int (57344 : Int32)), (.int (65533 : Int32)), (.int (0 : Int32)), (.int (0 : Int32)), (.int (0 : Int32)), (.int (0 : Int32)), (.int (0 : Int32)), (.int (0 : Int32))] := V20'
        have N20 := Fr.snoc X20 N19 gb10
        have Z20 : n0 ≤ H20.size := Nat.le_trans Z19 (Nat.le_of_eq W20.size.symm)
        obtain ⟨T21, H21, X21, e21, V21', W21, st21⟩ := own_stI X20 hx hZ e20 V20 (n := 16) (k := 10) rfl (by decide) (by decide) (g := (mkF m 92 #[.val (.int p1), .val (.int p2), .val (.int p3), .val (.int (p2 &&& (3 : Int32))), .unset] [(.int (65534 : Int32)), (.int (10 : Int32)), (.ref b10), (.ref b10)])) rfl rfl (hb hby d1_92)
        have V21 : own_VA Z H21 b10 .int [(.int (0 : Int32)), (.int (9 : Int32)), (.int (10 : Int32)), (.int (13 : Int32)), (.int (32 : Int32)), (.int (55295 : Int32)), (.int (55296 : Int32)), (.int (57343 : Int32)), (.int (57344 : Int32)), (.int (65533 : Int32)), (.int (65534 : Int32)), (.int (0 : Int32)), (.int (0 : Int32)), (.int (0 : Int32)), (.int (0 : Int32)), (.int (0 : Int32))] := V21'
        have N21 := Fr.snoc X21 N20 gb10
        have Z21 : n0 ≤ H21.size := Nat.le_trans Z20 (Nat.le_of_eq W21.size.symm)
        obtain ⟨T22, H22, X22, e22, V22', W22, st22⟩ := own_stI X21 hx hZ e21 V21 (n := 16) (k := 11) rfl (by decide) (by decide) (g := (mkF m 98 #[.val (.int p1), .val (.int p2), .val (.int p3), .val (.int (p2 &&& (3 : Int32))), .unset] [(.int (65536 : Int32)), (.int (11 : Int32)), (.ref b10), (.ref b10)])) rfl rfl (hb hby d1_98)
        have V22 : own_VA Z H22 b10 .int [(.int (0 : Int32)), (.int (9 : Int32)), (.int (10 : Int32)), (.int (13 : Int32)), (.int (32 : Int32)), (.int (55295 : Int32)), (.int (55296 : Int32)), (.int (57343 : Int32)), (.int (57344 : Int32)), (.int (65533 : Int32)), (.int (65534 : Int32)), (.int (65536 : Int32)), (.int (0 : Int32)), (.int (0 : Int32)), (.int (0 : Int32)), (.int (0 : Int32))] := V22'
        have N22 := Fr.snoc X22 N21 gb10
        have Z22 : n0 ≤ H22.size := Nat.le_trans Z21 (Nat.le_of_eq W22.size.symm)
        obtain ⟨T23, H23, X23, e23, V23', W23, st23⟩ := own_stI X22 hx hZ e22 V22 (n := 16) (k := 12) rfl (by decide) (by decide) (g := (mkF m 104 #[.val (.int p1), .val (.int p2), .val (.int p3), .val (.int (p2 &&& (3 : Int32))), .unset] [(.int (1114111 : Int32)), (.int (12 : Int32)), (.ref b10), (.ref b10)])) rfl rfl (hb hby d1_104)
        have V23 : own_VA Z H23 b10 .int [(.int (0 : Int32)), (.int (9 : Int32)), (.int (10 : Int32)), (.int (13 : Int32)), (.int (32 : Int32)), (.int (55295 : Int32)), (.int (55296 : Int32)), (.int (57343 : Int32)), (.int (57344 : Int32)), (.int (65533 : Int32)), (.int (65534 : Int32)), (.int (65536 : Int32)), (.int (1114111 : Int32)), (.int (0 : Int32)), (.int (0 : Int32)), (.int (0 : Int32))] := V23'
        have N23 := Fr.snoc X23 N22 gb10
        have Z23 : n0 ≤ H23.size := Nat.le_trans Z22 (Nat.le_of_eq W23.size.symm)
        obtain ⟨T24, H24, X24, e24, V24', W24, st24⟩ := own_stI X23 hx hZ e23 V23 (n := 16) (k := 13) rfl (by decide) (by decide) (g := (mkF m 110 #[.val (.int p1), .val (.int p2), .val (.int p3), .val (.int (p2 &&& (3 : Int32))), .unset] [(.int (1114112 : Int32)), (.int (13 : Int32)), (.ref b10), (.ref b10)])) rfl rfl (hb hby d1_110)
        have V24 : own_VA Z H24 b10 .int [(.int (0 : Int32)), (.int (9 : Int32)), (.int (10 : Int32)), (.int (13 : Int32)), (.int (32 : Int32)), (.int (55295 : Int32)), (.int (55296 : Int32)), (.int (57343 : Int32)), (.int (57344 : Int32)), (.int (65533 : Int32)), (.int (65534 : Int32)), (.int (65536 : Int32)), (.int (1114111 : Int32)), (.int (1114112 : Int32)), (.int (0 : Int32)), (.int (0 : Int32))] := V24'
        have N24 := Fr.snoc X24 N23 gb10
        have Z24 : n0 ≤ H24.size := Nat.le_trans Z23 (Nat.le_of_eq W24.size.symm)
        obtain ⟨T25, H25, X25, e25, V25', W25, st25⟩ := own_stI X24 hx hZ e24 V24 (n := 16) (k := 14) rfl (by decide) (by decide) (g := (mkF m 116 #[.val (.int p1), .val (.int p2), .val (.int p3), .val (.int (p2 &&& (3 : Int32))), .unset] [(.int (-2147483648 : Int32)), (.int (14 : Int32)), (.ref b10), (.ref b10)])) rfl rfl (hb hby d1_116)
        have V25 : own_VA Z H25 b10 .int [(.int (0 : Int32)), (.int (9 : Int32)), (.int (10 : Int32)), (.int (13 : Int32)), (.int (32 : Int32)), (.int (55295 : Int32)), (.int (55296 : Int32)), (.int (57343 : Int32)), (.int (57344 : Int32)), (.int (65533 : Int32)), (.int (65534 : Int32)), (.int (65536 : Int32)), (.int (1114111 : Int32)), (.int (1114112 : Int32)), (.int (-2147483648 : Int32)), (.int (0 : Int32))] := V25'
        have N25 := Fr.snoc X25 N24 gb10
        have Z25 : n0 ≤ H25.size := Nat.le_trans Z24 (Nat.le_of_eq W25.size.symm)
        obtain ⟨T26, H26, X26, e26, V26', W26, st26⟩ := own_stI X25 hx hZ e25 V25 (n := 16) (k := 15) rfl (by decide) (by decide) (g := (mkF m 122 #[.val (.int p1), .val (.int p2), .val (.int p3), .val (.int (p2 &&& (3 : Int32))), .unset] [(.int (2147483647 : Int32)), (.int (15 : Int32)), (.ref b10), (.ref b10)])) rfl rfl (hb hby d1_122)
        have V26 : own_VA Z H26 b10 .int [(.int (0 : Int32)), (.int (9 : Int32)), (.int (10 : Int32)), (.int (13 : Int32)), (.int (32 : Int32)), (.int (55295 : Int32)), (.int (55296 : Int32)), (.int (57343 : Int32)), (.int (57344 : Int32)), (.int (65533 : Int32)), (.int (65534 : Int32)), (.int (65536 : Int32)), (.int (1114111 : Int32)), (.int (1114112 : Int32)), (.int (-2147483648 : Int32)), (.int (2147483647 : Int32))] := V26'
        have N26 := Fr.snoc X26 N25 gb10
        have Z26 : n0 ≤ H26.size := Nat.le_trans Z25 (Nat.le_of_eq W26.size.symm)
        have hj27 : ¬ (((XT.ushr p2 (2 : Int32)) &&& (15 : Int32)) < 0 ∨ 16 ≤ (((XT.ushr p2 (2 : Int32)) &&& (15 : Int32))).toNatClampNeg) := own_m15 _
        obtain ⟨w27, hv27⟩ := own_some (us := [(0 : Int32), (9 : Int32), (10 : Int32), (13 : Int32), (32 : Int32), (55295 : Int32), (55296 : Int32), (57343 : Int32), (57344 : Int32), (65533 : Int32), (65534 : Int32), (65536 : Int32), (1114111 : Int32), (1114112 : Int32), (-2147483648 : Int32), (2147483647 : Int32)]) (vs := [(.int (0 : Int32)), (.int (9 : Int32)), (.int (10 : Int32)), (.int (13 : Int32)), (.int (32 : Int32)), (.int (55295 : Int32)), (.int (55296 : Int32)), (.int (57343 : Int32)), (.int (57344 : Int32)), (.int (65533 : Int32)), (.int (65534 : Int32)), (.int (65536 : Int32)), (.int (1114111 : Int32)), (.int (1114112 : Int32)), (.int (-2147483648 : Int32)), (.int (2147483647 : Int32))]) rfl (n := 16) rfl (own_lt hj27)
        have pre28 : ∀ t, Steps p.tables e below (T26.setTop (mkF m 141 #[.val (.int p1), .val (.int p2), .val (.int p3), .val (.int (p2 &&& (3 : Int32))), .val (.ref b10)] [(.int (w27 + ((p3 &&& (7 : Int32)) - (4 : Int32))))])) t → Steps p.tables e below (s₁.setTop (entryFrame m #[(.int p1), (.int p2), (.int p3)] 5)) t := by
          intro t k
          refine pre8 t ?_
          refine XS.icmpYes X0.here hx rfl (pc0 := 22) (pc' := 30) rfl (hb hby d1_22) rfl (feq h22_7).2 (by decide) (by decide) ?_
          show Steps p.tables e below (s₁.setTop (mkF m 30 #[.val (.int p1), .val (.int p2), .val (.int p3), .val (.int (p2 &&& (3 : Int32))), .unset] [])) _
          refine XS.bipush X0.here hx rfl (hb hby d1_30) ?_
          show Steps p.tables e below (s₁.setTop (mkF m 32 #[.val (.int p1), .val (.int p2), .val (.int p3), .val (.int (p2 &&& (3 : Int32))), .unset] [(.int (16 : Int32))])) _
          refine st10 _ ?_
          show Steps p.tables e below (T10.setTop (mkF m 34 #[.val (.int p1), .val (.int p2), .val (.int p3), .val (.int (p2 &&& (3 : Int32))), .unset] [(.ref b10)])) _
          refine XS.dup X10.here hx rfl (hb hby d1_34) rfl rfl ?_
          show Steps p.tables e below (T10.setTop (mkF m 35 #[.val (.int p1), .val (.int p2), .val (.int p3), .val (.int (p2 &&& (3 : Int32))), .unset] [(.ref b10), (.ref b10)])) _
          refine XS.iconst X10.here hx rfl (hb hby d1_35) ?_
          show Steps p.tables e below (T10.setTop (mkF m 36 #[.val (.int p1), .val (.int p2), .val (.int p3), .val (.int (p2 &&& (3 : Int32))), .unset] [(.int (0 : Int32)), (.ref b10), (.ref b10)])) _
          refine XS.iconst X10.here hx rfl (hb hby d1_36) ?_
          show Steps p.tables e below (T10.setTop (mkF m 37 #[.val (.int p1), .val (.int p2), .val (.int p3), .val (.int (p2 &&& (3 : Int32))), .unset] [(.int (0 : Int32)), (.int (0 : Int32)), (.ref b10), (.ref b10)])) _
          refine st11 _ ?_
          show Steps p.tables e below (T11.setTop (mkF m 38 #[.val (.int p1), .val (.int p2), .val (.int p3), .val (.int (p2 &&& (3 : Int32))), .unset] [(.ref b10)])) _
          refine XS.dup X11.here hx rfl (hb hby d1_38) rfl rfl ?_
          show Steps p.tables e below (T11.setTop (mkF m 39 #[.val (.int p1), .val (.int p2), .val (.int p3), .val (.int (p2 &&& (3 : Int32))), .unset] [(.ref b10), (.ref b10)])) _
          refine XS.iconst X11.here hx rfl (hb hby d1_39) ?_
          show Steps p.tables e below (T11.setTop (mkF m 40 #[.val (.int p1), .val (.int p2), .val (.int p3), .val (.int (p2 &&& (3 : Int32))), .unset] [(.int (1 : Int32)), (.ref b10), (.ref b10)])) _
          refine XS.bipush X11.here hx rfl (hb hby d1_40) ?_
          show Steps p.tables e below (T11.setTop (mkF m 42 #[.val (.int p1), .val (.int p2), .val (.int p3), .val (.int (p2 &&& (3 : Int32))), .unset] [(.int (9 : Int32)), (.int (1 : Int32)), (.ref b10), (.ref b10)])) _
          refine st12 _ ?_
          show Steps p.tables e below (T12.setTop (mkF m 43 #[.val (.int p1), .val (.int p2), .val (.int p3), .val (.int (p2 &&& (3 : Int32))), .unset] [(.ref b10)])) _
          refine XS.dup X12.here hx rfl (hb hby d1_43) rfl rfl ?_
          show Steps p.tables e below (T12.setTop (mkF m 44 #[.val (.int p1), .val (.int p2), .val (.int p3), .val (.int (p2 &&& (3 : Int32))), .unset] [(.ref b10), (.ref b10)])) _
          refine XS.iconst X12.here hx rfl (hb hby d1_44) ?_
          show Steps p.tables e below (T12.setTop (mkF m 45 #[.val (.int p1), .val (.int p2), .val (.int p3), .val (.int (p2 &&& (3 : Int32))), .unset] [(.int (2 : Int32)), (.ref b10), (.ref b10)])) _
          refine XS.bipush X12.here hx rfl (hb hby d1_45) ?_
          show Steps p.tables e below (T12.setTop (mkF m 47 #[.val (.int p1), .val (.int p2), .val (.int p3), .val (.int (p2 &&& (3 : Int32))), .unset] [(.int (10 : Int32)), (.int (2 : Int32)), (.ref b10), (.ref b10)])) _
          refine st13 _ ?_
          show Steps p.tables e below (T13.setTop (mkF m 48 #[.val (.int p1), .val (.int p2), .val (.int p3), .val (.int (p2 &&& (3 : Int32))), .unset] [(.ref b10)])) _
          refine XS.dup X13.here hx rfl (hb hby d1_48) rfl rfl ?_
          show Steps p.tables e below (T13.setTop (mkF m 49 #[.val (.int p1), .val (.int p2), .val (.int p3), .val (.int (p2 &&& (3 : Int32))), .unset] [(.ref b10), (.ref b10)])) _
          refine XS.iconst X13.here hx rfl (hb hby d1_49) ?_
          show Steps p.tables e below (T13.setTop (mkF m 50 #[.val (.int p1), .val (.int p2), .val (.int p3), .val (.int (p2 &&& (3 : Int32))), .unset] [(.int (3 : Int32)), (.ref b10), (.ref b10)])) _
          refine XS.bipush X13.here hx rfl (hb hby d1_50) ?_
          show Steps p.tables e below (T13.setTop (mkF m 52 #[.val (.int p1), .val (.int p2), .val (.int p3), .val (.int (p2 &&& (3 : Int32))), .unset] [(.int (13 : Int32)), (.int (3 : Int32)), (.ref b10), (.ref b10)])) _
          refine st14 _ ?_
          show Steps p.tables e below (T14.setTop (mkF m 53 #[.val (.int p1), .val (.int p2), .val (.int p3), .val (.int (p2 &&& (3 : Int32))), .unset] [(.ref b10)])) _
          refine XS.dup X14.here hx rfl (hb hby d1_53) rfl rfl ?_
          show Steps p.tables e below (T14.setTop (mkF m 54 #[.val (.int p1), .val (.int p2), .val (.int p3), .val (.int (p2 &&& (3 : Int32))), .unset] [(.ref b10), (.ref b10)])) _
          refine XS.iconst X14.here hx rfl (hb hby d1_54) ?_
          show Steps p.tables e below (T14.setTop (mkF m 55 #[.val (.int p1), .val (.int p2), .val (.int p3), .val (.int (p2 &&& (3 : Int32))), .unset] [(.int (4 : Int32)), (.ref b10), (.ref b10)])) _
          refine XS.bipush X14.here hx rfl (hb hby d1_55) ?_
          show Steps p.tables e below (T14.setTop (mkF m 57 #[.val (.int p1), .val (.int p2), .val (.int p3), .val (.int (p2 &&& (3 : Int32))), .unset] [(.int (32 : Int32)), (.int (4 : Int32)), (.ref b10), (.ref b10)])) _
          refine st15 _ ?_
          show Steps p.tables e below (T15.setTop (mkF m 58 #[.val (.int p1), .val (.int p2), .val (.int p3), .val (.int (p2 &&& (3 : Int32))), .unset] [(.ref b10)])) _
          refine XS.dup X15.here hx rfl (hb hby d1_58) rfl rfl ?_
          show Steps p.tables e below (T15.setTop (mkF m 59 #[.val (.int p1), .val (.int p2), .val (.int p3), .val (.int (p2 &&& (3 : Int32))), .unset] [(.ref b10), (.ref b10)])) _
          refine XS.iconst X15.here hx rfl (hb hby d1_59) ?_
          show Steps p.tables e below (T15.setTop (mkF m 60 #[.val (.int p1), .val (.int p2), .val (.int p3), .val (.int (p2 &&& (3 : Int32))), .unset] [(.int (5 : Int32)), (.ref b10), (.ref b10)])) _
          refine X15.ldcInt hx hown (mvT hZ (hw _ (List.mem_of_getElem? (i := 16) rfl))) (g := (mkF m 60 #[.val (.int p1), .val (.int p2), .val (.int p3), .val (.int (p2 &&& (3 : Int32))), .unset] [(.int (5 : Int32)), (.ref b10), (.ref b10)])) rfl (hb hby d1_60) _ ?_
          show Steps p.tables e below (T15.setTop (mkF m 62 #[.val (.int p1), .val (.int p2), .val (.int p3), .val (.int (p2 &&& (3 : Int32))), .unset] [(.int (55295 : Int32)), (.int (5 : Int32)), (.ref b10), (.ref b10)])) _
          refine st16 _ ?_
          show Steps p.tables e below (T16.setTop (mkF m 63 #[.val (.int p1), .val (.int p2), .val (.int p3), .val (.int (p2 &&& (3 : Int32))), .unset] [(.ref b10)])) _
          refine XS.dup X16.here hx rfl (hb hby d1_63) rfl rfl ?_
          show Steps p.tables e below (T16.setTop (mkF m 64 #[.val (.int p1), .val (.int p2), .val (.int p3), .val (.int (p2 &&& (3 : Int32))), .unset] [(.ref b10), (.ref b10)])) _
          refine XS.bipush X16.here hx rfl (hb hby d1_64) ?_
          show Steps p.tables e below (T16.setTop (mkF m 66 #[.val (.int p1), .val (.int p2), .val (.int p3), .val (.int (p2 &&& (3 : Int32))), .unset] [(.int (6 : Int32)), (.ref b10), (.ref b10)])) _
          refine X16.ldcInt hx hown (mvT hZ (hw _ (List.mem_of_getElem? (i := 17) rfl))) (g := (mkF m 66 #[.val (.int p1), .val (.int p2), .val (.int p3), .val (.int (p2 &&& (3 : Int32))), .unset] [(.int (6 : Int32)), (.ref b10), (.ref b10)])) rfl (hb hby d1_66) _ ?_
          show Steps p.tables e below (T16.setTop (mkF m 68 #[.val (.int p1), .val (.int p2), .val (.int p3), .val (.int (p2 &&& (3 : Int32))), .unset] [(.int (55296 : Int32)), (.int (6 : Int32)), (.ref b10), (.ref b10)])) _
          refine st17 _ ?_
          show Steps p.tables e below (T17.setTop (mkF m 69 #[.val (.int p1), .val (.int p2), .val (.int p3), .val (.int (p2 &&& (3 : Int32))), .unset] [(.ref b10)])) _
          refine XS.dup X17.here hx rfl (hb hby d1_69) rfl rfl ?_
          show Steps p.tables e below (T17.setTop (mkF m 70 #[.val (.int p1), .val (.int p2), .val (.int p3), .val (.int (p2 &&& (3 : Int32))), .unset] [(.ref b10), (.ref b10)])) _
          refine XS.bipush X17.here hx rfl (hb hby d1_70) ?_
          show Steps p.tables e below (T17.setTop (mkF m 72 #[.val (.int p1), .val (.int p2), .val (.int p3), .val (.int (p2 &&& (3 : Int32))), .unset] [(.int (7 : Int32)), (.ref b10), (.ref b10)])) _
          refine X17.ldcInt hx hown (mvT hZ (hw _ (List.mem_of_getElem? (i := 18) rfl))) (g := (mkF m 72 #[.val (.int p1), .val (.int p2), .val (.int p3), .val (.int (p2 &&& (3 : Int32))), .unset] [(.int (7 : Int32)), (.ref b10), (.ref b10)])) rfl (hb hby d1_72) _ ?_
          show Steps p.tables e below (T17.setTop (mkF m 74 #[.val (.int p1), .val (.int p2), .val (.int p3), .val (.int (p2 &&& (3 : Int32))), .unset] [(.int (57343 : Int32)), (.int (7 : Int32)), (.ref b10), (.ref b10)])) _
          refine st18 _ ?_
          show Steps p.tables e below (T18.setTop (mkF m 75 #[.val (.int p1), .val (.int p2), .val (.int p3), .val (.int (p2 &&& (3 : Int32))), .unset] [(.ref b10)])) _
          refine XS.dup X18.here hx rfl (hb hby d1_75) rfl rfl ?_
          show Steps p.tables e below (T18.setTop (mkF m 76 #[.val (.int p1), .val (.int p2), .val (.int p3), .val (.int (p2 &&& (3 : Int32))), .unset] [(.ref b10), (.ref b10)])) _
          refine XS.bipush X18.here hx rfl (hb hby d1_76) ?_
          show Steps p.tables e below (T18.setTop (mkF m 78 #[.val (.int p1), .val (.int p2), .val (.int p3), .val (.int (p2 &&& (3 : Int32))), .unset] [(.int (8 : Int32)), (.ref b10), (.ref b10)])) _
          refine X18.ldcInt hx hown (mvT hZ (hw _ (List.mem_of_getElem? (i := 19) rfl))) (g := (mkF m 78 #[.val (.int p1), .val (.int p2), .val (.int p3), .val (.int (p2 &&& (3 : Int32))), .unset] [(.int (8 : Int32)), (.ref b10), (.ref b10)])) rfl (hb hby d1_78) _ ?_
          show Steps p.tables e below (T18.setTop (mkF m 80 #[.val (.int p1), .val (.int p2), .val (.int p3), .val (.int (p2 &&& (3 : Int32))), .unset] [(.int (57344 : Int32)), (.int (8 : Int32)), (.ref b10), (.ref b10)])) _
          refine st19 _ ?_
          show Steps p.tables e below (T19.setTop (mkF m 81 #[.val (.int p1), .val (.int p2), .val (.int p3), .val (.int (p2 &&& (3 : Int32))), .unset] [(.ref b10)])) _
          refine XS.dup X19.here hx rfl (hb hby d1_81) rfl rfl ?_
          show Steps p.tables e below (T19.setTop (mkF m 82 #[.val (.int p1), .val (.int p2), .val (.int p3), .val (.int (p2 &&& (3 : Int32))), .unset] [(.ref b10), (.ref b10)])) _
          refine XS.bipush X19.here hx rfl (hb hby d1_82) ?_
          show Steps p.tables e below (T19.setTop (mkF m 84 #[.val (.int p1), .val (.int p2), .val (.int p3), .val (.int (p2 &&& (3 : Int32))), .unset] [(.int (9 : Int32)), (.ref b10), (.ref b10)])) _
          refine X19.ldcInt hx hown (mvT hZ (hw _ (List.mem_of_getElem? (i := 20) rfl))) (g := (mkF m 84 #[.val (.int p1), .val (.int p2), .val (.int p3), .val (.int (p2 &&& (3 : Int32))), .unset] [(.int (9 : Int32)), (.ref b10), (.ref b10)])) rfl (hb hby d1_84) _ ?_
          show Steps p.tables e below (T19.setTop (mkF m 86 #[.val (.int p1), .val (.int p2), .val (.int p3), .val (.int (p2 &&& (3 : Int32))), .unset] [(.int (65533 : Int32)), (.int (9 : Int32)), (.ref b10), (.ref b10)])) _
          refine st20 _ ?_
          show Steps p.tables e below (T20.setTop (mkF m 87 #[.val (.int p1), .val (.int p2), .val (.int p3), .val (.int (p2 &&& (3 : Int32))), .unset] [(.ref b10)])) _
          refine XS.dup X20.here hx rfl (hb hby d1_87) rfl rfl ?_
          show Steps p.tables e below (T20.setTop (mkF m 88 #[.val (.int p1), .val (.int p2), .val (.int p3), .val (.int (p2 &&& (3 : Int32))), .unset] [(.ref b10), (.ref b10)])) _
          refine XS.bipush X20.here hx rfl (hb hby d1_88) ?_
          show Steps p.tables e below (T20.setTop (mkF m 90 #[.val (.int p1), .val (.int p2), .val (.int p3), .val (.int (p2 &&& (3 : Int32))), .unset] [(.int (10 : Int32)), (.ref b10), (.ref b10)])) _
          refine X20.ldcInt hx hown (mvT hZ (hw _ (List.mem_of_getElem? (i := 21) rfl))) (g := (mkF m 90 #[.val (.int p1), .val (.int p2), .val (.int p3), .val (.int (p2 &&& (3 : Int32))), .unset] [(.int (10 : Int32)), (.ref b10), (.ref b10)])) rfl (hb hby d1_90) _ ?_
          show Steps p.tables e below (T20.setTop (mkF m 92 #[.val (.int p1), .val (.int p2), .val (.int p3), .val (.int (p2 &&& (3 : Int32))), .unset] [(.int (65534 : Int32)), (.int (10 : Int32)), (.ref b10), (.ref b10)])) _
          refine st21 _ ?_
          show Steps p.tables e below (T21.setTop (mkF m 93 #[.val (.int p1), .val (.int p2), .val (.int p3), .val (.int (p2 &&& (3 : Int32))), .unset] [(.ref b10)])) _
          refine XS.dup X21.here hx rfl (hb hby d1_93) rfl rfl ?_
          show Steps p.tables e below (T21.setTop (mkF m 94 #[.val (.int p1), .val (.int p2), .val (.int p3), .val (.int (p2 &&& (3 : Int32))), .unset] [(.ref b10), (.ref b10)])) _
          refine XS.bipush X21.here hx rfl (hb hby d1_94) ?_
          show Steps p.tables e below (T21.setTop (mkF m 96 #[.val (.int p1), .val (.int p2), .val (.int p3), .val (.int (p2 &&& (3 : Int32))), .unset] [(.int (11 : Int32)), (.ref b10), (.ref b10)])) _
          refine X21.ldcInt hx hown (mvT hZ (hw _ (List.mem_of_getElem? (i := 22) rfl))) (g := (mkF m 96 #[.val (.int p1), .val (.int p2), .val (.int p3), .val (.int (p2 &&& (3 : Int32))), .unset] [(.int (11 : Int32)), (.ref b10), (.ref b10)])) rfl (hb hby d1_96) _ ?_
          show Steps p.tables e below (T21.setTop (mkF m 98 #[.val (.int p1), .val (.int p2), .val (.int p3), .val (.int (p2 &&& (3 : Int32))), .unset] [(.int (65536 : Int32)), (.int (11 : Int32)), (.ref b10), (.ref b10)])) _
          refine st22 _ ?_
          show Steps p.tables e below (T22.setTop (mkF m 99 #[.val (.int p1), .val (.int p2), .val (.int p3), .val (.int (p2 &&& (3 : Int32))), .unset] [(.ref b10)])) _
          refine XS.dup X22.here hx rfl (hb hby d1_99) rfl rfl ?_
          show Steps p.tables e below (T22.setTop (mkF m 100 #[.val (.int p1), .val (.int p2), .val (.int p3), .val (.int (p2 &&& (3 : Int32))), .unset] [(.ref b10), (.ref b10)])) _
          refine XS.bipush X22.here hx rfl (hb hby d1_100) ?_
          show Steps p.tables e below (T22.setTop (mkF m 102 #[.val (.int p1), .val (.int p2), .val (.int p3), .val (.int (p2 &&& (3 : Int32))), .unset] [(.int (12 : Int32)), (.ref b10), (.ref b10)])) _
          refine X22.ldcInt hx hown (mvT hZ (hw _ (List.mem_of_getElem? (i := 14) rfl))) (g := (mkF m 102 #[.val (.int p1), .val (.int p2), .val (.int p3), .val (.int (p2 &&& (3 : Int32))), .unset] [(.int (12 : Int32)), (.ref b10), (.ref b10)])) rfl (hb hby d1_102) _ ?_
          show Steps p.tables e below (T22.setTop (mkF m 104 #[.val (.int p1), .val (.int p2), .val (.int p3), .val (.int (p2 &&& (3 : Int32))), .unset] [(.int (1114111 : Int32)), (.int (12 : Int32)), (.ref b10), (.ref b10)])) _
          refine st23 _ ?_
          show Steps p.tables e below (T23.setTop (mkF m 105 #[.val (.int p1), .val (.int p2), .val (.int p3), .val (.int (p2 &&& (3 : Int32))), .unset] [(.ref b10)])) _
          refine XS.dup X23.here hx rfl (hb hby d1_105) rfl rfl ?_
          show Steps p.tables e below (T23.setTop (mkF m 106 #[.val (.int p1), .val (.int p2), .val (.int p3), .val (.int (p2 &&& (3 : Int32))), .unset] [(.ref b10), (.ref b10)])) _
          refine XS.bipush X23.here hx rfl (hb hby d1_106) ?_
          show Steps p.tables e below (T23.setTop (mkF m 108 #[.val (.int p1), .val (.int p2), .val (.int p3), .val (.int (p2 &&& (3 : Int32))), .unset] [(.int (13 : Int32)), (.ref b10), (.ref b10)])) _
          refine X23.ldcInt hx hown (mvT hZ (hw _ (List.mem_of_getElem? (i := 23) rfl))) (g := (mkF m 108 #[.val (.int p1), .val (.int p2), .val (.int p3), .val (.int (p2 &&& (3 : Int32))), .unset] [(.int (13 : Int32)), (.ref b10), (.ref b10)])) rfl (hb hby d1_108) _ ?_
          show Steps p.tables e below (T23.setTop (mkF m 110 #[.val (.int p1), .val (.int p2), .val (.int p3), .val (.int (p2 &&& (3 : Int32))), .unset] [(.int (1114112 : Int32)), (.int (13 : Int32)), (.ref b10), (.ref b10)])) _
          refine st24 _ ?_
          show Steps p.tables e below (T24.setTop (mkF m 111 #[.val (.int p1), .val (.int p2), .val (.int p3), .val (.int (p2 &&& (3 : Int32))), .unset] [(.ref b10)])) _
          refine XS.dup X24.here hx rfl (hb hby d1_111) rfl rfl ?_
          show Steps p.tables e below (T24.setTop (mkF m 112 #[.val (.int p1), .val (.int p2), .val (.int p3), .val (.int (p2 &&& (3 : Int32))), .unset] [(.ref b10), (.ref b10)])) _
          refine XS.bipush X24.here hx rfl (hb hby d1_112) ?_
          show Steps p.tables e below (T24.setTop (mkF m 114 #[.val (.int p1), .val (.int p2), .val (.int p3), .val (.int (p2 &&& (3 : Int32))), .unset] [(.int (14 : Int32)), (.ref b10), (.ref b10)])) _
          refine X24.ldcInt hx hown (mvT hZ (hw _ (List.mem_of_getElem? (i := 24) rfl))) (g := (mkF m 114 #[.val (.int p1), .val (.int p2), .val (.int p3), .val (.int (p2 &&& (3 : Int32))), .unset] [(.int (14 : Int32)), (.ref b10), (.ref b10)])) rfl (hb hby d1_114) _ ?_
          show Steps p.tables e below (T24.setTop (mkF m 116 #[.val (.int p1), .val (.int p2), .val (.int p3), .val (.int (p2 &&& (3 : Int32))), .unset] [(.int (-2147483648 : Int32)), (.int (14 : Int32)), (.ref b10), (.ref b10)])) _
          refine st25 _ ?_
          show Steps p.tables e below (T25.setTop (mkF m 117 #[.val (.int p1), .val (.int p2), .val (.int p3), .val (.int (p2 &&& (3 : Int32))), .unset] [(.ref b10)])) _
          refine XS.dup X25.here hx rfl (hb hby d1_117) rfl rfl ?_
          show Steps p.tables e below (T25.setTop (mkF m 118 #[.val (.int p1), .val (.int p2), .val (.int p3), .val (.int (p2 &&& (3 : Int32))), .unset] [(.ref b10), (.ref b10)])) _
          refine XS.bipush X25.here hx rfl (hb hby d1_118) ?_
          show Steps p.tables e below (T25.setTop (mkF m 120 #[.val (.int p1), .val (.int p2), .val (.int p3), .val (.int (p2 &&& (3 : Int32))), .unset] [(.int (15 : Int32)), (.ref b10), (.ref b10)])) _
          refine X25.ldcInt hx hown (mvT hZ (hw _ (List.mem_of_getElem? (i := 25) rfl))) (g := (mkF m 120 #[.val (.int p1), .val (.int p2), .val (.int p3), .val (.int (p2 &&& (3 : Int32))), .unset] [(.int (15 : Int32)), (.ref b10), (.ref b10)])) rfl (hb hby d1_120) _ ?_
          show Steps p.tables e below (T25.setTop (mkF m 122 #[.val (.int p1), .val (.int p2), .val (.int p3), .val (.int (p2 &&& (3 : Int32))), .unset] [(.int (2147483647 : Int32)), (.int (15 : Int32)), (.ref b10), (.ref b10)])) _
          refine st26 _ ?_
          show Steps p.tables e below (T26.setTop (mkF m 123 #[.val (.int p1), .val (.int p2), .val (.int p3), .val (.int (p2 &&& (3 : Int32))), .unset] [(.ref b10)])) _
          refine XS.astore X26.here hx rfl (hb hby d1_123) rfl rfl (l' := #[.val (.int p1), .val (.int p2), .val (.int p3), .val (.int (p2 &&& (3 : Int32))), .val (.ref b10)]) rfl ?_
          show Steps p.tables e below (T26.setTop (mkF m 125 #[.val (.int p1), .val (.int p2), .val (.int p3), .val (.int (p2 &&& (3 : Int32))), .val (.ref b10)] [])) _
          refine XS.aload X26.here hx rfl (hb hby d1_125) rfl rfl ?_
          show Steps p.tables e below (T26.setTop (mkF m 127 #[.val (.int p1), .val (.int p2), .val (.int p3), .val (.int (p2 &&& (3 : Int32))), .val (.ref b10)] [(.ref b10)])) _
          refine XS.iloadN X26.here hx rfl (hb hby d1_127) rfl ?_
          show Steps p.tables e below (T26.setTop (mkF m 128 #[.val (.int p1), .val (.int p2), .val (.int p3), .val (.int (p2 &&& (3 : Int32))), .val (.ref b10)] [(.int p2), (.ref b10)])) _
          refine XS.iconst X26.here hx rfl (hb hby d1_128) ?_
          show Steps p.tables e below (T26.setTop (mkF m 129 #[.val (.int p1), .val (.int p2), .val (.int p3), .val (.int (p2 &&& (3 : Int32))), .val (.ref b10)] [(.int (2 : Int32)), (.int p2), (.ref b10)])) _
          refine XT.iushr X26.here hx rfl (hb hby d1_129) rfl ?_
          show Steps p.tables e below (T26.setTop (mkF m 130 #[.val (.int p1), .val (.int p2), .val (.int p3), .val (.int (p2 &&& (3 : Int32))), .val (.ref b10)] [(.int (XT.ushr p2 (2 : Int32))), (.ref b10)])) _
          refine XS.bipush X26.here hx rfl (hb hby d1_130) ?_
          show Steps p.tables e below (T26.setTop (mkF m 132 #[.val (.int p1), .val (.int p2), .val (.int p3), .val (.int (p2 &&& (3 : Int32))), .val (.ref b10)] [(.int (15 : Int32)), (.int (XT.ushr p2 (2 : Int32))), (.ref b10)])) _
          refine XS.iand X26.here hx rfl (hb hby d1_132) rfl ?_
          show Steps p.tables e below (T26.setTop (mkF m 133 #[.val (.int p1), .val (.int p2), .val (.int p3), .val (.int (p2 &&& (3 : Int32))), .val (.ref b10)] [(.int ((XT.ushr p2 (2 : Int32)) &&& (15 : Int32))), (.ref b10)])) _
          refine own_ldI X26 hx hZ e26 V26 (n := 16) (v := (.int w27)) rfl hj27 hv27 (g := (mkF m 133 #[.val (.int p1), .val (.int p2), .val (.int p3), .val (.int (p2 &&& (3 : Int32))), .val (.ref b10)] [(.int ((XT.ushr p2 (2 : Int32)) &&& (15 : Int32))), (.ref b10)])) rfl rfl (hb hby d1_133) _ ?_
          show Steps p.tables e below (T26.setTop (mkF m 134 #[.val (.int p1), .val (.int p2), .val (.int p3), .val (.int (p2 &&& (3 : Int32))), .val (.ref b10)] [(.int w27)])) _
          refine XS.iloadN X26.here hx rfl (hb hby d1_134) rfl ?_
          show Steps p.tables e below (T26.setTop (mkF m 135 #[.val (.int p1), .val (.int p2), .val (.int p3), .val (.int (p2 &&& (3 : Int32))), .val (.ref b10)] [(.int p3), (.int w27)])) _
          refine XS.bipush X26.here hx rfl (hb hby d1_135) ?_
          show Steps p.tables e below (T26.setTop (mkF m 137 #[.val (.int p1), .val (.int p2), .val (.int p3), .val (.int (p2 &&& (3 : Int32))), .val (.ref b10)] [(.int (7 : Int32)), (.int p3), (.int w27)])) _
          refine XS.iand X26.here hx rfl (hb hby d1_137) rfl ?_
          show Steps p.tables e below (T26.setTop (mkF m 138 #[.val (.int p1), .val (.int p2), .val (.int p3), .val (.int (p2 &&& (3 : Int32))), .val (.ref b10)] [(.int (p3 &&& (7 : Int32))), (.int w27)])) _
          refine XS.iconst X26.here hx rfl (hb hby d1_138) ?_
          show Steps p.tables e below (T26.setTop (mkF m 139 #[.val (.int p1), .val (.int p2), .val (.int p3), .val (.int (p2 &&& (3 : Int32))), .val (.ref b10)] [(.int (4 : Int32)), (.int (p3 &&& (7 : Int32))), (.int w27)])) _
          refine XS.isub X26.here hx rfl (hb hby d1_139) rfl ?_
          show Steps p.tables e below (T26.setTop (mkF m 140 #[.val (.int p1), .val (.int p2), .val (.int p3), .val (.int (p2 &&& (3 : Int32))), .val (.ref b10)] [(.int ((p3 &&& (7 : Int32)) - (4 : Int32))), (.int w27)])) _
          refine XS.iadd X26.here hx rfl (hb hby d1_140) rfl ?_
          show Steps p.tables e below (T26.setTop (mkF m 141 #[.val (.int p1), .val (.int p2), .val (.int p3), .val (.int (p2 &&& (3 : Int32))), .val (.ref b10)] [(.int (w27 + ((p3 &&& (7 : Int32)) - (4 : Int32))))])) _
          exact k
        obtain ⟨fs, hr, hrun, hended, hW, hsame⟩ := X26.leave (v := some (.int (w27 + ((p3 &&& (7 : Int32)) - (4 : Int32))))) (fun h => by rw [Bd.returns] at h; cases h)
        refine ⟨_, _, pre28 _ ?_, hrun, hended, _, _, rfl, ?_, ⟨_, rfl⟩, hW, hsame.mono (by decide) (by decide)⟩
        · exact retI X26 hx Bd.returns (hb hby d1_141) hr
        · exact ⟨⟨_, rfl⟩, N26⟩
theorem pn_0 : plainName "com/example/twyg/twyg/xml/XmlCharactersIsCharacterPinLaw" = true := by first | (simp [plainName, overriddenIn]; done) | decide +kernel
theorem ef_0 (m : MethodId) (p1 : Int32) (p2 : Int32) (p3 : Int32) : entryFrame m #[(.int p1), (.int p2), (.int p3)] maxLocals = mkF m 0 #[.val (.int p1), .val (.int p2), .val (.int p3), .unset] [] := by first | (simp [entryFrame, mkF, argsToLocals, Value.category, maxLocals]; done) | rfl
theorem pd_0_0 : parseMethodDescriptor "(III)I" = some ⟨[.int, .int, .int], some .int⟩ := by decide +kernel
theorem pd_0_1 : parseMethodDescriptor "(I)Z" = some ⟨[.int], some .boolean⟩ := by decide +kernel
def Q0 (n0 : Nat) (v : Option Value) (L : List Loc) : Prop := v = some (.int 1) ∧ Fr n0 L
set_option maxRecDepth 65536 in
set_option maxHeartbeats 40000000 in
theorem rm0 (l : Launch) (Z : State) (a0 : Array Value) (hw : ∀ d ∈ tables_1, d.before a0 Z = true) (ws : List Jvm.Cond) (p1 : Int32) (p2 : Int32) (p3 : Int32) (h0 : Heap) (n0 : Nat) (Z0 : n0 ≤ h0.size) :
    MetFree l x (head1 (Jvm.Cond.code x code maxLocals ret :: ws) room_1) (fun a U => a = #[(.int p1), (.int p2), (.int p3)] ∧ Z.Warmed39 U.vm ∧ U.heap = h0) (fun _ _ _ _ _ => True) (fun _ U o U' => ∃ v L, o = .returned v ∧ Q0 n0 v L ∧ FrameEnd U o U' L room_1.cells room_1.slots) := by
  refine MetFree.of_bodySF (plainFor_of_name pn_0) hisR ?_
  intro p e s m args below meth c s₁ Bd hml0 hP hK
  obtain ⟨rfl, hZ, hh⟩ := hP
  have hx := Bd.exec
  have hby := Bd.bytes
  have hml : c.maxLocals = 4 := hml0
  have hown : s.vm.findClass "com/example/twyg/twyg/xml/XmlCharactersIsCharacterPinLaw" = some m.cls := findClass_of_methodNamed Bd.named
  have hnm := (name_of_methodNamed Bd.named Bd.method).1
  have X0 : Stand p l e room_1 s m #[(.int p1), (.int p2), (.int p3)] below meth c s₁ [] 0 0 := Stand.of_body Bd
  have e0 : s₁.heap = h0 := by rw [← hh, Bd.state]; rfl
  have N0 := Fr.nil n0
  have pre0 : ∀ t, Steps p.tables e below (s₁.setTop (mkF m 0 #[.val (.int p1), .val (.int p2), .val (.int p3), .unset] [])) t → Steps p.tables e below (s₁.setTop (entryFrame m #[(.int p1), (.int p2), (.int p3)] maxLocals)) t := fun t k => castTop (ef_0 m p1 p2 p3) k
  obtain ⟨_, _, ⟨T1, L1, k1, n1⟩, -, X1, ⟨Lc1, hQ1, l1, y1, z1⟩, st1⟩ := Jvm.LawKit.callS X0 hx (y := (⟨"com/example/twyg/twyg/xml/XmlCharactersIsCharacterPinLaw", "pick", "(III)I"⟩ : MethodName)) hown (mvT hZ (hw _ (List.mem_of_getElem? (i := 0) rfl))) (mvT hZ (hw _ (List.mem_of_getElem? (i := 1) rfl))) (mvT hZ (hw _ (List.mem_of_getElem? (i := 2) rfl))) (mvT hZ (hw _ (List.mem_of_getElem? (i := 3) rfl))) (by decide) (backOf (W := 0) (rm1 l Z a0 hw [] p1 p2 p3 h0 n0 Z0) hZ (hw _ (List.mem_of_getElem? (i := 3) rfl)) (hw _ (List.mem_of_getElem? (i := 2) rfl)) (by decide) (by decide)) (g := (mkF m 3 #[.val (.int p1), .val (.int p2), .val (.int p3), .unset] [(.int p3), (.int p2), (.int p1)])) rfl (by rw [hml]; rfl) (argsL := [(.int p1), (.int p2), (.int p3)]) (rest := []) (lenOf pd_0_0 rfl) rfl (by show 2 * 0 + _ ≤ _; exact Nat.le_of_eq rfl) (hb hby at_3) (fun _ _ => ⟨rfl, e0, (by decide : 0 + 1 ≤ _), (by decide : 0 + 16 ≤ _)⟩)
  dsimp only [Pt.U, Pt.locs, Pt.cells, Pt.slots] at X1 l1 y1 z1 st1 hQ1
  subst l1 y1 z1
  obtain ⟨⟨r1, rfl⟩, N1q⟩ := hQ1
  have N1 := Fr.app N0 N1q
  have e1 : T1.heap = T1.heap := rfl
  obtain ⟨_, _, ⟨T2, L2, k2, n2⟩, -, X2, ⟨Lc2, hQ2, l2, y2, z2⟩, st2⟩ := Jvm.LawKit.callS X1 hx (y := (⟨"com/example/twyg/twyg/xml/XmlCharacters", "isCharacter", "(I)Z"⟩ : MethodName)) hown (mvT hZ (hw _ (List.mem_of_getElem? (i := 5) rfl))) (mvT hZ (hw _ (List.mem_of_getElem? (i := 6) rfl))) (mvT hZ (hw _ (List.mem_of_getElem? (i := 7) rfl))) (mvT hZ (hw _ (List.mem_of_getElem? (i := 8) rfl))) (by decide) (backOf (W := 0) (rm2 l Z a0 hw [] r1 T1.heap n0) hZ (hw _ (List.mem_of_getElem? (i := 8) rfl)) (hw _ (List.mem_of_getElem? (i := 7) rfl)) (by decide) (by decide)) (g := (mkF m 8 #[.val (.int p1), .val (.int p2), .val (.int p3), .val (.int r1)] [(.int r1)])) rfl (by rw [hml]; rfl) (argsL := [(.int r1)]) (rest := []) (lenOf pd_0_1 rfl) rfl (by show 2 * 0 + _ ≤ _; exact Nat.le_of_eq rfl) (hb hby at_8) (fun _ _ => ⟨rfl, e1, (by decide : 1 + 0 ≤ _), (by decide : 16 + 0 ≤ _)⟩)
  dsimp only [Pt.U, Pt.locs, Pt.cells, Pt.slots] at X2 l2 y2 z2 st2 hQ2
  subst l2 y2 z2
  obtain ⟨rfl, N2q, e2⟩ := hQ2
  have N2 := Fr.app N1 N2q
  obtain ⟨_, _, ⟨T3, L3, k3, n3⟩, -, X3, ⟨Lc3, hQ3, l3, y3, z3⟩, st3⟩ := Jvm.LawKit.callS X2 hx (y := (⟨"com/example/twyg/twyg/xml/XmlCharactersIsCharacterPinLaw", "expected", "(I)Z"⟩ : MethodName)) hown (mvT hZ (hw _ (List.mem_of_getElem? (i := 11) rfl))) (mvT hZ (hw _ (List.mem_of_getElem? (i := 12) rfl))) (mvT hZ (hw _ (List.mem_of_getElem? (i := 2) rfl))) (mvT hZ (hw _ (List.mem_of_getElem? (i := 13) rfl))) (by decide) (backOf (W := 1) (rm3 l Z a0 hw [] r1 T1.heap n0) hZ (hw _ (List.mem_of_getElem? (i := 13) rfl)) (hw _ (List.mem_of_getElem? (i := 2) rfl)) (by decide) (by decide)) (g := (mkF m 12 #[.val (.int p1), .val (.int p2), .val (.int p3), .val (.int r1)] [(.int r1), (.int (f2_0 r1))])) rfl (by rw [hml]; rfl) (argsL := [(.int r1)]) (rest := [(.int (f2_0 r1))]) (lenOf pd_0_1 rfl) rfl (by show 2 * 0 + _ ≤ _; exact Nat.le_of_eq rfl) (hb hby at_12) (fun _ _ => ⟨rfl, e2, (by decide : 1 + 0 ≤ _), (by decide : 16 + 0 ≤ _)⟩)
  dsimp only [Pt.U, Pt.locs, Pt.cells, Pt.slots] at X3 l3 y3 z3 st3 hQ3
  subst l3 y3 z3
  obtain ⟨rfl, N3q, e3⟩ := hQ3
  have N3 := Fr.app N2 N3q
  have h15_4 : (f2_0 r1) = (f3_0 r1) := own_eq _
  have pre5 : ∀ t, Steps p.tables e below (T3.setTop (mkF m 23 #[.val (.int p1), .val (.int p2), .val (.int p3), .val (.int r1)] [(.int (1 : Int32))])) t → Steps p.tables e below (s₁.setTop (entryFrame m #[(.int p1), (.int p2), (.int p3)] maxLocals)) t := by
    intro t k
    refine pre0 t ?_
    show Steps p.tables e below (s₁.setTop (mkF m 0 #[.val (.int p1), .val (.int p2), .val (.int p3), .unset] [])) _
    refine XS.iloadN X0.here hx rfl (hb hby at_0) rfl ?_
    show Steps p.tables e below (s₁.setTop (mkF m 1 #[.val (.int p1), .val (.int p2), .val (.int p3), .unset] [(.int p1)])) _
    refine XS.iloadN X0.here hx rfl (hb hby at_1) rfl ?_
    show Steps p.tables e below (s₁.setTop (mkF m 2 #[.val (.int p1), .val (.int p2), .val (.int p3), .unset] [(.int p2), (.int p1)])) _
    refine XS.iloadN X0.here hx rfl (hb hby at_2) rfl ?_
    show Steps p.tables e below (s₁.setTop (mkF m 3 #[.val (.int p1), .val (.int p2), .val (.int p3), .unset] [(.int p3), (.int p2), (.int p1)])) _
    refine st1 _ ?_
    show Steps p.tables e below (T1.setTop (mkF m 6 #[.val (.int p1), .val (.int p2), .val (.int p3), .unset] [(.int r1)])) _
    refine XS.istoreN X1.here hx rfl (hb hby at_6) rfl (l' := #[.val (.int p1), .val (.int p2), .val (.int p3), .val (.int r1)]) rfl ?_
    show Steps p.tables e below (T1.setTop (mkF m 7 #[.val (.int p1), .val (.int p2), .val (.int p3), .val (.int r1)] [])) _
    refine XS.iloadN X1.here hx rfl (hb hby at_7) rfl ?_
    show Steps p.tables e below (T1.setTop (mkF m 8 #[.val (.int p1), .val (.int p2), .val (.int p3), .val (.int r1)] [(.int r1)])) _
    refine st2 _ ?_
    show Steps p.tables e below (T2.setTop (mkF m 11 #[.val (.int p1), .val (.int p2), .val (.int p3), .val (.int r1)] [(.int (f2_0 r1))])) _
    refine XS.iloadN X2.here hx rfl (hb hby at_11) rfl ?_
    show Steps p.tables e below (T2.setTop (mkF m 12 #[.val (.int p1), .val (.int p2), .val (.int p3), .val (.int r1)] [(.int r1), (.int (f2_0 r1))])) _
    refine st3 _ ?_
    show Steps p.tables e below (T3.setTop (mkF m 15 #[.val (.int p1), .val (.int p2), .val (.int p3), .val (.int r1)] [(.int (f3_0 r1)), (.int (f2_0 r1))])) _
    refine XS.icmpNo X3.here hx rfl (hb hby at_15) rfl (teq h15_4).2 ?_
    show Steps p.tables e below (T3.setTop (mkF m 18 #[.val (.int p1), .val (.int p2), .val (.int p3), .val (.int r1)] [])) _
    refine XS.iconst X3.here hx rfl (hb hby at_18) ?_
    show Steps p.tables e below (T3.setTop (mkF m 19 #[.val (.int p1), .val (.int p2), .val (.int p3), .val (.int r1)] [(.int (1 : Int32))])) _
    refine XS.goto X3.here hx rfl (pc0 := 19) (pc' := 23) rfl (hb hby at_19) (by decide) (by decide) ?_
    show Steps p.tables e below (T3.setTop (mkF m 23 #[.val (.int p1), .val (.int p2), .val (.int p3), .val (.int r1)] [(.int (1 : Int32))])) _
    exact k
  obtain ⟨fs, hr, hrun, hended, hW, hsame⟩ := X3.leave (v := some (.int (1 : Int32))) (fun h => by rw [Bd.returns] at h; cases h)
  refine ⟨_, _, pre5 _ ?_, hrun, hended, _, _, rfl, ?_, ⟨_, rfl⟩, hW, hsame.mono (by decide) (by decide)⟩
  · exact retN X3 hx (t := .boolean) Bd.returns (by simp) (hb hby at_23) hr
  · exact ⟨rfl, N3⟩
set_option maxRecDepth 65536 in
set_option maxHeartbeats 40000000 in
theorem comes_1 {Post : Tables → Env → Array Value → State → Outcome → State → Prop} (hpost : ∀ tb e args s v u, (limb_1_1.after args s (.returned v) u = true ∧ limb_1_2.after args s (.returned v) u = true ∧ True) → FrameEnd s (.returned v) u (Jvm.fieldLocs frame_1_writes args s ++ Jvm.arrayLocs frame_1_arrays args s ++ Jvm.staticLocs frame_1_statics s) 16 128 → Post tb e args s (.returned v) u) :
    ArmFor flags0 classFile x code maxLocals ret World_1 tables_1 room_1 Calls_1 rest_1 Pre_1 Post := by
  intro l hfl _ _ p e ha hc hk s m args below hf hA hF happ hP
  obtain ⟨hcalls, hrest, hpre⟩ := hP
  obtain ⟨-, -, -, hnamed, -, -, -, hat⟩ := (Spec.applies_iff hf).mp happ
  obtain ⟨hg, hn⟩ := and_e (Cond.before_iff.mp (show (Jvm.Cond.and given_1 narrow_1).before args s = true from hpre))
  obtain ⟨hc0, hr1⟩ := and_e hg
  obtain ⟨ha0, hr2⟩ := and_e hr1
  obtain ⟨ha1, hr3⟩ := and_e hr2
  obtain ⟨w0, w1, w2, rfl⟩ : ∃ w0 w1 w2 : Value, args = #[w0, w1, w2] := by
    have hs : args.size = 3 := by simpa [Cond.value, given_1] using hc0
    obtain ⟨L⟩ := args
    match L, hs with
    | [w0, w1, w2], _ => exact ⟨w0, w1, w2, rfl⟩
  have hw := fun d (hd : d ∈ tables_1) => atoms_spec (ws := Jvm.Cond.code x code maxLocals ret :: tables_1) hat d (List.mem_cons_of_mem _ hd)
  have hfit : Fit s := fun {y c} hc i hi => by
    obtain ⟨ha, rfl⟩ := Array.getElem?_eq_some_iff.mp hc
    have q := List.all_eq_true.mp ((Array.all_eq_true_iff_forall_mem.mp hF) _ (Array.getElem_mem ha)) i (List.mem_range.mpr hi)
    simpa [Array.getElem?_eq_getElem hi] using q
  obtain ⟨i0, ei0⟩ := is_v ha0
  obtain rfl : w0 = (.int i0) := Option.some.inj ei0
  obtain ⟨i1, ei1⟩ := is_v ha1
  obtain rfl : w1 = (.int i1) := Option.some.inj ei1
  obtain ⟨i2, ei2⟩ := is_v hr3
  obtain rfl : w2 = (.int i2) := Option.some.inj ei2
  obtain ⟨n, o, h1, h2, h3, _, L, rfl, ⟨rfl, N⟩, hq⟩ := rm0 l s _ hw tables_1 i0 i1 i2 s.heap s.heap.size (Nat.le_refl _) p e ha hc hk s m _ below hf ((Spec.applies_iff_loose hf).mp happ).1 ⟨rfl, State.Warmed39.refl s, rfl⟩ trivial
  refine ⟨n, _, h1, h2, h3, hpost _ _ _ _ _ _ ⟨Cond.after_iff.mpr rfl, Cond.after_iff.mpr (eq_i res_at (Term.int_eval (1)) rfl), trivial⟩ ⟨hq.1, hq.2.1, (hq.2.2.sift fun y hy => Or.inr (N y hy)).mono (by decide) (by decide)⟩⟩
theorem main_1_1 : Claimed_1_1 := comes_1 fun _ _ _ _ _ _ h hF => ⟨h.1, hF⟩
theorem main_1_2 : Claimed_1_2 := comes_1 fun _ _ _ _ _ _ h hF => ⟨h.2.1, hF⟩
end Jvm.Pilot.@@N@@
namespace Jvm.Pilot.@@N@@
open Jvm Jvm.ClassFile Sem Op Lib Jvm.Free Jvm.Stand Jvm.Pilot.@@N@@.Jvm.D
/-! MADE BY PROGRAM (witnessworld.py) out of the Statement's table words and the real class files: 9 classes; the members and pool entries that the words name. The judged class is class 1, her method 3. -/
namespace start1
open Jvm.ClassFile
def u (s : String) : CpInfo := .utf8 (stringToUtf16 s)
/-- a pool by its gaps: so many unusable entries, then the entry; so many at the end -/
def gap : Nat → List CpInfo → List CpInfo
  | 0, r => r
  | n + 1, r => .unusable :: gap n r
def poolList (es : List (Nat × CpInfo)) (last : Nat) : List CpInfo := es.foldr (fun e r => gap e.1 (e.2 :: r)) (gap last [])
def pool (es : List (Nat × CpInfo)) (last : Nat) : Array CpInfo := ⟨poolList es last⟩
def fileOf (pool : Array CpInfo) (this : Nat) (attrs : Array Attribute := #[]) (ms : Array MethodInfo := #[]) (fl : Nat := 33) (sup : Nat := 0) (ifs : Array Nat := #[]) (fds : Array FieldInfo := #[]) : ClassFile where
  minorVersion := 0
  majorVersion := 65
  constantPool := pool
  accessFlags := fl
  thisClass := this
  superClass := sup
  interfaces := ifs
  fields := fds
  methods := ms
  attributes := attrs
def plain (name : String) (sup : Option ClassId) : Class where
  name := name
  kind := .ordinary
  loader := none
  accessFlags := 33
  super := sup
  interfaces := #[]
  cf := none
  fields := #[]
  methods := #[]
  instanceTypes := #[]
  staticTypes := #[]
  resolved := #[]
  callSites := []
  init := .initialized
  statics := none
  mirror := none

def pool0 : Array CpInfo := pool [(5, u "<init>"), (0, u "()V"), (1, .class_ 10), (1, u "java/lang/Object")] 113

def k0m0 : Method := { name := "<init>", desc := "()V", sig := { parameters := [], returnType := none }, accessFlags := 1, code := none }
/-- java/lang/Object -/
def k0 : Class := { plain "java/lang/Object" none with
  accessFlags := 33
  interfaces := #[]
  cf := some (fileOf pool0 8 #[] #[{ accessFlags := 1, nameIndex := 5, descriptorIndex := 6, attributes := #[] }] 33 0 #[] #[])
  fields := #[]
  methods := #[k0m0]
  instanceTypes := #[]
  staticTypes := #[]
  resolved := Array.replicate 124 none
  statics := none }

def pool1 : Array CpInfo := pool [(2, .class_ 4), (1, u "java/lang/Object"), (0, u "<init>"), (0, u "()V"), (0, .integer 2097151), (0, .integer 65535), (0, .integer 55295), (0, .integer 55296), (0, .integer 57343), (0, .integer 57344), (0, .integer 65533), (0, .integer 65534), (0, .integer 65536), (0, .integer 1114111), (0, .integer 1114112), (2, .integer 2147483648), (0, .integer 2147483647), (0, .methodref 23 24), (0, .class_ 25), (0, .nameAndType 26 27), (0, u "com/example/twyg/twyg/xml/XmlCharactersIsCharacterPinLaw"), (0, u "pick"), (0, u "(III)I"), (0, .methodref 29 30), (0, .class_ 31), (0, .nameAndType 32 33), (0, u "com/example/twyg/twyg/xml/XmlCharacters"), (0, u "isCharacter"), (0, u "(I)Z"), (0, .methodref 23 35), (0, .nameAndType 36 33), (0, u "expected"), (3, u "law"), (0, u "(III)Z")] 2

def k1m0 : Method := { name := "<init>", desc := "()V", sig := { parameters := [], returnType := none }, accessFlags := 1, code := none }
def k1c1 : Code := { maxStack := 4, maxLocals := 5, code := method_2_code, exceptionTable := #[], attributes := #[] }
def k1m1 : Method := { name := "pick", desc := "(III)I", sig := { parameters := [.int, .int, .int], returnType := some .int }, accessFlags := 10, code := some k1c1 }
def k1c2 : Code := { maxStack := 2, maxLocals := 1, code := method_3_code, exceptionTable := #[], attributes := #[] }
def k1m2 : Method := { name := "expected", desc := "(I)Z", sig := { parameters := [.int], returnType := some .boolean }, accessFlags := 10, code := some k1c2 }
def k1c3 : Code := { maxStack := 3, maxLocals := 4, code := code, exceptionTable := #[], attributes := #[] }
def k1m3 : Method := { name := "law", desc := "(III)Z", sig := { parameters := [.int, .int, .int], returnType := some .boolean }, accessFlags := 9, code := some k1c3 }
/-- com/example/twyg/twyg/xml/XmlCharactersIsCharacterPinLaw -/
def k1 : Class := { plain "com/example/twyg/twyg/xml/XmlCharactersIsCharacterPinLaw" (some 0) with
  accessFlags := 49
  interfaces := #[]
  cf := some (fileOf pool1 23 #[] #[{ accessFlags := 1, nameIndex := 5, descriptorIndex := 6, attributes := #[] }, { accessFlags := 10, nameIndex := 26, descriptorIndex := 27, attributes := #[] }, { accessFlags := 10, nameIndex := 36, descriptorIndex := 33, attributes := #[] }, { accessFlags := 9, nameIndex := 40, descriptorIndex := 41, attributes := #[] }] 49 2 #[] #[])
  fields := #[]
  methods := #[k1m0, k1m1, k1m2, k1m3]
  instanceTypes := #[]
  staticTypes := #[]
  resolved := Array.replicate 44 none
  statics := none }

def pool2 : Array CpInfo := pool [(2, .class_ 4), (1, u "java/lang/Object"), (0, u "<init>"), (0, u "()V"), (0, .integer 55295), (0, .integer 57344), (0, .integer 65533), (0, .integer 65536), (0, .integer 1114111), (1, .class_ 15), (1, u "com/example/twyg/twyg/xml/XmlCharacters"), (0, u "ASCII_NAME_STARTS"), (0, u "[Z"), (6, u "ASCII_NAME_PARTS"), (3, u "(I)Z"), (60, u "isCharacter")] 30

def k2m0 : Method := { name := "<init>", desc := "()V", sig := { parameters := [], returnType := none }, accessFlags := 2, code := none }
def k2c1 : Code := { maxStack := 2, maxLocals := 1, code := prog_262_method_2_code, exceptionTable := #[], attributes := #[] }
def k2m1 : Method := { name := "isCharacter", desc := "(I)Z", sig := { parameters := [.int], returnType := some .boolean }, accessFlags := 9, code := some k2c1 }
/-- com/example/twyg/twyg/xml/XmlCharacters -/
def k2 : Class := { plain "com/example/twyg/twyg/xml/XmlCharacters" (some 0) with
  accessFlags := 49
  interfaces := #[]
  cf := some (fileOf pool2 13 #[] #[{ accessFlags := 2, nameIndex := 5, descriptorIndex := 6, attributes := #[] }, { accessFlags := 9, nameIndex := 89, descriptorIndex := 28, attributes := #[] }] 49 2 #[] #[{ accessFlags := 26, nameIndex := 16, descriptorIndex := 17, attributes := #[] }, { accessFlags := 26, nameIndex := 24, descriptorIndex := 17, attributes := #[] }])
  fields := #[{ name := "ASCII_NAME_STARTS", type := (.array .boolean), accessFlags := 26, slot := 0, constantValue := 0 }, { name := "ASCII_NAME_PARTS", type := (.array .boolean), accessFlags := 26, slot := 1, constantValue := 0 }]
  methods := #[k2m0, k2m1]
  instanceTypes := #[]
  staticTypes := #[(.array .boolean), (.array .boolean)]
  resolved := Array.replicate 120 none
  statics := none }

def pool3 : Array CpInfo := pool [(1, u "java/lang/Cloneable"), (0, .class_ 1), (0, u "java/lang/Object"), (0, .class_ 3)] 3

/-- java/lang/Cloneable -/
def k3 : Class := { plain "java/lang/Cloneable" (some 0) with
  accessFlags := 1537
  interfaces := #[]
  cf := some (fileOf pool3 2 #[] #[] 1537 4 #[] #[])
  fields := #[]
  methods := #[]
  instanceTypes := #[]
  staticTypes := #[]
  resolved := Array.replicate 8 none
  statics := none }

def pool4 : Array CpInfo := pool [(1, u "java/io/Serializable"), (0, .class_ 1), (0, u "java/lang/Object"), (0, .class_ 3)] 3

/-- java/io/Serializable -/
def k4 : Class := { plain "java/io/Serializable" (some 0) with
  accessFlags := 1537
  interfaces := #[]
  cf := some (fileOf pool4 2 #[] #[] 1537 4 #[] #[])
  fields := #[]
  methods := #[]
  instanceTypes := #[]
  staticTypes := #[]
  resolved := Array.replicate 8 none
  statics := none }

/-- the primitive byte -/
def k5 : Class := { plain "byte" none with kind := .primitive 'B', accessFlags := 0x411 }
/-- [B -/
def k6 : Class := { plain "[B" (some 0) with kind := .array 5 .byte, interfaces := #[3, 4], accessFlags := 1041 }

/-- the primitive int -/
def k7 : Class := { plain "int" none with kind := .primitive 'I', accessFlags := 0x411 }
/-- [I -/
def k8 : Class := { plain "[I" (some 0) with kind := .array 7 .int, interfaces := #[3, 4], accessFlags := 1041 }

def heap : Heap := #[]
def classes : Array Class := #[k0, k1, k2, k3, k4, k5, k6, k7, k8]
def interned : List (Array UInt16 × Addr) := []
def slotsUsed : Nat := 0
def theMethod : MethodId := ⟨1, 3⟩
def args0 : Array Value := #[.int 5, .int 3, .int 1]
def aboutOver (below : List Frame) : State where
  vm := { classes := classes, interned := interned.toArray }
  heap := heap
  slotsUsed := slotsUsed
  threads := #[{ frames := .invoking theMethod args0 :: below }]
def below0 : List Frame := [.native { method := ⟨0, 0⟩, args := #[] }]
def about1 : State := aboutOver below0
def p0 : Program := .bare "" "" ""
def e0 : Env := launch0.env 0 0 0
theorem w_frames : about1.frames = Frame.invoking theMethod args0 :: below0 := rfl
set_option maxRecDepth 65536 in
theorem w_args : argsFit about1.vm theMethod args0 = true := by decide +kernel
set_option maxRecDepth 65536 in
theorem w_heap : heapFits about1 = true := by decide +kernel
set_option maxRecDepth 65536 in
theorem w_runnable : about1.curStatus? = some .runnable := by decide +kernel
set_option maxRecDepth 65536 in
theorem w_alone : about1.alone = true := by decide +kernel
set_option maxRecDepth 65536 in
theorem w_named : about1.methodNamed? x = some theMethod := by decide +kernel
set_option maxRecDepth 65536 in
theorem w_hears : about1.hears theMethod below0 = true := by decide +kernel
set_option maxRecDepth 65536 in
theorem w_ripe : about1.ripe theMethod args0 below0 = true := by decide +kernel
theorem w_running : about1.status = .running := rfl
set_option maxRecDepth 65536 in
theorem w_room : about1.hasRoom e0.platform room_1 = true :=
  launch0.hasRoom_least _ room_1 (by decide +kernel) (by decide +kernel) (by decide +kernel) (by decide +kernel) (by decide +kernel) (by decide +kernel)
theorem allAtoms_all (ts : List Jvm.Cond) (a : Array Jvm.Value) (st : Jvm.State) : (allAtoms ts).before a st = ts.all (fun c => c.before a st) := by
  induction ts with
  | nil => rfl
  | cons c t ih =>
    show (Jvm.Cond.and c (allAtoms t)).before a st = _
    rw [Jvm.Cond.before_and, ih, List.all_cons]
def words1 : List Jvm.Cond := Jvm.Cond.code x code maxLocals ret :: tables_1
/-- a 'code' word, met by the world's own term for the bytes: nothing is compared byte by byte -/
theorem code_word {y : MethodName} {bytes : ByteArray} {mx : Nat} {rt : Option FieldType} {a : Array Value} {s : State} {m : MethodId} {meth : Method} {c : Code} (h1 : s.methodNamed? y = some m) (h2 : s.vm.method? m = some meth) (h3 : meth.code = some c) (h4 : c.code = bytes)
    (h5 : (c.maxLocals == mx && c.exceptionTable.isEmpty && decide (c.maxStack ≤ mostOperands) && decide (meth.sig.returnType = rt) && !meth.locks && decide (parseMethodDescriptor y.desc = some meth.sig)) = true) : (Jvm.Cond.code y bytes mx rt).before a s = true := by
  simp only [Bool.and_eq_true, beq_iff_eq, Bool.not_eq_true', decide_eq_true_eq] at h5
  obtain ⟨⟨⟨⟨⟨g1, g2⟩, g3⟩, g4⟩, g5⟩, g6⟩ := h5
  simp [Cond.before, Cond.holds, Cond.value, h1, h2, h3, h4, g1, g2, g3, g4, g5, g6]
def isCode : Jvm.Cond → Bool
  | .code _ _ _ _ => true
  | _ => false
theorem all_split {L : List Jvm.Cond} {P : Jvm.Cond → Bool} (h1 : L.all (fun c => isCode c || P c) = true) (h2 : ∀ c ∈ L.filter isCode, P c = true) : L.all P = true := by
  refine List.all_eq_true.mpr fun c hc => ?_
  have h := List.all_eq_true.mp h1 c hc
  rcases Bool.eq_false_or_eq_true (isCode c) with hi | hi
  · exact h2 c (List.mem_filter.mpr ⟨hc, hi⟩)
  · simpa [hi] using h
set_option maxRecDepth 65536 in
theorem w_c0 : (Jvm.Cond.code x code maxLocals ret).before args0 about1 = true := code_word (m := ⟨1, 3⟩) (meth := k1m3) (c := k1c3) (by decide +kernel) rfl rfl rfl (by decide +kernel)
set_option maxRecDepth 65536 in
theorem w_c1 : (Jvm.Cond.code ({ cls := "com/example/twyg/twyg/xml/XmlCharactersIsCharacterPinLaw", name := "pick", desc := "(III)I" } : Jvm.MethodName) method_2_code (5 : Nat) (Option.some Jvm.ClassFile.FieldType.int)).before args0 about1 = true := code_word (m := ⟨1, 1⟩) (meth := k1m1) (c := k1c1) (by decide +kernel) rfl rfl rfl (by decide +kernel)
set_option maxRecDepth 65536 in
theorem w_c2 : (Jvm.Cond.code ({ cls := "com/example/twyg/twyg/xml/XmlCharacters", name := "isCharacter", desc := "(I)Z" } : Jvm.MethodName) prog_262_method_2_code (1 : Nat) (Option.some Jvm.ClassFile.FieldType.boolean)).before args0 about1 = true := code_word (m := ⟨2, 1⟩) (meth := k2m1) (c := k2c1) (by decide +kernel) rfl rfl rfl (by decide +kernel)
set_option maxRecDepth 65536 in
theorem w_c3 : (Jvm.Cond.code ({ cls := "com/example/twyg/twyg/xml/XmlCharactersIsCharacterPinLaw", name := "expected", desc := "(I)Z" } : Jvm.MethodName) method_3_code (1 : Nat) (Option.some Jvm.ClassFile.FieldType.boolean)).before args0 about1 = true := code_word (m := ⟨1, 2⟩) (meth := k1m2) (c := k1c2) (by decide +kernel) rfl rfl rfl (by decide +kernel)
def codes1 : List Jvm.Cond := [Jvm.Cond.code x code maxLocals ret, Jvm.Cond.code ({ cls := "com/example/twyg/twyg/xml/XmlCharactersIsCharacterPinLaw", name := "pick", desc := "(III)I" } : Jvm.MethodName) method_2_code (5 : Nat) (Option.some Jvm.ClassFile.FieldType.int), Jvm.Cond.code ({ cls := "com/example/twyg/twyg/xml/XmlCharacters", name := "isCharacter", desc := "(I)Z" } : Jvm.MethodName) prog_262_method_2_code (1 : Nat) (Option.some Jvm.ClassFile.FieldType.boolean), Jvm.Cond.code ({ cls := "com/example/twyg/twyg/xml/XmlCharactersIsCharacterPinLaw", name := "expected", desc := "(I)Z" } : Jvm.MethodName) method_3_code (1 : Nat) (Option.some Jvm.ClassFile.FieldType.boolean)]
set_option maxRecDepth 65536 in
theorem codes_eq : words1.filter isCode = codes1 := rfl
theorem w_codes : ∀ c ∈ words1.filter isCode, c.before args0 about1 = true := by
  rw [codes_eq]
  intro c hc
  simp only [codes1, List.mem_cons, List.not_mem_nil, or_false] at hc
  rcases hc with rfl | rfl | rfl | rfl
  · exact w_c0
  · exact w_c1
  · exact w_c2
  · exact w_c3
set_option maxRecDepth 65536 in
theorem w_t1 : (words1.take 24).all (fun c => isCode c || c.before args0 about1) = true := by decide +kernel
set_option maxRecDepth 65536 in
theorem w_t2 : (words1.drop 24).all (fun c => isCode c || c.before args0 about1) = true := by decide +kernel
theorem w_tables : (allAtoms (Jvm.Cond.code x code maxLocals ret :: tables_1)).before args0 about1 = true := by
  rw [allAtoms_all]
  show words1.all (fun c => c.before args0 about1) = true
  refine all_split ?_ w_codes
  rw [← List.take_append_drop 24 words1, List.all_append, w_t1, w_t2]
  rfl
set_option maxRecDepth 65536 in
theorem w_case : (Jvm.Cond.and given_1 narrow_1).before args0 about1 = true := by decide +kernel
theorem w_applies : (headSpec (Jvm.Cond.code x code maxLocals ret :: tables_1) room_1).applies x e0.platform about1 = true :=
  (Spec.applies_iff w_frames).mpr ⟨w_running, w_runnable, w_alone, w_named, w_hears, w_ripe, w_room, w_tables⟩
theorem atStart : AtStart classFile x code maxLocals ret World_1 tables_1 room_1 Calls_1 rest_1 Pre_1 launch0 p0 e0 about1 theMethod args0 below0 :=
  ⟨lists_1, trivial, launch0.admits_env _ _ _, launch0.least_env, fairChoices_fair.cas, fairChoices_fair.clock, w_frames, w_args, w_heap, w_applies, trivial, trivial, w_case⟩
end start1
theorem witness_1 : WitnessClaimed_1 := ⟨start1.p0, start1.e0, start1.about1, start1.theMethod, start1.args0, start1.below0, start1.atStart⟩
end Jvm.Pilot.@@N@@
