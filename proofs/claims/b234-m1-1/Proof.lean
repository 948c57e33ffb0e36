import JvmDerived
import JvmDerived.Pilot.@@N@@Statement
import JvmDerived.Pilot.@@N@@Code
set_option linter.unusedVariables false
set_option linter.unusedSimpArgs false
@@BLOCK:NumsL.lean.txt@@
namespace Jvm.RoadKit
open Sem ClassFile Op Lib Jvm.Stand Jvm.Free Jvm.LawKit
section New
variable {p : Program} {l : Launch} {e : Env} {R : Room} {s : State} {m : MethodId} {args : Array Value} {below : List Frame} {meth : Method} {c : Code} {T : State} {locs : List Loc} {cells slots : Nat}
theorem retI (X : Stand p l e R s m args below meth c T locs cells slots) (hx : p.tables.exec = Jvm.exec) {pc : Nat} {Ls : Array Slot} {z : Int32} {rest : List Value} (hret : meth.sig.returnType = some .int) (hd : decode c.code pc = .ok (.ireturn, 1)) {fs : List Frame}
    (hl : ∀ (f : JFrame) (acts : List Action), f.method = m → f.locked = none → f.entered = [] → (doReturn e (T.setTop f) acts (some (.int z))).1 = T.setFrames fs) : Steps p.tables e below (T.setTop (mkF m pc Ls (.int z :: rest))) (T.setFrames fs) := by
  have hm' : T.vm.method? m = some meth := X.method'
  have hn : narrow .int (.int z) = .int z := rfl
  show Steps p.tables e below (T.setTop { method := m, pc := pc, locals := Ls, stack := _ :: rest, locked := none }) _
  jvm_step X.here [X.here.top, hx, hd, hm', hret, hn]
  first | (intro acts; rw [hl _ acts rfl rfl rfl]) | rw [hl _ _ rfl rfl rfl]
  exact Steps.refl _
end New
end Jvm.RoadKit
namespace Jvm.Pilot.@@N@@
open Jvm Jvm.ClassFile Sem Op Lib Jvm.Free Jvm.Stand Jvm.LawKit Jvm.RoadKit Bundle Jvm.Pilot.@@N@@.Jvm.D
def own_VA (Z : State) (h : Heap) (a : Addr) (ty : FieldType) (vs : List Value) : Prop := ∃ cl : Cell, Arr Z h a cl ty ∧ cl.slots = vs.toArray
theorem own_VA_new {Z : State} {h : Heap} {a : Addr} {cA : ClassId} {ty : FieldType} {n : Int32} {k : Nat} (A : Arr Z h a (newA cA ty n) ty) (hk : n.toNatClampNeg = k) : own_VA Z h a ty (List.replicate k (defaultValue ty)) := ⟨_, A, by show Array.replicate n.toNatClampNeg (defaultValue ty) = _; rw [hk]; simp⟩
theorem own_VA_set {Z : State} {h h' : Heap} {a : Addr} {ty : FieldType} {vs : List Value} {k : Nat} {v : Value} (A : own_VA Z h a ty vs) (W : Wr h h' a k v) : own_VA Z h' a ty (vs.set k v) := by
  obtain ⟨cl, A, e⟩ := A
  exact ⟨_, A.same W, by show cl.slots.setIfInBounds k v = _; rw [e]; simp⟩
theorem own_VA_other {Z : State} {h h' : Heap} {a b : Addr} {ty : FieldType} {vs : List Value} {k : Nat} {v : Value} (A : own_VA Z h b ty vs) (W : Wr h h' a k v) (hne : b ≠ a) : own_VA Z h' b ty vs := by
  obtain ⟨cl, A, e⟩ := A
  exact ⟨_, A.other W hne, e⟩
theorem own_VA_ext {Z : State} {h h' : Heap} {a : Addr} {ty : FieldType} {vs : List Value} (A : own_VA Z h a ty vs) (E : Ext h h') : own_VA Z h' a ty vs := by
  obtain ⟨cl, A, e⟩ := A
  exact ⟨_, A.ext E, e⟩
theorem own_VA_keep {Z : State} {h h' : Heap} {a : Addr} {ty : FieldType} {vs : List Value} {ws : List Addr} (A : own_VA Z h a ty vs) (K : Keep h h' ws) (hn : a ∉ ws) : own_VA Z h' a ty vs := by
  obtain ⟨cl, A, e⟩ := A
  exact ⟨cl, ⟨K.2.1 _ _ A.1 hn, A.2⟩, e⟩
theorem own_VA_lt {Z : State} {h : Heap} {a : Addr} {ty : FieldType} {vs : List Value} (A : own_VA Z h a ty vs) : a < h.size := by
  obtain ⟨cl, A, e⟩ := A
  exact A.lt
section OwnArr
variable {p : Program} {l : Launch} {e : Env} {R : Room} {s : State} {m : MethodId} {args : Array Value} {below : List Frame} {meth : Method} {c : Code} {T : State} {locs : List Loc} {cells slots : Nat} {Z : State} {h : Heap}
theorem own_stI (X : Stand p l e R s m args below meth c T locs cells slots) (hx : p.tables.exec = Jvm.exec) (hZ : Z.Warmed39 s.vm) (eT : T.heap = h) {a : Addr} {vs : List Value} (A : own_VA Z h a .int vs) {j : Int32} {k n : Nat} {x : Int32} (hn : vs.length = n) (hj : ¬ (j < 0 ∨ n ≤ j.toNatClampNeg)) (hk : j.toNatClampNeg = k) {g : JFrame} (hg : g.method = m) {rest : List Value} (hs : g.stack = .int x :: .int j :: .ref a :: rest) (hd : decode c.code g.pc = .ok (.iastore, 1)) :
    ∃ T' h' ls, Stand p l e R s m args below meth c T' ls cells slots ∧ T'.heap = h' ∧ own_VA Z h' a .int (vs.set k (.int x)) ∧ Wr h h' a k (.int x) ∧ (∀ n0, Fr n0 locs → n0 ≤ a → Fr n0 ls) ∧ ∀ target, Steps p.tables e below (T'.setTop { g with pc := g.pc + 1, stack := rest }) target → Steps p.tables e below (T.setTop g) target := by
  subst hk
  obtain ⟨cl, A1, ec⟩ := A
  obtain ⟨T', h', X', e', W, st⟩ := stI X hx hZ eT A1 (j := j) (x := x) (by rw [ec]; simpa [hn] using hj) hg hs hd
  exact ⟨T', h', _, X', e', own_VA_set ⟨cl, A1, ec⟩ W, W, fun n0 N q => Fr.snoc X' N q, st⟩
theorem own_stJ (X : Stand p l e R s m args below meth c T locs cells slots) (hx : p.tables.exec = Jvm.exec) (hZ : Z.Warmed39 s.vm) (eT : T.heap = h) {a : Addr} {vs : List Value} (A : own_VA Z h a .long vs) {j : Int32} {k n : Nat} {x : Int64} (hn : vs.length = n) (hj : ¬ (j < 0 ∨ n ≤ j.toNatClampNeg)) (hk : j.toNatClampNeg = k) {g : JFrame} (hg : g.method = m) {rest : List Value} (hs : g.stack = .long x :: .int j :: .ref a :: rest) (hd : decode c.code g.pc = .ok (.lastore, 1)) :
    ∃ T' h' ls, Stand p l e R s m args below meth c T' ls cells slots ∧ T'.heap = h' ∧ own_VA Z h' a .long (vs.set k (.long x)) ∧ Wr h h' a k (.long x) ∧ (∀ n0, Fr n0 locs → n0 ≤ a → Fr n0 ls) ∧ ∀ target, Steps p.tables e below (T'.setTop { g with pc := g.pc + 1, stack := rest }) target → Steps p.tables e below (T.setTop g) target := by
  subst hk
  obtain ⟨cl, A1, ec⟩ := A
  obtain ⟨T', h', X', e', W, st⟩ := stJ X hx hZ eT A1 (j := j) (x := x) (by rw [ec]; simpa [hn] using hj) hg hs hd
  exact ⟨T', h', _, X', e', own_VA_set ⟨cl, A1, ec⟩ W, W, fun n0 N q => Fr.snoc X' N q, st⟩
theorem own_ldI (X : Stand p l e R s m args below meth c T locs cells slots) (hx : p.tables.exec = Jvm.exec) (hZ : Z.Warmed39 s.vm) (eT : T.heap = h) {a : Addr} {vs : List Value} (A : own_VA Z h a .int vs) {j : Int32} {n : Nat} {v : Value} (hn : vs.length = n) (hj : ¬ (j < 0 ∨ n ≤ j.toNatClampNeg)) (hv : vs[j.toNatClampNeg]? = some v) {g : JFrame} (hg : g.method = m) {rest : List Value} (hs : g.stack = .int j :: .ref a :: rest) (hd : decode c.code g.pc = .ok (.iaload, 1)) :
    ∀ target, Steps p.tables e below (T.setTop { g with pc := g.pc + 1, stack := v :: rest }) target → Steps p.tables e below (T.setTop g) target := by
  obtain ⟨cl, A1, ec⟩ := A
  intro target k
  exact X.iaload hx (by rw [eT]; exact A1.1) (State.isArrayOf_alike hZ.alike A1.2.1) A1.2.2 (by rw [ec]; simpa [hn] using hj) (by rw [ec]; simpa using hv) hg hs hd target k
theorem own_ldJ (X : Stand p l e R s m args below meth c T locs cells slots) (hx : p.tables.exec = Jvm.exec) (hZ : Z.Warmed39 s.vm) (eT : T.heap = h) {a : Addr} {vs : List Value} (A : own_VA Z h a .long vs) {j : Int32} {n : Nat} {v : Value} (hn : vs.length = n) (hj : ¬ (j < 0 ∨ n ≤ j.toNatClampNeg)) (hv : vs[j.toNatClampNeg]? = some v) {g : JFrame} (hg : g.method = m) {rest : List Value} (hs : g.stack = .int j :: .ref a :: rest) (hd : decode c.code g.pc = .ok (.laload, 1)) :
    ∀ target, Steps p.tables e below (T.setTop { g with pc := g.pc + 1, stack := v :: rest }) target → Steps p.tables e below (T.setTop g) target := by
  obtain ⟨cl, A1, ec⟩ := A
  intro target k
  exact X.laload hx (by rw [eT]; exact A1.1) (State.isArrayOf_alike hZ.alike A1.2.1) A1.2.2 (by rw [ec]; simpa [hn] using hj) (by rw [ec]; simpa using hv) hg hs hd target k
theorem own_len (X : Stand p l e R s m args below meth c T locs cells slots) (hx : p.tables.exec = Jvm.exec) (hZ : Z.Warmed39 s.vm) (eT : T.heap = h) {a : Addr} {vs : List Value} {ty : FieldType} (A : own_VA Z h a ty vs) {n : Nat} {k : Int32} (hn : vs.length = n) (hk : n.toInt32 = k) {g : JFrame} (hg : g.method = m) {rest : List Value} (hs : g.stack = .ref a :: rest) (hd : decode c.code g.pc = .ok (.arraylength, 1)) :
    ∀ target, Steps p.tables e below (T.setTop { g with pc := g.pc + 1, stack := .int k :: rest }) target → Steps p.tables e below (T.setTop g) target := by
  obtain ⟨cl, A1, ec⟩ := A
  intro target q
  have z : cl.slots.size.toInt32 = k := by rw [ec, ← hk, ← hn]; simp
  refine X.arraylength hx (by rw [eT]; exact A1.1) (State.isArrayOf_alike hZ.alike A1.2.1) hg hs hd target ?_
  rw [z]; exact q
end OwnArr
theorem own_some {us : List Int32} {vs : List Value} (e : vs = us.map Value.int) {n i : Nat} (hn : vs.length = n) (h : i < n) : ∃ w : Int32, vs[i]? = some (.int w) := by
  subst e hn
  have h' : i < us.length := by simpa using h
  exact ⟨us[i], by simp [h']⟩
theorem own_idx {j : Int32} {n : Nat} (h0 : 0 ≤ j.toInt) (h1 : j.toInt < n) : ¬ (j < 0 ∨ n ≤ j.toNatClampNeg) := by
  have z : (0 : Int32).toInt = 0 := by decide
  intro q
  rcases q with q | q
  · rw [Int32.lt_iff_toInt_lt] at q; omega
  · have : j.toNatClampNeg = j.toInt.toNat := rfl
    omega
theorem own_lt {j : Int32} {n : Nat} (h : ¬ (j < 0 ∨ n ≤ j.toNatClampNeg)) : j.toNatClampNeg < n := Nat.lt_of_not_le fun q => h (Or.inr q)
theorem own_rem (q n : Int32) (hq : 0 ≤ q.toInt) : (q - (q / n) * n).toInt = q.toInt % n.toInt := by
  rw [rem_toInt, Int.tmod_eq_emod_of_nonneg hq]
theorem own_nn (p : Int32) : 0 ≤ (p &&& (2147483647 : Int32)).toInt := by
  rw [Jvm.Kit.i32_mask p 2147483647 (k := 31) (by decide) (by decide)]; omega
theorem own_remin {q n : Int32} {k : Nat} (hq : 0 ≤ q.toInt) (hn : n.toInt = k) (hk : 0 < k) : ¬ ((q - (q / n) * n) < 0 ∨ k ≤ (q - (q / n) * n).toNatClampNeg) := by
  have h := own_rem q n hq
  rw [hn] at h
  have h1 := Int.emod_nonneg q.toInt (show (k : Int) ≠ 0 by omega)
  have h2 := Int.emod_lt_of_pos q.toInt (show (0 : Int) < k by omega)
  exact own_idx (by omega) (by omega)
def own_tv (i : Nat) : Int32 := if (65 ≤ i ∧ i ≤ 90) ∨ i = 95 ∨ (97 ≤ i ∧ i ≤ 122) then 1 else 0
def own_BA (Z : State) (h : Heap) (a : Addr) : Prop := ∃ cl : Cell, Arr Z h a cl .boolean ∧ cl.slots.size = 128 ∧ ∀ i, i < 128 → cl.slots[i]? = some (.int (own_tv i))
theorem own_BA_ext {Z : State} {h h' : Heap} {a : Addr} (A : own_BA Z h a) (E : Ext h h') : own_BA Z h' a := by
  obtain ⟨cl, A, e⟩ := A
  exact ⟨cl, A.ext E, e⟩
theorem own_BA_other {Z : State} {h h' : Heap} {a b : Addr} {k : Nat} {v : Value} (A : own_BA Z h b) (W : Wr h h' a k v) (hne : b ≠ a) : own_BA Z h' b := by
  obtain ⟨cl, A, e⟩ := A
  exact ⟨cl, A.other W hne, e⟩
theorem own_BA_lt {Z : State} {h : Heap} {a : Addr} (A : own_BA Z h a) : a < h.size := by
  obtain ⟨cl, A, e⟩ := A
  exact A.lt
section OwnBool
variable {p : Program} {l : Launch} {e : Env} {R : Room} {s : State} {m : MethodId} {args : Array Value} {below : List Frame} {meth : Method} {c : Code} {T : State} {locs : List Loc} {cells slots : Nat} {Z : State} {h : Heap}
theorem own_ldZ (X : Stand p l e R s m args below meth c T locs cells slots) (hx : p.tables.exec = Jvm.exec) (hZ : Z.Warmed39 s.vm) (eT : T.heap = h) {a : Addr} (A : own_BA Z h a) {j : Int32} (hj : ¬ (j < 0 ∨ 128 ≤ j.toNatClampNeg)) {g : JFrame} (hg : g.method = m) {rest : List Value} (hs : g.stack = .int j :: .ref a :: rest) (hd : decode c.code g.pc = .ok (.baload, 1)) :
    ∀ target, Steps p.tables e below (T.setTop { g with pc := g.pc + 1, stack := .int (own_tv j.toNatClampNeg) :: rest }) target → Steps p.tables e below (T.setTop g) target := by
  obtain ⟨cl, A1, ez, ec⟩ := A
  intro target k
  exact X.baloadBooleans hx (by rw [eT]; exact A1.1) (State.isArrayOf_alike hZ.alike A1.2.1) A1.2.2 (by rw [ez]; exact hj) (ec _ (own_lt hj)) hg hs hd target k
theorem own_lenZ (X : Stand p l e R s m args below meth c T locs cells slots) (hx : p.tables.exec = Jvm.exec) (hZ : Z.Warmed39 s.vm) (eT : T.heap = h) {a : Addr} (A : own_BA Z h a) {g : JFrame} (hg : g.method = m) {rest : List Value} (hs : g.stack = .ref a :: rest) (hd : decode c.code g.pc = .ok (.arraylength, 1)) :
    ∀ target, Steps p.tables e below (T.setTop { g with pc := g.pc + 1, stack := .int (128 : Int32) :: rest }) target → Steps p.tables e below (T.setTop g) target := by
  obtain ⟨cl, A1, ez, ec⟩ := A
  intro target q
  have z : cl.slots.size.toInt32 = (128 : Int32) := by rw [ez]; decide
  refine X.arraylength hx (by rw [eT]; exact A1.1) (State.isArrayOf_alike hZ.alike A1.2.1) hg hs hd target ?_
  rw [z]; exact q
end OwnBool
theorem own_nar (x : Int32) : nar .boolean x = x &&& 1 := rfl
theorem own_nar1 : nar .boolean (1 : Int32) = 1 := by decide
theorem own_nar0 : nar .boolean (0 : Int32) = 0 := by decide
theorem own_10 : ((1 : Int32) = 0) = False := by decide
theorem own_00 : ((0 : Int32) = 0) = True := by decide
theorem d1_26 : decode prog_262_method_3_code 26 = .ok (.iload_n 0, 1) := by decide +kernel
theorem d1_27 : decode prog_262_method_3_code 27 = .ok (.sipush 192, 3) := by decide +kernel
theorem d1_30 : decode prog_262_method_3_code 30 = .ok (.if_icmp .lt 10, 3) := by decide +kernel
theorem d1_33 : decode prog_262_method_3_code 33 = .ok (.iload_n 0, 1) := by decide +kernel
theorem d1_34 : decode prog_262_method_3_code 34 = .ok (.sipush 214, 3) := by decide +kernel
theorem d1_37 : decode prog_262_method_3_code 37 = .ok (.if_icmp .le 150, 3) := by decide +kernel
theorem d1_40 : decode prog_262_method_3_code 40 = .ok (.iload_n 0, 1) := by decide +kernel
theorem d1_41 : decode prog_262_method_3_code 41 = .ok (.sipush 216, 3) := by decide +kernel
theorem d1_44 : decode prog_262_method_3_code 44 = .ok (.if_icmp .lt 10, 3) := by decide +kernel
theorem d1_47 : decode prog_262_method_3_code 47 = .ok (.iload_n 0, 1) := by decide +kernel
theorem d1_48 : decode prog_262_method_3_code 48 = .ok (.sipush 246, 3) := by decide +kernel
theorem d1_51 : decode prog_262_method_3_code 51 = .ok (.if_icmp .le 136, 3) := by decide +kernel
theorem d1_54 : decode prog_262_method_3_code 54 = .ok (.iload_n 0, 1) := by decide +kernel
theorem d1_55 : decode prog_262_method_3_code 55 = .ok (.sipush 248, 3) := by decide +kernel
theorem d1_58 : decode prog_262_method_3_code 58 = .ok (.if_icmp .lt 10, 3) := by decide +kernel
theorem d1_61 : decode prog_262_method_3_code 61 = .ok (.iload_n 0, 1) := by decide +kernel
theorem d1_62 : decode prog_262_method_3_code 62 = .ok (.sipush 767, 3) := by decide +kernel
theorem d1_65 : decode prog_262_method_3_code 65 = .ok (.if_icmp .le 122, 3) := by decide +kernel
theorem d1_68 : decode prog_262_method_3_code 68 = .ok (.iload_n 0, 1) := by decide +kernel
theorem d1_69 : decode prog_262_method_3_code 69 = .ok (.sipush 880, 3) := by decide +kernel
theorem d1_72 : decode prog_262_method_3_code 72 = .ok (.if_icmp .lt 10, 3) := by decide +kernel
theorem d1_75 : decode prog_262_method_3_code 75 = .ok (.iload_n 0, 1) := by decide +kernel
theorem d1_76 : decode prog_262_method_3_code 76 = .ok (.sipush 893, 3) := by decide +kernel
theorem d1_79 : decode prog_262_method_3_code 79 = .ok (.if_icmp .le 108, 3) := by decide +kernel
theorem d1_82 : decode prog_262_method_3_code 82 = .ok (.iload_n 0, 1) := by decide +kernel
theorem d1_83 : decode prog_262_method_3_code 83 = .ok (.sipush 895, 3) := by decide +kernel
theorem d1_86 : decode prog_262_method_3_code 86 = .ok (.if_icmp .lt 10, 3) := by decide +kernel
theorem d1_89 : decode prog_262_method_3_code 89 = .ok (.iload_n 0, 1) := by decide +kernel
theorem d1_90 : decode prog_262_method_3_code 90 = .ok (.sipush 8191, 3) := by decide +kernel
theorem d1_93 : decode prog_262_method_3_code 93 = .ok (.if_icmp .le 94, 3) := by decide +kernel
theorem d1_96 : decode prog_262_method_3_code 96 = .ok (.iload_n 0, 1) := by decide +kernel
theorem d1_97 : decode prog_262_method_3_code 97 = .ok (.sipush 8204, 3) := by decide +kernel
theorem d1_100 : decode prog_262_method_3_code 100 = .ok (.if_icmp .lt 10, 3) := by decide +kernel
theorem d1_103 : decode prog_262_method_3_code 103 = .ok (.iload_n 0, 1) := by decide +kernel
theorem d1_104 : decode prog_262_method_3_code 104 = .ok (.sipush 8205, 3) := by decide +kernel
theorem d1_107 : decode prog_262_method_3_code 107 = .ok (.if_icmp .le 80, 3) := by decide +kernel
theorem d1_110 : decode prog_262_method_3_code 110 = .ok (.iload_n 0, 1) := by decide +kernel
theorem d1_111 : decode prog_262_method_3_code 111 = .ok (.sipush 8304, 3) := by decide +kernel
theorem d1_114 : decode prog_262_method_3_code 114 = .ok (.if_icmp .lt 10, 3) := by decide +kernel
theorem d1_117 : decode prog_262_method_3_code 117 = .ok (.iload_n 0, 1) := by decide +kernel
theorem d1_118 : decode prog_262_method_3_code 118 = .ok (.sipush 8591, 3) := by decide +kernel
theorem d1_121 : decode prog_262_method_3_code 121 = .ok (.if_icmp .le 66, 3) := by decide +kernel
theorem d1_124 : decode prog_262_method_3_code 124 = .ok (.iload_n 0, 1) := by decide +kernel
theorem d1_125 : decode prog_262_method_3_code 125 = .ok (.sipush 11264, 3) := by decide +kernel
theorem d1_128 : decode prog_262_method_3_code 128 = .ok (.if_icmp .lt 10, 3) := by decide +kernel
theorem d1_131 : decode prog_262_method_3_code 131 = .ok (.iload_n 0, 1) := by decide +kernel
theorem d1_132 : decode prog_262_method_3_code 132 = .ok (.sipush 12271, 3) := by decide +kernel
theorem d1_135 : decode prog_262_method_3_code 135 = .ok (.if_icmp .le 52, 3) := by decide +kernel
theorem d1_138 : decode prog_262_method_3_code 138 = .ok (.iload_n 0, 1) := by decide +kernel
theorem d1_139 : decode prog_262_method_3_code 139 = .ok (.sipush 12289, 3) := by decide +kernel
theorem d1_142 : decode prog_262_method_3_code 142 = .ok (.if_icmp .lt 9, 3) := by decide +kernel
theorem d1_145 : decode prog_262_method_3_code 145 = .ok (.iload_n 0, 1) := by decide +kernel
theorem d1_146 : decode prog_262_method_3_code 146 = .ok (.ldc 7, 2) := by decide +kernel
theorem d1_148 : decode prog_262_method_3_code 148 = .ok (.if_icmp .le 39, 3) := by decide +kernel
theorem d1_151 : decode prog_262_method_3_code 151 = .ok (.iload_n 0, 1) := by decide +kernel
theorem d1_152 : decode prog_262_method_3_code 152 = .ok (.ldc 18, 2) := by decide +kernel
theorem d1_154 : decode prog_262_method_3_code 154 = .ok (.if_icmp .lt 9, 3) := by decide +kernel
theorem d1_157 : decode prog_262_method_3_code 157 = .ok (.iload_n 0, 1) := by decide +kernel
theorem d1_158 : decode prog_262_method_3_code 158 = .ok (.ldc 19, 2) := by decide +kernel
theorem d1_160 : decode prog_262_method_3_code 160 = .ok (.if_icmp .le 27, 3) := by decide +kernel
theorem d1_163 : decode prog_262_method_3_code 163 = .ok (.iload_n 0, 1) := by decide +kernel
theorem d1_164 : decode prog_262_method_3_code 164 = .ok (.ldc 20, 2) := by decide +kernel
theorem d1_166 : decode prog_262_method_3_code 166 = .ok (.if_icmp .lt 9, 3) := by decide +kernel
theorem d1_169 : decode prog_262_method_3_code 169 = .ok (.iload_n 0, 1) := by decide +kernel
theorem d1_170 : decode prog_262_method_3_code 170 = .ok (.ldc 9, 2) := by decide +kernel
theorem d1_172 : decode prog_262_method_3_code 172 = .ok (.if_icmp .le 15, 3) := by decide +kernel
theorem d1_175 : decode prog_262_method_3_code 175 = .ok (.iload_n 0, 1) := by decide +kernel
theorem d1_176 : decode prog_262_method_3_code 176 = .ok (.ldc 10, 2) := by decide +kernel
theorem d1_178 : decode prog_262_method_3_code 178 = .ok (.if_icmp .lt 13, 3) := by decide +kernel
theorem d1_181 : decode prog_262_method_3_code 181 = .ok (.iload_n 0, 1) := by decide +kernel
theorem d1_182 : decode prog_262_method_3_code 182 = .ok (.ldc 21, 2) := by decide +kernel
theorem d1_184 : decode prog_262_method_3_code 184 = .ok (.if_icmp .gt 7, 3) := by decide +kernel
theorem d1_187 : decode prog_262_method_3_code 187 = .ok (.iconst 1, 1) := by decide +kernel
theorem d1_188 : decode prog_262_method_3_code 188 = .ok (.goto 4, 3) := by decide +kernel
theorem d1_191 : decode prog_262_method_3_code 191 = .ok (.iconst 0, 1) := by decide +kernel
theorem d1_192 : decode prog_262_method_3_code 192 = .ok (.ireturn, 1) := by decide +kernel
def f1_192 (x0 : Int32) (y0 : Int32) : Int32 := nar .boolean y0
theorem b1_192 {p : Program} {l : Launch} {e : Env} {R : Room} {s : State} {m : MethodId} {args : Array Value} {below : List Frame} {meth : Method} {c : Code} {T : State} {locs : List Loc} {cells slots : Nat} (X : Stand p l e R s m args below meth c T locs cells slots) (hx : p.tables.exec = Jvm.exec) (hby : c.code = prog_262_method_3_code) (hown : s.vm.findClass "com/example/twyg/twyg/xml/XmlCharacters" = some m.cls) (hret : meth.sig.returnType = some .boolean) {fs : List Frame} {z : Int32} (hl : ∀ (f : JFrame) (acts : List Action), f.method = m → f.locked = none → f.entered = [] → (doReturn e (T.setTop f) acts (some (.int z))).1 = T.setFrames fs) (k7 : (Jvm.Cond.constant "com/example/twyg/twyg/xml/XmlCharacters" 7 (55295 : Int32)).before args s = true) (k9 : (Jvm.Cond.constant "com/example/twyg/twyg/xml/XmlCharacters" 9 (65533 : Int32)).before args s = true) (k10 : (Jvm.Cond.constant "com/example/twyg/twyg/xml/XmlCharacters" 10 (65536 : Int32)).before args s = true) (k18 : (Jvm.Cond.constant "com/example/twyg/twyg/xml/XmlCharacters" 18 (63744 : Int32)).before args s = true) (k19 : (Jvm.Cond.constant "com/example/twyg/twyg/xml/XmlCharacters" 19 (64975 : Int32)).before args s = true) (k20 : (Jvm.Cond.constant "com/example/twyg/twyg/xml/XmlCharacters" 20 (65008 : Int32)).before args s = true) (k21 : (Jvm.Cond.constant "com/example/twyg/twyg/xml/XmlCharacters" 21 (983039 : Int32)).before args s = true) (x0 : Int32) (y0 : Int32) (hz : f1_192 x0 y0 = z) :
    Steps p.tables e below (T.setTop (mkF m 192 #[.val (.int x0)] [(.int y0)])) (T.setFrames fs) := by
  unfold f1_192 at hz
  subst hz
  exact retN X hx hret (by simp) (hb hby d1_192) hl
def f1_187 (x0 : Int32) : Int32 := f1_192 x0 (1 : Int32)
theorem b1_187 {p : Program} {l : Launch} {e : Env} {R : Room} {s : State} {m : MethodId} {args : Array Value} {below : List Frame} {meth : Method} {c : Code} {T : State} {locs : List Loc} {cells slots : Nat} (X : Stand p l e R s m args below meth c T locs cells slots) (hx : p.tables.exec = Jvm.exec) (hby : c.code = prog_262_method_3_code) (hown : s.vm.findClass "com/example/twyg/twyg/xml/XmlCharacters" = some m.cls) (hret : meth.sig.returnType = some .boolean) {fs : List Frame} {z : Int32} (hl : ∀ (f : JFrame) (acts : List Action), f.method = m → f.locked = none → f.entered = [] → (doReturn e (T.setTop f) acts (some (.int z))).1 = T.setFrames fs) (k7 : (Jvm.Cond.constant "com/example/twyg/twyg/xml/XmlCharacters" 7 (55295 : Int32)).before args s = true) (k9 : (Jvm.Cond.constant "com/example/twyg/twyg/xml/XmlCharacters" 9 (65533 : Int32)).before args s = true) (k10 : (Jvm.Cond.constant "com/example/twyg/twyg/xml/XmlCharacters" 10 (65536 : Int32)).before args s = true) (k18 : (Jvm.Cond.constant "com/example/twyg/twyg/xml/XmlCharacters" 18 (63744 : Int32)).before args s = true) (k19 : (Jvm.Cond.constant "com/example/twyg/twyg/xml/XmlCharacters" 19 (64975 : Int32)).before args s = true) (k20 : (Jvm.Cond.constant "com/example/twyg/twyg/xml/XmlCharacters" 20 (65008 : Int32)).before args s = true) (k21 : (Jvm.Cond.constant "com/example/twyg/twyg/xml/XmlCharacters" 21 (983039 : Int32)).before args s = true) (x0 : Int32) (hz : f1_187 x0 = z) :
    Steps p.tables e below (T.setTop (mkF m 187 #[.val (.int x0)] [])) (T.setFrames fs) := by
  unfold f1_187 at hz
  refine XS.iconst X.here hx rfl (hb hby d1_187) ?_
  show Steps p.tables e below (T.setTop (mkF m 188 #[.val (.int x0)] [(.int (1 : Int32))])) _
  refine XS.goto X.here hx rfl (pc0 := 188) (pc' := 192) rfl (hb hby d1_188) (by decide) (by decide) ?_
  show Steps p.tables e below (T.setTop (mkF m 192 #[.val (.int x0)] [(.int (1 : Int32))])) _
  exact b1_192 X hx hby hown hret hl k7 k9 k10 k18 k19 k20 k21 x0 (1 : Int32)  hz
def f1_191 (x0 : Int32) : Int32 := f1_192 x0 (0 : Int32)
theorem b1_191 {p : Program} {l : Launch} {e : Env} {R : Room} {s : State} {m : MethodId} {args : Array Value} {below : List Frame} {meth : Method} {c : Code} {T : State} {locs : List Loc} {cells slots : Nat} (X : Stand p l e R s m args below meth c T locs cells slots) (hx : p.tables.exec = Jvm.exec) (hby : c.code = prog_262_method_3_code) (hown : s.vm.findClass "com/example/twyg/twyg/xml/XmlCharacters" = some m.cls) (hret : meth.sig.returnType = some .boolean) {fs : List Frame} {z : Int32} (hl : ∀ (f : JFrame) (acts : List Action), f.method = m → f.locked = none → f.entered = [] → (doReturn e (T.setTop f) acts (some (.int z))).1 = T.setFrames fs) (k7 : (Jvm.Cond.constant "com/example/twyg/twyg/xml/XmlCharacters" 7 (55295 : Int32)).before args s = true) (k9 : (Jvm.Cond.constant "com/example/twyg/twyg/xml/XmlCharacters" 9 (65533 : Int32)).before args s = true) (k10 : (Jvm.Cond.constant "com/example/twyg/twyg/xml/XmlCharacters" 10 (65536 : Int32)).before args s = true) (k18 : (Jvm.Cond.constant "com/example/twyg/twyg/xml/XmlCharacters" 18 (63744 : Int32)).before args s = true) (k19 : (Jvm.Cond.constant "com/example/twyg/twyg/xml/XmlCharacters" 19 (64975 : Int32)).before args s = true) (k20 : (Jvm.Cond.constant "com/example/twyg/twyg/xml/XmlCharacters" 20 (65008 : Int32)).before args s = true) (k21 : (Jvm.Cond.constant "com/example/twyg/twyg/xml/XmlCharacters" 21 (983039 : Int32)).before args s = true) (x0 : Int32) (hz : f1_191 x0 = z) :
    Steps p.tables e below (T.setTop (mkF m 191 #[.val (.int x0)] [])) (T.setFrames fs) := by
  unfold f1_191 at hz
  refine XS.iconst X.here hx rfl (hb hby d1_191) ?_
  show Steps p.tables e below (T.setTop (mkF m 192 #[.val (.int x0)] [(.int (0 : Int32))])) _
  exact b1_192 X hx hby hown hret hl k7 k9 k10 k18 k19 k20 k21 x0 (0 : Int32)  hz
def f1_175 (x0 : Int32) : Int32 := if x0 < (65536 : Int32) then f1_191 x0 else (if (983039 : Int32) < x0 then f1_191 x0 else f1_187 x0)
theorem b1_175 {p : Program} {l : Launch} {e : Env} {R : Room} {s : State} {m : MethodId} {args : Array Value} {below : List Frame} {meth : Method} {c : Code} {T : State} {locs : List Loc} {cells slots : Nat} (X : Stand p l e R s m args below meth c T locs cells slots) (hx : p.tables.exec = Jvm.exec) (hby : c.code = prog_262_method_3_code) (hown : s.vm.findClass "com/example/twyg/twyg/xml/XmlCharacters" = some m.cls) (hret : meth.sig.returnType = some .boolean) {fs : List Frame} {z : Int32} (hl : ∀ (f : JFrame) (acts : List Action), f.method = m → f.locked = none → f.entered = [] → (doReturn e (T.setTop f) acts (some (.int z))).1 = T.setFrames fs) (k7 : (Jvm.Cond.constant "com/example/twyg/twyg/xml/XmlCharacters" 7 (55295 : Int32)).before args s = true) (k9 : (Jvm.Cond.constant "com/example/twyg/twyg/xml/XmlCharacters" 9 (65533 : Int32)).before args s = true) (k10 : (Jvm.Cond.constant "com/example/twyg/twyg/xml/XmlCharacters" 10 (65536 : Int32)).before args s = true) (k18 : (Jvm.Cond.constant "com/example/twyg/twyg/xml/XmlCharacters" 18 (63744 : Int32)).before args s = true) (k19 : (Jvm.Cond.constant "com/example/twyg/twyg/xml/XmlCharacters" 19 (64975 : Int32)).before args s = true) (k20 : (Jvm.Cond.constant "com/example/twyg/twyg/xml/XmlCharacters" 20 (65008 : Int32)).before args s = true) (k21 : (Jvm.Cond.constant "com/example/twyg/twyg/xml/XmlCharacters" 21 (983039 : Int32)).before args s = true) (x0 : Int32) (hz : f1_175 x0 = z) :
    Steps p.tables e below (T.setTop (mkF m 175 #[.val (.int x0)] [])) (T.setFrames fs) := by
  unfold f1_175 at hz
  refine XS.iloadN X.here hx rfl (hb hby d1_175) rfl ?_
  show Steps p.tables e below (T.setTop (mkF m 176 #[.val (.int x0)] [(.int x0)])) _
  refine X.ldcInt hx hown k10 (g := (mkF m 176 #[.val (.int x0)] [(.int x0)])) rfl (hb hby d1_176) _ ?_
  show Steps p.tables e below (T.setTop (mkF m 178 #[.val (.int x0)] [(.int (65536 : Int32)), (.int x0)])) _
  by_cases h178 : x0 < (65536 : Int32)
  · rw [if_pos h178] at hz
    refine XS.icmpYes X.here hx rfl (pc0 := 178) (pc' := 191) rfl (hb hby d1_178) rfl (tlt h178).1 (by decide) (by decide) ?_
    show Steps p.tables e below (T.setTop (mkF m 191 #[.val (.int x0)] [])) _
    exact b1_191 X hx hby hown hret hl k7 k9 k10 k18 k19 k20 k21 x0  hz
  · rw [if_neg h178] at hz
    refine XS.icmpNo X.here hx rfl (hb hby d1_178) rfl (flt h178).1 ?_
    show Steps p.tables e below (T.setTop (mkF m 181 #[.val (.int x0)] [])) _
    refine XS.iloadN X.here hx rfl (hb hby d1_181) rfl ?_
    show Steps p.tables e below (T.setTop (mkF m 182 #[.val (.int x0)] [(.int x0)])) _
    refine X.ldcInt hx hown k21 (g := (mkF m 182 #[.val (.int x0)] [(.int x0)])) rfl (hb hby d1_182) _ ?_
    show Steps p.tables e below (T.setTop (mkF m 184 #[.val (.int x0)] [(.int (983039 : Int32)), (.int x0)])) _
    by_cases h184 : (983039 : Int32) < x0
    · rw [if_pos h184] at hz
      refine XS.icmpYes X.here hx rfl (pc0 := 184) (pc' := 191) rfl (hb hby d1_184) rfl (tlt h184).2.2.1 (by decide) (by decide) ?_
      show Steps p.tables e below (T.setTop (mkF m 191 #[.val (.int x0)] [])) _
      exact b1_191 X hx hby hown hret hl k7 k9 k10 k18 k19 k20 k21 x0  hz
    · rw [if_neg h184] at hz
      refine XS.icmpNo X.here hx rfl (hb hby d1_184) rfl (flt h184).2.2.1 ?_
      show Steps p.tables e below (T.setTop (mkF m 187 #[.val (.int x0)] [])) _
      exact b1_187 X hx hby hown hret hl k7 k9 k10 k18 k19 k20 k21 x0  hz
def f1_163 (x0 : Int32) : Int32 := if x0 < (65008 : Int32) then f1_175 x0 else (if (65533 : Int32) < x0 then f1_175 x0 else f1_187 x0)
theorem b1_163 {p : Program} {l : Launch} {e : Env} {R : Room} {s : State} {m : MethodId} {args : Array Value} {below : List Frame} {meth : Method} {c : Code} {T : State} {locs : List Loc} {cells slots : Nat} (X : Stand p l e R s m args below meth c T locs cells slots) (hx : p.tables.exec = Jvm.exec) (hby : c.code = prog_262_method_3_code) (hown : s.vm.findClass "com/example/twyg/twyg/xml/XmlCharacters" = some m.cls) (hret : meth.sig.returnType = some .boolean) {fs : List Frame} {z : Int32} (hl : ∀ (f : JFrame) (acts : List Action), f.method = m → f.locked = none → f.entered = [] → (doReturn e (T.setTop f) acts (some (.int z))).1 = T.setFrames fs) (k7 : (Jvm.Cond.constant "com/example/twyg/twyg/xml/XmlCharacters" 7 (55295 : Int32)).before args s = true) (k9 : (Jvm.Cond.constant "com/example/twyg/twyg/xml/XmlCharacters" 9 (65533 : Int32)).before args s = true) (k10 : (Jvm.Cond.constant "com/example/twyg/twyg/xml/XmlCharacters" 10 (65536 : Int32)).before args s = true) (k18 : (Jvm.Cond.constant "com/example/twyg/twyg/xml/XmlCharacters" 18 (63744 : Int32)).before args s = true) (k19 : (Jvm.Cond.constant "com/example/twyg/twyg/xml/XmlCharacters" 19 (64975 : Int32)).before args s = true) (k20 : (Jvm.Cond.constant "com/example/twyg/twyg/xml/XmlCharacters" 20 (65008 : Int32)).before args s = true) (k21 : (Jvm.Cond.constant "com/example/twyg/twyg/xml/XmlCharacters" 21 (983039 : Int32)).before args s = true) (x0 : Int32) (hz : f1_163 x0 = z) :
    Steps p.tables e below (T.setTop (mkF m 163 #[.val (.int x0)] [])) (T.setFrames fs) := by
  unfold f1_163 at hz
  refine XS.iloadN X.here hx rfl (hb hby d1_163) rfl ?_
  show Steps p.tables e below (T.setTop (mkF m 164 #[.val (.int x0)] [(.int x0)])) _
  refine X.ldcInt hx hown k20 (g := (mkF m 164 #[.val (.int x0)] [(.int x0)])) rfl (hb hby d1_164) _ ?_
  show Steps p.tables e below (T.setTop (mkF m 166 #[.val (.int x0)] [(.int (65008 : Int32)), (.int x0)])) _
  by_cases h166 : x0 < (65008 : Int32)
  · rw [if_pos h166] at hz
    refine XS.icmpYes X.here hx rfl (pc0 := 166) (pc' := 175) rfl (hb hby d1_166) rfl (tlt h166).1 (by decide) (by decide) ?_
    show Steps p.tables e below (T.setTop (mkF m 175 #[.val (.int x0)] [])) _
    exact b1_175 X hx hby hown hret hl k7 k9 k10 k18 k19 k20 k21 x0  hz
  · rw [if_neg h166] at hz
    refine XS.icmpNo X.here hx rfl (hb hby d1_166) rfl (flt h166).1 ?_
    show Steps p.tables e below (T.setTop (mkF m 169 #[.val (.int x0)] [])) _
    refine XS.iloadN X.here hx rfl (hb hby d1_169) rfl ?_
    show Steps p.tables e below (T.setTop (mkF m 170 #[.val (.int x0)] [(.int x0)])) _
    refine X.ldcInt hx hown k9 (g := (mkF m 170 #[.val (.int x0)] [(.int x0)])) rfl (hb hby d1_170) _ ?_
    show Steps p.tables e below (T.setTop (mkF m 172 #[.val (.int x0)] [(.int (65533 : Int32)), (.int x0)])) _
    by_cases h172 : (65533 : Int32) < x0
    · rw [if_pos h172] at hz
      refine XS.icmpNo X.here hx rfl (hb hby d1_172) rfl (tlt h172).2.2.2 ?_
      show Steps p.tables e below (T.setTop (mkF m 175 #[.val (.int x0)] [])) _
      exact b1_175 X hx hby hown hret hl k7 k9 k10 k18 k19 k20 k21 x0  hz
    · rw [if_neg h172] at hz
      refine XS.icmpYes X.here hx rfl (pc0 := 172) (pc' := 187) rfl (hb hby d1_172) rfl (flt h172).2.2.2 (by decide) (by decide) ?_
      show Steps p.tables e below (T.setTop (mkF m 187 #[.val (.int x0)] [])) _
      exact b1_187 X hx hby hown hret hl k7 k9 k10 k18 k19 k20 k21 x0  hz
def f1_151 (x0 : Int32) : Int32 := if x0 < (63744 : Int32) then f1_163 x0 else (if (64975 : Int32) < x0 then f1_163 x0 else f1_187 x0)
theorem b1_151 {p : Program} {l : Launch} {e : Env} {R : Room} {s : State} {m : MethodId} {args : Array Value} {below : List Frame} {meth : Method} {c : Code} {T : State} {locs : List Loc} {cells slots : Nat} (X : Stand p l e R s m args below meth c T locs cells slots) (hx : p.tables.exec = Jvm.exec) (hby : c.code = prog_262_method_3_code) (hown : s.vm.findClass "com/example/twyg/twyg/xml/XmlCharacters" = some m.cls) (hret : meth.sig.returnType = some .boolean) {fs : List Frame} {z : Int32} (hl : ∀ (f : JFrame) (acts : List Action), f.method = m → f.locked = none → f.entered = [] → (doReturn e (T.setTop f) acts (some (.int z))).1 = T.setFrames fs) (k7 : (Jvm.Cond.constant "com/example/twyg/twyg/xml/XmlCharacters" 7 (55295 : Int32)).before args s = true) (k9 : (Jvm.Cond.constant "com/example/twyg/twyg/xml/XmlCharacters" 9 (65533 : Int32)).before args s = true) (k10 : (Jvm.Cond.constant "com/example/twyg/twyg/xml/XmlCharacters" 10 (65536 : Int32)).before args s = true) (k18 : (Jvm.Cond.constant "com/example/twyg/twyg/xml/XmlCharacters" 18 (63744 : Int32)).before args s = true) (k19 : (Jvm.Cond.constant "com/example/twyg/twyg/xml/XmlCharacters" 19 (64975 : Int32)).before args s = true) (k20 : (Jvm.Cond.constant "com/example/twyg/twyg/xml/XmlCharacters" 20 (65008 : Int32)).before args s = true) (k21 : (Jvm.Cond.constant "com/example/twyg/twyg/xml/XmlCharacters" 21 (983039 : Int32)).before args s = true) (x0 : Int32) (hz : f1_151 x0 = z) :
    Steps p.tables e below (T.setTop (mkF m 151 #[.val (.int x0)] [])) (T.setFrames fs) := by
  unfold f1_151 at hz
  refine XS.iloadN X.here hx rfl (hb hby d1_151) rfl ?_
  show Steps p.tables e below (T.setTop (mkF m 152 #[.val (.int x0)] [(.int x0)])) _
  refine X.ldcInt hx hown k18 (g := (mkF m 152 #[.val (.int x0)] [(.int x0)])) rfl (hb hby d1_152) _ ?_
  show Steps p.tables e below (T.setTop (mkF m 154 #[.val (.int x0)] [(.int (63744 : Int32)), (.int x0)])) _
  by_cases h154 : x0 < (63744 : Int32)
  · rw [if_pos h154] at hz
    refine XS.icmpYes X.here hx rfl (pc0 := 154) (pc' := 163) rfl (hb hby d1_154) rfl (tlt h154).1 (by decide) (by decide) ?_
    show Steps p.tables e below (T.setTop (mkF m 163 #[.val (.int x0)] [])) _
    exact b1_163 X hx hby hown hret hl k7 k9 k10 k18 k19 k20 k21 x0  hz
  · rw [if_neg h154] at hz
    refine XS.icmpNo X.here hx rfl (hb hby d1_154) rfl (flt h154).1 ?_
    show Steps p.tables e below (T.setTop (mkF m 157 #[.val (.int x0)] [])) _
    refine XS.iloadN X.here hx rfl (hb hby d1_157) rfl ?_
    show Steps p.tables e below (T.setTop (mkF m 158 #[.val (.int x0)] [(.int x0)])) _
    refine X.ldcInt hx hown k19 (g := (mkF m 158 #[.val (.int x0)] [(.int x0)])) rfl (hb hby d1_158) _ ?_
    show Steps p.tables e below (T.setTop (mkF m 160 #[.val (.int x0)] [(.int (64975 : Int32)), (.int x0)])) _
    by_cases h160 : (64975 : Int32) < x0
    · rw [if_pos h160] at hz
      refine XS.icmpNo X.here hx rfl (hb hby d1_160) rfl (tlt h160).2.2.2 ?_
      show Steps p.tables e below (T.setTop (mkF m 163 #[.val (.int x0)] [])) _
      exact b1_163 X hx hby hown hret hl k7 k9 k10 k18 k19 k20 k21 x0  hz
    · rw [if_neg h160] at hz
      refine XS.icmpYes X.here hx rfl (pc0 := 160) (pc' := 187) rfl (hb hby d1_160) rfl (flt h160).2.2.2 (by decide) (by decide) ?_
      show Steps p.tables e below (T.setTop (mkF m 187 #[.val (.int x0)] [])) _
      exact b1_187 X hx hby hown hret hl k7 k9 k10 k18 k19 k20 k21 x0  hz
def f1_138 (x0 : Int32) : Int32 := if x0 < (12289 : Int32) then f1_151 x0 else (if (55295 : Int32) < x0 then f1_151 x0 else f1_187 x0)
theorem b1_138 {p : Program} {l : Launch} {e : Env} {R : Room} {s : State} {m : MethodId} {args : Array Value} {below : List Frame} {meth : Method} {c : Code} {T : State} {locs : List Loc} {cells slots : Nat} (X : Stand p l e R s m args below meth c T locs cells slots) (hx : p.tables.exec = Jvm.exec) (hby : c.code = prog_262_method_3_code) (hown : s.vm.findClass "com/example/twyg/twyg/xml/XmlCharacters" = some m.cls) (hret : meth.sig.returnType = some .boolean) {fs : List Frame} {z : Int32} (hl : ∀ (f : JFrame) (acts : List Action), f.method = m → f.locked = none → f.entered = [] → (doReturn e (T.setTop f) acts (some (.int z))).1 = T.setFrames fs) (k7 : (Jvm.Cond.constant "com/example/twyg/twyg/xml/XmlCharacters" 7 (55295 : Int32)).before args s = true) (k9 : (Jvm.Cond.constant "com/example/twyg/twyg/xml/XmlCharacters" 9 (65533 : Int32)).before args s = true) (k10 : (Jvm.Cond.constant "com/example/twyg/twyg/xml/XmlCharacters" 10 (65536 : Int32)).before args s = true) (k18 : (Jvm.Cond.constant "com/example/twyg/twyg/xml/XmlCharacters" 18 (63744 : Int32)).before args s = true) (k19 : (Jvm.Cond.constant "com/example/twyg/twyg/xml/XmlCharacters" 19 (64975 : Int32)).before args s = true) (k20 : (Jvm.Cond.constant "com/example/twyg/twyg/xml/XmlCharacters" 20 (65008 : Int32)).before args s = true) (k21 : (Jvm.Cond.constant "com/example/twyg/twyg/xml/XmlCharacters" 21 (983039 : Int32)).before args s = true) (x0 : Int32) (hz : f1_138 x0 = z) :
    Steps p.tables e below (T.setTop (mkF m 138 #[.val (.int x0)] [])) (T.setFrames fs) := by
  unfold f1_138 at hz
  refine XS.iloadN X.here hx rfl (hb hby d1_138) rfl ?_
  show Steps p.tables e below (T.setTop (mkF m 139 #[.val (.int x0)] [(.int x0)])) _
  refine XS.sipush X.here hx rfl (hb hby d1_139) ?_
  show Steps p.tables e below (T.setTop (mkF m 142 #[.val (.int x0)] [(.int (12289 : Int32)), (.int x0)])) _
  by_cases h142 : x0 < (12289 : Int32)
  · rw [if_pos h142] at hz
    refine XS.icmpYes X.here hx rfl (pc0 := 142) (pc' := 151) rfl (hb hby d1_142) rfl (tlt h142).1 (by decide) (by decide) ?_
    show Steps p.tables e below (T.setTop (mkF m 151 #[.val (.int x0)] [])) _
    exact b1_151 X hx hby hown hret hl k7 k9 k10 k18 k19 k20 k21 x0  hz
  · rw [if_neg h142] at hz
    refine XS.icmpNo X.here hx rfl (hb hby d1_142) rfl (flt h142).1 ?_
    show Steps p.tables e below (T.setTop (mkF m 145 #[.val (.int x0)] [])) _
    refine XS.iloadN X.here hx rfl (hb hby d1_145) rfl ?_
    show Steps p.tables e below (T.setTop (mkF m 146 #[.val (.int x0)] [(.int x0)])) _
    refine X.ldcInt hx hown k7 (g := (mkF m 146 #[.val (.int x0)] [(.int x0)])) rfl (hb hby d1_146) _ ?_
    show Steps p.tables e below (T.setTop (mkF m 148 #[.val (.int x0)] [(.int (55295 : Int32)), (.int x0)])) _
    by_cases h148 : (55295 : Int32) < x0
    · rw [if_pos h148] at hz
      refine XS.icmpNo X.here hx rfl (hb hby d1_148) rfl (tlt h148).2.2.2 ?_
      show Steps p.tables e below (T.setTop (mkF m 151 #[.val (.int x0)] [])) _
      exact b1_151 X hx hby hown hret hl k7 k9 k10 k18 k19 k20 k21 x0  hz
    · rw [if_neg h148] at hz
      refine XS.icmpYes X.here hx rfl (pc0 := 148) (pc' := 187) rfl (hb hby d1_148) rfl (flt h148).2.2.2 (by decide) (by decide) ?_
      show Steps p.tables e below (T.setTop (mkF m 187 #[.val (.int x0)] [])) _
      exact b1_187 X hx hby hown hret hl k7 k9 k10 k18 k19 k20 k21 x0  hz
def f1_124 (x0 : Int32) : Int32 := if x0 < (11264 : Int32) then f1_138 x0 else (if (12271 : Int32) < x0 then f1_138 x0 else f1_187 x0)
theorem b1_124 {p : Program} {l : Launch} {e : Env} {R : Room} {s : State} {m : MethodId} {args : Array Value} {below : List Frame} {meth : Method} {c : Code} {T : State} {locs : List Loc} {cells slots : Nat} (X : Stand p l e R s m args below meth c T locs cells slots) (hx : p.tables.exec = Jvm.exec) (hby : c.code = prog_262_method_3_code) (hown : s.vm.findClass "com/example/twyg/twyg/xml/XmlCharacters" = some m.cls) (hret : meth.sig.returnType = some .boolean) {fs : List Frame} {z : Int32} (hl : ∀ (f : JFrame) (acts : List Action), f.method = m → f.locked = none → f.entered = [] → (doReturn e (T.setTop f) acts (some (.int z))).1 = T.setFrames fs) (k7 : (Jvm.Cond.constant "com/example/twyg/twyg/xml/XmlCharacters" 7 (55295 : Int32)).before args s = true) (k9 : (Jvm.Cond.constant "com/example/twyg/twyg/xml/XmlCharacters" 9 (65533 : Int32)).before args s = true) (k10 : (Jvm.Cond.constant "com/example/twyg/twyg/xml/XmlCharacters" 10 (65536 : Int32)).before args s = true) (k18 : (Jvm.Cond.constant "com/example/twyg/twyg/xml/XmlCharacters" 18 (63744 : Int32)).before args s = true) (k19 : (Jvm.Cond.constant "com/example/twyg/twyg/xml/XmlCharacters" 19 (64975 : Int32)).before args s = true) (k20 : (Jvm.Cond.constant "com/example/twyg/twyg/xml/XmlCharacters" 20 (65008 : Int32)).before args s = true) (k21 : (Jvm.Cond.constant "com/example/twyg/twyg/xml/XmlCharacters" 21 (983039 : Int32)).before args s = true) (x0 : Int32) (hz : f1_124 x0 = z) :
    Steps p.tables e below (T.setTop (mkF m 124 #[.val (.int x0)] [])) (T.setFrames fs) := by
  unfold f1_124 at hz
  refine XS.iloadN X.here hx rfl (hb hby d1_124) rfl ?_
  show Steps p.tables e below (T.setTop (mkF m 125 #[.val (.int x0)] [(.int x0)])) _
  refine XS.sipush X.here hx rfl (hb hby d1_125) ?_
  show Steps p.tables e below (T.setTop (mkF m 128 #[.val (.int x0)] [(.int (11264 : Int32)), (.int x0)])) _
  by_cases h128 : x0 < (11264 : Int32)
  · rw [if_pos h128] at hz
    refine XS.icmpYes X.here hx rfl (pc0 := 128) (pc' := 138) rfl (hb hby d1_128) rfl (tlt h128).1 (by decide) (by decide) ?_
    show Steps p.tables e below (T.setTop (mkF m 138 #[.val (.int x0)] [])) _
    exact b1_138 X hx hby hown hret hl k7 k9 k10 k18 k19 k20 k21 x0  hz
  · rw [if_neg h128] at hz
    refine XS.icmpNo X.here hx rfl (hb hby d1_128) rfl (flt h128).1 ?_
    show Steps p.tables e below (T.setTop (mkF m 131 #[.val (.int x0)] [])) _
    refine XS.iloadN X.here hx rfl (hb hby d1_131) rfl ?_
    show Steps p.tables e below (T.setTop (mkF m 132 #[.val (.int x0)] [(.int x0)])) _
    refine XS.sipush X.here hx rfl (hb hby d1_132) ?_
    show Steps p.tables e below (T.setTop (mkF m 135 #[.val (.int x0)] [(.int (12271 : Int32)), (.int x0)])) _
    by_cases h135 : (12271 : Int32) < x0
    · rw [if_pos h135] at hz
      refine XS.icmpNo X.here hx rfl (hb hby d1_135) rfl (tlt h135).2.2.2 ?_
      show Steps p.tables e below (T.setTop (mkF m 138 #[.val (.int x0)] [])) _
      exact b1_138 X hx hby hown hret hl k7 k9 k10 k18 k19 k20 k21 x0  hz
    · rw [if_neg h135] at hz
      refine XS.icmpYes X.here hx rfl (pc0 := 135) (pc' := 187) rfl (hb hby d1_135) rfl (flt h135).2.2.2 (by decide) (by decide) ?_
      show Steps p.tables e below (T.setTop (mkF m 187 #[.val (.int x0)] [])) _
      exact b1_187 X hx hby hown hret hl k7 k9 k10 k18 k19 k20 k21 x0  hz
def f1_110 (x0 : Int32) : Int32 := if x0 < (8304 : Int32) then f1_124 x0 else (if (8591 : Int32) < x0 then f1_124 x0 else f1_187 x0)
theorem b1_110 {p : Program} {l : Launch} {e : Env} {R : Room} {s : State} {m : MethodId} {args : Array Value} {below : List Frame} {meth : Method} {c : Code} {T : State} {locs : List Loc} {cells slots : Nat} (X : Stand p l e R s m args below meth c T locs cells slots) (hx : p.tables.exec = Jvm.exec) (hby : c.code = prog_262_method_3_code) (hown : s.vm.findClass "com/example/twyg/twyg/xml/XmlCharacters" = some m.cls) (hret : meth.sig.returnType = some .boolean) {fs : List Frame} {z : Int32} (hl : ∀ (f : JFrame) (acts : List Action), f.method = m → f.locked = none → f.entered = [] → (doReturn e (T.setTop f) acts (some (.int z))).1 = T.setFrames fs) (k7 : (Jvm.Cond.constant "com/example/twyg/twyg/xml/XmlCharacters" 7 (55295 : Int32)).before args s = true) (k9 : (Jvm.Cond.constant "com/example/twyg/twyg/xml/XmlCharacters" 9 (65533 : Int32)).before args s = true) (k10 : (Jvm.Cond.constant "com/example/twyg/twyg/xml/XmlCharacters" 10 (65536 : Int32)).before args s = true) (k18 : (Jvm.Cond.constant "com/example/twyg/twyg/xml/XmlCharacters" 18 (63744 : Int32)).before args s = true) (k19 : (Jvm.Cond.constant "com/example/twyg/twyg/xml/XmlCharacters" 19 (64975 : Int32)).before args s = true) (k20 : (Jvm.Cond.constant "com/example/twyg/twyg/xml/XmlCharacters" 20 (65008 : Int32)).before args s = true) (k21 : (Jvm.Cond.constant "com/example/twyg/twyg/xml/XmlCharacters" 21 (983039 : Int32)).before args s = true) (x0 : Int32) (hz : f1_110 x0 = z) :
    Steps p.tables e below (T.setTop (mkF m 110 #[.val (.int x0)] [])) (T.setFrames fs) := by
  unfold f1_110 at hz
  refine XS.iloadN X.here hx rfl (hb hby d1_110) rfl ?_
  show Steps p.tables e below (T.setTop (mkF m 111 #[.val (.int x0)] [(.int x0)])) _
  refine XS.sipush X.here hx rfl (hb hby d1_111) ?_
  show Steps p.tables e below (T.setTop (mkF m 114 #[.val (.int x0)] [(.int (8304 : Int32)), (.int x0)])) _
  by_cases h114 : x0 < (8304 : Int32)
  · rw [if_pos h114] at hz
    refine XS.icmpYes X.here hx rfl (pc0 := 114) (pc' := 124) rfl (hb hby d1_114) rfl (tlt h114).1 (by decide) (by decide) ?_
    show Steps p.tables e below (T.setTop (mkF m 124 #[.val (.int x0)] [])) _
    exact b1_124 X hx hby hown hret hl k7 k9 k10 k18 k19 k20 k21 x0  hz
  · rw [if_neg h114] at hz
    refine XS.icmpNo X.here hx rfl (hb hby d1_114) rfl (flt h114).1 ?_
    show Steps p.tables e below (T.setTop (mkF m 117 #[.val (.int x0)] [])) _
    refine XS.iloadN X.here hx rfl (hb hby d1_117) rfl ?_
    show Steps p.tables e below (T.setTop (mkF m 118 #[.val (.int x0)] [(.int x0)])) _
    refine XS.sipush X.here hx rfl (hb hby d1_118) ?_
    show Steps p.tables e below (T.setTop (mkF m 121 #[.val (.int x0)] [(.int (8591 : Int32)), (.int x0)])) _
    by_cases h121 : (8591 : Int32) < x0
    · rw [if_pos h121] at hz
      refine XS.icmpNo X.here hx rfl (hb hby d1_121) rfl (tlt h121).2.2.2 ?_
      show Steps p.tables e below (T.setTop (mkF m 124 #[.val (.int x0)] [])) _
      exact b1_124 X hx hby hown hret hl k7 k9 k10 k18 k19 k20 k21 x0  hz
    · rw [if_neg h121] at hz
      refine XS.icmpYes X.here hx rfl (pc0 := 121) (pc' := 187) rfl (hb hby d1_121) rfl (flt h121).2.2.2 (by decide) (by decide) ?_
      show Steps p.tables e below (T.setTop (mkF m 187 #[.val (.int x0)] [])) _
      exact b1_187 X hx hby hown hret hl k7 k9 k10 k18 k19 k20 k21 x0  hz
def f1_96 (x0 : Int32) : Int32 := if x0 < (8204 : Int32) then f1_110 x0 else (if (8205 : Int32) < x0 then f1_110 x0 else f1_187 x0)
theorem b1_96 {p : Program} {l : Launch} {e : Env} {R : Room} {s : State} {m : MethodId} {args : Array Value} {below : List Frame} {meth : Method} {c : Code} {T : State} {locs : List Loc} {cells slots : Nat} (X : Stand p l e R s m args below meth c T locs cells slots) (hx : p.tables.exec = Jvm.exec) (hby : c.code = prog_262_method_3_code) (hown : s.vm.findClass "com/example/twyg/twyg/xml/XmlCharacters" = some m.cls) (hret : meth.sig.returnType = some .boolean) {fs : List Frame} {z : Int32} (hl : ∀ (f : JFrame) (acts : List Action), f.method = m → f.locked = none → f.entered = [] → (doReturn e (T.setTop f) acts (some (.int z))).1 = T.setFrames fs) (k7 : (Jvm.Cond.constant "com/example/twyg/twyg/xml/XmlCharacters" 7 (55295 : Int32)).before args s = true) (k9 : (Jvm.Cond.constant "com/example/twyg/twyg/xml/XmlCharacters" 9 (65533 : Int32)).before args s = true) (k10 : (Jvm.Cond.constant "com/example/twyg/twyg/xml/XmlCharacters" 10 (65536 : Int32)).before args s = true) (k18 : (Jvm.Cond.constant "com/example/twyg/twyg/xml/XmlCharacters" 18 (63744 : Int32)).before args s = true) (k19 : (Jvm.Cond.constant "com/example/twyg/twyg/xml/XmlCharacters" 19 (64975 : Int32)).before args s = true) (k20 : (Jvm.Cond.constant "com/example/twyg/twyg/xml/XmlCharacters" 20 (65008 : Int32)).before args s = true) (k21 : (Jvm.Cond.constant "com/example/twyg/twyg/xml/XmlCharacters" 21 (983039 : Int32)).before args s = true) (x0 : Int32) (hz : f1_96 x0 = z) :
    Steps p.tables e below (T.setTop (mkF m 96 #[.val (.int x0)] [])) (T.setFrames fs) := by
  unfold f1_96 at hz
  refine XS.iloadN X.here hx rfl (hb hby d1_96) rfl ?_
  show Steps p.tables e below (T.setTop (mkF m 97 #[.val (.int x0)] [(.int x0)])) _
  refine XS.sipush X.here hx rfl (hb hby d1_97) ?_
  show Steps p.tables e below (T.setTop (mkF m 100 #[.val (.int x0)] [(.int (8204 : Int32)), (.int x0)])) _
  by_cases h100 : x0 < (8204 : Int32)
  · rw [if_pos h100] at hz
    refine XS.icmpYes X.here hx rfl (pc0 := 100) (pc' := 110) rfl (hb hby d1_100) rfl (tlt h100).1 (by decide) (by decide) ?_
    show Steps p.tables e below (T.setTop (mkF m 110 #[.val (.int x0)] [])) _
    exact b1_110 X hx hby hown hret hl k7 k9 k10 k18 k19 k20 k21 x0  hz
  · rw [if_neg h100] at hz
    refine XS.icmpNo X.here hx rfl (hb hby d1_100) rfl (flt h100).1 ?_
    show Steps p.tables e below (T.setTop (mkF m 103 #[.val (.int x0)] [])) _
    refine XS.iloadN X.here hx rfl (hb hby d1_103) rfl ?_
    show Steps p.tables e below (T.setTop (mkF m 104 #[.val (.int x0)] [(.int x0)])) _
    refine XS.sipush X.here hx rfl (hb hby d1_104) ?_
    show Steps p.tables e below (T.setTop (mkF m 107 #[.val (.int x0)] [(.int (8205 : Int32)), (.int x0)])) _
    by_cases h107 : (8205 : Int32) < x0
    · rw [if_pos h107] at hz
      refine XS.icmpNo X.here hx rfl (hb hby d1_107) rfl (tlt h107).2.2.2 ?_
      show Steps p.tables e below (T.setTop (mkF m 110 #[.val (.int x0)] [])) _
      exact b1_110 X hx hby hown hret hl k7 k9 k10 k18 k19 k20 k21 x0  hz
    · rw [if_neg h107] at hz
      refine XS.icmpYes X.here hx rfl (pc0 := 107) (pc' := 187) rfl (hb hby d1_107) rfl (flt h107).2.2.2 (by decide) (by decide) ?_
      show Steps p.tables e below (T.setTop (mkF m 187 #[.val (.int x0)] [])) _
      exact b1_187 X hx hby hown hret hl k7 k9 k10 k18 k19 k20 k21 x0  hz
def f1_82 (x0 : Int32) : Int32 := if x0 < (895 : Int32) then f1_96 x0 else (if (8191 : Int32) < x0 then f1_96 x0 else f1_187 x0)
theorem b1_82 {p : Program} {l : Launch} {e : Env} {R : Room} {s : State} {m : MethodId} {args : Array Value} {below : List Frame} {meth : Method} {c : Code} {T : State} {locs : List Loc} {cells slots : Nat} (X : Stand p l e R s m args below meth c T locs cells slots) (hx : p.tables.exec = Jvm.exec) (hby : c.code = prog_262_method_3_code) (hown : s.vm.findClass "com/example/twyg/twyg/xml/XmlCharacters" = some m.cls) (hret : meth.sig.returnType = some .boolean) {fs : List Frame} {z : Int32} (hl : ∀ (f : JFrame) (acts : List Action), f.method = m → f.locked = none → f.entered = [] → (doReturn e (T.setTop f) acts (some (.int z))).1 = T.setFrames fs) (k7 : (Jvm.Cond.constant "com/example/twyg/twyg/xml/XmlCharacters" 7 (55295 : Int32)).before args s = true) (k9 : (Jvm.Cond.constant "com/example/twyg/twyg/xml/XmlCharacters" 9 (65533 : Int32)).before args s = true) (k10 : (Jvm.Cond.constant "com/example/twyg/twyg/xml/XmlCharacters" 10 (65536 : Int32)).before args s = true) (k18 : (Jvm.Cond.constant "com/example/twyg/twyg/xml/XmlCharacters" 18 (63744 : Int32)).before args s = true) (k19 : (Jvm.Cond.constant "com/example/twyg/twyg/xml/XmlCharacters" 19 (64975 : Int32)).before args s = true) (k20 : (Jvm.Cond.constant "com/example/twyg/twyg/xml/XmlCharacters" 20 (65008 : Int32)).before args s = true) (k21 : (Jvm.Cond.constant "com/example/twyg/twyg/xml/XmlCharacters" 21 (983039 : Int32)).before args s = true) (x0 : Int32) (hz : f1_82 x0 = z) :
    Steps p.tables e below (T.setTop (mkF m 82 #[.val (.int x0)] [])) (T.setFrames fs) := by
  unfold f1_82 at hz
  refine XS.iloadN X.here hx rfl (hb hby d1_82) rfl ?_
  show Steps p.tables e below (T.setTop (mkF m 83 #[.val (.int x0)] [(.int x0)])) _
  refine XS.sipush X.here hx rfl (hb hby d1_83) ?_
  show Steps p.tables e below (T.setTop (mkF m 86 #[.val (.int x0)] [(.int (895 : Int32)), (.int x0)])) _
  by_cases h86 : x0 < (895 : Int32)
  · rw [if_pos h86] at hz
    refine XS.icmpYes X.here hx rfl (pc0 := 86) (pc' := 96) rfl (hb hby d1_86) rfl (tlt h86).1 (by decide) (by decide) ?_
    show Steps p.tables e below (T.setTop (mkF m 96 #[.val (.int x0)] [])) _
    exact b1_96 X hx hby hown hret hl k7 k9 k10 k18 k19 k20 k21 x0  hz
  · rw [if_neg h86] at hz
    refine XS.icmpNo X.here hx rfl (hb hby d1_86) rfl (flt h86).1 ?_
    show Steps p.tables e below (T.setTop (mkF m 89 #[.val (.int x0)] [])) _
    refine XS.iloadN X.here hx rfl (hb hby d1_89) rfl ?_
    show Steps p.tables e below (T.setTop (mkF m 90 #[.val (.int x0)] [(.int x0)])) _
    refine XS.sipush X.here hx rfl (hb hby d1_90) ?_
    show Steps p.tables e below (T.setTop (mkF m 93 #[.val (.int x0)] [(.int (8191 : Int32)), (.int x0)])) _
    by_cases h93 : (8191 : Int32) < x0
    · rw [if_pos h93] at hz
      refine XS.icmpNo X.here hx rfl (hb hby d1_93) rfl (tlt h93).2.2.2 ?_
      show Steps p.tables e below (T.setTop (mkF m 96 #[.val (.int x0)] [])) _
      exact b1_96 X hx hby hown hret hl k7 k9 k10 k18 k19 k20 k21 x0  hz
    · rw [if_neg h93] at hz
      refine XS.icmpYes X.here hx rfl (pc0 := 93) (pc' := 187) rfl (hb hby d1_93) rfl (flt h93).2.2.2 (by decide) (by decide) ?_
      show Steps p.tables e below (T.setTop (mkF m 187 #[.val (.int x0)] [])) _
      exact b1_187 X hx hby hown hret hl k7 k9 k10 k18 k19 k20 k21 x0  hz
def f1_68 (x0 : Int32) : Int32 := if x0 < (880 : Int32) then f1_82 x0 else (if (893 : Int32) < x0 then f1_82 x0 else f1_187 x0)
theorem b1_68 {p : Program} {l : Launch} {e : Env} {R : Room} {s : State} {m : MethodId} {args : Array Value} {below : List Frame} {meth : Method} {c : Code} {T : State} {locs : List Loc} {cells slots : Nat} (X : Stand p l e R s m args below meth c T locs cells slots) (hx : p.tables.exec = Jvm.exec) (hby : c.code = prog_262_method_3_code) (hown : s.vm.findClass "com/example/twyg/twyg/xml/XmlCharacters" = some m.cls) (hret : meth.sig.returnType = some .boolean) {fs : List Frame} {z : Int32} (hl : ∀ (f : JFrame) (acts : List Action), f.method = m → f.locked = none → f.entered = [] → (doReturn e (T.setTop f) acts (some (.int z))).1 = T.setFrames fs) (k7 : (Jvm.Cond.constant "com/example/twyg/twyg/xml/XmlCharacters" 7 (55295 : Int32)).before args s = true) (k9 : (Jvm.Cond.constant "com/example/twyg/twyg/xml/XmlCharacters" 9 (65533 : Int32)).before args s = true) (k10 : (Jvm.Cond.constant "com/example/twyg/twyg/xml/XmlCharacters" 10 (65536 : Int32)).before args s = true) (k18 : (Jvm.Cond.constant "com/example/twyg/twyg/xml/XmlCharacters" 18 (63744 : Int32)).before args s = true) (k19 : (Jvm.Cond.constant "com/example/twyg/twyg/xml/XmlCharacters" 19 (64975 : Int32)).before args s = true) (k20 : (Jvm.Cond.constant "com/example/twyg/twyg/xml/XmlCharacters" 20 (65008 : Int32)).before args s = true) (k21 : (Jvm.Cond.constant "com/example/twyg/twyg/xml/XmlCharacters" 21 (983039 : Int32)).before args s = true) (x0 : Int32) (hz : f1_68 x0 = z) :
    Steps p.tables e below (T.setTop (mkF m 68 #[.val (.int x0)] [])) (T.setFrames fs) := by
  unfold f1_68 at hz
  refine XS.iloadN X.here hx rfl (hb hby d1_68) rfl ?_
  show Steps p.tables e below (T.setTop (mkF m 69 #[.val (.int x0)] [(.int x0)])) _
  refine XS.sipush X.here hx rfl (hb hby d1_69) ?_
  show Steps p.tables e below (T.setTop (mkF m 72 #[.val (.int x0)] [(.int (880 : Int32)), (.int x0)])) _
  by_cases h72 : x0 < (880 : Int32)
  · rw [if_pos h72] at hz
    refine XS.icmpYes X.here hx rfl (pc0 := 72) (pc' := 82) rfl (hb hby d1_72) rfl (tlt h72).1 (by decide) (by decide) ?_
    show Steps p.tables e below (T.setTop (mkF m 82 #[.val (.int x0)] [])) _
    exact b1_82 X hx hby hown hret hl k7 k9 k10 k18 k19 k20 k21 x0  hz
  · rw [if_neg h72] at hz
    refine XS.icmpNo X.here hx rfl (hb hby d1_72) rfl (flt h72).1 ?_
    show Steps p.tables e below (T.setTop (mkF m 75 #[.val (.int x0)] [])) _
    refine XS.iloadN X.here hx rfl (hb hby d1_75) rfl ?_
    show Steps p.tables e below (T.setTop (mkF m 76 #[.val (.int x0)] [(.int x0)])) _
    refine XS.sipush X.here hx rfl (hb hby d1_76) ?_
    show Steps p.tables e below (T.setTop (mkF m 79 #[.val (.int x0)] [(.int (893 : Int32)), (.int x0)])) _
    by_cases h79 : (893 : Int32) < x0
    · rw [if_pos h79] at hz
      refine XS.icmpNo X.here hx rfl (hb hby d1_79) rfl (tlt h79).2.2.2 ?_
      show Steps p.tables e below (T.setTop (mkF m 82 #[.val (.int x0)] [])) _
      exact b1_82 X hx hby hown hret hl k7 k9 k10 k18 k19 k20 k21 x0  hz
    · rw [if_neg h79] at hz
      refine XS.icmpYes X.here hx rfl (pc0 := 79) (pc' := 187) rfl (hb hby d1_79) rfl (flt h79).2.2.2 (by decide) (by decide) ?_
      show Steps p.tables e below (T.setTop (mkF m 187 #[.val (.int x0)] [])) _
      exact b1_187 X hx hby hown hret hl k7 k9 k10 k18 k19 k20 k21 x0  hz
def f1_54 (x0 : Int32) : Int32 := if x0 < (248 : Int32) then f1_68 x0 else (if (767 : Int32) < x0 then f1_68 x0 else f1_187 x0)
theorem b1_54 {p : Program} {l : Launch} {e : Env} {R : Room} {s : State} {m : MethodId} {args : Array Value} {below : List Frame} {meth : Method} {c : Code} {T : State} {locs : List Loc} {cells slots : Nat} (X : Stand p l e R s m args below meth c T locs cells slots) (hx : p.tables.exec = Jvm.exec) (hby : c.code = prog_262_method_3_code) (hown : s.vm.findClass "com/example/twyg/twyg/xml/XmlCharacters" = some m.cls) (hret : meth.sig.returnType = some .boolean) {fs : List Frame} {z : Int32} (hl : ∀ (f : JFrame) (acts : List Action), f.method = m → f.locked = none → f.entered = [] → (doReturn e (T.setTop f) acts (some (.int z))).1 = T.setFrames fs) (k7 : (Jvm.Cond.constant "com/example/twyg/twyg/xml/XmlCharacters" 7 (55295 : Int32)).before args s = true) (k9 : (Jvm.Cond.constant "com/example/twyg/twyg/xml/XmlCharacters" 9 (65533 : Int32)).before args s = true) (k10 : (Jvm.Cond.constant "com/example/twyg/twyg/xml/XmlCharacters" 10 (65536 : Int32)).before args s = true) (k18 : (Jvm.Cond.constant "com/example/twyg/twyg/xml/XmlCharacters" 18 (63744 : Int32)).before args s = true) (k19 : (Jvm.Cond.constant "com/example/twyg/twyg/xml/XmlCharacters" 19 (64975 : Int32)).before args s = true) (k20 : (Jvm.Cond.constant "com/example/twyg/twyg/xml/XmlCharacters" 20 (65008 : Int32)).before args s = true) (k21 : (Jvm.Cond.constant "com/example/twyg/twyg/xml/XmlCharacters" 21 (983039 : Int32)).before args s = true) (x0 : Int32) (hz : f1_54 x0 = z) :
    Steps p.tables e below (T.setTop (mkF m 54 #[.val (.int x0)] [])) (T.setFrames fs) := by
  unfold f1_54 at hz
  refine XS.iloadN X.here hx rfl (hb hby d1_54) rfl ?_
  show Steps p.tables e below (T.setTop (mkF m 55 #[.val (.int x0)] [(.int x0)])) _
  refine XS.sipush X.here hx rfl (hb hby d1_55) ?_
  show Steps p.tables e below (T.setTop (mkF m 58 #[.val (.int x0)] [(.int (248 : Int32)), (.int x0)])) _
  by_cases h58 : x0 < (248 : Int32)
  · rw [if_pos h58] at hz
    refine XS.icmpYes X.here hx rfl (pc0 := 58) (pc' := 68) rfl (hb hby d1_58) rfl (tlt h58).1 (by decide) (by decide) ?_
    show Steps p.tables e below (T.setTop (mkF m 68 #[.val (.int x0)] [])) _
    exact b1_68 X hx hby hown hret hl k7 k9 k10 k18 k19 k20 k21 x0  hz
  · rw [if_neg h58] at hz
    refine XS.icmpNo X.here hx rfl (hb hby d1_58) rfl (flt h58).1 ?_
    show Steps p.tables e below (T.setTop (mkF m 61 #[.val (.int x0)] [])) _
    refine XS.iloadN X.here hx rfl (hb hby d1_61) rfl ?_
    show Steps p.tables e below (T.setTop (mkF m 62 #[.val (.int x0)] [(.int x0)])) _
    refine XS.sipush X.here hx rfl (hb hby d1_62) ?_
    show Steps p.tables e below (T.setTop (mkF m 65 #[.val (.int x0)] [(.int (767 : Int32)), (.int x0)])) _
    by_cases h65 : (767 : Int32) < x0
    · rw [if_pos h65] at hz
      refine XS.icmpNo X.here hx rfl (hb hby d1_65) rfl (tlt h65).2.2.2 ?_
      show Steps p.tables e below (T.setTop (mkF m 68 #[.val (.int x0)] [])) _
      exact b1_68 X hx hby hown hret hl k7 k9 k10 k18 k19 k20 k21 x0  hz
    · rw [if_neg h65] at hz
      refine XS.icmpYes X.here hx rfl (pc0 := 65) (pc' := 187) rfl (hb hby d1_65) rfl (flt h65).2.2.2 (by decide) (by decide) ?_
      show Steps p.tables e below (T.setTop (mkF m 187 #[.val (.int x0)] [])) _
      exact b1_187 X hx hby hown hret hl k7 k9 k10 k18 k19 k20 k21 x0  hz
def f1_40 (x0 : Int32) : Int32 := if x0 < (216 : Int32) then f1_54 x0 else (if (246 : Int32) < x0 then f1_54 x0 else f1_187 x0)
theorem b1_40 {p : Program} {l : Launch} {e : Env} {R : Room} {s : State} {m : MethodId} {args : Array Value} {below : List Frame} {meth : Method} {c : Code} {T : State} {locs : List Loc} {cells slots : Nat} (X : Stand p l e R s m args below meth c T locs cells slots) (hx : p.tables.exec = Jvm.exec) (hby : c.code = prog_262_method_3_code) (hown : s.vm.findClass "com/example/twyg/twyg/xml/XmlCharacters" = some m.cls) (hret : meth.sig.returnType = some .boolean) {fs : List Frame} {z : Int32} (hl : ∀ (f : JFrame) (acts : List Action), f.method = m → f.locked = none → f.entered = [] → (doReturn e (T.setTop f) acts (some (.int z))).1 = T.setFrames fs) (k7 : (Jvm.Cond.constant "com/example/twyg/twyg/xml/XmlCharacters" 7 (55295 : Int32)).before args s = true) (k9 : (Jvm.Cond.constant "com/example/twyg/twyg/xml/XmlCharacters" 9 (65533 : Int32)).before args s = true) (k10 : (Jvm.Cond.constant "com/example/twyg/twyg/xml/XmlCharacters" 10 (65536 : Int32)).before args s = true) (k18 : (Jvm.Cond.constant "com/example/twyg/twyg/xml/XmlCharacters" 18 (63744 : Int32)).before args s = true) (k19 : (Jvm.Cond.constant "com/example/twyg/twyg/xml/XmlCharacters" 19 (64975 : Int32)).before args s = true) (k20 : (Jvm.Cond.constant "com/example/twyg/twyg/xml/XmlCharacters" 20 (65008 : Int32)).before args s = true) (k21 : (Jvm.Cond.constant "com/example/twyg/twyg/xml/XmlCharacters" 21 (983039 : Int32)).before args s = true) (x0 : Int32) (hz : f1_40 x0 = z) :
    Steps p.tables e below (T.setTop (mkF m 40 #[.val (.int x0)] [])) (T.setFrames fs) := by
  unfold f1_40 at hz
  refine XS.iloadN X.here hx rfl (hb hby d1_40) rfl ?_
  show Steps p.tables e below (T.setTop (mkF m 41 #[.val (.int x0)] [(.int x0)])) _
  refine XS.sipush X.here hx rfl (hb hby d1_41) ?_
  show Steps p.tables e below (T.setTop (mkF m 44 #[.val (.int x0)] [(.int (216 : Int32)), (.int x0)])) _
  by_cases h44 : x0 < (216 : Int32)
  · rw [if_pos h44] at hz
    refine XS.icmpYes X.here hx rfl (pc0 := 44) (pc' := 54) rfl (hb hby d1_44) rfl (tlt h44).1 (by decide) (by decide) ?_
    show Steps p.tables e below (T.setTop (mkF m 54 #[.val (.int x0)] [])) _
    exact b1_54 X hx hby hown hret hl k7 k9 k10 k18 k19 k20 k21 x0  hz
  · rw [if_neg h44] at hz
    refine XS.icmpNo X.here hx rfl (hb hby d1_44) rfl (flt h44).1 ?_
    show Steps p.tables e below (T.setTop (mkF m 47 #[.val (.int x0)] [])) _
    refine XS.iloadN X.here hx rfl (hb hby d1_47) rfl ?_
    show Steps p.tables e below (T.setTop (mkF m 48 #[.val (.int x0)] [(.int x0)])) _
    refine XS.sipush X.here hx rfl (hb hby d1_48) ?_
    show Steps p.tables e below (T.setTop (mkF m 51 #[.val (.int x0)] [(.int (246 : Int32)), (.int x0)])) _
    by_cases h51 : (246 : Int32) < x0
    · rw [if_pos h51] at hz
      refine XS.icmpNo X.here hx rfl (hb hby d1_51) rfl (tlt h51).2.2.2 ?_
      show Steps p.tables e below (T.setTop (mkF m 54 #[.val (.int x0)] [])) _
      exact b1_54 X hx hby hown hret hl k7 k9 k10 k18 k19 k20 k21 x0  hz
    · rw [if_neg h51] at hz
      refine XS.icmpYes X.here hx rfl (pc0 := 51) (pc' := 187) rfl (hb hby d1_51) rfl (flt h51).2.2.2 (by decide) (by decide) ?_
      show Steps p.tables e below (T.setTop (mkF m 187 #[.val (.int x0)] [])) _
      exact b1_187 X hx hby hown hret hl k7 k9 k10 k18 k19 k20 k21 x0  hz
def f1_26 (x0 : Int32) : Int32 := if x0 < (192 : Int32) then f1_40 x0 else (if (214 : Int32) < x0 then f1_40 x0 else f1_187 x0)
theorem b1_26 {p : Program} {l : Launch} {e : Env} {R : Room} {s : State} {m : MethodId} {args : Array Value} {below : List Frame} {meth : Method} {c : Code} {T : State} {locs : List Loc} {cells slots : Nat} (X : Stand p l e R s m args below meth c T locs cells slots) (hx : p.tables.exec = Jvm.exec) (hby : c.code = prog_262_method_3_code) (hown : s.vm.findClass "com/example/twyg/twyg/xml/XmlCharacters" = some m.cls) (hret : meth.sig.returnType = some .boolean) {fs : List Frame} {z : Int32} (hl : ∀ (f : JFrame) (acts : List Action), f.method = m → f.locked = none → f.entered = [] → (doReturn e (T.setTop f) acts (some (.int z))).1 = T.setFrames fs) (k7 : (Jvm.Cond.constant "com/example/twyg/twyg/xml/XmlCharacters" 7 (55295 : Int32)).before args s = true) (k9 : (Jvm.Cond.constant "com/example/twyg/twyg/xml/XmlCharacters" 9 (65533 : Int32)).before args s = true) (k10 : (Jvm.Cond.constant "com/example/twyg/twyg/xml/XmlCharacters" 10 (65536 : Int32)).before args s = true) (k18 : (Jvm.Cond.constant "com/example/twyg/twyg/xml/XmlCharacters" 18 (63744 : Int32)).before args s = true) (k19 : (Jvm.Cond.constant "com/example/twyg/twyg/xml/XmlCharacters" 19 (64975 : Int32)).before args s = true) (k20 : (Jvm.Cond.constant "com/example/twyg/twyg/xml/XmlCharacters" 20 (65008 : Int32)).before args s = true) (k21 : (Jvm.Cond.constant "com/example/twyg/twyg/xml/XmlCharacters" 21 (983039 : Int32)).before args s = true) (x0 : Int32) (hz : f1_26 x0 = z) :
    Steps p.tables e below (T.setTop (mkF m 26 #[.val (.int x0)] [])) (T.setFrames fs) := by
  unfold f1_26 at hz
  refine XS.iloadN X.here hx rfl (hb hby d1_26) rfl ?_
  show Steps p.tables e below (T.setTop (mkF m 27 #[.val (.int x0)] [(.int x0)])) _
  refine XS.sipush X.here hx rfl (hb hby d1_27) ?_
  show Steps p.tables e below (T.setTop (mkF m 30 #[.val (.int x0)] [(.int (192 : Int32)), (.int x0)])) _
  by_cases h30 : x0 < (192 : Int32)
  · rw [if_pos h30] at hz
    refine XS.icmpYes X.here hx rfl (pc0 := 30) (pc' := 40) rfl (hb hby d1_30) rfl (tlt h30).1 (by decide) (by decide) ?_
    show Steps p.tables e below (T.setTop (mkF m 40 #[.val (.int x0)] [])) _
    exact b1_40 X hx hby hown hret hl k7 k9 k10 k18 k19 k20 k21 x0  hz
  · rw [if_neg h30] at hz
    refine XS.icmpNo X.here hx rfl (hb hby d1_30) rfl (flt h30).1 ?_
    show Steps p.tables e below (T.setTop (mkF m 33 #[.val (.int x0)] [])) _
    refine XS.iloadN X.here hx rfl (hb hby d1_33) rfl ?_
    show Steps p.tables e below (T.setTop (mkF m 34 #[.val (.int x0)] [(.int x0)])) _
    refine XS.sipush X.here hx rfl (hb hby d1_34) ?_
    show Steps p.tables e below (T.setTop (mkF m 37 #[.val (.int x0)] [(.int (214 : Int32)), (.int x0)])) _
    by_cases h37 : (214 : Int32) < x0
    · rw [if_pos h37] at hz
      refine XS.icmpNo X.here hx rfl (hb hby d1_37) rfl (tlt h37).2.2.2 ?_
      show Steps p.tables e below (T.setTop (mkF m 40 #[.val (.int x0)] [])) _
      exact b1_40 X hx hby hown hret hl k7 k9 k10 k18 k19 k20 k21 x0  hz
    · rw [if_neg h37] at hz
      refine XS.icmpYes X.here hx rfl (pc0 := 37) (pc' := 187) rfl (hb hby d1_37) rfl (flt h37).2.2.2 (by decide) (by decide) ?_
      show Steps p.tables e below (T.setTop (mkF m 187 #[.val (.int x0)] [])) _
      exact b1_187 X hx hby hown hret hl k7 k9 k10 k18 k19 k20 k21 x0  hz
theorem d2_0 : decode method_2_code 0 = .ok (.iload_n 0, 1) := by decide +kernel
theorem d2_1 : decode method_2_code 1 = .ok (.ifCond .ge 5, 3) := by decide +kernel
theorem d2_4 : decode method_2_code 4 = .ok (.iconst 0, 1) := by decide +kernel
theorem d2_5 : decode method_2_code 5 = .ok (.ireturn, 1) := by decide +kernel
theorem d2_6 : decode method_2_code 6 = .ok (.iload_n 0, 1) := by decide +kernel
theorem d2_7 : decode method_2_code 7 = .ok (.sipush 128, 3) := by decide +kernel
theorem d2_10 : decode method_2_code 10 = .ok (.if_icmp .ge 39, 3) := by decide +kernel
theorem d2_13 : decode method_2_code 13 = .ok (.iload_n 0, 1) := by decide +kernel
theorem d2_14 : decode method_2_code 14 = .ok (.bipush 65, 2) := by decide +kernel
theorem d2_16 : decode method_2_code 16 = .ok (.if_icmp .lt 9, 3) := by decide +kernel
theorem d2_19 : decode method_2_code 19 = .ok (.iload_n 0, 1) := by decide +kernel
theorem d2_20 : decode method_2_code 20 = .ok (.bipush 90, 2) := by decide +kernel
theorem d2_22 : decode method_2_code 22 = .ok (.if_icmp .le 21, 3) := by decide +kernel
theorem d2_25 : decode method_2_code 25 = .ok (.iload_n 0, 1) := by decide +kernel
theorem d2_26 : decode method_2_code 26 = .ok (.bipush 97, 2) := by decide +kernel
theorem d2_28 : decode method_2_code 28 = .ok (.if_icmp .lt 9, 3) := by decide +kernel
theorem d2_31 : decode method_2_code 31 = .ok (.iload_n 0, 1) := by decide +kernel
theorem d2_32 : decode method_2_code 32 = .ok (.bipush 122, 2) := by decide +kernel
theorem d2_34 : decode method_2_code 34 = .ok (.if_icmp .le 9, 3) := by decide +kernel
theorem d2_37 : decode method_2_code 37 = .ok (.iload_n 0, 1) := by decide +kernel
theorem d2_38 : decode method_2_code 38 = .ok (.bipush 95, 2) := by decide +kernel
theorem d2_40 : decode method_2_code 40 = .ok (.if_icmp .ne 7, 3) := by decide +kernel
theorem d2_43 : decode method_2_code 43 = .ok (.iconst 1, 1) := by decide +kernel
theorem d2_44 : decode method_2_code 44 = .ok (.goto 4, 3) := by decide +kernel
theorem d2_47 : decode method_2_code 47 = .ok (.iconst 0, 1) := by decide +kernel
theorem d2_48 : decode method_2_code 48 = .ok (.ireturn, 1) := by decide +kernel
theorem d2_49 : decode method_2_code 49 = .ok (.iload_n 0, 1) := by decide +kernel
theorem d2_50 : decode method_2_code 50 = .ok (.ldc 7, 2) := by decide +kernel
theorem d2_52 : decode method_2_code 52 = .ok (.if_icmp .le 5, 3) := by decide +kernel
theorem d2_55 : decode method_2_code 55 = .ok (.iconst 0, 1) := by decide +kernel
theorem d2_56 : decode method_2_code 56 = .ok (.ireturn, 1) := by decide +kernel
theorem d2_57 : decode method_2_code 57 = .ok (.iload_n 0, 1) := by decide +kernel
theorem d2_58 : decode method_2_code 58 = .ok (.sipush 192, 3) := by decide +kernel
theorem d2_61 : decode method_2_code 61 = .ok (.if_icmp .ge 5, 3) := by decide +kernel
theorem d2_64 : decode method_2_code 64 = .ok (.iconst 0, 1) := by decide +kernel
theorem d2_65 : decode method_2_code 65 = .ok (.ireturn, 1) := by decide +kernel
theorem d2_66 : decode method_2_code 66 = .ok (.iload_n 0, 1) := by decide +kernel
theorem d2_67 : decode method_2_code 67 = .ok (.sipush 215, 3) := by decide +kernel
theorem d2_70 : decode method_2_code 70 = .ok (.if_icmp .eq 10, 3) := by decide +kernel
theorem d2_73 : decode method_2_code 73 = .ok (.iload_n 0, 1) := by decide +kernel
theorem d2_74 : decode method_2_code 74 = .ok (.sipush 247, 3) := by decide +kernel
theorem d2_77 : decode method_2_code 77 = .ok (.if_icmp .ne 5, 3) := by decide +kernel
theorem d2_80 : decode method_2_code 80 = .ok (.iconst 0, 1) := by decide +kernel
theorem d2_81 : decode method_2_code 81 = .ok (.ireturn, 1) := by decide +kernel
theorem d2_82 : decode method_2_code 82 = .ok (.iload_n 0, 1) := by decide +kernel
theorem d2_83 : decode method_2_code 83 = .ok (.sipush 768, 3) := by decide +kernel
theorem d2_86 : decode method_2_code 86 = .ok (.if_icmp .lt 12, 3) := by decide +kernel
theorem d2_89 : decode method_2_code 89 = .ok (.iload_n 0, 1) := by decide +kernel
theorem d2_90 : decode method_2_code 90 = .ok (.sipush 879, 3) := by decide +kernel
theorem d2_93 : decode method_2_code 93 = .ok (.if_icmp .gt 5, 3) := by decide +kernel
theorem d2_96 : decode method_2_code 96 = .ok (.iconst 0, 1) := by decide +kernel
theorem d2_97 : decode method_2_code 97 = .ok (.ireturn, 1) := by decide +kernel
theorem d2_98 : decode method_2_code 98 = .ok (.iload_n 0, 1) := by decide +kernel
theorem d2_99 : decode method_2_code 99 = .ok (.sipush 894, 3) := by decide +kernel
theorem d2_102 : decode method_2_code 102 = .ok (.if_icmp .ne 5, 3) := by decide +kernel
theorem d2_105 : decode method_2_code 105 = .ok (.iconst 0, 1) := by decide +kernel
theorem d2_106 : decode method_2_code 106 = .ok (.ireturn, 1) := by decide +kernel
theorem d2_107 : decode method_2_code 107 = .ok (.iload_n 0, 1) := by decide +kernel
theorem d2_108 : decode method_2_code 108 = .ok (.sipush 8192, 3) := by decide +kernel
theorem d2_111 : decode method_2_code 111 = .ok (.if_icmp .lt 12, 3) := by decide +kernel
theorem d2_114 : decode method_2_code 114 = .ok (.iload_n 0, 1) := by decide +kernel
theorem d2_115 : decode method_2_code 115 = .ok (.sipush 8203, 3) := by decide +kernel
theorem d2_118 : decode method_2_code 118 = .ok (.if_icmp .gt 5, 3) := by decide +kernel
theorem d2_121 : decode method_2_code 121 = .ok (.iconst 0, 1) := by decide +kernel
theorem d2_122 : decode method_2_code 122 = .ok (.ireturn, 1) := by decide +kernel
theorem d2_123 : decode method_2_code 123 = .ok (.iload_n 0, 1) := by decide +kernel
theorem d2_124 : decode method_2_code 124 = .ok (.sipush 8206, 3) := by decide +kernel
theorem d2_127 : decode method_2_code 127 = .ok (.if_icmp .lt 12, 3) := by decide +kernel
theorem d2_130 : decode method_2_code 130 = .ok (.iload_n 0, 1) := by decide +kernel
theorem d2_131 : decode method_2_code 131 = .ok (.sipush 8303, 3) := by decide +kernel
theorem d2_134 : decode method_2_code 134 = .ok (.if_icmp .gt 5, 3) := by decide +kernel
theorem d2_137 : decode method_2_code 137 = .ok (.iconst 0, 1) := by decide +kernel
theorem d2_138 : decode method_2_code 138 = .ok (.ireturn, 1) := by decide +kernel
theorem d2_139 : decode method_2_code 139 = .ok (.iload_n 0, 1) := by decide +kernel
theorem d2_140 : decode method_2_code 140 = .ok (.sipush 8592, 3) := by decide +kernel
theorem d2_143 : decode method_2_code 143 = .ok (.if_icmp .lt 12, 3) := by decide +kernel
theorem d2_146 : decode method_2_code 146 = .ok (.iload_n 0, 1) := by decide +kernel
theorem d2_147 : decode method_2_code 147 = .ok (.sipush 11263, 3) := by decide +kernel
theorem d2_150 : decode method_2_code 150 = .ok (.if_icmp .gt 5, 3) := by decide +kernel
theorem d2_153 : decode method_2_code 153 = .ok (.iconst 0, 1) := by decide +kernel
theorem d2_154 : decode method_2_code 154 = .ok (.ireturn, 1) := by decide +kernel
theorem d2_155 : decode method_2_code 155 = .ok (.iload_n 0, 1) := by decide +kernel
theorem d2_156 : decode method_2_code 156 = .ok (.sipush 12272, 3) := by decide +kernel
theorem d2_159 : decode method_2_code 159 = .ok (.if_icmp .lt 12, 3) := by decide +kernel
theorem d2_162 : decode method_2_code 162 = .ok (.iload_n 0, 1) := by decide +kernel
theorem d2_163 : decode method_2_code 163 = .ok (.sipush 12288, 3) := by decide +kernel
theorem d2_166 : decode method_2_code 166 = .ok (.if_icmp .gt 5, 3) := by decide +kernel
theorem d2_169 : decode method_2_code 169 = .ok (.iconst 0, 1) := by decide +kernel
theorem d2_170 : decode method_2_code 170 = .ok (.ireturn, 1) := by decide +kernel
theorem d2_171 : decode method_2_code 171 = .ok (.iload_n 0, 1) := by decide +kernel
theorem d2_172 : decode method_2_code 172 = .ok (.ldc 8, 2) := by decide +kernel
theorem d2_174 : decode method_2_code 174 = .ok (.if_icmp .lt 11, 3) := by decide +kernel
theorem d2_177 : decode method_2_code 177 = .ok (.iload_n 0, 1) := by decide +kernel
theorem d2_178 : decode method_2_code 178 = .ok (.ldc 9, 2) := by decide +kernel
theorem d2_180 : decode method_2_code 180 = .ok (.if_icmp .gt 5, 3) := by decide +kernel
theorem d2_183 : decode method_2_code 183 = .ok (.iconst 0, 1) := by decide +kernel
theorem d2_184 : decode method_2_code 184 = .ok (.ireturn, 1) := by decide +kernel
theorem d2_185 : decode method_2_code 185 = .ok (.iload_n 0, 1) := by decide +kernel
theorem d2_186 : decode method_2_code 186 = .ok (.ldc 10, 2) := by decide +kernel
theorem d2_188 : decode method_2_code 188 = .ok (.if_icmp .lt 11, 3) := by decide +kernel
theorem d2_191 : decode method_2_code 191 = .ok (.iload_n 0, 1) := by decide +kernel
theorem d2_192 : decode method_2_code 192 = .ok (.ldc 11, 2) := by decide +kernel
theorem d2_194 : decode method_2_code 194 = .ok (.if_icmp .gt 5, 3) := by decide +kernel
theorem d2_197 : decode method_2_code 197 = .ok (.iconst 0, 1) := by decide +kernel
theorem d2_198 : decode method_2_code 198 = .ok (.ireturn, 1) := by decide +kernel
theorem d2_199 : decode method_2_code 199 = .ok (.iload_n 0, 1) := by decide +kernel
theorem d2_200 : decode method_2_code 200 = .ok (.ldc 12, 2) := by decide +kernel
theorem d2_202 : decode method_2_code 202 = .ok (.if_icmp .eq 9, 3) := by decide +kernel
theorem d2_205 : decode method_2_code 205 = .ok (.iload_n 0, 1) := by decide +kernel
theorem d2_206 : decode method_2_code 206 = .ok (.ldc 13, 2) := by decide +kernel
theorem d2_208 : decode method_2_code 208 = .ok (.if_icmp .ne 5, 3) := by decide +kernel
theorem d2_211 : decode method_2_code 211 = .ok (.iconst 0, 1) := by decide +kernel
theorem d2_212 : decode method_2_code 212 = .ok (.ireturn, 1) := by decide +kernel
theorem d2_213 : decode method_2_code 213 = .ok (.iconst 1, 1) := by decide +kernel
theorem d2_214 : decode method_2_code 214 = .ok (.ireturn, 1) := by decide +kernel
theorem pn_2 : plainName "com/example/twyg/twyg/xml/XmlCharactersIsNameStartPinLaw" = true := by first | (simp [plainName, overriddenIn]; done) | decide +kernel
def f2_211 (x0 : Int32) : Int32 := nar .boolean (0 : Int32)
theorem b2_211 {p : Program} {l : Launch} {e : Env} {R : Room} {s : State} {m : MethodId} {args : Array Value} {below : List Frame} {meth : Method} {c : Code} {T : State} {locs : List Loc} {cells slots : Nat} (X : Stand p l e R s m args below meth c T locs cells slots) (hx : p.tables.exec = Jvm.exec) (hby : c.code = method_2_code) (hown : s.vm.findClass "com/example/twyg/twyg/xml/XmlCharactersIsNameStartPinLaw" = some m.cls) (hret : meth.sig.returnType = some .boolean) {fs : List Frame} {z : Int32} (hl : ∀ (f : JFrame) (acts : List Action), f.method = m → f.locked = none → f.entered = [] → (doReturn e (T.setTop f) acts (some (.int z))).1 = T.setFrames fs) (k7 : (Jvm.Cond.constant "com/example/twyg/twyg/xml/XmlCharactersIsNameStartPinLaw" 7 (983039 : Int32)).before args s = true) (k8 : (Jvm.Cond.constant "com/example/twyg/twyg/xml/XmlCharactersIsNameStartPinLaw" 8 (55296 : Int32)).before args s = true) (k9 : (Jvm.Cond.constant "com/example/twyg/twyg/xml/XmlCharactersIsNameStartPinLaw" 9 (63743 : Int32)).before args s = true) (k10 : (Jvm.Cond.constant "com/example/twyg/twyg/xml/XmlCharactersIsNameStartPinLaw" 10 (64976 : Int32)).before args s = true) (k11 : (Jvm.Cond.constant "com/example/twyg/twyg/xml/XmlCharactersIsNameStartPinLaw" 11 (65007 : Int32)).before args s = true) (k12 : (Jvm.Cond.constant "com/example/twyg/twyg/xml/XmlCharactersIsNameStartPinLaw" 12 (65534 : Int32)).before args s = true) (k13 : (Jvm.Cond.constant "com/example/twyg/twyg/xml/XmlCharactersIsNameStartPinLaw" 13 (65535 : Int32)).before args s = true) (x0 : Int32) (hz : f2_211 x0 = z) :
    Steps p.tables e below (T.setTop (mkF m 211 #[.val (.int x0)] [])) (T.setFrames fs) := by
  unfold f2_211 at hz
  refine XS.iconst X.here hx rfl (hb hby d2_211) ?_
  show Steps p.tables e below (T.setTop (mkF m 212 #[.val (.int x0)] [(.int (0 : Int32))])) _
  subst hz
  exact retN X hx hret (by simp) (hb hby d2_212) hl
def f2_199 (x0 : Int32) : Int32 := if x0 = (65534 : Int32) then f2_211 x0 else (if x0 = (65535 : Int32) then f2_211 x0 else nar .boolean (1 : Int32))
theorem b2_199 {p : Program} {l : Launch} {e : Env} {R : Room} {s : State} {m : MethodId} {args : Array Value} {below : List Frame} {meth : Method} {c : Code} {T : State} {locs : List Loc} {cells slots : Nat} (X : Stand p l e R s m args below meth c T locs cells slots) (hx : p.tables.exec = Jvm.exec) (hby : c.code = method_2_code) (hown : s.vm.findClass "com/example/twyg/twyg/xml/XmlCharactersIsNameStartPinLaw" = some m.cls) (hret : meth.sig.returnType = some .boolean) {fs : List Frame} {z : Int32} (hl : ∀ (f : JFrame) (acts : List Action), f.method = m → f.locked = none → f.entered = [] → (doReturn e (T.setTop f) acts (some (.int z))).1 = T.setFrames fs) (k7 : (Jvm.Cond.constant "com/example/twyg/twyg/xml/XmlCharactersIsNameStartPinLaw" 7 (983039 : Int32)).before args s = true) (k8 : (Jvm.Cond.constant "com/example/twyg/twyg/xml/XmlCharactersIsNameStartPinLaw" 8 (55296 : Int32)).before args s = true) (k9 : (Jvm.Cond.constant "com/example/twyg/twyg/xml/XmlCharactersIsNameStartPinLaw" 9 (63743 : Int32)).before args s = true) (k10 : (Jvm.Cond.constant "com/example/twyg/twyg/xml/XmlCharactersIsNameStartPinLaw" 10 (64976 : Int32)).before args s = true) (k11 : (Jvm.Cond.constant "com/example/twyg/twyg/xml/XmlCharactersIsNameStartPinLaw" 11 (65007 : Int32)).before args s = true) (k12 : (Jvm.Cond.constant "com/example/twyg/twyg/xml/XmlCharactersIsNameStartPinLaw" 12 (65534 : Int32)).before args s = true) (k13 : (Jvm.Cond.constant "com/example/twyg/twyg/xml/XmlCharactersIsNameStartPinLaw" 13 (65535 : Int32)).before args s = true) (x0 : Int32) (hz : f2_199 x0 = z) :
    Steps p.tables e below (T.setTop (mkF m 199 #[.val (.int x0)] [])) (T.setFrames fs) := by
  unfold f2_199 at hz
  refine XS.iloadN X.here hx rfl (hb hby d2_199) rfl ?_
  show Steps p.tables e below (T.setTop (mkF m 200 #[.val (.int x0)] [(.int x0)])) _
  refine X.ldcInt hx hown k12 (g := (mkF m 200 #[.val (.int x0)] [(.int x0)])) rfl (hb hby d2_200) _ ?_
  show Steps p.tables e below (T.setTop (mkF m 202 #[.val (.int x0)] [(.int (65534 : Int32)), (.int x0)])) _
  by_cases h202 : x0 = (65534 : Int32)
  · rw [if_pos h202] at hz
    refine XS.icmpYes X.here hx rfl (pc0 := 202) (pc' := 211) rfl (hb hby d2_202) rfl (teq h202).1 (by decide) (by decide) ?_
    show Steps p.tables e below (T.setTop (mkF m 211 #[.val (.int x0)] [])) _
    exact b2_211 X hx hby hown hret hl k7 k8 k9 k10 k11 k12 k13 x0  hz
  · rw [if_neg h202] at hz
    refine XS.icmpNo X.here hx rfl (hb hby d2_202) rfl (feq h202).1 ?_
    show Steps p.tables e below (T.setTop (mkF m 205 #[.val (.int x0)] [])) _
    refine XS.iloadN X.here hx rfl (hb hby d2_205) rfl ?_
    show Steps p.tables e below (T.setTop (mkF m 206 #[.val (.int x0)] [(.int x0)])) _
    refine X.ldcInt hx hown k13 (g := (mkF m 206 #[.val (.int x0)] [(.int x0)])) rfl (hb hby d2_206) _ ?_
    show Steps p.tables e below (T.setTop (mkF m 208 #[.val (.int x0)] [(.int (65535 : Int32)), (.int x0)])) _
    by_cases h208 : x0 = (65535 : Int32)
    · rw [if_pos h208] at hz
      refine XS.icmpNo X.here hx rfl (hb hby d2_208) rfl (teq h208).2 ?_
      show Steps p.tables e below (T.setTop (mkF m 211 #[.val (.int x0)] [])) _
      exact b2_211 X hx hby hown hret hl k7 k8 k9 k10 k11 k12 k13 x0  hz
    · rw [if_neg h208] at hz
      refine XS.icmpYes X.here hx rfl (pc0 := 208) (pc' := 213) rfl (hb hby d2_208) rfl (feq h208).2 (by decide) (by decide) ?_
      show Steps p.tables e below (T.setTop (mkF m 213 #[.val (.int x0)] [])) _
      refine XS.iconst X.here hx rfl (hb hby d2_213) ?_
      show Steps p.tables e below (T.setTop (mkF m 214 #[.val (.int x0)] [(.int (1 : Int32))])) _
      subst hz
      exact retN X hx hret (by simp) (hb hby d2_214) hl
def f2_185 (x0 : Int32) : Int32 := if x0 < (64976 : Int32) then f2_199 x0 else (if (65007 : Int32) < x0 then f2_199 x0 else nar .boolean (0 : Int32))
theorem b2_185 {p : Program} {l : Launch} {e : Env} {R : Room} {s : State} {m : MethodId} {args : Array Value} {below : List Frame} {meth : Method} {c : Code} {T : State} {locs : List Loc} {cells slots : Nat} (X : Stand p l e R s m args below meth c T locs cells slots) (hx : p.tables.exec = Jvm.exec) (hby : c.code = method_2_code) (hown : s.vm.findClass "com/example/twyg/twyg/xml/XmlCharactersIsNameStartPinLaw" = some m.cls) (hret : meth.sig.returnType = some .boolean) {fs : List Frame} {z : Int32} (hl : ∀ (f : JFrame) (acts : List Action), f.method = m → f.locked = none → f.entered = [] → (doReturn e (T.setTop f) acts (some (.int z))).1 = T.setFrames fs) (k7 : (Jvm.Cond.constant "com/example/twyg/twyg/xml/XmlCharactersIsNameStartPinLaw" 7 (983039 : Int32)).before args s = true) (k8 : (Jvm.Cond.constant "com/example/twyg/twyg/xml/XmlCharactersIsNameStartPinLaw" 8 (55296 : Int32)).before args s = true) (k9 : (Jvm.Cond.constant "com/example/twyg/twyg/xml/XmlCharactersIsNameStartPinLaw" 9 (63743 : Int32)).before args s = true) (k10 : (Jvm.Cond.constant "com/example/twyg/twyg/xml/XmlCharactersIsNameStartPinLaw" 10 (64976 : Int32)).before args s = true) (k11 : (Jvm.Cond.constant "com/example/twyg/twyg/xml/XmlCharactersIsNameStartPinLaw" 11 (65007 : Int32)).before args s = true) (k12 : (Jvm.Cond.constant "com/example/twyg/twyg/xml/XmlCharactersIsNameStartPinLaw" 12 (65534 : Int32)).before args s = true) (k13 : (Jvm.Cond.constant "com/example/twyg/twyg/xml/XmlCharactersIsNameStartPinLaw" 13 (65535 : Int32)).before args s = true) (x0 : Int32) (hz : f2_185 x0 = z) :
    Steps p.tables e below (T.setTop (mkF m 185 #[.val (.int x0)] [])) (T.setFrames fs) := by
  unfold f2_185 at hz
  refine XS.iloadN X.here hx rfl (hb hby d2_185) rfl ?_
  show Steps p.tables e below (T.setTop (mkF m 186 #[.val (.int x0)] [(.int x0)])) _
  refine X.ldcInt hx hown k10 (g := (mkF m 186 #[.val (.int x0)] [(.int x0)])) rfl (hb hby d2_186) _ ?_
  show Steps p.tables e below (T.setTop (mkF m 188 #[.val (.int x0)] [(.int (64976 : Int32)), (.int x0)])) _
  by_cases h188 : x0 < (64976 : Int32)
  · rw [if_pos h188] at hz
    refine XS.icmpYes X.here hx rfl (pc0 := 188) (pc' := 199) rfl (hb hby d2_188) rfl (tlt h188).1 (by decide) (by decide) ?_
    show Steps p.tables e below (T.setTop (mkF m 199 #[.val (.int x0)] [])) _
    exact b2_199 X hx hby hown hret hl k7 k8 k9 k10 k11 k12 k13 x0  hz
  · rw [if_neg h188] at hz
    refine XS.icmpNo X.here hx rfl (hb hby d2_188) rfl (flt h188).1 ?_
    show Steps p.tables e below (T.setTop (mkF m 191 #[.val (.int x0)] [])) _
    refine XS.iloadN X.here hx rfl (hb hby d2_191) rfl ?_
    show Steps p.tables e below (T.setTop (mkF m 192 #[.val (.int x0)] [(.int x0)])) _
    refine X.ldcInt hx hown k11 (g := (mkF m 192 #[.val (.int x0)] [(.int x0)])) rfl (hb hby d2_192) _ ?_
    show Steps p.tables e below (T.setTop (mkF m 194 #[.val (.int x0)] [(.int (65007 : Int32)), (.int x0)])) _
    by_cases h194 : (65007 : Int32) < x0
    · rw [if_pos h194] at hz
      refine XS.icmpYes X.here hx rfl (pc0 := 194) (pc' := 199) rfl (hb hby d2_194) rfl (tlt h194).2.2.1 (by decide) (by decide) ?_
      show Steps p.tables e below (T.setTop (mkF m 199 #[.val (.int x0)] [])) _
      exact b2_199 X hx hby hown hret hl k7 k8 k9 k10 k11 k12 k13 x0  hz
    · rw [if_neg h194] at hz
      refine XS.icmpNo X.here hx rfl (hb hby d2_194) rfl (flt h194).2.2.1 ?_
      show Steps p.tables e below (T.setTop (mkF m 197 #[.val (.int x0)] [])) _
      refine XS.iconst X.here hx rfl (hb hby d2_197) ?_
      show Steps p.tables e below (T.setTop (mkF m 198 #[.val (.int x0)] [(.int (0 : Int32))])) _
      subst hz
      exact retN X hx hret (by simp) (hb hby d2_198) hl
def f2_171 (x0 : Int32) : Int32 := if x0 < (55296 : Int32) then f2_185 x0 else (if (63743 : Int32) < x0 then f2_185 x0 else nar .boolean (0 : Int32))
theorem b2_171 {p : Program} {l : Launch} {e : Env} {R : Room} {s : State} {m : MethodId} {args : Array Value} {below : List Frame} {meth : Method} {c : Code} {T : State} {locs : List Loc} {cells slots : Nat} (X : Stand p l e R s m args below meth c T locs cells slots) (hx : p.tables.exec = Jvm.exec) (hby : c.code = method_2_code) (hown : s.vm.findClass "com/example/twyg/twyg/xml/XmlCharactersIsNameStartPinLaw" = some m.cls) (hret : meth.sig.returnType = some .boolean) {fs : List Frame} {z : Int32} (hl : ∀ (f : JFrame) (acts : List Action), f.method = m → f.locked = none → f.entered = [] → (doReturn e (T.setTop f) acts (some (.int z))).1 = T.setFrames fs) (k7 : (Jvm.Cond.constant "com/example/twyg/twyg/xml/XmlCharactersIsNameStartPinLaw" 7 (983039 : Int32)).before args s = true) (k8 : (Jvm.Cond.constant "com/example/twyg/twyg/xml/XmlCharactersIsNameStartPinLaw" 8 (55296 : Int32)).before args s = true) (k9 : (Jvm.Cond.constant "com/example/twyg/twyg/xml/XmlCharactersIsNameStartPinLaw" 9 (63743 : Int32)).before args s = true) (k10 : (Jvm.Cond.constant "com/example/twyg/twyg/xml/XmlCharactersIsNameStartPinLaw" 10 (64976 : Int32)).before args s = true) (k11 : (Jvm.Cond.constant "com/example/twyg/twyg/xml/XmlCharactersIsNameStartPinLaw" 11 (65007 : Int32)).before args s = true) (k12 : (Jvm.Cond.constant "com/example/twyg/twyg/xml/XmlCharactersIsNameStartPinLaw" 12 (65534 : Int32)).before args s = true) (k13 : (Jvm.Cond.constant "com/example/twyg/twyg/xml/XmlCharactersIsNameStartPinLaw" 13 (65535 : Int32)).before args s = true) (x0 : Int32) (hz : f2_171 x0 = z) :
    Steps p.tables e below (T.setTop (mkF m 171 #[.val (.int x0)] [])) (T.setFrames fs) := by
  unfold f2_171 at hz
  refine XS.iloadN X.here hx rfl (hb hby d2_171) rfl ?_
  show Steps p.tables e below (T.setTop (mkF m 172 #[.val (.int x0)] [(.int x0)])) _
  refine X.ldcInt hx hown k8 (g := (mkF m 172 #[.val (.int x0)] [(.int x0)])) rfl (hb hby d2_172) _ ?_
  show Steps p.tables e below (T.setTop (mkF m 174 #[.val (.int x0)] [(.int (55296 : Int32)), (.int x0)])) _
  by_cases h174 : x0 < (55296 : Int32)
  · rw [if_pos h174] at hz
    refine XS.icmpYes X.here hx rfl (pc0 := 174) (pc' := 185) rfl (hb hby d2_174) rfl (tlt h174).1 (by decide) (by decide) ?_
    show Steps p.tables e below (T.setTop (mkF m 185 #[.val (.int x0)] [])) _
    exact b2_185 X hx hby hown hret hl k7 k8 k9 k10 k11 k12 k13 x0  hz
  · rw [if_neg h174] at hz
    refine XS.icmpNo X.here hx rfl (hb hby d2_174) rfl (flt h174).1 ?_
    show Steps p.tables e below (T.setTop (mkF m 177 #[.val (.int x0)] [])) _
    refine XS.iloadN X.here hx rfl (hb hby d2_177) rfl ?_
    show Steps p.tables e below (T.setTop (mkF m 178 #[.val (.int x0)] [(.int x0)])) _
    refine X.ldcInt hx hown k9 (g := (mkF m 178 #[.val (.int x0)] [(.int x0)])) rfl (hb hby d2_178) _ ?_
    show Steps p.tables e below (T.setTop (mkF m 180 #[.val (.int x0)] [(.int (63743 : Int32)), (.int x0)])) _
    by_cases h180 : (63743 : Int32) < x0
    · rw [if_pos h180] at hz
      refine XS.icmpYes X.here hx rfl (pc0 := 180) (pc' := 185) rfl (hb hby d2_180) rfl (tlt h180).2.2.1 (by decide) (by decide) ?_
      show Steps p.tables e below (T.setTop (mkF m 185 #[.val (.int x0)] [])) _
      exact b2_185 X hx hby hown hret hl k7 k8 k9 k10 k11 k12 k13 x0  hz
    · rw [if_neg h180] at hz
      refine XS.icmpNo X.here hx rfl (hb hby d2_180) rfl (flt h180).2.2.1 ?_
      show Steps p.tables e below (T.setTop (mkF m 183 #[.val (.int x0)] [])) _
      refine XS.iconst X.here hx rfl (hb hby d2_183) ?_
      show Steps p.tables e below (T.setTop (mkF m 184 #[.val (.int x0)] [(.int (0 : Int32))])) _
      subst hz
      exact retN X hx hret (by simp) (hb hby d2_184) hl
def f2_155 (x0 : Int32) : Int32 := if x0 < (12272 : Int32) then f2_171 x0 else (if (12288 : Int32) < x0 then f2_171 x0 else nar .boolean (0 : Int32))
theorem b2_155 {p : Program} {l : Launch} {e : Env} {R : Room} {s : State} {m : MethodId} {args : Array Value} {below : List Frame} {meth : Method} {c : Code} {T : State} {locs : List Loc} {cells slots : Nat} (X : Stand p l e R s m args below meth c T locs cells slots) (hx : p.tables.exec = Jvm.exec) (hby : c.code = method_2_code) (hown : s.vm.findClass "com/example/twyg/twyg/xml/XmlCharactersIsNameStartPinLaw" = some m.cls) (hret : meth.sig.returnType = some .boolean) {fs : List Frame} {z : Int32} (hl : ∀ (f : JFrame) (acts : List Action), f.method = m → f.locked = none → f.entered = [] → (doReturn e (T.setTop f) acts (some (.int z))).1 = T.setFrames fs) (k7 : (Jvm.Cond.constant "com/example/twyg/twyg/xml/XmlCharactersIsNameStartPinLaw" 7 (983039 : Int32)).before args s = true) (k8 : (Jvm.Cond.constant "com/example/twyg/twyg/xml/XmlCharactersIsNameStartPinLaw" 8 (55296 : Int32)).before args s = true) (k9 : (Jvm.Cond.constant "com/example/twyg/twyg/xml/XmlCharactersIsNameStartPinLaw" 9 (63743 : Int32)).before args s = true) (k10 : (Jvm.Cond.constant "com/example/twyg/twyg/xml/XmlCharactersIsNameStartPinLaw" 10 (64976 : Int32)).before args s = true) (k11 : (Jvm.Cond.constant "com/example/twyg/twyg/xml/XmlCharactersIsNameStartPinLaw" 11 (65007 : Int32)).before args s = true) (k12 : (Jvm.Cond.constant "com/example/twyg/twyg/xml/XmlCharactersIsNameStartPinLaw" 12 (65534 : Int32)).before args s = true) (k13 : (Jvm.Cond.constant "com/example/twyg/twyg/xml/XmlCharactersIsNameStartPinLaw" 13 (65535 : Int32)).before args s = true) (x0 : Int32) (hz : f2_155 x0 = z) :
    Steps p.tables e below (T.setTop (mkF m 155 #[.val (.int x0)] [])) (T.setFrames fs) := by
  unfold f2_155 at hz
  refine XS.iloadN X.here hx rfl (hb hby d2_155) rfl ?_
  show Steps p.tables e below (T.setTop (mkF m 156 #[.val (.int x0)] [(.int x0)])) _
  refine XS.sipush X.here hx rfl (hb hby d2_156) ?_
  show Steps p.tables e below (T.setTop (mkF m 159 #[.val (.int x0)] [(.int (12272 : Int32)), (.int x0)])) _
  by_cases h159 : x0 < (12272 : Int32)
  · rw [if_pos h159] at hz
    refine XS.icmpYes X.here hx rfl (pc0 := 159) (pc' := 171) rfl (hb hby d2_159) rfl (tlt h159).1 (by decide) (by decide) ?_
    show Steps p.tables e below (T.setTop (mkF m 171 #[.val (.int x0)] [])) _
    exact b2_171 X hx hby hown hret hl k7 k8 k9 k10 k11 k12 k13 x0  hz
  · rw [if_neg h159] at hz
    refine XS.icmpNo X.here hx rfl (hb hby d2_159) rfl (flt h159).1 ?_
    show Steps p.tables e below (T.setTop (mkF m 162 #[.val (.int x0)] [])) _
    refine XS.iloadN X.here hx rfl (hb hby d2_162) rfl ?_
    show Steps p.tables e below (T.setTop (mkF m 163 #[.val (.int x0)] [(.int x0)])) _
    refine XS.sipush X.here hx rfl (hb hby d2_163) ?_
    show Steps p.tables e below (T.setTop (mkF m 166 #[.val (.int x0)] [(.int (12288 : Int32)), (.int x0)])) _
    by_cases h166 : (12288 : Int32) < x0
    · rw [if_pos h166] at hz
      refine XS.icmpYes X.here hx rfl (pc0 := 166) (pc' := 171) rfl (hb hby d2_166) rfl (tlt h166).2.2.1 (by decide) (by decide) ?_
      show Steps p.tables e below (T.setTop (mkF m 171 #[.val (.int x0)] [])) _
      exact b2_171 X hx hby hown hret hl k7 k8 k9 k10 k11 k12 k13 x0  hz
    · rw [if_neg h166] at hz
      refine XS.icmpNo X.here hx rfl (hb hby d2_166) rfl (flt h166).2.2.1 ?_
      show Steps p.tables e below (T.setTop (mkF m 169 #[.val (.int x0)] [])) _
      refine XS.iconst X.here hx rfl (hb hby d2_169) ?_
      show Steps p.tables e below (T.setTop (mkF m 170 #[.val (.int x0)] [(.int (0 : Int32))])) _
      subst hz
      exact retN X hx hret (by simp) (hb hby d2_170) hl
def f2_139 (x0 : Int32) : Int32 := if x0 < (8592 : Int32) then f2_155 x0 else (if (11263 : Int32) < x0 then f2_155 x0 else nar .boolean (0 : Int32))
theorem b2_139 {p : Program} {l : Launch} {e : Env} {R : Room} {s : State} {m : MethodId} {args : Array Value} {below : List Frame} {meth : Method} {c : Code} {T : State} {locs : List Loc} {cells slots : Nat} (X : Stand p l e R s m args below meth c T locs cells slots) (hx : p.tables.exec = Jvm.exec) (hby : c.code = method_2_code) (hown : s.vm.findClass "com/example/twyg/twyg/xml/XmlCharactersIsNameStartPinLaw" = some m.cls) (hret : meth.sig.returnType = some .boolean) {fs : List Frame} {z : Int32} (hl : ∀ (f : JFrame) (acts : List Action), f.method = m → f.locked = none → f.entered = [] → (doReturn e (T.setTop f) acts (some (.int z))).1 = T.setFrames fs) (k7 : (Jvm.Cond.constant "com/example/twyg/twyg/xml/XmlCharactersIsNameStartPinLaw" 7 (983039 : Int32)).before args s = true) (k8 : (Jvm.Cond.constant "com/example/twyg/twyg/xml/XmlCharactersIsNameStartPinLaw" 8 (55296 : Int32)).before args s = true) (k9 : (Jvm.Cond.constant "com/example/twyg/twyg/xml/XmlCharactersIsNameStartPinLaw" 9 (63743 : Int32)).before args s = true) (k10 : (Jvm.Cond.constant "com/example/twyg/twyg/xml/XmlCharactersIsNameStartPinLaw" 10 (64976 : Int32)).before args s = true) (k11 : (Jvm.Cond.constant "com/example/twyg/twyg/xml/XmlCharactersIsNameStartPinLaw" 11 (65007 : Int32)).before args s = true) (k12 : (Jvm.Cond.constant "com/example/twyg/twyg/xml/XmlCharactersIsNameStartPinLaw" 12 (65534 : Int32)).before args s = true) (k13 : (Jvm.Cond.constant "com/example/twyg/twyg/xml/XmlCharactersIsNameStartPinLaw" 13 (65535 : Int32)).before args s = true) (x0 : Int32) (hz : f2_139 x0 = z) :
    Steps p.tables e below (T.setTop (mkF m 139 #[.val (.int x0)] [])) (T.setFrames fs) := by
  unfold f2_139 at hz
  refine XS.iloadN X.here hx rfl (hb hby d2_139) rfl ?_
  show Steps p.tables e below (T.setTop (mkF m 140 #[.val (.int x0)] [(.int x0)])) _
  refine XS.sipush X.here hx rfl (hb hby d2_140) ?_
  show Steps p.tables e below (T.setTop (mkF m 143 #[.val (.int x0)] [(.int (8592 : Int32)), (.int x0)])) _
  by_cases h143 : x0 < (8592 : Int32)
  · rw [if_pos h143] at hz
    refine XS.icmpYes X.here hx rfl (pc0 := 143) (pc' := 155) rfl (hb hby d2_143) rfl (tlt h143).1 (by decide) (by decide) ?_
    show Steps p.tables e below (T.setTop (mkF m 155 #[.val (.int x0)] [])) _
    exact b2_155 X hx hby hown hret hl k7 k8 k9 k10 k11 k12 k13 x0  hz
  · rw [if_neg h143] at hz
    refine XS.icmpNo X.here hx rfl (hb hby d2_143) rfl (flt h143).1 ?_
    show Steps p.tables e below (T.setTop (mkF m 146 #[.val (.int x0)] [])) _
    refine XS.iloadN X.here hx rfl (hb hby d2_146) rfl ?_
    show Steps p.tables e below (T.setTop (mkF m 147 #[.val (.int x0)] [(.int x0)])) _
    refine XS.sipush X.here hx rfl (hb hby d2_147) ?_
    show Steps p.tables e below (T.setTop (mkF m 150 #[.val (.int x0)] [(.int (11263 : Int32)), (.int x0)])) _
    by_cases h150 : (11263 : Int32) < x0
    · rw [if_pos h150] at hz
      refine XS.icmpYes X.here hx rfl (pc0 := 150) (pc' := 155) rfl (hb hby d2_150) rfl (tlt h150).2.2.1 (by decide) (by decide) ?_
      show Steps p.tables e below (T.setTop (mkF m 155 #[.val (.int x0)] [])) _
      exact b2_155 X hx hby hown hret hl k7 k8 k9 k10 k11 k12 k13 x0  hz
    · rw [if_neg h150] at hz
      refine XS.icmpNo X.here hx rfl (hb hby d2_150) rfl (flt h150).2.2.1 ?_
      show Steps p.tables e below (T.setTop (mkF m 153 #[.val (.int x0)] [])) _
      refine XS.iconst X.here hx rfl (hb hby d2_153) ?_
      show Steps p.tables e below (T.setTop (mkF m 154 #[.val (.int x0)] [(.int (0 : Int32))])) _
      subst hz
      exact retN X hx hret (by simp) (hb hby d2_154) hl
def f2_123 (x0 : Int32) : Int32 := if x0 < (8206 : Int32) then f2_139 x0 else (if (8303 : Int32) < x0 then f2_139 x0 else nar .boolean (0 : Int32))
theorem b2_123 {p : Program} {l : Launch} {e : Env} {R : Room} {s : State} {m : MethodId} {args : Array Value} {below : List Frame} {meth : Method} {c : Code} {T : State} {locs : List Loc} {cells slots : Nat} (X : Stand p l e R s m args below meth c T locs cells slots) (hx : p.tables.exec = Jvm.exec) (hby : c.code = method_2_code) (hown : s.vm.findClass "com/example/twyg/twyg/xml/XmlCharactersIsNameStartPinLaw" = some m.cls) (hret : meth.sig.returnType = some .boolean) {fs : List Frame} {z : Int32} (hl : ∀ (f : JFrame) (acts : List Action), f.method = m → f.locked = none → f.entered = [] → (doReturn e (T.setTop f) acts (some (.int z))).1 = T.setFrames fs) (k7 : (Jvm.Cond.constant "com/example/twyg/twyg/xml/XmlCharactersIsNameStartPinLaw" 7 (983039 : Int32)).before args s = true) (k8 : (Jvm.Cond.constant "com/example/twyg/twyg/xml/XmlCharactersIsNameStartPinLaw" 8 (55296 : Int32)).before args s = true) (k9 : (Jvm.Cond.constant "com/example/twyg/twyg/xml/XmlCharactersIsNameStartPinLaw" 9 (63743 : Int32)).before args s = true) (k10 : (Jvm.Cond.constant "com/example/twyg/twyg/xml/XmlCharactersIsNameStartPinLaw" 10 (64976 : Int32)).before args s = true) (k11 : (Jvm.Cond.constant "com/example/twyg/twyg/xml/XmlCharactersIsNameStartPinLaw" 11 (65007 : Int32)).before args s = true) (k12 : (Jvm.Cond.constant "com/example/twyg/twyg/xml/XmlCharactersIsNameStartPinLaw" 12 (65534 : Int32)).before args s = true) (k13 : (Jvm.Cond.constant "com/example/twyg/twyg/xml/XmlCharactersIsNameStartPinLaw" 13 (65535 : Int32)).before args s = true) (x0 : Int32) (hz : f2_123 x0 = z) :
    Steps p.tables e below (T.setTop (mkF m 123 #[.val (.int x0)] [])) (T.setFrames fs) := by
  unfold f2_123 at hz
  refine XS.iloadN X.here hx rfl (hb hby d2_123) rfl ?_
  show Steps p.tables e below (T.setTop (mkF m 124 #[.val (.int x0)] [(.int x0)])) _
  refine XS.sipush X.here hx rfl (hb hby d2_124) ?_
  show Steps p.tables e below (T.setTop (mkF m 127 #[.val (.int x0)] [(.int (8206 : Int32)), (.int x0)])) _
  by_cases h127 : x0 < (8206 : Int32)
  · rw [if_pos h127] at hz
    refine XS.icmpYes X.here hx rfl (pc0 := 127) (pc' := 139) rfl (hb hby d2_127) rfl (tlt h127).1 (by decide) (by decide) ?_
    show Steps p.tables e below (T.setTop (mkF m 139 #[.val (.int x0)] [])) _
    exact b2_139 X hx hby hown hret hl k7 k8 k9 k10 k11 k12 k13 x0  hz
  · rw [if_neg h127] at hz
    refine XS.icmpNo X.here hx rfl (hb hby d2_127) rfl (flt h127).1 ?_
    show Steps p.tables e below (T.setTop (mkF m 130 #[.val (.int x0)] [])) _
    refine XS.iloadN X.here hx rfl (hb hby d2_130) rfl ?_
    show Steps p.tables e below (T.setTop (mkF m 131 #[.val (.int x0)] [(.int x0)])) _
    refine XS.sipush X.here hx rfl (hb hby d2_131) ?_
    show Steps p.tables e below (T.setTop (mkF m 134 #[.val (.int x0)] [(.int (8303 : Int32)), (.int x0)])) _
    by_cases h134 : (8303 : Int32) < x0
    · rw [if_pos h134] at hz
      refine XS.icmpYes X.here hx rfl (pc0 := 134) (pc' := 139) rfl (hb hby d2_134) rfl (tlt h134).2.2.1 (by decide) (by decide) ?_
      show Steps p.tables e below (T.setTop (mkF m 139 #[.val (.int x0)] [])) _
      exact b2_139 X hx hby hown hret hl k7 k8 k9 k10 k11 k12 k13 x0  hz
    · rw [if_neg h134] at hz
      refine XS.icmpNo X.here hx rfl (hb hby d2_134) rfl (flt h134).2.2.1 ?_
      show Steps p.tables e below (T.setTop (mkF m 137 #[.val (.int x0)] [])) _
      refine XS.iconst X.here hx rfl (hb hby d2_137) ?_
      show Steps p.tables e below (T.setTop (mkF m 138 #[.val (.int x0)] [(.int (0 : Int32))])) _
      subst hz
      exact retN X hx hret (by simp) (hb hby d2_138) hl
def f2_98 (x0 : Int32) : Int32 := if x0 = (894 : Int32) then nar .boolean (0 : Int32) else (if x0 < (8192 : Int32) then f2_123 x0 else (if (8203 : Int32) < x0 then f2_123 x0 else nar .boolean (0 : Int32)))
theorem b2_98 {p : Program} {l : Launch} {e : Env} {R : Room} {s : State} {m : MethodId} {args : Array Value} {below : List Frame} {meth : Method} {c : Code} {T : State} {locs : List Loc} {cells slots : Nat} (X : Stand p l e R s m args below meth c T locs cells slots) (hx : p.tables.exec = Jvm.exec) (hby : c.code = method_2_code) (hown : s.vm.findClass "com/example/twyg/twyg/xml/XmlCharactersIsNameStartPinLaw" = some m.cls) (hret : meth.sig.returnType = some .boolean) {fs : List Frame} {z : Int32} (hl : ∀ (f : JFrame) (acts : List Action), f.method = m → f.locked = none → f.entered = [] → (doReturn e (T.setTop f) acts (some (.int z))).1 = T.setFrames fs) (k7 : (Jvm.Cond.constant "com/example/twyg/twyg/xml/XmlCharactersIsNameStartPinLaw" 7 (983039 : Int32)).before args s = true) (k8 : (Jvm.Cond.constant "com/example/twyg/twyg/xml/XmlCharactersIsNameStartPinLaw" 8 (55296 : Int32)).before args s = true) (k9 : (Jvm.Cond.constant "com/example/twyg/twyg/xml/XmlCharactersIsNameStartPinLaw" 9 (63743 : Int32)).before args s = true) (k10 : (Jvm.Cond.constant "com/example/twyg/twyg/xml/XmlCharactersIsNameStartPinLaw" 10 (64976 : Int32)).before args s = true) (k11 : (Jvm.Cond.constant "com/example/twyg/twyg/xml/XmlCharactersIsNameStartPinLaw" 11 (65007 : Int32)).before args s = true) (k12 : (Jvm.Cond.constant "com/example/twyg/twyg/xml/XmlCharactersIsNameStartPinLaw" 12 (65534 : Int32)).before args s = true) (k13 : (Jvm.Cond.constant "com/example/twyg/twyg/xml/XmlCharactersIsNameStartPinLaw" 13 (65535 : Int32)).before args s = true) (x0 : Int32) (hz : f2_98 x0 = z) :
    Steps p.tables e below (T.setTop (mkF m 98 #[.val (.int x0)] [])) (T.setFrames fs) := by
  unfold f2_98 at hz
  refine XS.iloadN X.here hx rfl (hb hby d2_98) rfl ?_
  show Steps p.tables e below (T.setTop (mkF m 99 #[.val (.int x0)] [(.int x0)])) _
  refine XS.sipush X.here hx rfl (hb hby d2_99) ?_
  show Steps p.tables e below (T.setTop (mkF m 102 #[.val (.int x0)] [(.int (894 : Int32)), (.int x0)])) _
  by_cases h102 : x0 = (894 : Int32)
  · rw [if_pos h102] at hz
    refine XS.icmpNo X.here hx rfl (hb hby d2_102) rfl (teq h102).2 ?_
    show Steps p.tables e below (T.setTop (mkF m 105 #[.val (.int x0)] [])) _
    refine XS.iconst X.here hx rfl (hb hby d2_105) ?_
    show Steps p.tables e below (T.setTop (mkF m 106 #[.val (.int x0)] [(.int (0 : Int32))])) _
    subst hz
    exact retN X hx hret (by simp) (hb hby d2_106) hl
  · rw [if_neg h102] at hz
    refine XS.icmpYes X.here hx rfl (pc0 := 102) (pc' := 107) rfl (hb hby d2_102) rfl (feq h102).2 (by decide) (by decide) ?_
    show Steps p.tables e below (T.setTop (mkF m 107 #[.val (.int x0)] [])) _
    refine XS.iloadN X.here hx rfl (hb hby d2_107) rfl ?_
    show Steps p.tables e below (T.setTop (mkF m 108 #[.val (.int x0)] [(.int x0)])) _
    refine XS.sipush X.here hx rfl (hb hby d2_108) ?_
    show Steps p.tables e below (T.setTop (mkF m 111 #[.val (.int x0)] [(.int (8192 : Int32)), (.int x0)])) _
    by_cases h111 : x0 < (8192 : Int32)
    · rw [if_pos h111] at hz
      refine XS.icmpYes X.here hx rfl (pc0 := 111) (pc' := 123) rfl (hb hby d2_111) rfl (tlt h111).1 (by decide) (by decide) ?_
      show Steps p.tables e below (T.setTop (mkF m 123 #[.val (.int x0)] [])) _
      exact b2_123 X hx hby hown hret hl k7 k8 k9 k10 k11 k12 k13 x0  hz
    · rw [if_neg h111] at hz
      refine XS.icmpNo X.here hx rfl (hb hby d2_111) rfl (flt h111).1 ?_
      show Steps p.tables e below (T.setTop (mkF m 114 #[.val (.int x0)] [])) _
      refine XS.iloadN X.here hx rfl (hb hby d2_114) rfl ?_
      show Steps p.tables e below (T.setTop (mkF m 115 #[.val (.int x0)] [(.int x0)])) _
      refine XS.sipush X.here hx rfl (hb hby d2_115) ?_
      show Steps p.tables e below (T.setTop (mkF m 118 #[.val (.int x0)] [(.int (8203 : Int32)), (.int x0)])) _
      by_cases h118 : (8203 : Int32) < x0
      · rw [if_pos h118] at hz
        refine XS.icmpYes X.here hx rfl (pc0 := 118) (pc' := 123) rfl (hb hby d2_118) rfl (tlt h118).2.2.1 (by decide) (by decide) ?_
        show Steps p.tables e below (T.setTop (mkF m 123 #[.val (.int x0)] [])) _
        exact b2_123 X hx hby hown hret hl k7 k8 k9 k10 k11 k12 k13 x0  hz
      · rw [if_neg h118] at hz
        refine XS.icmpNo X.here hx rfl (hb hby d2_118) rfl (flt h118).2.2.1 ?_
        show Steps p.tables e below (T.setTop (mkF m 121 #[.val (.int x0)] [])) _
        refine XS.iconst X.here hx rfl (hb hby d2_121) ?_
        show Steps p.tables e below (T.setTop (mkF m 122 #[.val (.int x0)] [(.int (0 : Int32))])) _
        subst hz
        exact retN X hx hret (by simp) (hb hby d2_122) hl
def f2_80 (x0 : Int32) : Int32 := nar .boolean (0 : Int32)
theorem b2_80 {p : Program} {l : Launch} {e : Env} {R : Room} {s : State} {m : MethodId} {args : Array Value} {below : List Frame} {meth : Method} {c : Code} {T : State} {locs : List Loc} {cells slots : Nat} (X : Stand p l e R s m args below meth c T locs cells slots) (hx : p.tables.exec = Jvm.exec) (hby : c.code = method_2_code) (hown : s.vm.findClass "com/example/twyg/twyg/xml/XmlCharactersIsNameStartPinLaw" = some m.cls) (hret : meth.sig.returnType = some .boolean) {fs : List Frame} {z : Int32} (hl : ∀ (f : JFrame) (acts : List Action), f.method = m → f.locked = none → f.entered = [] → (doReturn e (T.setTop f) acts (some (.int z))).1 = T.setFrames fs) (k7 : (Jvm.Cond.constant "com/example/twyg/twyg/xml/XmlCharactersIsNameStartPinLaw" 7 (983039 : Int32)).before args s = true) (k8 : (Jvm.Cond.constant "com/example/twyg/twyg/xml/XmlCharactersIsNameStartPinLaw" 8 (55296 : Int32)).before args s = true) (k9 : (Jvm.Cond.constant "com/example/twyg/twyg/xml/XmlCharactersIsNameStartPinLaw" 9 (63743 : Int32)).before args s = true) (k10 : (Jvm.Cond.constant "com/example/twyg/twyg/xml/XmlCharactersIsNameStartPinLaw" 10 (64976 : Int32)).before args s = true) (k11 : (Jvm.Cond.constant "com/example/twyg/twyg/xml/XmlCharactersIsNameStartPinLaw" 11 (65007 : Int32)).before args s = true) (k12 : (Jvm.Cond.constant "com/example/twyg/twyg/xml/XmlCharactersIsNameStartPinLaw" 12 (65534 : Int32)).before args s = true) (k13 : (Jvm.Cond.constant "com/example/twyg/twyg/xml/XmlCharactersIsNameStartPinLaw" 13 (65535 : Int32)).before args s = true) (x0 : Int32) (hz : f2_80 x0 = z) :
    Steps p.tables e below (T.setTop (mkF m 80 #[.val (.int x0)] [])) (T.setFrames fs) := by
  unfold f2_80 at hz
  refine XS.iconst X.here hx rfl (hb hby d2_80) ?_
  show Steps p.tables e below (T.setTop (mkF m 81 #[.val (.int x0)] [(.int (0 : Int32))])) _
  subst hz
  exact retN X hx hret (by simp) (hb hby d2_81) hl
def f2_48 (x0 : Int32) (y0 : Int32) : Int32 := nar .boolean y0
theorem b2_48 {p : Program} {l : Launch} {e : Env} {R : Room} {s : State} {m : MethodId} {args : Array Value} {below : List Frame} {meth : Method} {c : Code} {T : State} {locs : List Loc} {cells slots : Nat} (X : Stand p l e R s m args below meth c T locs cells slots) (hx : p.tables.exec = Jvm.exec) (hby : c.code = method_2_code) (hown : s.vm.findClass "com/example/twyg/twyg/xml/XmlCharactersIsNameStartPinLaw" = some m.cls) (hret : meth.sig.returnType = some .boolean) {fs : List Frame} {z : Int32} (hl : ∀ (f : JFrame) (acts : List Action), f.method = m → f.locked = none → f.entered = [] → (doReturn e (T.setTop f) acts (some (.int z))).1 = T.setFrames fs) (k7 : (Jvm.Cond.constant "com/example/twyg/twyg/xml/XmlCharactersIsNameStartPinLaw" 7 (983039 : Int32)).before args s = true) (k8 : (Jvm.Cond.constant "com/example/twyg/twyg/xml/XmlCharactersIsNameStartPinLaw" 8 (55296 : Int32)).before args s = true) (k9 : (Jvm.Cond.constant "com/example/twyg/twyg/xml/XmlCharactersIsNameStartPinLaw" 9 (63743 : Int32)).before args s = true) (k10 : (Jvm.Cond.constant "com/example/twyg/twyg/xml/XmlCharactersIsNameStartPinLaw" 10 (64976 : Int32)).before args s = true) (k11 : (Jvm.Cond.constant "com/example/twyg/twyg/xml/XmlCharactersIsNameStartPinLaw" 11 (65007 : Int32)).before args s = true) (k12 : (Jvm.Cond.constant "com/example/twyg/twyg/xml/XmlCharactersIsNameStartPinLaw" 12 (65534 : Int32)).before args s = true) (k13 : (Jvm.Cond.constant "com/example/twyg/twyg/xml/XmlCharactersIsNameStartPinLaw" 13 (65535 : Int32)).before args s = true) (x0 : Int32) (y0 : Int32) (hz : f2_48 x0 y0 = z) :
    Steps p.tables e below (T.setTop (mkF m 48 #[.val (.int x0)] [(.int y0)])) (T.setFrames fs) := by
  unfold f2_48 at hz
  subst hz
  exact retN X hx hret (by simp) (hb hby d2_48) hl
def f2_43 (x0 : Int32) : Int32 := f2_48 x0 (1 : Int32)
theorem b2_43 {p : Program} {l : Launch} {e : Env} {R : Room} {s : State} {m : MethodId} {args : Array Value} {below : List Frame} {meth : Method} {c : Code} {T : State} {locs : List Loc} {cells slots : Nat} (X : Stand p l e R s m args below meth c T locs cells slots) (hx : p.tables.exec = Jvm.exec) (hby : c.code = method_2_code) (hown : s.vm.findClass "com/example/twyg/twyg/xml/XmlCharactersIsNameStartPinLaw" = some m.cls) (hret : meth.sig.returnType = some .boolean) {fs : List Frame} {z : Int32} (hl : ∀ (f : JFrame) (acts : List Action), f.method = m → f.locked = none → f.entered = [] → (doReturn e (T.setTop f) acts (some (.int z))).1 = T.setFrames fs) (k7 : (Jvm.Cond.constant "com/example/twyg/twyg/xml/XmlCharactersIsNameStartPinLaw" 7 (983039 : Int32)).before args s = true) (k8 : (Jvm.Cond.constant "com/example/twyg/twyg/xml/XmlCharactersIsNameStartPinLaw" 8 (55296 : Int32)).before args s = true) (k9 : (Jvm.Cond.constant "com/example/twyg/twyg/xml/XmlCharactersIsNameStartPinLaw" 9 (63743 : Int32)).before args s = true) (k10 : (Jvm.Cond.constant "com/example/twyg/twyg/xml/XmlCharactersIsNameStartPinLaw" 10 (64976 : Int32)).before args s = true) (k11 : (Jvm.Cond.constant "com/example/twyg/twyg/xml/XmlCharactersIsNameStartPinLaw" 11 (65007 : Int32)).before args s = true) (k12 : (Jvm.Cond.constant "com/example/twyg/twyg/xml/XmlCharactersIsNameStartPinLaw" 12 (65534 : Int32)).before args s = true) (k13 : (Jvm.Cond.constant "com/example/twyg/twyg/xml/XmlCharactersIsNameStartPinLaw" 13 (65535 : Int32)).before args s = true) (x0 : Int32) (hz : f2_43 x0 = z) :
    Steps p.tables e below (T.setTop (mkF m 43 #[.val (.int x0)] [])) (T.setFrames fs) := by
  unfold f2_43 at hz
  refine XS.iconst X.here hx rfl (hb hby d2_43) ?_
  show Steps p.tables e below (T.setTop (mkF m 44 #[.val (.int x0)] [(.int (1 : Int32))])) _
  refine XS.goto X.here hx rfl (pc0 := 44) (pc' := 48) rfl (hb hby d2_44) (by decide) (by decide) ?_
  show Steps p.tables e below (T.setTop (mkF m 48 #[.val (.int x0)] [(.int (1 : Int32))])) _
  exact b2_48 X hx hby hown hret hl k7 k8 k9 k10 k11 k12 k13 x0 (1 : Int32)  hz
def f2_37 (x0 : Int32) : Int32 := if x0 = (95 : Int32) then f2_43 x0 else f2_48 x0 (0 : Int32)
theorem b2_37 {p : Program} {l : Launch} {e : Env} {R : Room} {s : State} {m : MethodId} {args : Array Value} {below : List Frame} {meth : Method} {c : Code} {T : State} {locs : List Loc} {cells slots : Nat} (X : Stand p l e R s m args below meth c T locs cells slots) (hx : p.tables.exec = Jvm.exec) (hby : c.code = method_2_code) (hown : s.vm.findClass "com/example/twyg/twyg/xml/XmlCharactersIsNameStartPinLaw" = some m.cls) (hret : meth.sig.returnType = some .boolean) {fs : List Frame} {z : Int32} (hl : ∀ (f : JFrame) (acts : List Action), f.method = m → f.locked = none → f.entered = [] → (doReturn e (T.setTop f) acts (some (.int z))).1 = T.setFrames fs) (k7 : (Jvm.Cond.constant "com/example/twyg/twyg/xml/XmlCharactersIsNameStartPinLaw" 7 (983039 : Int32)).before args s = true) (k8 : (Jvm.Cond.constant "com/example/twyg/twyg/xml/XmlCharactersIsNameStartPinLaw" 8 (55296 : Int32)).before args s = true) (k9 : (Jvm.Cond.constant "com/example/twyg/twyg/xml/XmlCharactersIsNameStartPinLaw" 9 (63743 : Int32)).before args s = true) (k10 : (Jvm.Cond.constant "com/example/twyg/twyg/xml/XmlCharactersIsNameStartPinLaw" 10 (64976 : Int32)).before args s = true) (k11 : (Jvm.Cond.constant "com/example/twyg/twyg/xml/XmlCharactersIsNameStartPinLaw" 11 (65007 : Int32)).before args s = true) (k12 : (Jvm.Cond.constant "com/example/twyg/twyg/xml/XmlCharactersIsNameStartPinLaw" 12 (65534 : Int32)).before args s = true) (k13 : (Jvm.Cond.constant "com/example/twyg/twyg/xml/XmlCharactersIsNameStartPinLaw" 13 (65535 : Int32)).before args s = true) (x0 : Int32) (hz : f2_37 x0 = z) :
    Steps p.tables e below (T.setTop (mkF m 37 #[.val (.int x0)] [])) (T.setFrames fs) := by
  unfold f2_37 at hz
  refine XS.iloadN X.here hx rfl (hb hby d2_37) rfl ?_
  show Steps p.tables e below (T.setTop (mkF m 38 #[.val (.int x0)] [(.int x0)])) _
  refine XS.bipush X.here hx rfl (hb hby d2_38) ?_
  show Steps p.tables e below (T.setTop (mkF m 40 #[.val (.int x0)] [(.int (95 : Int32)), (.int x0)])) _
  by_cases h40 : x0 = (95 : Int32)
  · rw [if_pos h40] at hz
    refine XS.icmpNo X.here hx rfl (hb hby d2_40) rfl (teq h40).2 ?_
    show Steps p.tables e below (T.setTop (mkF m 43 #[.val (.int x0)] [])) _
    exact b2_43 X hx hby hown hret hl k7 k8 k9 k10 k11 k12 k13 x0  hz
  · rw [if_neg h40] at hz
    refine XS.icmpYes X.here hx rfl (pc0 := 40) (pc' := 47) rfl (hb hby d2_40) rfl (feq h40).2 (by decide) (by decide) ?_
    show Steps p.tables e below (T.setTop (mkF m 47 #[.val (.int x0)] [])) _
    refine XS.iconst X.here hx rfl (hb hby d2_47) ?_
    show Steps p.tables e below (T.setTop (mkF m 48 #[.val (.int x0)] [(.int (0 : Int32))])) _
    exact b2_48 X hx hby hown hret hl k7 k8 k9 k10 k11 k12 k13 x0 (0 : Int32)  hz
def f2_25 (x0 : Int32) : Int32 := if x0 < (97 : Int32) then f2_37 x0 else (if (122 : Int32) < x0 then f2_37 x0 else f2_43 x0)
theorem b2_25 {p : Program} {l : Launch} {e : Env} {R : Room} {s : State} {m : MethodId} {args : Array Value} {below : List Frame} {meth : Method} {c : Code} {T : State} {locs : List Loc} {cells slots : Nat} (X : Stand p l e R s m args below meth c T locs cells slots) (hx : p.tables.exec = Jvm.exec) (hby : c.code = method_2_code) (hown : s.vm.findClass "com/example/twyg/twyg/xml/XmlCharactersIsNameStartPinLaw" = some m.cls) (hret : meth.sig.returnType = some .boolean) {fs : List Frame} {z : Int32} (hl : ∀ (f : JFrame) (acts : List Action), f.method = m → f.locked = none → f.entered = [] → (doReturn e (T.setTop f) acts (some (.int z))).1 = T.setFrames fs) (k7 : (Jvm.Cond.constant "com/example/twyg/twyg/xml/XmlCharactersIsNameStartPinLaw" 7 (983039 : Int32)).before args s = true) (k8 : (Jvm.Cond.constant "com/example/twyg/twyg/xml/XmlCharactersIsNameStartPinLaw" 8 (55296 : Int32)).before args s = true) (k9 : (Jvm.Cond.constant "com/example/twyg/twyg/xml/XmlCharactersIsNameStartPinLaw" 9 (63743 : Int32)).before args s = true) (k10 : (Jvm.Cond.constant "com/example/twyg/twyg/xml/XmlCharactersIsNameStartPinLaw" 10 (64976 : Int32)).before args s = true) (k11 : (Jvm.Cond.constant "com/example/twyg/twyg/xml/XmlCharactersIsNameStartPinLaw" 11 (65007 : Int32)).before args s = true) (k12 : (Jvm.Cond.constant "com/example/twyg/twyg/xml/XmlCharactersIsNameStartPinLaw" 12 (65534 : Int32)).before args s = true) (k13 : (Jvm.Cond.constant "com/example/twyg/twyg/xml/XmlCharactersIsNameStartPinLaw" 13 (65535 : Int32)).before args s = true) (x0 : Int32) (hz : f2_25 x0 = z) :
    Steps p.tables e below (T.setTop (mkF m 25 #[.val (.int x0)] [])) (T.setFrames fs) := by
  unfold f2_25 at hz
  refine XS.iloadN X.here hx rfl (hb hby d2_25) rfl ?_
  show Steps p.tables e below (T.setTop (mkF m 26 #[.val (.int x0)] [(.int x0)])) _
  refine XS.bipush X.here hx rfl (hb hby d2_26) ?_
  show Steps p.tables e below (T.setTop (mkF m 28 #[.val (.int x0)] [(.int (97 : Int32)), (.int x0)])) _
  by_cases h28 : x0 < (97 : Int32)
  · rw [if_pos h28] at hz
    refine XS.icmpYes X.here hx rfl (pc0 := 28) (pc' := 37) rfl (hb hby d2_28) rfl (tlt h28).1 (by decide) (by decide) ?_
    show Steps p.tables e below (T.setTop (mkF m 37 #[.val (.int x0)] [])) _
    exact b2_37 X hx hby hown hret hl k7 k8 k9 k10 k11 k12 k13 x0  hz
  · rw [if_neg h28] at hz
    refine XS.icmpNo X.here hx rfl (hb hby d2_28) rfl (flt h28).1 ?_
    show Steps p.tables e below (T.setTop (mkF m 31 #[.val (.int x0)] [])) _
    refine XS.iloadN X.here hx rfl (hb hby d2_31) rfl ?_
    show Steps p.tables e below (T.setTop (mkF m 32 #[.val (.int x0)] [(.int x0)])) _
    refine XS.bipush X.here hx rfl (hb hby d2_32) ?_
    show Steps p.tables e below (T.setTop (mkF m 34 #[.val (.int x0)] [(.int (122 : Int32)), (.int x0)])) _
    by_cases h34 : (122 : Int32) < x0
    · rw [if_pos h34] at hz
      refine XS.icmpNo X.here hx rfl (hb hby d2_34) rfl (tlt h34).2.2.2 ?_
      show Steps p.tables e below (T.setTop (mkF m 37 #[.val (.int x0)] [])) _
      exact b2_37 X hx hby hown hret hl k7 k8 k9 k10 k11 k12 k13 x0  hz
    · rw [if_neg h34] at hz
      refine XS.icmpYes X.here hx rfl (pc0 := 34) (pc' := 43) rfl (hb hby d2_34) rfl (flt h34).2.2.2 (by decide) (by decide) ?_
      show Steps p.tables e below (T.setTop (mkF m 43 #[.val (.int x0)] [])) _
      exact b2_43 X hx hby hown hret hl k7 k8 k9 k10 k11 k12 k13 x0  hz
def f2_0 (x0 : Int32) : Int32 := if x0 < (0 : Int32) then nar .boolean (0 : Int32) else (if x0 < (128 : Int32) then (if x0 < (65 : Int32) then f2_25 x0 else (if (90 : Int32) < x0 then f2_25 x0 else f2_43 x0)) else (if (983039 : Int32) < x0 then nar .boolean (0 : Int32) else (if x0 < (192 : Int32) then nar .boolean (0 : Int32) else (if x0 = (215 : Int32) then f2_80 x0 else (if x0 = (247 : Int32) then f2_80 x0 else (if x0 < (768 : Int32) then f2_98 x0 else (if (879 : Int32) < x0 then f2_98 x0 else nar .boolean (0 : Int32))))))))
theorem b2_0 {p : Program} {l : Launch} {e : Env} {R : Room} {s : State} {m : MethodId} {args : Array Value} {below : List Frame} {meth : Method} {c : Code} {T : State} {locs : List Loc} {cells slots : Nat} (X : Stand p l e R s m args below meth c T locs cells slots) (hx : p.tables.exec = Jvm.exec) (hby : c.code = method_2_code) (hown : s.vm.findClass "com/example/twyg/twyg/xml/XmlCharactersIsNameStartPinLaw" = some m.cls) (hret : meth.sig.returnType = some .boolean) {fs : List Frame} {z : Int32} (hl : ∀ (f : JFrame) (acts : List Action), f.method = m → f.locked = none → f.entered = [] → (doReturn e (T.setTop f) acts (some (.int z))).1 = T.setFrames fs) (k7 : (Jvm.Cond.constant "com/example/twyg/twyg/xml/XmlCharactersIsNameStartPinLaw" 7 (983039 : Int32)).before args s = true) (k8 : (Jvm.Cond.constant "com/example/twyg/twyg/xml/XmlCharactersIsNameStartPinLaw" 8 (55296 : Int32)).before args s = true) (k9 : (Jvm.Cond.constant "com/example/twyg/twyg/xml/XmlCharactersIsNameStartPinLaw" 9 (63743 : Int32)).before args s = true) (k10 : (Jvm.Cond.constant "com/example/twyg/twyg/xml/XmlCharactersIsNameStartPinLaw" 10 (64976 : Int32)).before args s = true) (k11 : (Jvm.Cond.constant "com/example/twyg/twyg/xml/XmlCharactersIsNameStartPinLaw" 11 (65007 : Int32)).before args s = true) (k12 : (Jvm.Cond.constant "com/example/twyg/twyg/xml/XmlCharactersIsNameStartPinLaw" 12 (65534 : Int32)).before args s = true) (k13 : (Jvm.Cond.constant "com/example/twyg/twyg/xml/XmlCharactersIsNameStartPinLaw" 13 (65535 : Int32)).before args s = true) (x0 : Int32) (hz : f2_0 x0 = z) :
    Steps p.tables e below (T.setTop (mkF m 0 #[.val (.int x0)] [])) (T.setFrames fs) := by
  unfold f2_0 at hz
  refine XS.iloadN X.here hx rfl (hb hby d2_0) rfl ?_
  show Steps p.tables e below (T.setTop (mkF m 1 #[.val (.int x0)] [(.int x0)])) _
  by_cases h1 : x0 < (0 : Int32)
  · rw [if_pos h1] at hz
    refine XS.ifNo X.here hx rfl (hb hby d2_1) rfl ((if0 _ _).trans (tlt h1).2.1) ?_
    show Steps p.tables e below (T.setTop (mkF m 4 #[.val (.int x0)] [])) _
    refine XS.iconst X.here hx rfl (hb hby d2_4) ?_
    show Steps p.tables e below (T.setTop (mkF m 5 #[.val (.int x0)] [(.int (0 : Int32))])) _
    subst hz
    exact retN X hx hret (by simp) (hb hby d2_5) hl
  · rw [if_neg h1] at hz
    refine XS.ifYes X.here hx rfl (pc0 := 1) (pc' := 6) rfl (hb hby d2_1) rfl ((if0 _ _).trans (flt h1).2.1) (by decide) (by decide) ?_
    show Steps p.tables e below (T.setTop (mkF m 6 #[.val (.int x0)] [])) _
    refine XS.iloadN X.here hx rfl (hb hby d2_6) rfl ?_
    show Steps p.tables e below (T.setTop (mkF m 7 #[.val (.int x0)] [(.int x0)])) _
    refine XS.sipush X.here hx rfl (hb hby d2_7) ?_
    show Steps p.tables e below (T.setTop (mkF m 10 #[.val (.int x0)] [(.int (128 : Int32)), (.int x0)])) _
    by_cases h10 : x0 < (128 : Int32)
    · rw [if_pos h10] at hz
      refine XS.icmpNo X.here hx rfl (hb hby d2_10) rfl (tlt h10).2.1 ?_
      show Steps p.tables e below (T.setTop (mkF m 13 #[.val (.int x0)] [])) _
      refine XS.iloadN X.here hx rfl (hb hby d2_13) rfl ?_
      show Steps p.tables e below (T.setTop (mkF m 14 #[.val (.int x0)] [(.int x0)])) _
      refine XS.bipush X.here hx rfl (hb hby d2_14) ?_
      show Steps p.tables e below (T.setTop (mkF m 16 #[.val (.int x0)] [(.int (65 : Int32)), (.int x0)])) _
      by_cases h16 : x0 < (65 : Int32)
      · rw [if_pos h16] at hz
        refine XS.icmpYes X.here hx rfl (pc0 := 16) (pc' := 25) rfl (hb hby d2_16) rfl (tlt h16).1 (by decide) (by decide) ?_
        show Steps p.tables e below (T.setTop (mkF m 25 #[.val (.int x0)] [])) _
        exact b2_25 X hx hby hown hret hl k7 k8 k9 k10 k11 k12 k13 x0  hz
      · rw [if_neg h16] at hz
        refine XS.icmpNo X.here hx rfl (hb hby d2_16) rfl (flt h16).1 ?_
        show Steps p.tables e below (T.setTop (mkF m 19 #[.val (.int x0)] [])) _
        refine XS.iloadN X.here hx rfl (hb hby d2_19) rfl ?_
        show Steps p.tables e below (T.setTop (mkF m 20 #[.val (.int x0)] [(.int x0)])) _
        refine XS.bipush X.here hx rfl (hb hby d2_20) ?_
        show Steps p.tables e below (T.setTop (mkF m 22 #[.val (.int x0)] [(.int (90 : Int32)), (.int x0)])) _
        by_cases h22 : (90 : Int32) < x0
        · rw [if_pos h22] at hz
          refine XS.icmpNo X.here hx rfl (hb hby d2_22) rfl (tlt h22).2.2.2 ?_
          show Steps p.tables e below (T.setTop (mkF m 25 #[.val (.int x0)] [])) _
          exact b2_25 X hx hby hown hret hl k7 k8 k9 k10 k11 k12 k13 x0  hz
        · rw [if_neg h22] at hz
          refine XS.icmpYes X.here hx rfl (pc0 := 22) (pc' := 43) rfl (hb hby d2_22) rfl (flt h22).2.2.2 (by decide) (by decide) ?_
          show Steps p.tables e below (T.setTop (mkF m 43 #[.val (.int x0)] [])) _
          exact b2_43 X hx hby hown hret hl k7 k8 k9 k10 k11 k12 k13 x0  hz
    · rw [if_neg h10] at hz
      refine XS.icmpYes X.here hx rfl (pc0 := 10) (pc' := 49) rfl (hb hby d2_10) rfl (flt h10).2.1 (by decide) (by decide) ?_
      show Steps p.tables e below (T.setTop (mkF m 49 #[.val (.int x0)] [])) _
      refine XS.iloadN X.here hx rfl (hb hby d2_49) rfl ?_
      show Steps p.tables e below (T.setTop (mkF m 50 #[.val (.int x0)] [(.int x0)])) _
      refine X.ldcInt hx hown k7 (g := (mkF m 50 #[.val (.int x0)] [(.int x0)])) rfl (hb hby d2_50) _ ?_
      show Steps p.tables e below (T.setTop (mkF m 52 #[.val (.int x0)] [(.int (983039 : Int32)), (.int x0)])) _
      by_cases h52 : (983039 : Int32) < x0
      · rw [if_pos h52] at hz
        refine XS.icmpNo X.here hx rfl (hb hby d2_52) rfl (tlt h52).2.2.2 ?_
        show Steps p.tables e below (T.setTop (mkF m 55 #[.val (.int x0)] [])) _
        refine XS.iconst X.here hx rfl (hb hby d2_55) ?_
        show Steps p.tables e below (T.setTop (mkF m 56 #[.val (.int x0)] [(.int (0 : Int32))])) _
        subst hz
        exact retN X hx hret (by simp) (hb hby d2_56) hl
      · rw [if_neg h52] at hz
        refine XS.icmpYes X.here hx rfl (pc0 := 52) (pc' := 57) rfl (hb hby d2_52) rfl (flt h52).2.2.2 (by decide) (by decide) ?_
        show Steps p.tables e below (T.setTop (mkF m 57 #[.val (.int x0)] [])) _
        refine XS.iloadN X.here hx rfl (hb hby d2_57) rfl ?_
        show Steps p.tables e below (T.setTop (mkF m 58 #[.val (.int x0)] [(.int x0)])) _
        refine XS.sipush X.here hx rfl (hb hby d2_58) ?_
        show Steps p.tables e below (T.setTop (mkF m 61 #[.val (.int x0)] [(.int (192 : Int32)), (.int x0)])) _
        by_cases h61 : x0 < (192 : Int32)
        · rw [if_pos h61] at hz
          refine XS.icmpNo X.here hx rfl (hb hby d2_61) rfl (tlt h61).2.1 ?_
          show Steps p.tables e below (T.setTop (mkF m 64 #[.val (.int x0)] [])) _
          refine XS.iconst X.here hx rfl (hb hby d2_64) ?_
          show Steps p.tables e below (T.setTop (mkF m 65 #[.val (.int x0)] [(.int (0 : Int32))])) _
          subst hz
          exact retN X hx hret (by simp) (hb hby d2_65) hl
        · rw [if_neg h61] at hz
          refine XS.icmpYes X.here hx rfl (pc0 := 61) (pc' := 66) rfl (hb hby d2_61) rfl (flt h61).2.1 (by decide) (by decide) ?_
          show Steps p.tables e below (T.setTop (mkF m 66 #[.val (.int x0)] [])) _
          refine XS.iloadN X.here hx rfl (hb hby d2_66) rfl ?_
          show Steps p.tables e below (T.setTop (mkF m 67 #[.val (.int x0)] [(.int x0)])) _
          refine XS.sipush X.here hx rfl (hb hby d2_67) ?_
          show Steps p.tables e below (T.setTop (mkF m 70 #[.val (.int x0)] [(.int (215 : Int32)), (.int x0)])) _
          by_cases h70 : x0 = (215 : Int32)
          · rw [if_pos h70] at hz
            refine XS.icmpYes X.here hx rfl (pc0 := 70) (pc' := 80) rfl (hb hby d2_70) rfl (teq h70).1 (by decide) (by decide) ?_
            show Steps p.tables e below (T.setTop (mkF m 80 #[.val (.int x0)] [])) _
            exact b2_80 X hx hby hown hret hl k7 k8 k9 k10 k11 k12 k13 x0  hz
          · rw [if_neg h70] at hz
            refine XS.icmpNo X.here hx rfl (hb hby d2_70) rfl (feq h70).1 ?_
            show Steps p.tables e below (T.setTop (mkF m 73 #[.val (.int x0)] [])) _
            refine XS.iloadN X.here hx rfl (hb hby d2_73) rfl ?_
            show Steps p.tables e below (T.setTop (mkF m 74 #[.val (.int x0)] [(.int x0)])) _
            refine XS.sipush X.here hx rfl (hb hby d2_74) ?_
            show Steps p.tables e below (T.setTop (mkF m 77 #[.val (.int x0)] [(.int (247 : Int32)), (.int x0)])) _
            by_cases h77 : x0 = (247 : Int32)
            · rw [if_pos h77] at hz
              refine XS.icmpNo X.here hx rfl (hb hby d2_77) rfl (teq h77).2 ?_
              show Steps p.tables e below (T.setTop (mkF m 80 #[.val (.int x0)] [])) _
              exact b2_80 X hx hby hown hret hl k7 k8 k9 k10 k11 k12 k13 x0  hz
            · rw [if_neg h77] at hz
              refine XS.icmpYes X.here hx rfl (pc0 := 77) (pc' := 82) rfl (hb hby d2_77) rfl (feq h77).2 (by decide) (by decide) ?_
              show Steps p.tables e below (T.setTop (mkF m 82 #[.val (.int x0)] [])) _
              refine XS.iloadN X.here hx rfl (hb hby d2_82) rfl ?_
              show Steps p.tables e below (T.setTop (mkF m 83 #[.val (.int x0)] [(.int x0)])) _
              refine XS.sipush X.here hx rfl (hb hby d2_83) ?_
              show Steps p.tables e below (T.setTop (mkF m 86 #[.val (.int x0)] [(.int (768 : Int32)), (.int x0)])) _
              by_cases h86 : x0 < (768 : Int32)
              · rw [if_pos h86] at hz
                refine XS.icmpYes X.here hx rfl (pc0 := 86) (pc' := 98) rfl (hb hby d2_86) rfl (tlt h86).1 (by decide) (by decide) ?_
                show Steps p.tables e below (T.setTop (mkF m 98 #[.val (.int x0)] [])) _
                exact b2_98 X hx hby hown hret hl k7 k8 k9 k10 k11 k12 k13 x0  hz
              · rw [if_neg h86] at hz
                refine XS.icmpNo X.here hx rfl (hb hby d2_86) rfl (flt h86).1 ?_
                show Steps p.tables e below (T.setTop (mkF m 89 #[.val (.int x0)] [])) _
                refine XS.iloadN X.here hx rfl (hb hby d2_89) rfl ?_
                show Steps p.tables e below (T.setTop (mkF m 90 #[.val (.int x0)] [(.int x0)])) _
                refine XS.sipush X.here hx rfl (hb hby d2_90) ?_
                show Steps p.tables e below (T.setTop (mkF m 93 #[.val (.int x0)] [(.int (879 : Int32)), (.int x0)])) _
                by_cases h93 : (879 : Int32) < x0
                · rw [if_pos h93] at hz
                  refine XS.icmpYes X.here hx rfl (pc0 := 93) (pc' := 98) rfl (hb hby d2_93) rfl (tlt h93).2.2.1 (by decide) (by decide) ?_
                  show Steps p.tables e below (T.setTop (mkF m 98 #[.val (.int x0)] [])) _
                  exact b2_98 X hx hby hown hret hl k7 k8 k9 k10 k11 k12 k13 x0  hz
                · rw [if_neg h93] at hz
                  refine XS.icmpNo X.here hx rfl (hb hby d2_93) rfl (flt h93).2.2.1 ?_
                  show Steps p.tables e below (T.setTop (mkF m 96 #[.val (.int x0)] [])) _
                  refine XS.iconst X.here hx rfl (hb hby d2_96) ?_
                  show Steps p.tables e below (T.setTop (mkF m 97 #[.val (.int x0)] [(.int (0 : Int32))])) _
                  subst hz
                  exact retN X hx hret (by simp) (hb hby d2_97) hl
theorem ef_2 (m : MethodId) (p1 : Int32) : entryFrame m #[(.int p1)] 1 = mkF m 0 #[.val (.int p1)] [] := by first | (simp [entryFrame, mkF, argsToLocals, Value.category]; done) | rfl
def Q2 (p1 : Int32) (h0 : Heap) (n0 : Nat) (v : Option Value) (h : Heap) (L : List Loc) : Prop := v = some (.int (f2_0 p1)) ∧ Fr n0 L ∧ h = h0
set_option maxRecDepth 65536 in
set_option maxHeartbeats 40000000 in
theorem rm2 (l : Launch) (Z : State) (a0 : Array Value) (hw : ∀ d ∈ tables_1, d.before a0 Z = true) (ws : List Jvm.Cond) (p1 : Int32) (h0 : Heap) (n0 : Nat) :
    MetFree l (⟨"com/example/twyg/twyg/xml/XmlCharactersIsNameStartPinLaw", "ref", "(I)Z"⟩ : MethodName) (head1 (Jvm.Cond.code (⟨"com/example/twyg/twyg/xml/XmlCharactersIsNameStartPinLaw", "ref", "(I)Z"⟩ : MethodName) method_2_code 1 (some .boolean) :: ws) ({ frames := 0, cells := 0, slots := 0, locals := 0 } : Room)) (fun a U => a = #[(.int p1)] ∧ Z.Warmed39 U.vm ∧ U.heap = h0) (fun _ _ _ _ _ => True) (fun _ U o U' => ∃ v L, o = .returned v ∧ Q2 p1 h0 n0 v U'.heap L ∧ FrameEnd U o U' L ({ frames := 0, cells := 0, slots := 0, locals := 0 } : Room).cells ({ frames := 0, cells := 0, slots := 0, locals := 0 } : Room).slots) := by
  refine MetFree.of_bodySF (plainFor_of_name pn_2) hisR ?_
  intro p e s m args below meth c s₁ Bd hml0 hP hK
  obtain ⟨rfl, hZ, hh⟩ := hP
  have hx := Bd.exec
  have hby := Bd.bytes
  have hml : c.maxLocals = 1 := hml0
  have hown : s.vm.findClass "com/example/twyg/twyg/xml/XmlCharactersIsNameStartPinLaw" = some m.cls := findClass_of_methodNamed Bd.named
  have hnm := (name_of_methodNamed Bd.named Bd.method).1
  have X0 : Stand p l e ({ frames := 0, cells := 0, slots := 0, locals := 0 } : Room) s m #[(.int p1)] below meth c s₁ [] 0 0 := Stand.of_body Bd
  have e0 : s₁.heap = h0 := by rw [← hh, Bd.state]; rfl
  have N0 := Fr.nil n0
  have pre0 : ∀ t, Steps p.tables e below (s₁.setTop (mkF m 0 #[.val (.int p1)] [])) t → Steps p.tables e below (s₁.setTop (entryFrame m #[(.int p1)] 1)) t := fun t k => castTop (ef_2 m p1) k
  obtain ⟨fs, hr, hrun, hended, hW, hsame⟩ := X0.leave (v := some (.int (f2_0 p1))) (fun h => by rw [Bd.returns] at h; cases h)
  refine ⟨_, _, pre0 _ ?_, hrun, hended, _, _, rfl, ?_, ⟨_, rfl⟩, hW, hsame.mono (by decide) (by decide)⟩
  · exact b2_0 X0 hx hby hown Bd.returns hr (mvT hZ (hw _ (List.mem_of_getElem? (i := 11) rfl))) (mvT hZ (hw _ (List.mem_of_getElem? (i := 26) rfl))) (mvT hZ (hw _ (List.mem_of_getElem? (i := 3) rfl))) (mvT hZ (hw _ (List.mem_of_getElem? (i := 27) rfl))) (mvT hZ (hw _ (List.mem_of_getElem? (i := 6) rfl))) (mvT hZ (hw _ (List.mem_of_getElem? (i := 28) rfl))) (mvT hZ (hw _ (List.mem_of_getElem? (i := 9) rfl))) p1 rfl
  · show Q2 p1 h0 n0 _ s₁.heap _
    rw [e0]
    exact ⟨rfl, N0, rfl⟩
theorem own_i0 : (0 : Int32).toInt = 0 := by decide
theorem own_i1 : (1 : Int32).toInt = 1 := by decide
theorem own_i65 : (65 : Int32).toInt = 65 := by decide
theorem own_i90 : (90 : Int32).toInt = 90 := by decide
theorem own_i95 : (95 : Int32).toInt = 95 := by decide
theorem own_i97 : (97 : Int32).toInt = 97 := by decide
theorem own_i122 : (122 : Int32).toInt = 122 := by decide
theorem own_i128 : (128 : Int32).toInt = 128 := by decide
theorem own_i192 : (192 : Int32).toInt = 192 := by decide
theorem own_i214 : (214 : Int32).toInt = 214 := by decide
theorem own_i215 : (215 : Int32).toInt = 215 := by decide
theorem own_i216 : (216 : Int32).toInt = 216 := by decide
theorem own_i246 : (246 : Int32).toInt = 246 := by decide
theorem own_i247 : (247 : Int32).toInt = 247 := by decide
theorem own_i248 : (248 : Int32).toInt = 248 := by decide
theorem own_i767 : (767 : Int32).toInt = 767 := by decide
theorem own_i768 : (768 : Int32).toInt = 768 := by decide
theorem own_i879 : (879 : Int32).toInt = 879 := by decide
theorem own_i880 : (880 : Int32).toInt = 880 := by decide
theorem own_i893 : (893 : Int32).toInt = 893 := by decide
theorem own_i894 : (894 : Int32).toInt = 894 := by decide
theorem own_i895 : (895 : Int32).toInt = 895 := by decide
theorem own_i8191 : (8191 : Int32).toInt = 8191 := by decide
theorem own_i8192 : (8192 : Int32).toInt = 8192 := by decide
theorem own_i8203 : (8203 : Int32).toInt = 8203 := by decide
theorem own_i8204 : (8204 : Int32).toInt = 8204 := by decide
theorem own_i8205 : (8205 : Int32).toInt = 8205 := by decide
theorem own_i8206 : (8206 : Int32).toInt = 8206 := by decide
theorem own_i8303 : (8303 : Int32).toInt = 8303 := by decide
theorem own_i8304 : (8304 : Int32).toInt = 8304 := by decide
theorem own_i8591 : (8591 : Int32).toInt = 8591 := by decide
theorem own_i8592 : (8592 : Int32).toInt = 8592 := by decide
theorem own_i11263 : (11263 : Int32).toInt = 11263 := by decide
theorem own_i11264 : (11264 : Int32).toInt = 11264 := by decide
theorem own_i12271 : (12271 : Int32).toInt = 12271 := by decide
theorem own_i12272 : (12272 : Int32).toInt = 12272 := by decide
theorem own_i12288 : (12288 : Int32).toInt = 12288 := by decide
theorem own_i12289 : (12289 : Int32).toInt = 12289 := by decide
theorem own_i55295 : (55295 : Int32).toInt = 55295 := by decide
theorem own_i55296 : (55296 : Int32).toInt = 55296 := by decide
theorem own_i63743 : (63743 : Int32).toInt = 63743 := by decide
theorem own_i63744 : (63744 : Int32).toInt = 63744 := by decide
theorem own_i64975 : (64975 : Int32).toInt = 64975 := by decide
theorem own_i64976 : (64976 : Int32).toInt = 64976 := by decide
theorem own_i65007 : (65007 : Int32).toInt = 65007 := by decide
theorem own_i65008 : (65008 : Int32).toInt = 65008 := by decide
theorem own_i65533 : (65533 : Int32).toInt = 65533 := by decide
theorem own_i65534 : (65534 : Int32).toInt = 65534 := by decide
theorem own_i65535 : (65535 : Int32).toInt = 65535 := by decide
theorem own_i65536 : (65536 : Int32).toInt = 65536 := by decide
theorem own_i983039 : (983039 : Int32).toInt = 983039 := by decide
theorem sf1_187 (x : Int32) : f1_187 x = if True then 1 else 0 := by
  unfold f1_187
  have he : ∀ c : Int32, (x = c) = (x.toInt = c.toInt) := fun c => propext Int32.toInt_inj.symm
  simp only [own_nar1, own_nar0, own_10, own_00, ↓reduceIte, Int32.lt_iff_toInt_lt, he, own_i1, f1_192]
  all_goals
    have hl := Int32.le_toInt x
    have hh := Int32.toInt_lt x
    clear he
    generalize x.toInt = n at *
    repeat' split
    all_goals first | rfl | (exfalso; omega)
theorem sf1_191 (x : Int32) : f1_191 x = if False then 1 else 0 := by
  unfold f1_191
  have he : ∀ c : Int32, (x = c) = (x.toInt = c.toInt) := fun c => propext Int32.toInt_inj.symm
  simp only [own_nar1, own_nar0, own_10, own_00, ↓reduceIte, Int32.lt_iff_toInt_lt, he, own_i0, f1_192]
  all_goals
    have hl := Int32.le_toInt x
    have hh := Int32.toInt_lt x
    clear he
    generalize x.toInt = n at *
    repeat' split
    all_goals first | rfl | (exfalso; omega)
theorem sf1_175 (x : Int32) : f1_175 x = if (65536 ≤ x.toInt ∧ x.toInt ≤ 983039) then 1 else 0 := by
  unfold f1_175
  have he : ∀ c : Int32, (x = c) = (x.toInt = c.toInt) := fun c => propext Int32.toInt_inj.symm
  simp only [own_nar1, own_nar0, own_10, own_00, ↓reduceIte, Int32.lt_iff_toInt_lt, he, own_i65536, own_i983039, sf1_187, sf1_191]
  all_goals
    have hl := Int32.le_toInt x
    have hh := Int32.toInt_lt x
    clear he
    generalize x.toInt = n at *
    repeat' split
    all_goals first | rfl | (exfalso; omega)
theorem sf1_163 (x : Int32) : f1_163 x = if (65008 ≤ x.toInt ∧ x.toInt ≤ 65533) ∨ (65536 ≤ x.toInt ∧ x.toInt ≤ 983039) then 1 else 0 := by
  unfold f1_163
  have he : ∀ c : Int32, (x = c) = (x.toInt = c.toInt) := fun c => propext Int32.toInt_inj.symm
  simp only [own_nar1, own_nar0, own_10, own_00, ↓reduceIte, Int32.lt_iff_toInt_lt, he, own_i65008, own_i65533, sf1_175, sf1_187]
  all_goals
    have hl := Int32.le_toInt x
    have hh := Int32.toInt_lt x
    clear he
    generalize x.toInt = n at *
    repeat' split
    all_goals first | rfl | (exfalso; omega)
theorem sf1_151 (x : Int32) : f1_151 x = if (63744 ≤ x.toInt ∧ x.toInt ≤ 64975) ∨ (65008 ≤ x.toInt ∧ x.toInt ≤ 65533) ∨ (65536 ≤ x.toInt ∧ x.toInt ≤ 983039) then 1 else 0 := by
  unfold f1_151
  have he : ∀ c : Int32, (x = c) = (x.toInt = c.toInt) := fun c => propext Int32.toInt_inj.symm
  simp only [own_nar1, own_nar0, own_10, own_00, ↓reduceIte, Int32.lt_iff_toInt_lt, he, own_i63744, own_i64975, sf1_163, sf1_187]
  all_goals
    have hl := Int32.le_toInt x
    have hh := Int32.toInt_lt x
    clear he
    generalize x.toInt = n at *
    repeat' split
    all_goals first | rfl | (exfalso; omega)
theorem sf1_138 (x : Int32) : f1_138 x = if (12289 ≤ x.toInt ∧ x.toInt ≤ 55295) ∨ (63744 ≤ x.toInt ∧ x.toInt ≤ 64975) ∨ (65008 ≤ x.toInt ∧ x.toInt ≤ 65533) ∨ (65536 ≤ x.toInt ∧ x.toInt ≤ 983039) then 1 else 0 := by
  unfold f1_138
  have he : ∀ c : Int32, (x = c) = (x.toInt = c.toInt) := fun c => propext Int32.toInt_inj.symm
  simp only [own_nar1, own_nar0, own_10, own_00, ↓reduceIte, Int32.lt_iff_toInt_lt, he, own_i12289, own_i55295, sf1_151, sf1_187]
  all_goals
    have hl := Int32.le_toInt x
    have hh := Int32.toInt_lt x
    clear he
    generalize x.toInt = n at *
    repeat' split
    all_goals first | rfl | (exfalso; omega)
theorem sf1_124 (x : Int32) : f1_124 x = if (11264 ≤ x.toInt ∧ x.toInt ≤ 12271) ∨ (12289 ≤ x.toInt ∧ x.toInt ≤ 55295) ∨ (63744 ≤ x.toInt ∧ x.toInt ≤ 64975) ∨ (65008 ≤ x.toInt ∧ x.toInt ≤ 65533) ∨ (65536 ≤ x.toInt ∧ x.toInt ≤ 983039) then 1 else 0 := by
  unfold f1_124
  have he : ∀ c : Int32, (x = c) = (x.toInt = c.toInt) := fun c => propext Int32.toInt_inj.symm
  simp only [own_nar1, own_nar0, own_10, own_00, ↓reduceIte, Int32.lt_iff_toInt_lt, he, own_i11264, own_i12271, sf1_138, sf1_187]
  all_goals
    have hl := Int32.le_toInt x
    have hh := Int32.toInt_lt x
    clear he
    generalize x.toInt = n at *
    repeat' split
    all_goals first | rfl | (exfalso; omega)
theorem sf1_110 (x : Int32) : f1_110 x = if (8304 ≤ x.toInt ∧ x.toInt ≤ 8591) ∨ (11264 ≤ x.toInt ∧ x.toInt ≤ 12271) ∨ (12289 ≤ x.toInt ∧ x.toInt ≤ 55295) ∨ (63744 ≤ x.toInt ∧ x.toInt ≤ 64975) ∨ (65008 ≤ x.toInt ∧ x.toInt ≤ 65533) ∨ (65536 ≤ x.toInt ∧ x.toInt ≤ 983039) then 1 else 0 := by
  unfold f1_110
  have he : ∀ c : Int32, (x = c) = (x.toInt = c.toInt) := fun c => propext Int32.toInt_inj.symm
  simp only [own_nar1, own_nar0, own_10, own_00, ↓reduceIte, Int32.lt_iff_toInt_lt, he, own_i8304, own_i8591, sf1_124, sf1_187]
  all_goals
    have hl := Int32.le_toInt x
    have hh := Int32.toInt_lt x
    clear he
    generalize x.toInt = n at *
    repeat' split
    all_goals first | rfl | (exfalso; omega)
theorem sf1_96 (x : Int32) : f1_96 x = if (8204 ≤ x.toInt ∧ x.toInt ≤ 8205) ∨ (8304 ≤ x.toInt ∧ x.toInt ≤ 8591) ∨ (11264 ≤ x.toInt ∧ x.toInt ≤ 12271) ∨ (12289 ≤ x.toInt ∧ x.toInt ≤ 55295) ∨ (63744 ≤ x.toInt ∧ x.toInt ≤ 64975) ∨ (65008 ≤ x.toInt ∧ x.toInt ≤ 65533) ∨ (65536 ≤ x.toInt ∧ x.toInt ≤ 983039) then 1 else 0 := by
  unfold f1_96
  have he : ∀ c : Int32, (x = c) = (x.toInt = c.toInt) := fun c => propext Int32.toInt_inj.symm
  simp only [own_nar1, own_nar0, own_10, own_00, ↓reduceIte, Int32.lt_iff_toInt_lt, he, own_i8204, own_i8205, sf1_110, sf1_187]
  all_goals
    have hl := Int32.le_toInt x
    have hh := Int32.toInt_lt x
    clear he
    generalize x.toInt = n at *
    repeat' split
    all_goals first | rfl | (exfalso; omega)
theorem sf1_82 (x : Int32) : f1_82 x = if (895 ≤ x.toInt ∧ x.toInt ≤ 8191) ∨ (8204 ≤ x.toInt ∧ x.toInt ≤ 8205) ∨ (8304 ≤ x.toInt ∧ x.toInt ≤ 8591) ∨ (11264 ≤ x.toInt ∧ x.toInt ≤ 12271) ∨ (12289 ≤ x.toInt ∧ x.toInt ≤ 55295) ∨ (63744 ≤ x.toInt ∧ x.toInt ≤ 64975) ∨ (65008 ≤ x.toInt ∧ x.toInt ≤ 65533) ∨ (65536 ≤ x.toInt ∧ x.toInt ≤ 983039) then 1 else 0 := by
  unfold f1_82
  have he : ∀ c : Int32, (x = c) = (x.toInt = c.toInt) := fun c => propext Int32.toInt_inj.symm
  simp only [own_nar1, own_nar0, own_10, own_00, ↓reduceIte, Int32.lt_iff_toInt_lt, he, own_i8191, own_i895, sf1_187, sf1_96]
  all_goals
    have hl := Int32.le_toInt x
    have hh := Int32.toInt_lt x
    clear he
    generalize x.toInt = n at *
    repeat' split
    all_goals first | rfl | (exfalso; omega)
theorem sf1_68 (x : Int32) : f1_68 x = if (880 ≤ x.toInt ∧ x.toInt ≤ 893) ∨ (895 ≤ x.toInt ∧ x.toInt ≤ 8191) ∨ (8204 ≤ x.toInt ∧ x.toInt ≤ 8205) ∨ (8304 ≤ x.toInt ∧ x.toInt ≤ 8591) ∨ (11264 ≤ x.toInt ∧ x.toInt ≤ 12271) ∨ (12289 ≤ x.toInt ∧ x.toInt ≤ 55295) ∨ (63744 ≤ x.toInt ∧ x.toInt ≤ 64975) ∨ (65008 ≤ x.toInt ∧ x.toInt ≤ 65533) ∨ (65536 ≤ x.toInt ∧ x.toInt ≤ 983039) then 1 else 0 := by
  unfold f1_68
  have he : ∀ c : Int32, (x = c) = (x.toInt = c.toInt) := fun c => propext Int32.toInt_inj.symm
  simp only [own_nar1, own_nar0, own_10, own_00, ↓reduceIte, Int32.lt_iff_toInt_lt, he, own_i880, own_i893, sf1_187, sf1_82]
  all_goals
    have hl := Int32.le_toInt x
    have hh := Int32.toInt_lt x
    clear he
    generalize x.toInt = n at *
    repeat' split
    all_goals first | rfl | (exfalso; omega)
theorem sf1_54 (x : Int32) : f1_54 x = if (248 ≤ x.toInt ∧ x.toInt ≤ 767) ∨ (880 ≤ x.toInt ∧ x.toInt ≤ 893) ∨ (895 ≤ x.toInt ∧ x.toInt ≤ 8191) ∨ (8204 ≤ x.toInt ∧ x.toInt ≤ 8205) ∨ (8304 ≤ x.toInt ∧ x.toInt ≤ 8591) ∨ (11264 ≤ x.toInt ∧ x.toInt ≤ 12271) ∨ (12289 ≤ x.toInt ∧ x.toInt ≤ 55295) ∨ (63744 ≤ x.toInt ∧ x.toInt ≤ 64975) ∨ (65008 ≤ x.toInt ∧ x.toInt ≤ 65533) ∨ (65536 ≤ x.toInt ∧ x.toInt ≤ 983039) then 1 else 0 := by
  unfold f1_54
  have he : ∀ c : Int32, (x = c) = (x.toInt = c.toInt) := fun c => propext Int32.toInt_inj.symm
  simp only [own_nar1, own_nar0, own_10, own_00, ↓reduceIte, Int32.lt_iff_toInt_lt, he, own_i248, own_i767, sf1_187, sf1_68]
  all_goals
    have hl := Int32.le_toInt x
    have hh := Int32.toInt_lt x
    clear he
    generalize x.toInt = n at *
    repeat' split
    all_goals first | rfl | (exfalso; omega)
theorem sf1_40 (x : Int32) : f1_40 x = if (216 ≤ x.toInt ∧ x.toInt ≤ 246) ∨ (248 ≤ x.toInt ∧ x.toInt ≤ 767) ∨ (880 ≤ x.toInt ∧ x.toInt ≤ 893) ∨ (895 ≤ x.toInt ∧ x.toInt ≤ 8191) ∨ (8204 ≤ x.toInt ∧ x.toInt ≤ 8205) ∨ (8304 ≤ x.toInt ∧ x.toInt ≤ 8591) ∨ (11264 ≤ x.toInt ∧ x.toInt ≤ 12271) ∨ (12289 ≤ x.toInt ∧ x.toInt ≤ 55295) ∨ (63744 ≤ x.toInt ∧ x.toInt ≤ 64975) ∨ (65008 ≤ x.toInt ∧ x.toInt ≤ 65533) ∨ (65536 ≤ x.toInt ∧ x.toInt ≤ 983039) then 1 else 0 := by
  unfold f1_40
  have he : ∀ c : Int32, (x = c) = (x.toInt = c.toInt) := fun c => propext Int32.toInt_inj.symm
  simp only [own_nar1, own_nar0, own_10, own_00, ↓reduceIte, Int32.lt_iff_toInt_lt, he, own_i216, own_i246, sf1_187, sf1_54]
  all_goals
    have hl := Int32.le_toInt x
    have hh := Int32.toInt_lt x
    clear he
    generalize x.toInt = n at *
    repeat' split
    all_goals first | rfl | (exfalso; omega)
theorem sf1_26 (x : Int32) : f1_26 x = if (192 ≤ x.toInt ∧ x.toInt ≤ 214) ∨ (216 ≤ x.toInt ∧ x.toInt ≤ 246) ∨ (248 ≤ x.toInt ∧ x.toInt ≤ 767) ∨ (880 ≤ x.toInt ∧ x.toInt ≤ 893) ∨ (895 ≤ x.toInt ∧ x.toInt ≤ 8191) ∨ (8204 ≤ x.toInt ∧ x.toInt ≤ 8205) ∨ (8304 ≤ x.toInt ∧ x.toInt ≤ 8591) ∨ (11264 ≤ x.toInt ∧ x.toInt ≤ 12271) ∨ (12289 ≤ x.toInt ∧ x.toInt ≤ 55295) ∨ (63744 ≤ x.toInt ∧ x.toInt ≤ 64975) ∨ (65008 ≤ x.toInt ∧ x.toInt ≤ 65533) ∨ (65536 ≤ x.toInt ∧ x.toInt ≤ 983039) then 1 else 0 := by
  unfold f1_26
  have he : ∀ c : Int32, (x = c) = (x.toInt = c.toInt) := fun c => propext Int32.toInt_inj.symm
  simp only [own_nar1, own_nar0, own_10, own_00, ↓reduceIte, Int32.lt_iff_toInt_lt, he, own_i192, own_i214, sf1_187, sf1_40]
  all_goals
    have hl := Int32.le_toInt x
    have hh := Int32.toInt_lt x
    clear he
    generalize x.toInt = n at *
    repeat' split
    all_goals first | rfl | (exfalso; omega)
theorem sf2_211 (x : Int32) : f2_211 x = if False then 1 else 0 := by
  unfold f2_211
  have he : ∀ c : Int32, (x = c) = (x.toInt = c.toInt) := fun c => propext Int32.toInt_inj.symm
  simp only [own_nar1, own_nar0, own_10, own_00, ↓reduceIte, Int32.lt_iff_toInt_lt, he, own_i0]
  all_goals
    have hl := Int32.le_toInt x
    have hh := Int32.toInt_lt x
    clear he
    generalize x.toInt = n at *
    repeat' split
    all_goals first | rfl | (exfalso; omega)
theorem sf2_199 (x : Int32) : f2_199 x = if x.toInt ≤ 65533 ∨ 65536 ≤ x.toInt then 1 else 0 := by
  unfold f2_199
  have he : ∀ c : Int32, (x = c) = (x.toInt = c.toInt) := fun c => propext Int32.toInt_inj.symm
  simp only [own_nar1, own_nar0, own_10, own_00, ↓reduceIte, Int32.lt_iff_toInt_lt, he, own_i1, own_i65534, own_i65535, sf2_211]
  all_goals
    have hl := Int32.le_toInt x
    have hh := Int32.toInt_lt x
    clear he
    generalize x.toInt = n at *
    repeat' split
    all_goals first | rfl | (exfalso; omega)
theorem sf2_185 (x : Int32) : f2_185 x = if x.toInt ≤ 64975 ∨ (65008 ≤ x.toInt ∧ x.toInt ≤ 65533) ∨ 65536 ≤ x.toInt then 1 else 0 := by
  unfold f2_185
  have he : ∀ c : Int32, (x = c) = (x.toInt = c.toInt) := fun c => propext Int32.toInt_inj.symm
  simp only [own_nar1, own_nar0, own_10, own_00, ↓reduceIte, Int32.lt_iff_toInt_lt, he, own_i0, own_i64976, own_i65007, sf2_199]
  all_goals
    have hl := Int32.le_toInt x
    have hh := Int32.toInt_lt x
    clear he
    generalize x.toInt = n at *
    repeat' split
    all_goals first | rfl | (exfalso; omega)
theorem sf2_171 (x : Int32) : f2_171 x = if x.toInt ≤ 55295 ∨ (63744 ≤ x.toInt ∧ x.toInt ≤ 64975) ∨ (65008 ≤ x.toInt ∧ x.toInt ≤ 65533) ∨ 65536 ≤ x.toInt then 1 else 0 := by
  unfold f2_171
  have he : ∀ c : Int32, (x = c) = (x.toInt = c.toInt) := fun c => propext Int32.toInt_inj.symm
  simp only [own_nar1, own_nar0, own_10, own_00, ↓reduceIte, Int32.lt_iff_toInt_lt, he, own_i0, own_i55296, own_i63743, sf2_185]
  all_goals
    have hl := Int32.le_toInt x
    have hh := Int32.toInt_lt x
    clear he
    generalize x.toInt = n at *
    repeat' split
    all_goals first | rfl | (exfalso; omega)
theorem sf2_155 (x : Int32) : f2_155 x = if x.toInt ≤ 12271 ∨ (12289 ≤ x.toInt ∧ x.toInt ≤ 55295) ∨ (63744 ≤ x.toInt ∧ x.toInt ≤ 64975) ∨ (65008 ≤ x.toInt ∧ x.toInt ≤ 65533) ∨ 65536 ≤ x.toInt then 1 else 0 := by
  unfold f2_155
  have he : ∀ c : Int32, (x = c) = (x.toInt = c.toInt) := fun c => propext Int32.toInt_inj.symm
  simp only [own_nar1, own_nar0, own_10, own_00, ↓reduceIte, Int32.lt_iff_toInt_lt, he, own_i0, own_i12272, own_i12288, sf2_171]
  all_goals
    have hl := Int32.le_toInt x
    have hh := Int32.toInt_lt x
    clear he
    generalize x.toInt = n at *
    repeat' split
    all_goals first | rfl | (exfalso; omega)
theorem sf2_139 (x : Int32) : f2_139 x = if x.toInt ≤ 8591 ∨ (11264 ≤ x.toInt ∧ x.toInt ≤ 12271) ∨ (12289 ≤ x.toInt ∧ x.toInt ≤ 55295) ∨ (63744 ≤ x.toInt ∧ x.toInt ≤ 64975) ∨ (65008 ≤ x.toInt ∧ x.toInt ≤ 65533) ∨ 65536 ≤ x.toInt then 1 else 0 := by
  unfold f2_139
  have he : ∀ c : Int32, (x = c) = (x.toInt = c.toInt) := fun c => propext Int32.toInt_inj.symm
  simp only [own_nar1, own_nar0, own_10, own_00, ↓reduceIte, Int32.lt_iff_toInt_lt, he, own_i0, own_i11263, own_i8592, sf2_155]
  all_goals
    have hl := Int32.le_toInt x
    have hh := Int32.toInt_lt x
    clear he
    generalize x.toInt = n at *
    repeat' split
    all_goals first | rfl | (exfalso; omega)
theorem sf2_123 (x : Int32) : f2_123 x = if x.toInt ≤ 8205 ∨ (8304 ≤ x.toInt ∧ x.toInt ≤ 8591) ∨ (11264 ≤ x.toInt ∧ x.toInt ≤ 12271) ∨ (12289 ≤ x.toInt ∧ x.toInt ≤ 55295) ∨ (63744 ≤ x.toInt ∧ x.toInt ≤ 64975) ∨ (65008 ≤ x.toInt ∧ x.toInt ≤ 65533) ∨ 65536 ≤ x.toInt then 1 else 0 := by
  unfold f2_123
  have he : ∀ c : Int32, (x = c) = (x.toInt = c.toInt) := fun c => propext Int32.toInt_inj.symm
  simp only [own_nar1, own_nar0, own_10, own_00, ↓reduceIte, Int32.lt_iff_toInt_lt, he, own_i0, own_i8206, own_i8303, sf2_139]
  all_goals
    have hl := Int32.le_toInt x
    have hh := Int32.toInt_lt x
    clear he
    generalize x.toInt = n at *
    repeat' split
    all_goals first | rfl | (exfalso; omega)
theorem sf2_98 (x : Int32) : f2_98 x = if x.toInt ≤ 893 ∨ (895 ≤ x.toInt ∧ x.toInt ≤ 8191) ∨ (8204 ≤ x.toInt ∧ x.toInt ≤ 8205) ∨ (8304 ≤ x.toInt ∧ x.toInt ≤ 8591) ∨ (11264 ≤ x.toInt ∧ x.toInt ≤ 12271) ∨ (12289 ≤ x.toInt ∧ x.toInt ≤ 55295) ∨ (63744 ≤ x.toInt ∧ x.toInt ≤ 64975) ∨ (65008 ≤ x.toInt ∧ x.toInt ≤ 65533) ∨ 65536 ≤ x.toInt then 1 else 0 := by
  unfold f2_98
  have he : ∀ c : Int32, (x = c) = (x.toInt = c.toInt) := fun c => propext Int32.toInt_inj.symm
  simp only [own_nar1, own_nar0, own_10, own_00, ↓reduceIte, Int32.lt_iff_toInt_lt, he, own_i0, own_i8192, own_i8203, own_i894, sf2_123]
  all_goals
    have hl := Int32.le_toInt x
    have hh := Int32.toInt_lt x
    clear he
    generalize x.toInt = n at *
    repeat' split
    all_goals first | rfl | (exfalso; omega)
theorem sf2_80 (x : Int32) : f2_80 x = if False then 1 else 0 := by
  unfold f2_80
  have he : ∀ c : Int32, (x = c) = (x.toInt = c.toInt) := fun c => propext Int32.toInt_inj.symm
  simp only [own_nar1, own_nar0, own_10, own_00, ↓reduceIte, Int32.lt_iff_toInt_lt, he, own_i0]
  all_goals
    have hl := Int32.le_toInt x
    have hh := Int32.toInt_lt x
    clear he
    generalize x.toInt = n at *
    repeat' split
    all_goals first | rfl | (exfalso; omega)
theorem sf2_43 (x : Int32) : f2_43 x = if True then 1 else 0 := by
  unfold f2_43
  have he : ∀ c : Int32, (x = c) = (x.toInt = c.toInt) := fun c => propext Int32.toInt_inj.symm
  simp only [own_nar1, own_nar0, own_10, own_00, ↓reduceIte, Int32.lt_iff_toInt_lt, he, own_i1, f2_48]
  all_goals
    have hl := Int32.le_toInt x
    have hh := Int32.toInt_lt x
    clear he
    generalize x.toInt = n at *
    repeat' split
    all_goals first | rfl | (exfalso; omega)
theorem sf2_37 (x : Int32) : f2_37 x = if x.toInt = 95 then 1 else 0 := by
  unfold f2_37
  have he : ∀ c : Int32, (x = c) = (x.toInt = c.toInt) := fun c => propext Int32.toInt_inj.symm
  simp only [own_nar1, own_nar0, own_10, own_00, ↓reduceIte, Int32.lt_iff_toInt_lt, he, own_i0, own_i95, sf2_43, f2_48]
  all_goals
    have hl := Int32.le_toInt x
    have hh := Int32.toInt_lt x
    clear he
    generalize x.toInt = n at *
    repeat' split
    all_goals first | rfl | (exfalso; omega)
theorem sf2_25 (x : Int32) : f2_25 x = if x.toInt = 95 ∨ (97 ≤ x.toInt ∧ x.toInt ≤ 122) then 1 else 0 := by
  unfold f2_25
  have he : ∀ c : Int32, (x = c) = (x.toInt = c.toInt) := fun c => propext Int32.toInt_inj.symm
  simp only [own_nar1, own_nar0, own_10, own_00, ↓reduceIte, Int32.lt_iff_toInt_lt, he, own_i122, own_i97, sf2_37, sf2_43]
  all_goals
    have hl := Int32.le_toInt x
    have hh := Int32.toInt_lt x
    clear he
    generalize x.toInt = n at *
    repeat' split
    all_goals first | rfl | (exfalso; omega)
theorem sf2_0 (x : Int32) : f2_0 x = if (65 ≤ x.toInt ∧ x.toInt ≤ 90) ∨ x.toInt = 95 ∨ (97 ≤ x.toInt ∧ x.toInt ≤ 122) ∨ (192 ≤ x.toInt ∧ x.toInt ≤ 214) ∨ (216 ≤ x.toInt ∧ x.toInt ≤ 246) ∨ (248 ≤ x.toInt ∧ x.toInt ≤ 767) ∨ (880 ≤ x.toInt ∧ x.toInt ≤ 893) ∨ (895 ≤ x.toInt ∧ x.toInt ≤ 8191) ∨ (8204 ≤ x.toInt ∧ x.toInt ≤ 8205) ∨ (8304 ≤ x.toInt ∧ x.toInt ≤ 8591) ∨ (11264 ≤ x.toInt ∧ x.toInt ≤ 12271) ∨ (12289 ≤ x.toInt ∧ x.toInt ≤ 55295) ∨ (63744 ≤ x.toInt ∧ x.toInt ≤ 64975) ∨ (65008 ≤ x.toInt ∧ x.toInt ≤ 65533) ∨ (65536 ≤ x.toInt ∧ x.toInt ≤ 983039) then 1 else 0 := by
  unfold f2_0
  have he : ∀ c : Int32, (x = c) = (x.toInt = c.toInt) := fun c => propext Int32.toInt_inj.symm
  simp only [own_nar1, own_nar0, own_10, own_00, ↓reduceIte, Int32.lt_iff_toInt_lt, he, own_i0, own_i128, own_i192, own_i215, own_i247, own_i65, own_i768, own_i879, own_i90, own_i983039, sf2_25, sf2_43, sf2_80, sf2_98]
  all_goals
    have hl := Int32.le_toInt x
    have hh := Int32.toInt_lt x
    clear he
    generalize x.toInt = n at *
    repeat' split
    all_goals first | rfl | (exfalso; omega)
def fN (x : Int32) : Int32 := if x < (128 : Int32) then (if x < (0 : Int32) then 0 else (if own_tv x.toNatClampNeg = (0 : Int32) then 0 else 1)) else f1_26 x
theorem own_in {x : Int32} (h1 : x < (128 : Int32)) (h2 : ¬ x < (0 : Int32)) : ¬ (x < 0 ∨ 128 ≤ x.toNatClampNeg) := by
  have z : (128 : Int32).toInt = 128 := by decide
  have z0 : (0 : Int32).toInt = 0 := by decide
  rw [Int32.lt_iff_toInt_lt] at h1 h2
  exact own_idx (by omega) (by omega)
theorem own_tv0 (i : Nat) : (own_tv i = (0 : Int32)) = ¬ ((65 ≤ i ∧ i ≤ 90) ∨ i = 95 ∨ (97 ≤ i ∧ i ≤ 122)) := by
  unfold own_tv
  apply propext
  split
  · rename_i h
    exact ⟨fun q => absurd q (by decide), fun q => absurd h q⟩
  · rename_i h
    exact ⟨fun _ => h, fun _ => rfl⟩
theorem own_eq (x : Int32) : fN x = f2_0 x := by
  have z : (128 : Int32).toInt = 128 := by decide
  have z0 : (0 : Int32).toInt = 0 := by decide
  have e : x.toNatClampNeg = x.toInt.toNat := rfl
  unfold fN
  rw [sf2_0, sf1_26]
  simp only [Int32.lt_iff_toInt_lt, z, z0, own_tv0, e]
  generalize x.toInt = n
  repeat' split
  all_goals first | rfl | (exfalso; omega)
theorem own_or {A B : Jvm.Cond} {args : Array Value} {s : State} {idx : List Nat} (h : (Jvm.Cond.or A B).value args s none s idx = some true) (ha : A.value args s none s idx = some false) : B.value args s none s idx = some true := by
  rwa [Cond.or_of_right ha] at h
theorem own_elem {t ix : Term} {args : Array Value} {s : State} {idx : List Nat} {a : Addr} {cl : Cell} {j v : Int32} (ht : t.eval args s none idx s = some (.ref a)) (hi : ix.eval args s none idx s = some (.int j)) (hc : s.heap[a]? = some cl) (h : (Jvm.Cond.eq (.elem t ix) (.int v)).value args s none s idx = some true) : cl.slots[j.toNatClampNeg]? = some (.int v) := by
  obtain ⟨x, y, e1, e2, k1, k2⟩ := cmp_v (Or.inl h)
  cases (Term.int_eval v).symm.trans e2
  obtain ⟨z, rfl⟩ := k2
  have q := gotT (Cond.eq_ints e1 e2) h
  have r := (elem_in e1 ht hi hc).2
  rw [r, q]
theorem own_len128 {t : Term} {args : Array Value} {s : State} {a : Addr} {cl : Cell} (ht : t.eval args s none [] s = some (.ref a)) (ha : s.arrayAt? a = some cl) (h : (Jvm.Cond.eq (.length t) (.int 128)).value args s none s [] = some true) : cl.slots.size = 128 := by
  obtain ⟨x, y, e1, e2, k1, k2⟩ := cmp_v (Or.inl h)
  cases (Term.int_eval 128).symm.trans e2
  obtain ⟨z, rfl⟩ := k2
  have q := gotT (Cond.eq_ints e1 e2) h
  obtain ⟨x', c', w1, w2, w4⟩ := Term.length_spec e1
  cases ht.symm.trans w1
  cases ha.symm.trans w2
  have w3 : cl.slots.size < 2 ^ 31 := by
    by_cases hl : cl.slots.size < 2 ^ 31
    · exact hl
    · have e0 : (Term.length t).eval args s none [] s = none := by simp [Term.eval, ht, ha, hl]
      rw [e0] at e1; cases e1
  have w5 : Value.int z = .int cl.slots.size.toInt32 := w4
  have e := Value.int.inj w5
  rw [q] at e
  have e' := congrArg Int32.toInt e
  rw [len_toInt w3] at e'
  have : (128 : Int32).toInt = 128 := by decide
  omega
theorem d1_0 : decode prog_262_method_3_code 0 = .ok (.iload_n 0, 1) := by decide +kernel
theorem d1_1 : decode prog_262_method_3_code 1 = .ok (.getstatic 12, 3) := by decide +kernel
theorem d1_4 : decode prog_262_method_3_code 4 = .ok (.arraylength, 1) := by decide +kernel
theorem d1_5 : decode prog_262_method_3_code 5 = .ok (.if_icmp .ge 21, 3) := by decide +kernel
theorem d1_8 : decode prog_262_method_3_code 8 = .ok (.iload_n 0, 1) := by decide +kernel
theorem d1_9 : decode prog_262_method_3_code 9 = .ok (.ifCond .lt 15, 3) := by decide +kernel
theorem d1_12 : decode prog_262_method_3_code 12 = .ok (.getstatic 12, 3) := by decide +kernel
theorem d1_15 : decode prog_262_method_3_code 15 = .ok (.iload_n 0, 1) := by decide +kernel
theorem d1_16 : decode prog_262_method_3_code 16 = .ok (.baload, 1) := by decide +kernel
theorem d1_17 : decode prog_262_method_3_code 17 = .ok (.ifCond .eq 7, 3) := by decide +kernel
theorem d1_20 : decode prog_262_method_3_code 20 = .ok (.iconst 1, 1) := by decide +kernel
theorem d1_21 : decode prog_262_method_3_code 21 = .ok (.goto 4, 3) := by decide +kernel
theorem d1_24 : decode prog_262_method_3_code 24 = .ok (.iconst 0, 1) := by decide +kernel
theorem d1_25 : decode prog_262_method_3_code 25 = .ok (.ireturn, 1) := by decide +kernel
theorem pn_1 : plainName "com/example/twyg/twyg/xml/XmlCharacters" = true := by first | (simp [plainName, overriddenIn]; done) | decide +kernel
theorem ef_1 (m : MethodId) (p1 : Int32) : entryFrame m #[(.int p1)] 1 = mkF m 0 #[.val (.int p1)] [] := by first | (simp [entryFrame, mkF, argsToLocals, Value.category]; done) | rfl
def Q1 (p1 : Int32) (h0 : Heap) (n0 : Nat) (v : Option Value) (h : Heap) (L : List Loc) : Prop := v = some (.int (fN p1)) ∧ Fr n0 L ∧ h = h0
set_option maxRecDepth 65536 in
set_option maxHeartbeats 40000000 in
theorem rm1 (l : Launch) (Z : State) (a0 : Array Value) (hw : ∀ d ∈ tables_1, d.before a0 Z = true) (ws : List Jvm.Cond) (p1 : Int32) (h0 : Heap) (n0 : Nat) (Z0 : n0 ≤ h0.size) (aA : Addr) (SA : Sta Z h0 "com/example/twyg/twyg/xml/XmlCharacters" "ASCII_NAME_STARTS" "[Z" (.ref aA)) (BA : own_BA Z h0 aA) :
    MetFree l (⟨"com/example/twyg/twyg/xml/XmlCharacters", "isNameStart", "(I)Z"⟩ : MethodName) (head1 (Jvm.Cond.code (⟨"com/example/twyg/twyg/xml/XmlCharacters", "isNameStart", "(I)Z"⟩ : MethodName) prog_262_method_3_code 1 (some .boolean) :: ws) ({ frames := 0, cells := 0, slots := 0, locals := 0 } : Room)) (fun a U => a = #[(.int p1)] ∧ Z.Warmed39 U.vm ∧ U.heap = h0) (fun _ _ _ _ _ => True) (fun _ U o U' => ∃ v L, o = .returned v ∧ Q1 p1 h0 n0 v U'.heap L ∧ FrameEnd U o U' L ({ frames := 0, cells := 0, slots := 0, locals := 0 } : Room).cells ({ frames := 0, cells := 0, slots := 0, locals := 0 } : Room).slots) := by
  refine MetFree.of_bodySF (plainFor_of_name pn_1) hisR ?_
  intro p e s m args below meth c s₁ Bd hml0 hP hK
  obtain ⟨rfl, hZ, hh⟩ := hP
  have hx := Bd.exec
  have hby := Bd.bytes
  have hml : c.maxLocals = 1 := hml0
  have hown : s.vm.findClass "com/example/twyg/twyg/xml/XmlCharacters" = some m.cls := findClass_of_methodNamed Bd.named
  have hnm := (name_of_methodNamed Bd.named Bd.method).1
  have X0 : Stand p l e ({ frames := 0, cells := 0, slots := 0, locals := 0 } : Room) s m #[(.int p1)] below meth c s₁ [] 0 0 := Stand.of_body Bd
  have e0 : s₁.heap = h0 := by rw [← hh, Bd.state]; rfl
  have N0 := Fr.nil n0
  have pre0 : ∀ t, Steps p.tables e below (s₁.setTop (mkF m 0 #[.val (.int p1)] [])) t → Steps p.tables e below (s₁.setTop (entryFrame m #[(.int p1)] 1)) t := fun t k => castTop (ef_1 m p1) k
  obtain ⟨T1, X1, e1, st1⟩ := getS2 X0 hx hZ hown (host := "") (Or.inl (hw _ (List.mem_of_getElem? (i := 20) rfl))) Via.refl e0 SA (g := (mkF m 1 #[.val (.int p1)] [(.int p1)])) rfl (hb hby d1_1)
  have pre3 : ∀ t, Steps p.tables e below (T1.setTop (mkF m 5 #[.val (.int p1)] [(.int (128 : Int32)), (.int p1)])) t → Steps p.tables e below (s₁.setTop (entryFrame m #[(.int p1)] 1)) t := by
    intro t k
    refine pre0 t ?_
    show Steps p.tables e below (s₁.setTop (mkF m 0 #[.val (.int p1)] [])) _
    refine XS.iloadN X0.here hx rfl (hb hby d1_0) rfl ?_
    show Steps p.tables e below (s₁.setTop (mkF m 1 #[.val (.int p1)] [(.int p1)])) _
    refine st1 _ ?_
    show Steps p.tables e below (T1.setTop (mkF m 4 #[.val (.int p1)] [(.ref aA), (.int p1)])) _
    refine own_lenZ X1 hx hZ e1 BA (g := (mkF m 4 #[.val (.int p1)] [(.ref aA), (.int p1)])) rfl rfl (hb hby d1_4) _ ?_
    show Steps p.tables e below (T1.setTop (mkF m 5 #[.val (.int p1)] [(.int (128 : Int32)), (.int p1)])) _
    exact k
  by_cases h5_2 : p1 < (128 : Int32)
  · have pre5 : ∀ t, Steps p.tables e below (T1.setTop (mkF m 9 #[.val (.int p1)] [(.int p1)])) t → Steps p.tables e below (s₁.setTop (entryFrame m #[(.int p1)] 1)) t := by
      intro t k
      refine pre3 t ?_
      refine XS.icmpNo X1.here hx rfl (hb hby d1_5) rfl (tlt h5_2).2.1 ?_
      show Steps p.tables e below (T1.setTop (mkF m 8 #[.val (.int p1)] [])) _
      refine XS.iloadN X1.here hx rfl (hb hby d1_8) rfl ?_
      show Steps p.tables e below (T1.setTop (mkF m 9 #[.val (.int p1)] [(.int p1)])) _
      exact k
    by_cases h9_4 : p1 < (0 : Int32)
    · have pre6 : ∀ t, Steps p.tables e below (T1.setTop (mkF m 25 #[.val (.int p1)] [(.int (0 : Int32))])) t → Steps p.tables e below (s₁.setTop (entryFrame m #[(.int p1)] 1)) t := by
        intro t k
        refine pre5 t ?_
        refine XS.ifYes X1.here hx rfl (pc0 := 9) (pc' := 24) rfl (hb hby d1_9) rfl ((if0 _ _).trans (tlt h9_4).1) (by decide) (by decide) ?_
        show Steps p.tables e below (T1.setTop (mkF m 24 #[.val (.int p1)] [])) _
        refine XS.iconst X1.here hx rfl (hb hby d1_24) ?_
        show Steps p.tables e below (T1.setTop (mkF m 25 #[.val (.int p1)] [(.int (0 : Int32))])) _
        exact k
      obtain ⟨fs, hr, hrun, hended, hW, hsame⟩ := X1.leave (v := some (.int (nar .boolean (0 : Int32)))) (fun h => by rw [Bd.returns] at h; cases h)
      refine ⟨_, _, pre6 _ ?_, hrun, hended, _, _, rfl, ?_, ⟨_, rfl⟩, hW, hsame.mono (by decide) (by decide)⟩
      · exact retN X1 hx (t := .boolean) Bd.returns (by simp) (hb hby d1_25) hr
      · refine ⟨?_, N0, e1⟩
        rw [own_nar0]
        unfold fN
        rw [if_pos h5_2, if_pos h9_4]
    · obtain ⟨T7, X7, e7, st7⟩ := getS2 X1 hx hZ hown (host := "") (Or.inl (hw _ (List.mem_of_getElem? (i := 20) rfl))) Via.refl e1 SA (g := (mkF m 12 #[.val (.int p1)] [])) rfl (hb hby d1_12)
      have pre9 : ∀ t, Steps p.tables e below (T7.setTop (mkF m 17 #[.val (.int p1)] [(.int (own_tv (p1).toNatClampNeg))])) t → Steps p.tables e below (s₁.setTop (entryFrame m #[(.int p1)] 1)) t := by
        intro t k
        refine pre5 t ?_
        refine XS.ifNo X1.here hx rfl (hb hby d1_9) rfl ((if0 _ _).trans (flt h9_4).1) ?_
        show Steps p.tables e below (T1.setTop (mkF m 12 #[.val (.int p1)] [])) _
        refine st7 _ ?_
        show Steps p.tables e below (T7.setTop (mkF m 15 #[.val (.int p1)] [(.ref aA)])) _
        refine XS.iloadN X7.here hx rfl (hb hby d1_15) rfl ?_
        show Steps p.tables e below (T7.setTop (mkF m 16 #[.val (.int p1)] [(.int p1), (.ref aA)])) _
        refine own_ldZ X7 hx hZ e7 BA (own_in h5_2 h9_4) (g := (mkF m 16 #[.val (.int p1)] [(.int p1), (.ref aA)])) rfl rfl (hb hby d1_16) _ ?_
        show Steps p.tables e below (T7.setTop (mkF m 17 #[.val (.int p1)] [(.int (own_tv (p1).toNatClampNeg))])) _
        exact k
      by_cases h17_8 : (own_tv (p1).toNatClampNeg) = (0 : Int32)
      · have pre10 : ∀ t, Steps p.tables e below (T7.setTop (mkF m 25 #[.val (.int p1)] [(.int (0 : Int32))])) t → Steps p.tables e below (s₁.setTop (entryFrame m #[(.int p1)] 1)) t := by
          intro t k
          refine pre9 t ?_
          refine XS.ifYes X7.here hx rfl (pc0 := 17) (pc' := 24) rfl (hb hby d1_17) rfl ((if0 _ _).trans (teq h17_8).1) (by decide) (by decide) ?_
          show Steps p.tables e below (T7.setTop (mkF m 24 #[.val (.int p1)] [])) _
          refine XS.iconst X7.here hx rfl (hb hby d1_24) ?_
          show Steps p.tables e below (T7.setTop (mkF m 25 #[.val (.int p1)] [(.int (0 : Int32))])) _
          exact k
        obtain ⟨fs, hr, hrun, hended, hW, hsame⟩ := X7.leave (v := some (.int (nar .boolean (0 : Int32)))) (fun h => by rw [Bd.returns] at h; cases h)
        refine ⟨_, _, pre10 _ ?_, hrun, hended, _, _, rfl, ?_, ⟨_, rfl⟩, hW, hsame.mono (by decide) (by decide)⟩
        · exact retN X7 hx (t := .boolean) Bd.returns (by simp) (hb hby d1_25) hr
        · refine ⟨?_, N0, e7⟩
          rw [own_nar0]
          unfold fN
          rw [if_pos h5_2, if_neg h9_4, if_pos h17_8]
      · have pre11 : ∀ t, Steps p.tables e below (T7.setTop (mkF m 25 #[.val (.int p1)] [(.int (1 : Int32))])) t → Steps p.tables e below (s₁.setTop (entryFrame m #[(.int p1)] 1)) t := by
          intro t k
          refine pre9 t ?_
          refine XS.ifNo X7.here hx rfl (hb hby d1_17) rfl ((if0 _ _).trans (feq h17_8).1) ?_
          show Steps p.tables e below (T7.setTop (mkF m 20 #[.val (.int p1)] [])) _
          refine XS.iconst X7.here hx rfl (hb hby d1_20) ?_
          show Steps p.tables e below (T7.setTop (mkF m 21 #[.val (.int p1)] [(.int (1 : Int32))])) _
          refine XS.goto X7.here hx rfl (pc0 := 21) (pc' := 25) rfl (hb hby d1_21) (by decide) (by decide) ?_
          show Steps p.tables e below (T7.setTop (mkF m 25 #[.val (.int p1)] [(.int (1 : Int32))])) _
          exact k
        obtain ⟨fs, hr, hrun, hended, hW, hsame⟩ := X7.leave (v := some (.int (nar .boolean (1 : Int32)))) (fun h => by rw [Bd.returns] at h; cases h)
        refine ⟨_, _, pre11 _ ?_, hrun, hended, _, _, rfl, ?_, ⟨_, rfl⟩, hW, hsame.mono (by decide) (by decide)⟩
        · exact retN X7 hx (t := .boolean) Bd.returns (by simp) (hb hby d1_25) hr
        · refine ⟨?_, N0, e7⟩
          rw [own_nar1]
          unfold fN
          rw [if_pos h5_2, if_neg h9_4, if_neg h17_8]
  · have pre12 : ∀ t, Steps p.tables e below (T1.setTop (mkF m 26 #[.val (.int p1)] [])) t → Steps p.tables e below (s₁.setTop (entryFrame m #[(.int p1)] 1)) t := by
      intro t k
      refine pre3 t ?_
      refine XS.icmpYes X1.here hx rfl (pc0 := 5) (pc' := 26) rfl (hb hby d1_5) rfl (flt h5_2).2.1 (by decide) (by decide) ?_
      show Steps p.tables e below (T1.setTop (mkF m 26 #[.val (.int p1)] [])) _
      exact k
    obtain ⟨fs, hr, hrun, hended, hW, hsame⟩ := X1.leave (v := some (.int (f1_26 p1))) (fun h => by rw [Bd.returns] at h; cases h)
    refine ⟨_, _, pre12 _ ?_, hrun, hended, _, _, rfl, ?_, ⟨_, rfl⟩, hW, hsame.mono (by decide) (by decide)⟩
    · exact b1_26 X1 hx hby hown Bd.returns hr (mvT hZ (hw _ (List.mem_of_getElem? (i := 29) rfl))) (mvT hZ (hw _ (List.mem_of_getElem? (i := 33) rfl))) (mvT hZ (hw _ (List.mem_of_getElem? (i := 34) rfl))) (mvT hZ (hw _ (List.mem_of_getElem? (i := 30) rfl))) (mvT hZ (hw _ (List.mem_of_getElem? (i := 31) rfl))) (mvT hZ (hw _ (List.mem_of_getElem? (i := 32) rfl))) (mvT hZ (hw _ (List.mem_of_getElem? (i := 35) rfl))) p1 rfl
    · refine ⟨?_, N0, e1⟩
      unfold fN
      rw [if_neg h5_2]
theorem pn_0 : plainName "com/example/twyg/twyg/xml/XmlCharactersIsNameStartPinLaw" = true := by first | (simp [plainName, overriddenIn]; done) | decide +kernel
theorem ef_0 (m : MethodId) (p1 : Int32) (p2 : Int32) (p3 : Int32) (p4 : Int32) : entryFrame m #[(.int p1), (.int p2), (.int p3), (.int p4)] maxLocals = mkF m 0 #[.val (.int p1), .val (.int p2), .val (.int p3), .val (.int p4), .unset, .unset, .unset, .unset, .unset, .unset, .unset] [] := by first | (simp [entryFrame, mkF, argsToLocals, Value.category, maxLocals]; done) | rfl
theorem pd_0_0 : parseMethodDescriptor "(I)Z" = some ⟨[.int], some .boolean⟩ := by decide +kernel
def Q0 (n0 : Nat) (v : Option Value) (L : List Loc) : Prop := v = some (.int 1) ∧ Fr n0 L
set_option maxRecDepth 65536 in
set_option maxHeartbeats 40000000 in
theorem rm0 (l : Launch) (Z : State) (a0 : Array Value) (hw : ∀ d ∈ tables_1, d.before a0 Z = true) (ws : List Jvm.Cond) (p1 : Int32) (p2 : Int32) (p3 : Int32) (p4 : Int32) (h0 : Heap) (n0 : Nat) (Z0 : n0 ≤ h0.size) (aA : Addr) (SA : Sta Z h0 "com/example/twyg/twyg/xml/XmlCharacters" "ASCII_NAME_STARTS" "[Z" (.ref aA)) (BA : own_BA Z h0 aA) :
    MetFree l x (head1 (Jvm.Cond.code x code maxLocals ret :: ws) room_1) (fun a U => a = #[(.int p1), (.int p2), (.int p3), (.int p4)] ∧ Z.Warmed39 U.vm ∧ U.heap = h0) (fun _ _ _ _ _ => True) (fun _ U o U' => ∃ v L, o = .returned v ∧ Q0 n0 v L ∧ FrameEnd U o U' L room_1.cells room_1.slots) := by
  refine MetFree.of_bodySF (plainFor_of_name pn_0) hisR ?_
  intro p e s m args below meth c s₁ Bd hml0 hP hK
  obtain ⟨rfl, hZ, hh⟩ := hP
  have hx := Bd.exec
  have hby := Bd.bytes
  have hml : c.maxLocals = 11 := hml0
  have hown : s.vm.findClass "com/example/twyg/twyg/xml/XmlCharactersIsNameStartPinLaw" = some m.cls := findClass_of_methodNamed Bd.named
  have hnm := (name_of_methodNamed Bd.named Bd.method).1
  have X0 : Stand p l e room_1 s m #[(.int p1), (.int p2), (.int p3), (.int p4)] below meth c s₁ [] 0 0 := Stand.of_body Bd
  have e0 : s₁.heap = h0 := by rw [← hh, Bd.state]; rfl
  have N0 := Fr.nil n0
  have pre0 : ∀ t, Steps p.tables e below (s₁.setTop (mkF m 0 #[.val (.int p1), .val (.int p2), .val (.int p3), .val (.int p4), .unset, .unset, .unset, .unset, .unset, .unset, .unset] [])) t → Steps p.tables e below (s₁.setTop (entryFrame m #[(.int p1), (.int p2), (.int p3), (.int p4)] maxLocals)) t := fun t k => castTop (ef_0 m p1 p2 p3 p4) k
  obtain ⟨T1, H1, cA1, X1, e1, E1, A1, st1⟩ := newP X0 hx hZ (aty := .int) (hw _ (List.mem_of_getElem? (i := 0) rfl)) e0 (g := (mkF m 2 #[.val (.int p1), .val (.int p2), .val (.int p3), .val (.int p4), .unset, .unset, .unset, .unset, .unset, .unset, .unset] [(.int (49 : Int32))])) rfl (hb hby at_2) rfl (by decide) (cap := 49) (by decide) (by decide) (by decide) (by decide)
  obtain ⟨b1, g1⟩ : ∃ z, z = h0.size := ⟨_, rfl⟩
  rw [← g1] at A1 st1
  have V1 : own_VA Z H1 b1 .int [(.int (0 : Int32)), (.int (0 : Int32)), (.int (0 : Int32)), (.int (0 : Int32)), (.int (0 : Int32)), (.int (0 : Int32)), (.int (0 : Int32)), (.int (0 : Int32)), (.int (0 : Int32)), (.int (0 : Int32)), (.int (0 : Int32)), (.int (0 : Int32)), (.int (0 : Int32)), (.int (0 : Int32)), (.int (0 : Int32)), (.int (0 : Int32)), (.int (0 : Int32)), (.int (0 : Int32)), (.int (0 : Int32)), (.int (0 : Int32)), (.int (0 : Int32)), (.int (0 : Int32)), (.int (0 : Int32)), (.int (0 : Int32)), (.int (0 : Int32)), (.int (0 : Int32)), (.int (0 : Int32)), (.int (0 : Int32)), (.int (0 : Int32)), (.int (0 : Int32)), (.int (0 : Int32)), (.int (0 : Int32)), (.int (0 : Int32)), (.int (0 : Int32)), (.int (0 : Int32)), (.int (0 : Int32)), (.int (0 : Int32)), (.int (0 : Int32)), (.int (0 : Int32)), (.int (0 : Int32)), (.int (0 : Int32)), (.int (0 : Int32)), (.int (0 : Int32)), (.int (0 : Int32)), (.int (0 : Int32)), (.int (0 : Int32)), (.int (0 : Int32)), (.int (0 : Int32)), (.int (0 : Int32))] := own_VA_new (ty := .int) A1 (k := 49) (by decide)
  have Z1 : n0 ≤ H1.size := Nat.le_trans Z0 E1.1
  have gb1 : n0 ≤ b1 := Nat.le_trans Z0 (Nat.le_of_eq g1.symm)
  have SA1 := Sta.ext E1 SA
  have BA1 := own_BA_ext BA E1
  have nb1 : aA ≠ b1 := Nat.ne_of_lt (Nat.lt_of_lt_of_le (own_BA_lt BA) (Nat.le_of_eq g1.symm))
  obtain ⟨T2, H2, Ls2, X2, e2, V2', W2, FF2, st2⟩ := own_stI X1 hx hZ e1 V1 (n := 49) (k := 0) rfl (by decide) (by decide) (g := (mkF m 7 #[.val (.int p1), .val (.int p2), .val (.int p3), .val (.int p4), .unset, .unset, .unset, .unset, .unset, .unset, .unset] [(.int (0 : Int32)), (.int (0 : Int32)), (.ref b1), (.ref b1)])) rfl rfl (hb hby at_7)
  have V2 : own_VA Z H2 b1 .int [(.int (0 : Int32)), (.int (0 : Int32)), (.int (0 : Int32)), (.int (0 : Int32)), (.int (0 : Int32)), (.int (0 : Int32)), (.int (0 : Int32)), (.int (0 : Int32)), (.int (0 : Int32)), (.int (0 : Int32)), (.int (0 : Int32)), (.int (0 : Int32)), (.int (0 : Int32)), (.int (0 : Int32)), (.int (0 : Int32)), (.int (0 : Int32)), (.int (0 : Int32)), (.int (0 : Int32)), (.int (0 : Int32)), (.int (0 : Int32)), (.int (0 : Int32)), (.int (0 : Int32)), (.int (0 : Int32)), (.int (0 : Int32)), (.int (0 : Int32)), (.int (0 : Int32)), (.int (0 : Int32)), (.int (0 : Int32)), (.int (0 : Int32)), (.int (0 : Int32)), (.int (0 : Int32)), (.int (0 : Int32)), (.int (0 : Int32)), (.int (0 : Int32)), (.int (0 : Int32)), (.int (0 : Int32)), (.int (0 : Int32)), (.int (0 : Int32)), (.int (0 : Int32)), (.int (0 : Int32)), (.int (0 : Int32)), (.int (0 : Int32)), (.int (0 : Int32)), (.int (0 : Int32)), (.int (0 : Int32)), (.int (0 : Int32)), (.int (0 : Int32)), (.int (0 : Int32)), (.int (0 : Int32))] := V2'
  have N2 := FF2 _ N0 gb1
  have Z2 : n0 ≤ H2.size := Nat.le_trans Z1 (Nat.le_of_eq W2.size.symm)
  have SA2 := Sta.wr W2 SA1
  have BA2 := own_BA_other BA1 W2 nb1
  obtain ⟨T3, H3, Ls3, X3, e3, V3', W3, FF3, st3⟩ := own_stI X2 hx hZ e2 V2 (n := 49) (k := 1) rfl (by decide) (by decide) (g := (mkF m 12 #[.val (.int p1), .val (.int p2), .val (.int p3), .val (.int p4), .unset, .unset, .unset, .unset, .unset, .unset, .unset] [(.int (58 : Int32)), (.int (1 : Int32)), (.ref b1), (.ref b1)])) rfl rfl (hb hby at_12)
  have V3 : own_VA Z H3 b1 .int [(.int (0 : Int32)), (.int (58 : Int32)), (.int (0 : Int32)), (.int (0 : Int32)), (.int (0 : Int32)), (.int (0 : Int32)), (.int (0 : Int32)), (.int (0 : Int32)), (.int (0 : Int32)), (.int (0 : Int32)), (.int (0 : Int32)), (.int (0 : Int32)), (.int (0 : Int32)), (.int (0 : Int32)), (.int (0 : Int32)), (.int (0 : Int32)), (.int (0 : Int32)), (.int (0 : Int32)), (.int (0 : Int32)), (.int (0 : Int32)), (.int (0 : Int32)), (.int (0 : Int32)), (.int (0 : Int32)), (.int (0 : Int32)), (.int (0 : Int32)), (.int (0 : Int32)), (.int (0 : Int32)), (.int (0 : Int32)), (.int (0 : Int32)), (.int (0 : Int32)), (.int (0 : Int32)), (.int (0 : Int32)), (.int (0 : Int32)), (.int (0 : Int32)), (.int (0 : Int32)), (.int (0 : Int32)), (.int (0 : Int32)), (.int (0 : Int32)), (.int (0 : Int32)), (.int (0 : Int32)), (.int (0 : Int32)), (.int (0 : Int32)), (.int (0 : Int32)), (.int (0 : Int32)), (.int (0 : Int32)), (.int (0 : Int32)), (.int (0 : Int32)), (.int (0 : Int32)), (.int (0 : Int32))] := V3'
  have N3 := FF3 _ N2 gb1
  have Z3 : n0 ≤ H3.size := Nat.le_trans Z2 (Nat.le_of_eq W3.size.symm)
  have SA3 := Sta.wr W3 SA2
  have BA3 := own_BA_other BA2 W3 nb1
  obtain ⟨T4, H4, Ls4, X4, e4, V4', W4, FF4, st4⟩ := own_stI X3 hx hZ e3 V3 (n := 49) (k := 2) rfl (by decide) (by decide) (g := (mkF m 17 #[.val (.int p1), .val (.int p2), .val (.int p3), .val (.int p4), .unset, .unset, .unset, .unset, .unset, .unset, .unset] [(.int (45 : Int32)), (.int (2 : Int32)), (.ref b1), (.ref b1)])) rfl rfl (hb hby at_17)
  have V4 : own_VA Z H4 b1 .int [(.int (0 : Int32)), (.int (58 : Int32)), (.int (45 : Int32)), (.int (0 : Int32)), (.int (0 : Int32)), (.int (0 : Int32)), (.int (0 : Int32)), (.int (0 : Int32)), (.int (0 : Int32)), (.int (0 : Int32)), (.int (0 : Int32)), (.int (0 : Int32)), (.int (0 : Int32)), (.int (0 : Int32)), (.int (0 : Int32)), (.int (0 : Int32)), (.int (0 : Int32)), (.int (0 : Int32)), (.int (0 : Int32)), (.int (0 : Int32)), (.int (0 : Int32)), (.int (0 : Int32)), (.int (0 : Int32)), (.int (0 : Int32)), (.int (0 : Int32)), (.int (0 : Int32)), (.int (0 : Int32)), (.int (0 : Int32)), (.int (0 : Int32)), (.int (0 : Int32)), (.int (0 : Int32)), (.int (0 : Int32)), (.int (0 : Int32)), (.int (0 : Int32)), (.int (0 : Int32)), (.int (0 : Int32)), (.int (0 : Int32)), (.int (0 : Int32)), (.int (0 : Int32)), (.int (0 : Int32)), (.int (0 : Int32)), (.int (0 : Int32)), (.int (0 : Int32)), (.int (0 : Int32)), (.int (0 : Int32)), (.int (0 : Int32)), (.int (0 : Int32)), (.int (0 : Int32)), (.int (0 : Int32))] := V4'
  have N4 := FF4 _ N3 gb1
  have Z4 : n0 ≤ H4.size := Nat.le_trans Z3 (Nat.le_of_eq W4.size.symm)
  have SA4 := Sta.wr W4 SA3
  have BA4 := own_BA_other BA3 W4 nb1
  obtain ⟨T5, H5, Ls5, X5, e5, V5', W5, FF5, st5⟩ := own_stI X4 hx hZ e4 V4 (n := 49) (k := 3) rfl (by decide) (by decide) (g := (mkF m 22 #[.val (.int p1), .val (.int p2), .val (.int p3), .val (.int p4), .unset, .unset, .unset, .unset, .unset, .unset, .unset] [(.int (46 : Int32)), (.int (3 : Int32)), (.ref b1), (.ref b1)])) rfl rfl (hb hby at_22)
  have V5 : own_VA Z H5 b1 .int [(.int (0 : Int32)), (.int (58 : Int32)), (.int (45 : Int32)), (.int (46 : Int32)), (.int (0 : Int32)), (.int (0 : Int32)), (.int (0 : Int32)), (.int (0 : Int32)), (.int (0 : Int32)), (.int (0 : Int32)), (.int (0 : Int32)), (.int (0 : Int32)), (.int (0 : Int32)), (.int (0 : Int32)), (.int (0 : Int32)), (.int (0 : Int32)), (.int (0 : Int32)), (.int (0 : Int32)), (.int (0 : Int32)), (.int (0 : Int32)), (.int (0 : Int32)), (.int (0 : Int32)), (.int (0 : Int32)), (.int (0 : Int32)), (.int (0 : Int32)), (.int (0 : Int32)), (.int (0 : Int32)), (.int (0 : Int32)), (.int (0 : Int32)), (.int (0 : Int32)), (.int (0 : Int32)), (.int (0 : Int32)), (.int (0 : Int32)), (.int (0 : Int32)), (.int (0 : Int32)), (.int (0 : Int32)), (.int (0 : Int32)), (.int (0 : Int32)), (.int (0 : Int32)), (.int (0 : Int32)), (.int (0 : Int32)), (.int (0 : Int32)), (.int (0 : Int32)), (.int (0 : Int32)), (.int (0 : Int32)), (.int (0 : Int32)), (.int (0 : Int32)), (.int (0 : Int32)), (.int (0 : Int32))] := V5'
  have N5 := FF5 _ N4 gb1
  have Z5 : n0 ≤ H5.size := Nat.le_trans Z4 (Nat.le_of_eq W5.size.symm)
  have SA5 := Sta.wr W5 SA4
  have BA5 := own_BA_other BA4 W5 nb1
  obtain ⟨T6, H6, Ls6, X6, e6, V6', W6, FF6, st6⟩ := own_stI X5 hx hZ e5 V5 (n := 49) (k := 4) rfl (by decide) (by decide) (g := (mkF m 27 #[.val (.int p1), .val (.int p2), .val (.int p3), .val (.int p4), .unset, .unset, .unset, .unset, .unset, .unset, .unset] [(.int (48 : Int32)), (.int (4 : Int32)), (.ref b1), (.ref b1)])) rfl rfl (hb hby at_27)
  have V6 : own_VA Z H6 b1 .int [(.int (0 : Int32)), (.int (58 : Int32)), (.int (45 : Int32)), (.int (46 : Int32)), (.int (48 : Int32)), (.int (0 : Int32)), (.int (0 : Int32)), (.int (0 : Int32)), (.int (0 : Int32)), (.int (0 : Int32)), (.int (0 : Int32)), (.int (0 : Int32)), (.int (0 : Int32)), (.int (0 : Int32)), (.int (0 : Int32)), (.int (0 : Int32)), (.int (0 : Int32)), (.int (0 : Int32)), (.int (0 : Int32)), (.int (0 : Int32)), (.int (0 : Int32)), (.int (0 : Int32)), (.int (0 : Int32)), (.int (0 : Int32)), (.int (0 : Int32)), (.int (0 : Int32)), (.int (0 : Int32)), (.int (0 : Int32)), (.int (0 : Int32)), (.int (0 : Int32)), (.int (0 : Int32)), (.int (0 : Int32)), (.int (0 : Int32)), (.int (0 : Int32)), (.int (0 : Int32)), (.int (0 : Int32)), (.int (0 : Int32)), (.int (0 : Int32)), (.int (0 : Int32)), (.int (0 : Int32)), (.int (0 : Int32)), (.int (0 : Int32)), (.int (0 : Int32)), (.int (0 : Int32)), (.int (0 : Int32)), (.int (0 : Int32)), (.int (0 : Int32)), (.int (0 : Int32)), (.int (0 : Int32))] := V6'
  have N6 := FF6 _ N5 gb1
  have Z6 : n0 ≤ H6.size := Nat.le_trans Z5 (Nat.le_of_eq W6.size.symm)
  have SA6 := Sta.wr W6 SA5
  have BA6 := own_BA_other BA5 W6 nb1
  obtain ⟨T7, H7, Ls7, X7, e7, V7', W7, FF7, st7⟩ := own_stI X6 hx hZ e6 V6 (n := 49) (k := 5) rfl (by decide) (by decide) (g := (mkF m 32 #[.val (.int p1), .val (.int p2), .val (.int p3), .val (.int p4), .unset, .unset, .unset, .unset, .unset, .unset, .unset] [(.int (57 : Int32)), (.int (5 : Int32)), (.ref b1), (.ref b1)])) rfl rfl (hb hby at_32)
  have V7 : own_VA Z H7 b1 .int [(.int (0 : Int32)), (.int (58 : Int32)), (.int (45 : Int32)), (.int (46 : Int32)), (.int (48 : Int32)), (.int (57 : Int32)), (.int (0 : Int32)), (.int (0 : Int32)), (.int (0 : Int32)), (.int (0 : Int32)), (.int (0 : Int32)), (.int (0 : Int32)), (.int (0 : Int32)), (.int (0 : Int32)), (.int (0 : Int32)), (.int (0 : Int32)), (.int (0 : Int32)), (.int (0 : Int32)), (.int (0 : Int32)), (.int (0 : Int32)), (.int (0 : Int32)), (.int (0 : Int32)), (.int (0 : Int32)), (.int (0 : Int32)), (.int (0 : Int32)), (.int (0 : Int32)), (.int (0 : Int32)), (.int (0 : Int32)), (.int (0 : Int32)), (.int (0 : Int32)), (.int (0 : Int32)), (.int (0 : Int32)), (.int (0 : Int32)), (.int (0 : Int32)), (.int (0 : Int32)), (.int (0 : Int32)), (.int (0 : Int32)), (.int (0 : Int32)), (.int (0 : Int32)), (.int (0 : Int32)), (.int (0 : Int32)), (.int (0 : Int32)), (.int (0 : Int32)), (.int (0 : Int32)), (.int (0 : Int32)), (.int (0 : Int32)), (.int (0 : Int32)), (.int (0 : Int32)), (.int (0 : Int32))] := V7'
  have N7 := FF7 _ N6 gb1
  have Z7 : n0 ≤ H7.size := Nat.le_trans Z6 (Nat.le_of_eq W7.size.symm)
  have SA7 := Sta.wr W7 SA6
  have BA7 := own_BA_other BA6 W7 nb1
  obtain ⟨T8, H8, Ls8, X8, e8, V8', W8, FF8, st8⟩ := own_stI X7 hx hZ e7 V7 (n := 49) (k := 6) rfl (by decide) (by decide) (g := (mkF m 38 #[.val (.int p1), .val (.int p2), .val (.int p3), .val (.int p4), .unset, .unset, .unset, .unset, .unset, .unset, .unset] [(.int (65 : Int32)), (.int (6 : Int32)), (.ref b1), (.ref b1)])) rfl rfl (hb hby at_38)
  have V8 : own_VA Z H8 b1 .int [(.int (0 : Int32)), (.int (58 : Int32)), (.int (45 : Int32)), (.int (46 : Int32)), (.int (48 : Int32)), (.int (57 : Int32)), (.int (65 : Int32)), (.int (0 : Int32)), (.int (0 : Int32)), (.int (0 : Int32)), (.int (0 : Int32)), (.int (0 : Int32)), (.int (0 : Int32)), (.int (0 : Int32)), (.int (0 : Int32)), (.int (0 : Int32)), (.int (0 : Int32)), (.int (0 : Int32)), (.int (0 : Int32)), (.int (0 : Int32)), (.int (0 : Int32)), (.int (0 : Int32)), (.int (0 : Int32)), (.int (0 : Int32)), (.int (0 : Int32)), (.int (0 : Int32)), (.int (0 : Int32)), (.int (0 : Int32)), (.int (0 : Int32)), (.int (0 : Int32)), (.int (0 : Int32)), (.int (0 : Int32)), (.int (0 : Int32)), (.int (0 : Int32)), (.int (0 : Int32)), (.int (0 : Int32)), (.int (0 : Int32)), (.int (0 : Int32)), (.int (0 : Int32)), (.int (0 : Int32)), (.int (0 : Int32)), (.int (0 : Int32)), (.int (0 : Int32)), (.int (0 : Int32)), (.int (0 : Int32)), (.int (0 : Int32)), (.int (0 : Int32)), (.int (0 : Int32)), (.int (0 : Int32))] := V8'
  have N8 := FF8 _ N7 gb1
  have Z8 : n0 ≤ H8.size := Nat.le_trans Z7 (Nat.le_of_eq W8.size.symm)
  have SA8 := Sta.wr W8 SA7
  have BA8 := own_BA_other BA7 W8 nb1
  obtain ⟨T9, H9, Ls9, X9, e9, V9', W9, FF9, st9⟩ := own_stI X8 hx hZ e8 V8 (n := 49) (k := 7) rfl (by decide) (by decide) (g := (mkF m 44 #[.val (.int p1), .val (.int p2), .val (.int p3), .val (.int p4), .unset, .unset, .unset, .unset, .unset, .unset, .unset] [(.int (90 : Int32)), (.int (7 : Int32)), (.ref b1), (.ref b1)])) rfl rfl (hb hby at_44)
  have V9 : own_VA Z H9 b1 .int [(.int (0 : Int32)), (.int (58 : Int32)), (.int (45 : Int32)), (.int (46 : Int32)), (.int (48 : Int32)), (.int (57 : Int32)), (.int (65 : Int32)), (.int (90 : Int32)), (.int (0 : Int32)), (.int (0 : Int32)), (.int (0 : Int32)), (.int (0 : Int32)), (.int (0 : Int32)), (.int (0 : Int32)), (.int (0 : Int32)), (.int (0 : Int32)), (.int (0 : Int32)), (.int (0 : Int32)), (.int (0 : Int32)), (.int (0 : Int32)), (.int (0 : Int32)), (.int (0 : Int32)), (.int (0 : Int32)), (.int (0 : Int32)), (.int (0 : Int32)), (.int (0 : Int32)), (.int (0 : Int32)), (.int (0 : Int32)), (.int (0 : Int32)), (.int (0 : Int32)), (.int (0 : Int32)), (.int (0 : Int32)), (.int (0 : Int32)), (.int (0 : Int32)), (.int (0 : Int32)), (.int (0 : Int32)), (.int (0 : Int32)), (.int (0 : Int32)), (.int (0 : Int32)), (.int (0 : Int32)), (.int (0 : Int32)), (.int (0 : Int32)), (.int (0 : Int32)), (.int (0 : Int32)), (.int (0 : Int32)), (.int (0 : Int32)), (.int (0 : Int32)), (.int (0 : Int32)), (.int (0 : Int32))] := V9'
  have N9 := FF9 _ N8 gb1
  have Z9 : n0 ≤ H9.size := Nat.le_trans Z8 (Nat.le_of_eq W9.size.symm)
  have SA9 := Sta.wr W9 SA8
  have BA9 := own_BA_other BA8 W9 nb1
  obtain ⟨T10, H10, Ls10, X10, e10, V10', W10, FF10, st10⟩ := own_stI X9 hx hZ e9 V9 (n := 49) (k := 8) rfl (by decide) (by decide) (g := (mkF m 50 #[.val (.int p1), .val (.int p2), .val (.int p3), .val (.int p4), .unset, .unset, .unset, .unset, .unset, .unset, .unset] [(.int (95 : Int32)), (.int (8 : Int32)), (.ref b1), (.ref b1)])) rfl rfl (hb hby at_50)
  have V10 : own_VA Z H10 b1 .int [(.int (0 : Int32)), (.int (58 : Int32)), (.int (45 : Int32)), (.int (46 : Int32)), (.int (48 : Int32)), (.int (57 : Int32)), (.int (65 : Int32)), (.int (90 : Int32)), (.int (95 : Int32)), (.int (0 : Int32)), (.int (0 : Int32)), (.int (0 : Int32)), (.int (0 : Int32)), (.int (0 : Int32)), (.int (0 : Int32)), (.int (0 : Int32)), (.int (0 : Int32)), (.int (0 : Int32)), (.int (0 : Int32)), (.int (0 : Int32)), (.int (0 : Int32)), (.int (0 : Int32)), (.int (0 : Int32)), (.int (0 : Int32)), (.int (0 : Int32)), (.int (0 : Int32)), (.int (0 : Int32)), (.int (0 : Int32)), (.int (0 : Int32)), (.int (0 : Int32)), (.int (0 : Int32)), (.int (0 : Int32)), (.int (0 : Int32)), (.int (0 : Int32)), (.int (0 : Int32)), (.int (0 : Int32)), (.int (0 : Int32)), (.int (0 : Int32)), (.int (0 : Int32)), (.int (0 : Int32)), (.int (0 : Int32)), (.int (0 : Int32)), (.int (0 : Int32)), (.int (0 : Int32)), (.int (0 : Int32)), (.int (0 : Int32)), (.int (0 : Int32)), (.int (0 : Int32)), (.int (0 : Int32))] := V10'
  have N10 := FF10 _ N9 gb1
  have Z10 : n0 ≤ H10.size := Nat.le_trans Z9 (Nat.le_of_eq W10.size.symm)
  have SA10 := Sta.wr W10 SA9
  have BA10 := own_BA_other BA9 W10 nb1
  obtain ⟨T11, H11, Ls11, X11, e11, V11', W11, FF11, st11⟩ := own_stI X10 hx hZ e10 V10 (n := 49) (k := 9) rfl (by decide) (by decide) (g := (mkF m 56 #[.val (.int p1), .val (.int p2), .val (.int p3), .val (.int p4), .unset, .unset, .unset, .unset, .unset, .unset, .unset] [(.int (97 : Int32)), (.int (9 : Int32)), (.ref b1), (.ref b1)])) rfl rfl (hb hby at_56)
  have V11 : own_VA Z H11 b1 .int [(.int (0 : Int32)), (.int (58 : Int32)), (.int (45 : Int32)), (.int (46 : Int32)), (.int (48 : Int32)), (.int (57 : Int32)), (.int (65 : Int32)), (.int (90 : Int32)), (.int (95 : Int32)), (.int (97 : Int32)), (.int (0 : Int32)), (.int (0 : Int32)), (.int (0 : Int32)), (.int (0 : Int32)), (.int (0 : Int32)), (.int (0 : Int32)), (.int (0 : Int32)), (.int (0 : Int32)), (.int (0 : Int32)), (.int (0 : Int32)), (.int (0 : Int32)), (.int (0 : Int32)), (.int (0 : Int32)), (.int (0 : Int32)), (.int (0 : Int32)), (.int (0 : Int32)), (.int (0 : Int32)), (.int (0 : Int32)), (.int (0 : Int32)), (.int (0 : Int32)), (.int (0 : Int32)), (.int (0 : Int32)), (.int (0 : Int32)), (.int (0 : Int32)), (.int (0 : Int32)), (.int (0 : Int32)), (.int (0 : Int32)), (.int (0 : Int32)), (.int (0 : Int32)), (.int (0 : Int32)), (.int (0 : Int32)), (.int (0 : Int32)), (.int (0 : Int32)), (.int (0 : Int32)), (.int (0 : Int32)), (.int (0 : Int32)), (.int (0 : Int32)), (.int (0 : Int32)), (.int (0 : Int32))] := V11'
  have N11 := FF11 _ N10 gb1
  have Z11 : n0 ≤ H11.size := Nat.le_trans Z10 (Nat.le_of_eq W11.size.symm)
  have SA11 := Sta.wr W11 SA10
  have BA11 := own_BA_other BA10 W11 nb1
  obtain ⟨T12, H12, Ls12, X12, e12, V12', W12, FF12, st12⟩ := own_stI X11 hx hZ e11 V11 (n := 49) (k := 10) rfl (by decide) (by decide) (g := (mkF m 62 #[.val (.int p1), .val (.int p2), .val (.int p3), .val (.int p4), .unset, .unset, .unset, .unset, .unset, .unset, .unset] [(.int (122 : Int32)), (.int (10 : Int32)), (.ref b1), (.ref b1)])) rfl rfl (hb hby at_62)
  have V12 : own_VA Z H12 b1 .int [(.int (0 : Int32)), (.int (58 : Int32)), (.int (45 : Int32)), (.int (46 : Int32)), (.int (48 : Int32)), (.int (57 : Int32)), (.int (65 : Int32)), (.int (90 : Int32)), (.int (95 : Int32)), (.int (97 : Int32)), (.int (122 : Int32)), (.int (0 : Int32)), (.int (0 : Int32)), (.int (0 : Int32)), (.int (0 : Int32)), (.int (0 : Int32)), (.int (0 : Int32)), (.int (0 : Int32)), (.int (0 : Int32)), (.int (0 : Int32)), (.int (0 : Int32)), (.int (0 : Int32)), (.int (0 : Int32)), (.int (0 : Int32)), (.int (0 : Int32)), (.int (0 : Int32)), (.int (0 : Int32)), (.int (0 : Int32)), (.int (0 : Int32)), (.int (0 : Int32)), (.int (0 : Int32)), (.int (0 : Int32)), (.int (0 : Int32)), (.int (0 : Int32)), (.int (0 : Int32)), (.int (0 : Int32)), (.int (0 : Int32)), (.int (0 : Int32)), (.int (0 : Int32)), (.int (0 : Int32)), (.int (0 : Int32)), (.int (0 : Int32)), (.int (0 : Int32)), (.int (0 : Int32)), (.int (0 : Int32)), (.int (0 : Int32)), (.int (0 : Int32)), (.int (0 : Int32)), (.int (0 : Int32))] := V12'
  have N12 := FF12 _ N11 gb1
  have Z12 : n0 ≤ H12.size := Nat.le_trans Z11 (Nat.le_of_eq W12.size.symm)
  have SA12 := Sta.wr W12 SA11
  have BA12 := own_BA_other BA11 W12 nb1
  obtain ⟨T13, H13, Ls13, X13, e13, V13', W13, FF13, st13⟩ := own_stI X12 hx hZ e12 V12 (n := 49) (k := 11) rfl (by decide) (by decide) (g := (mkF m 68 #[.val (.int p1), .val (.int p2), .val (.int p3), .val (.int p4), .unset, .unset, .unset, .unset, .unset, .unset, .unset] [(.int (127 : Int32)), (.int (11 : Int32)), (.ref b1), (.ref b1)])) rfl rfl (hb hby at_68)
  have V13 : own_VA Z H13 b1 .int [(.int (0 : Int32)), (.int (58 : Int32)), (.int (45 : Int32)), (.int (46 : Int32)), (.int (48 : Int32)), (.int (57 : Int32)), (.int (65 : Int32)), (.int (90 : Int32)), (.int (95 : Int32)), (.int (97 : Int32)), (.int (122 : Int32)), (.int (127 : Int32)), (.int (0 : Int32)), (.int (0 : Int32)), (.int (0 : Int32)), (.int (0 : Int32)), (.int (0 : Int32)), (.int (0 : Int32)), (.int (0 : Int32)), (.int (0 : Int32)), (.int (0 : Int32)), (.int (0 : Int32)), (.int (0 : Int32)), (.int (0 : Int32)), (.int (0 : Int32)), (.int (0 : Int32)), (.int (0 : Int32)), (.int (0 : Int32)), (.int (0 : Int32)), (.int (0 : Int32)), (.int (0 : Int32)), (.int (0 : Int32)), (.int (0 : Int32)), (.int (0 : Int32)), (.int (0 : Int32)), (.int (0 : Int32)), (.int (0 : Int32)), (.int (0 : Int32)), (.int (0 : Int32)), (.int (0 : Int32)), (.int (0 : Int32)), (.int (0 : Int32)), (.int (0 : Int32)), (.int (0 : Int32)), (.int (0 : Int32)), (.int (0 : Int32)), (.int (0 : Int32)), (.int (0 : Int32)), (.int (0 : Int32))] := V13'
  have N13 := FF13 _ N12 gb1
  have Z13 : n0 ≤ H13.size := Nat.le_trans Z12 (Nat.le_of_eq W13.size.symm)
  have SA13 := Sta.wr W13 SA12
  have BA13 := own_BA_other BA12 W13 nb1
  obtain ⟨T14, H14, Ls14, X14, e14, V14', W14, FF14, st14⟩ := own_stI X13 hx hZ e13 V13 (n := 49) (k := 12) rfl (by decide) (by decide) (g := (mkF m 75 #[.val (.int p1), .val (.int p2), .val (.int p3), .val (.int p4), .unset, .unset, .unset, .unset, .unset, .unset, .unset] [(.int (183 : Int32)), (.int (12 : Int32)), (.ref b1), (.ref b1)])) rfl rfl (hb hby at_75)
  have V14 : own_VA Z H14 b1 .int [(.int (0 : Int32)), (.int (58 : Int32)), (.int (45 : Int32)), (.int (46 : Int32)), (.int (48 : Int32)), (.int (57 : Int32)), (.int (65 : Int32)), (.int (90 : Int32)), (.int (95 : Int32)), (.int (97 : Int32)), (.int (122 : Int32)), (.int (127 : Int32)), (.int (183 : Int32)), (.int (0 : Int32)), (.int (0 : Int32)), (.int (0 : Int32)), (.int (0 : Int32)), (.int (0 : Int32)), (.int (0 : Int32)), (.int (0 : Int32)), (.int (0 : Int32)), (.int (0 : Int32)), (.int (0 : Int32)), (.int (0 : Int32)), (.int (0 : Int32)), (.int (0 : Int32)), (.int (0 : Int32)), (.int (0 : Int32)), (.int (0 : Int32)), (.int (0 : Int32)), (.int (0 : Int32)), (.int (0 : Int32)), (.int (0 : Int32)), (.int (0 : Int32)), (.int (0 : Int32)), (.int (0 : Int32)), (.int (0 : Int32)), (.int (0 : Int32)), (.int (0 : Int32)), (.int (0 : Int32)), (.int (0 : Int32)), (.int (0 : Int32)), (.int (0 : Int32)), (.int (0 : Int32)), (.int (0 : Int32)), (.int (0 : Int32)), (.int (0 : Int32)), (.int (0 : Int32)), (.int (0 : Int32))] := V14'
  have N14 := FF14 _ N13 gb1
  have Z14 : n0 ≤ H14.size := Nat.le_trans Z13 (Nat.le_of_eq W14.size.symm)
  have SA14 := Sta.wr W14 SA13
  have BA14 := own_BA_other BA13 W14 nb1
  obtain ⟨T15, H15, Ls15, X15, e15, V15', W15, FF15, st15⟩ := own_stI X14 hx hZ e14 V14 (n := 49) (k := 13) rfl (by decide) (by decide) (g := (mkF m 82 #[.val (.int p1), .val (.int p2), .val (.int p3), .val (.int p4), .unset, .unset, .unset, .unset, .unset, .unset, .unset] [(.int (192 : Int32)), (.int (13 : Int32)), (.ref b1), (.ref b1)])) rfl rfl (hb hby at_82)
  have V15 : own_VA Z H15 b1 .int [(.int (0 : Int32)), (.int (58 : Int32)), (.int (45 : Int32)), (.int (46 : Int32)), (.int (48 : Int32)), (.int (57 : Int32)), (.int (65 : Int32)), (.int (90 : Int32)), (.int (95 : Int32)), (.int (97 : Int32)), (.int (122 : Int32)), (.int (127 : Int32)), (.int (183 : Int32)), (.int (192 : Int32)), (.int (0 : Int32)), (.int (0 : Int32)), (.int (0 : Int32)), (.int (0 : Int32)), (.int (0 : Int32)), (.int (0 : Int32)), (.int (0 : Int32)), (.int (0 : Int32)), (.int (0 : Int32)), (.int (0 : Int32)), (.int (0 : Int32)), (.int (0 : Int32)), (.int (0 : Int32)), (.int (0 : Int32)), (.int (0 : Int32)), (.int (0 : Int32)), (.int (0 : Int32)), (.int (0 : Int32)), (.int (0 : Int32)), (.int (0 : Int32)), (.int (0 : Int32)), (.int (0 : Int32)), (.int (0 : Int32)), (.int (0 : Int32)), (.int (0 : Int32)), (.int (0 : Int32)), (.int (0 : Int32)), (.int (0 : Int32)), (.int (0 : Int32)), (.int (0 : Int32)), (.int (0 : Int32)), (.int (0 : Int32)), (.int (0 : Int32)), (.int (0 : Int32)), (.int (0 : Int32))] := V15'
  have N15 := FF15 _ N14 gb1
  have Z15 : n0 ≤ H15.size := Nat.le_trans Z14 (Nat.le_of_eq W15.size.symm)
  have SA15 := Sta.wr W15 SA14
  have BA15 := own_BA_other BA14 W15 nb1
  obtain ⟨T16, H16, Ls16, X16, e16, V16', W16, FF16, st16⟩ := own_stI X15 hx hZ e15 V15 (n := 49) (k := 14) rfl (by decide) (by decide) (g := (mkF m 89 #[.val (.int p1), .val (.int p2), .val (.int p3), .val (.int p4), .unset, .unset, .unset, .unset, .unset, .unset, .unset] [(.int (214 : Int32)), (.int (14 : Int32)), (.ref b1), (.ref b1)])) rfl rfl (hb hby at_89)
  have V16 : own_VA Z H16 b1 .int [(.int (0 : Int32)), (.int (58 : Int32)), (.int (45 : Int32)), (.int (46 : Int32)), (.int (48 : Int32)), (.int (57 : Int32)), (.int (65 : Int32)), (.int (90 : Int32)), (.int (95 : Int32)), (.int (97 : Int32)), (.int (122 : Int32)), (.int (127 : Int32)), (.int (183 : Int32)), (.int (192 : Int32)), (.int (214 : Int32)), (.int (0 : Int32)), (.int (0 : Int32)), (.int (0 : Int32)), (.int (0 : Int32)), (.int (0 : Int32)), (.int (0 : Int32)), (.int (0 : Int32)), (.int (0 : Int32)), (.int (0 : Int32)), (.int (0 : Int32)), (.int (0 : Int32)), (.int (0 : Int32)), (.int (0 : Int32)), (.int (0 : Int32)), (.int (0 : Int32)), (.int (0 : Int32)), (.int (0 : Int32)), (.int (0 : Int32)), (.int (0 : Int32)), (.int (0 : Int32)), (.int (0 : Int32)), (.int (0 : Int32)), (.int (0 : Int32)), (.int (0 : Int32)), (.int (0 : Int32)), (.int (0 : Int32)), (.int (0 : Int32)), (.int (0 : Int32)), (.int (0 : Int32)), (.int (0 : Int32)), (.int (0 : Int32)), (.int (0 : Int32)), (.int (0 : Int32)), (.int (0 : Int32))] := V16'
  have N16 := FF16 _ N15 gb1
  have Z16 : n0 ≤ H16.size := Nat.le_trans Z15 (Nat.le_of_eq W16.size.symm)
  have SA16 := Sta.wr W16 SA15
  have BA16 := own_BA_other BA15 W16 nb1
  obtain ⟨T17, H17, Ls17, X17, e17, V17', W17, FF17, st17⟩ := own_stI X16 hx hZ e16 V16 (n := 49) (k := 15) rfl (by decide) (by decide) (g := (mkF m 96 #[.val (.int p1), .val (.int p2), .val (.int p3), .val (.int p4), .unset, .unset, .unset, .unset, .unset, .unset, .unset] [(.int (216 : Int32)), (.int (15 : Int32)), (.ref b1), (.ref b1)])) rfl rfl (hb hby at_96)
  have V17 : own_VA Z H17 b1 .int [(.int (0 : Int32)), (.int (58 : Int32)), (.int (45 : Int32)), (.int (46 : Int32)), (.int (48 : Int32)), (.int (57 : Int32)), (.int (65 : Int32)), (.int (90 : Int32)), (.int (95 : Int32)), (.int (97 : Int32)), (.int (122 : Int32)), (.int (127 : Int32)), (.int (183 : Int32)), (.int (192 : Int32)), (.int (214 : Int32)), (.int (216 : Int32)), (.int (0 : Int32)), (.int (0 : Int32)), (.int (0 : Int32)), (.int (0 : Int32)), (.int (0 : Int32)), (.int (0 : Int32)), (.int (0 : Int32)), (.int (0 : Int32)), (.int (0 : Int32)), (.int (0 : Int32)), (.int (0 : Int32)), (.int (0 : Int32)), (.int (0 : Int32)), (.int (0 : Int32)), (.int (0 : Int32)), (.int (0 : Int32)), (.int (0 : Int32)), (.int (0 : Int32)), (.int (0 : Int32)), (.int (0 : Int32)), (.int (0 : Int32)), (.int (0 : Int32)), (.int (0 : Int32)), (.int (0 : Int32)), (.int (0 : Int32)), (.int (0 : Int32)), (.int (0 : Int32)), (.int (0 : Int32)), (.int (0 : Int32)), (.int (0 : Int32)), (.int (0 : Int32)), (.int (0 : Int32)), (.int (0 : Int32))] := V17'
  have N17 := FF17 _ N16 gb1
  have Z17 : n0 ≤ H17.size := Nat.le_trans Z16 (Nat.le_of_eq W17.size.symm)
  have SA17 := Sta.wr W17 SA16
  have BA17 := own_BA_other BA16 W17 nb1
  obtain ⟨T18, H18, Ls18, X18, e18, V18', W18, FF18, st18⟩ := own_stI X17 hx hZ e17 V17 (n := 49) (k := 16) rfl (by decide) (by decide) (g := (mkF m 103 #[.val (.int p1), .val (.int p2), .val (.int p3), .val (.int p4), .unset, .unset, .unset, .unset, .unset, .unset, .unset] [(.int (246 : Int32)), (.int (16 : Int32)), (.ref b1), (.ref b1)])) rfl rfl (hb hby at_103)
  have V18 : own_VA Z H18 b1 .int [(.int (0 : Int32)), (.int (58 : Int32)), (.int (45 : Int32)), (.int (46 : Int32)), (.int (48 : Int32)), (.int (57 : Int32)), (.int (65 : Int32)), (.int (90 : Int32)), (.int (95 : Int32)), (.int (97 : Int32)), (.int (122 : Int32)), (.int (127 : Int32)), (.int (183 : Int32)), (.int (192 : Int32)), (.int (214 : Int32)), (.int (216 : Int32)), (.int (246 : Int32)), (.int (0 : Int32)), (.int (0 : Int32)), (.int (0 : Int32)), (.int (0 : Int32)), (.int (0 : Int32)), (.int (0 : Int32)), (.int (0 : Int32)), (.int (0 : Int32)), (.int (0 : Int32)), (.int (0 : Int32)), (.int (0 : Int32)), (.int (0 : Int32)), (.int (0 : Int32)), (.int (0 : Int32)), (.int (0 : Int32)), (.int (0 : Int32)), (.int (0 : Int32)), (.int (0 : Int32)), (.int (0 : Int32)), (.int (0 : Int32)), (.int (0 : Int32)), (.int (0 : Int32)), (.int (0 : Int32)), (.int (0 : Int32)), (.int (0 : Int32)), (.int (0 : Int32)), (.int (0 : Int32)), (.int (0 : Int32)), (.int (0 : Int32)), (.int (0 : Int32)), (.int (0 : Int32)), (.int (0 : Int32))] := V18'
  have N18 := FF18 _ N17 gb1
  have Z18 : n0 ≤ H18.size := Nat.le_trans Z17 (Nat.le_of_eq W18.size.symm)
  have SA18 := Sta.wr W18 SA17
  have BA18 := own_BA_other BA17 W18 nb1
  obtain ⟨T19, H19, Ls19, X19, e19, V19', W19, FF19, st19⟩ := own_stI X18 hx hZ e18 V18 (n := 49) (k := 17) rfl (by decide) (by decide) (g := (mkF m 110 #[.val (.int p1), .val (.int p2), .val (.int p3), .val (.int p4), .unset, .unset, .unset, .unset, .unset, .unset, .unset] [(.int (248 : Int32)), (.int (17 : Int32)), (.ref b1), (.ref b1)])) rfl rfl (hb hby at_110)
  have V19 : own_VA Z H19 b1 .int [(.int (0 : Int32)), (.int (58 : Int32)), (.int (45 : Int32)), (.int (46 : Int32)), (.int (48 : Int32)), (.int (57 : Int32)), (.int (65 : Int32)), (.int (90 : Int32)), (.int (95 : Int32)), (.int (97 : Int32)), (.int (122 : Int32)), (.int (127 : Int32)), (.int (183 : Int32)), (.int (192 : Int32)), (.int (214 : Int32)), (.int (216 : Int32)), (.int (246 : Int32)), (.int (248 : Int32)), (.int (0 : Int32)), (.int (0 : Int32)), (.int (0 : Int32)), (.int (0 : Int32)), (.int (0 : Int32)), (.int (0 : Int32)), (.int (0 : Int32)), (.int (0 : Int32)), (.int (0 : Int32)), (.int (0 : Int32)), (.int (0 : Int32)), (.int (0 : Int32)), (.int (0 : Int32)), (.int (0 : Int32)), (.int (0 : Int32)), (.int (0 : Int32)), (.int (0 : Int32)), (.int (0 : Int32)), (.int (0 : Int32)), (.int (0 : Int32)), (.int (0 : Int32)), (.int (0 : Int32)), (.int (0 : Int32)), (.int (0 : Int32)), (.int (0 : Int32)), (.int (0 : Int32)), (.int (0 : Int32)), (.int (0 : Int32)), (.int (0 : Int32)), (.int (0 : Int32)), (.int (0 : Int32))] := V19'
  have N19 := FF19 _ N18 gb1
  have Z19 : n0 ≤ H19.size := Nat.le_trans Z18 (Nat.le_of_eq W19.size.symm)
  have SA19 := Sta.wr W19 SA18
  have BA19 := own_BA_other BA18 W19 nb1
  obtain ⟨T20, H20, Ls20, X20, e20, V20', W20, FF20, st20⟩ := own_stI X19 hx hZ e19 V19 (n := 49) (k := 18) rfl (by decide) (by decide) (g := (mkF m 117 #[.val (.int p1), .val (.int p2), .val (.int p3), .val (.int p4), .unset, .unset, .unset, .unset, .unset, .unset, .unset] [(.int (767 : Int32)), (.int (18 : Int32)), (.ref b1), (.ref b1)])) rfl rfl (hb hby at_117)
  have V20 : own_VA Z H20 b1 .int [(.int (0 : Int32)), (.int (58 : Int32)), (.int (45 : Int32)), (.int (46 : Int32)), (.int (48 : Int32)), (.int (57 : Int32)), (.int (65 : Int32)), (.int (90 : Int32)), (.int (95 : Int32)), (.int (97 : Int32)), (.int (122 : Int32)), (.int (127 : Int32)), (.int (183 : Int32)), (.int (192 : Int32)), (.int (214 : Int32)), (.int (216 : Int32)), (.int (246 : Int32)), (.int (248 : Int32)), (.int (767 : Int32)), (.int (0 : Int32)), (.int (0 : Int32)), (.int (0 : Int32)), (.int (0 : Int32)), (.int (0 : Int32)), (.int (0 : Int32)), (.int (0 : Int32)), (.int (0 : Int32)), (.int (0 : Int32)), (.int (0 : Int32)), (.int (0 : Int32)), (.int (0 : Int32)), (.int (0 : Int32)), (.int (0 : Int32)), (.int (0 : Int32)), (.int (0 : Int32)), (.int (0 : Int32)), (.int (0 : Int32)), (.int (0 : Int32)), (.int (0 : Int32)), (.int (0 : Int32)), (.int (0 : Int32)), (.int (0 : Int32)), (.int (0 : Int32)), (.int (0 : Int32)), (.int (0 : Int32)), (.int (0 : Int32)), (.int (0 : Int32)), (.int (0 : Int32)), (.int (0 : Int32))] := V20'
  have N20 := FF20 _ N19 gb1
  have Z20 : n0 ≤ H20.size := Nat.le_trans Z19 (Nat.le_of_eq W20.size.symm)
  have SA20 := Sta.wr W20 SA19
  have BA20 := own_BA_other BA19 W20 nb1
  obtain ⟨T21, H21, Ls21, X21, e21, V21', W21, FF21, st21⟩ := own_stI X20 hx hZ e20 V20 (n := 49) (k := 19) rfl (by decide) (by decide) (g := (mkF m 124 #[.val (.int p1), .val (.int p2), .val (.int p3), .val (.int p4), .unset, .unset, .unset, .unset, .unset, .unset, .unset] [(.int (879 : Int32)), (.int (19 : Int32)), (.ref b1), (.ref b1)])) rfl rfl (hb hby at_124)
  have V21 : own_VA Z H21 b1 .int [(.int (0 : Int32)), (.int (58 : Int32)), (.int (45 : Int32)), (.int (46 : Int32)), (.int (48 : Int32)), (.int (57 : Int32)), (.int (65 : Int32)), (.int (90 : Int32)), (.int (95 : Int32)), (.int (97 : Int32)), (.int (122 : Int32)), (.int (127 : Int32)), (.int (183 : Int32)), (.int (192 : Int32)), (.int (214 : Int32)), (.int (216 : Int32)), (.int (246 : Int32)), (.int (248 : Int32)), (.int (767 : Int32)), (.int (879 : Int32)), (.int (0 : Int32)), (.int (0 : Int32)), (.int (0 : Int32)), (.int (0 : Int32)), (.int (0 : Int32)), (.int (0 : Int32)), (.int (0 : Int32)), (.int (0 : Int32)), (.int (0 : Int32)), (.int (0 : Int32)), (.int (0 : Int32)), (.int (0 : Int32)), (.int (0 : Int32)), (.int (0 : Int32)), (.int (0 : Int32)), (.int (0 : Int32)), (.int (0 : Int32)), (.int (0 : Int32)), (.int (0 : Int32)), (.int (0 : Int32)), (.int (0 : Int32)), (.int (0 : Int32)), (.int (0 : Int32)), (.int (0 : Int32)), (.int (0 : Int32)), (.int (0 : Int32)), (.int (0 : Int32)), (.int (0 : Int32)), (.int (0 : Int32))] := V21'
  have N21 := FF21 _ N20 gb1
  have Z21 : n0 ≤ H21.size := Nat.le_trans Z20 (Nat.le_of_eq W21.size.symm)
  have SA21 := Sta.wr W21 SA20
  have BA21 := own_BA_other BA20 W21 nb1
  obtain ⟨T22, H22, Ls22, X22, e22, V22', W22, FF22, st22⟩ := own_stI X21 hx hZ e21 V21 (n := 49) (k := 20) rfl (by decide) (by decide) (g := (mkF m 131 #[.val (.int p1), .val (.int p2), .val (.int p3), .val (.int p4), .unset, .unset, .unset, .unset, .unset, .unset, .unset] [(.int (880 : Int32)), (.int (20 : Int32)), (.ref b1), (.ref b1)])) rfl rfl (hb hby at_131)
  have V22 : own_VA Z H22 b1 .int [(.int (0 : Int32)), (.int (58 : Int32)), (.int (45 : Int32)), (.int (46 : Int32)), (.int (48 : Int32)), (.int (57 : Int32)), (.int (65 : Int32)), (.int (90 : Int32)), (.int (95 : Int32)), (.int (97 : Int32)), (.int (122 : Int32)), (.int (127 : Int32)), (.int (183 : Int32)), (.int (192 : Int32)), (.int (214 : Int32)), (.int (216 : Int32)), (.int (246 : Int32)), (.int (248 : Int32)), (.int (767 : Int32)), (.int (879 : Int32)), (.int (880 : Int32)), (.int (0 : Int32)), (.int (0 : Int32)), (.int (0 : Int32)), (.int (0 : Int32)), (.int (0 : Int32)), (.int (0 : Int32)), (.int (0 : Int32)), (.int (0 : Int32)), (.int (0 : Int32)), (.int (0 : Int32)), (.int (0 : Int32)), (.int (0 : Int32)), (.int (0 : Int32)), (.int (0 : Int32)), (.int (0 : Int32)), (.int (0 : Int32)), (.int (0 : Int32)), (.int (0 : Int32)), (.int (0 : Int32)), (.int (0 : Int32)), (.int (0 : Int32)), (.int (0 : Int32)), (.int (0 : Int32)), (.int (0 : Int32)), (.int (0 : Int32)), (.int (0 : Int32)), (.int (0 : Int32)), (.int (0 : Int32))] := V22'
  have N22 := FF22 _ N21 gb1
  have Z22 : n0 ≤ H22.size := Nat.le_trans Z21 (Nat.le_of_eq W22.size.symm)
  have SA22 := Sta.wr W22 SA21
  have BA22 := own_BA_other BA21 W22 nb1
  obtain ⟨T23, H23, Ls23, X23, e23, V23', W23, FF23, st23⟩ := own_stI X22 hx hZ e22 V22 (n := 49) (k := 21) rfl (by decide) (by decide) (g := (mkF m 138 #[.val (.int p1), .val (.int p2), .val (.int p3), .val (.int p4), .unset, .unset, .unset, .unset, .unset, .unset, .unset] [(.int (893 : Int32)), (.int (21 : Int32)), (.ref b1), (.ref b1)])) rfl rfl (hb hby at_138)
  have V23 : own_VA Z H23 b1 .int [(.int (0 : Int32)), (.int (58 : Int32)), (.int (45 : Int32)), (.int (46 : Int32)), (.int (48 : Int32)), (.int (57 : Int32)), (.int (65 : Int32)), (.int (90 : Int32)), (.int (95 : Int32)), (.int (97 : Int32)), (.int (122 : Int32)), (.int (127 : Int32)), (.int (183 : Int32)), (.int (192 : Int32)), (.int (214 : Int32)), (.int (216 : Int32)), (.int (246 : Int32)), (.int (248 : Int32)), (.int (767 : Int32)), (.int (879 : Int32)), (.int (880 : Int32)), (.int (893 : Int32)), (.int (0 : Int32)), (.int (0 : Int32)), (.int (0 : Int32)), (.int (0 : Int32)), (.int (0 : Int32)), (.int (0 : Int32)), (.int (0 : Int32)), (.int (0 : Int32)), (.int (0 : Int32)), (.int (0 : Int32)), (.int (0 : Int32)), (.int (0 : Int32)), (.int (0 : Int32)), (.int (0 : Int32)), (.int (0 : Int32)), (.int (0 : Int32)), (.int (0 : Int32)), (.int (0 : Int32)), (.int (0 : Int32)), (.int (0 : Int32)), (.int (0 : Int32)), (.int (0 : Int32)), (.int (0 : Int32)), (.int (0 : Int32)), (.int (0 : Int32)), (.int (0 : Int32)), (.int (0 : Int32))] := V23'
  have N23 := FF23 _ N22 gb1
  have Z23 : n0 ≤ H23.size := Nat.le_trans Z22 (Nat.le_of_eq W23.size.symm)
  have SA23 := Sta.wr W23 SA22
  have BA23 := own_BA_other BA22 W23 nb1
  obtain ⟨T24, H24, Ls24, X24, e24, V24', W24, FF24, st24⟩ := own_stI X23 hx hZ e23 V23 (n := 49) (k := 22) rfl (by decide) (by decide) (g := (mkF m 145 #[.val (.int p1), .val (.int p2), .val (.int p3), .val (.int p4), .unset, .unset, .unset, .unset, .unset, .unset, .unset] [(.int (895 : Int32)), (.int (22 : Int32)), (.ref b1), (.ref b1)])) rfl rfl (hb hby at_145)
  have V24 : own_VA Z H24 b1 .int [(.int (0 : Int32)), (.int (58 : Int32)), (.int (45 : Int32)), (.int (46 : Int32)), (.int (48 : Int32)), (.int (57 : Int32)), (.int (65 : Int32)), (.int (90 : Int32)), (.int (95 : Int32)), (.int (97 : Int32)), (.int (122 : Int32)), (.int (127 : Int32)), (.int (183 : Int32)), (.int (192 : Int32)), (.int (214 : Int32)), (.int (216 : Int32)), (.int (246 : Int32)), (.int (248 : Int32)), (.int (767 : Int32)), (.int (879 : Int32)), (.int (880 : Int32)), (.int (893 : Int32)), (.int (895 : Int32)), (.int (0 : Int32)), (.int (0 : Int32)), (.int (0 : Int32)), (.int (0 : Int32)), (.int (0 : Int32)), (.int (0 : Int32)), (.int (0 : Int32)), (.int (0 : Int32)), (.int (0 : Int32)), (.int (0 : Int32)), (.int (0 : Int32)), (.int (0 : Int32)), (.int (0 : Int32)), (.int (0 : Int32)), (.int (0 : Int32)), (.int (0 : Int32)), (.int (0 : Int32)), (.int (0 : Int32)), (.int (0 : Int32)), (.int (0 : Int32)), (.int (0 : Int32)), (.int (0 : Int32)), (.int (0 : Int32)), (.int (0 : Int32)), (.int (0 : Int32)), (.int (0 : Int32))] := V24'
  have N24 := FF24 _ N23 gb1
  have Z24 : n0 ≤ H24.size := Nat.le_trans Z23 (Nat.le_of_eq W24.size.symm)
  have SA24 := Sta.wr W24 SA23
  have BA24 := own_BA_other BA23 W24 nb1
  obtain ⟨T25, H25, Ls25, X25, e25, V25', W25, FF25, st25⟩ := own_stI X24 hx hZ e24 V24 (n := 49) (k := 23) rfl (by decide) (by decide) (g := (mkF m 152 #[.val (.int p1), .val (.int p2), .val (.int p3), .val (.int p4), .unset, .unset, .unset, .unset, .unset, .unset, .unset] [(.int (8191 : Int32)), (.int (23 : Int32)), (.ref b1), (.ref b1)])) rfl rfl (hb hby at_152)
  have V25 : own_VA Z H25 b1 .int [(.int (0 : Int32)), (.int (58 : Int32)), (.int (45 : Int32)), (.int (46 : Int32)), (.int (48 : Int32)), (.int (57 : Int32)), (.int (65 : Int32)), (.int (90 : Int32)), (.int (95 : Int32)), (.int (97 : Int32)), (.int (122 : Int32)), (.int (127 : Int32)), (.int (183 : Int32)), (.int (192 : Int32)), (.int (214 : Int32)), (.int (216 : Int32)), (.int (246 : Int32)), (.int (248 : Int32)), (.int (767 : Int32)), (.int (879 : Int32)), (.int (880 : Int32)), (.int (893 : Int32)), (.int (895 : Int32)), (.int (8191 : Int32)), (.int (0 : Int32)), (.int (0 : Int32)), (.int (0 : Int32)), (.int (0 : Int32)), (.int (0 : Int32)), (.int (0 : Int32)), (.int (0 : Int32)), (.int (0 : Int32)), (.int (0 : Int32)), (.int (0 : Int32)), (.int (0 : Int32)), (.int (0 : Int32)), (.int (0 : Int32)), (.int (0 : Int32)), (.int (0 : Int32)), (.int (0 : Int32)), (.int (0 : Int32)), (.int (0 : Int32)), (.int (0 : Int32)), (.int (0 : Int32)), (.int (0 : Int32)), (.int (0 : Int32)), (.int (0 : Int32)), (.int (0 : Int32)), (.int (0 : Int32))] := V25'
  have N25 := FF25 _ N24 gb1
  have Z25 : n0 ≤ H25.size := Nat.le_trans Z24 (Nat.le_of_eq W25.size.symm)
  have SA25 := Sta.wr W25 SA24
  have BA25 := own_BA_other BA24 W25 nb1
  obtain ⟨T26, H26, Ls26, X26, e26, V26', W26, FF26, st26⟩ := own_stI X25 hx hZ e25 V25 (n := 49) (k := 24) rfl (by decide) (by decide) (g := (mkF m 159 #[.val (.int p1), .val (.int p2), .val (.int p3), .val (.int p4), .unset, .unset, .unset, .unset, .unset, .unset, .unset] [(.int (8204 : Int32)), (.int (24 : Int32)), (.ref b1), (.ref b1)])) rfl rfl (hb hby at_159)
  have V26 : own_VA Z H26 b1 .int [(.int (0 : Int32)), (.int (58 : Int32)), (.int (45 : Int32)), (.int (46 : Int32)), (.int (48 : Int32)), (.int (57 : Int32)), (.int (65 : Int32)), (.int (90 : Int32)), (.int (95 : Int32)), (.int (97 : Int32)), (.int (122 : Int32)), (.int (127 : Int32)), (.int (183 : Int32)), (.int (192 : Int32)), (.int (214 : Int32)), (.int (216 : Int32)), (.int (246 : Int32)), (.int (248 : Int32)), (.int (767 : Int32)), (.int (879 : Int32)), (.int (880 : Int32)), (.int (893 : Int32)), (.int (895 : Int32)), (.int (8191 : Int32)), (.int (8204 : Int32)), (.int (0 : Int32)), (.int (0 : Int32)), (.int (0 : Int32)), (.int (0 : Int32)), (.int (0 : Int32)), (.int (0 : Int32)), (.int (0 : Int32)), (.int (0 : Int32)), (.int (0 : Int32)), (.int (0 : Int32)), (.int (0 : Int32)), (.int (0 : Int32)), (.int (0 : Int32)), (.int (0 : Int32)), (.int (0 : Int32)), (.int (0 : Int32)), (.int (0 : Int32)), (.int (0 : Int32)), (.int (0 : Int32)), (.int (0 : Int32)), (.int (0 : Int32)), (.int (0 : Int32)), (.int (0 : Int32)), (.int (0 : Int32))] := V26'
  have N26 := FF26 _ N25 gb1
  have Z26 : n0 ≤ H26.size := Nat.le_trans Z25 (Nat.le_of_eq W26.size.symm)
  have SA26 := Sta.wr W26 SA25
  have BA26 := own_BA_other BA25 W26 nb1
  obtain ⟨T27, H27, Ls27, X27, e27, V27', W27, FF27, st27⟩ := own_stI X26 hx hZ e26 V26 (n := 49) (k := 25) rfl (by decide) (by decide) (g := (mkF m 166 #[.val (.int p1), .val (.int p2), .val (.int p3), .val (.int p4), .unset, .unset, .unset, .unset, .unset, .unset, .unset] [(.int (8205 : Int32)), (.int (25 : Int32)), (.ref b1), (.ref b1)])) rfl rfl (hb hby at_166)
  have V27 : own_VA Z H27 b1 .int [(.int (0 : Int32)), (.int (58 : Int32)), (.int (45 : Int32)), (.int (46 : Int32)), (.int (48 : Int32)), (.int (57 : Int32)), (.int (65 : Int32)), (.int (90 : Int32)), (.int (95 : Int32)), (.int (97 : Int32)), (.int (122 : Int32)), (.int (127 : Int32)), (.int (183 : Int32)), (.int (192 : Int32)), (.int (214 : Int32)), (.int (216 : Int32)), (.int (246 : Int32)), (.int (248 : Int32)), (.int (767 : Int32)), (.int (879 : Int32)), (.int (880 : Int32)), (.int (893 : Int32)), (.int (895 : Int32)), (.int (8191 : Int32)), (.int (8204 : Int32)), (.int (8205 : Int32)), (.int (0 : Int32)), (.int (0 : Int32)), (.int (0 : Int32)), (.int (0 : Int32)), (.int (0 : Int32)), (.int (0 : Int32)), (.int (0 : Int32)), (.int (0 : Int32)), (.int (0 : Int32)), (.int (0 : Int32)), (.int (0 : Int32)), (.int (0 : Int32)), (.int (0 : Int32)), (.int (0 : Int32)), (.int (0 : Int32)), (.int (0 : Int32)), (.int (0 : Int32)), (.int (0 : Int32)), (.int (0 : Int32)), (.int (0 : Int32)), (.int (0 : Int32)), (.int (0 : Int32)), (.int (0 : Int32))] := V27'
  have N27 := FF27 _ N26 gb1
  have Z27 : n0 ≤ H27.size := Nat.le_trans Z26 (Nat.le_of_eq W27.size.symm)
  have SA27 := Sta.wr W27 SA26
  have BA27 := own_BA_other BA26 W27 nb1
  obtain ⟨T28, H28, Ls28, X28, e28, V28', W28, FF28, st28⟩ := own_stI X27 hx hZ e27 V27 (n := 49) (k := 26) rfl (by decide) (by decide) (g := (mkF m 173 #[.val (.int p1), .val (.int p2), .val (.int p3), .val (.int p4), .unset, .unset, .unset, .unset, .unset, .unset, .unset] [(.int (8255 : Int32)), (.int (26 : Int32)), (.ref b1), (.ref b1)])) rfl rfl (hb hby at_173)
  have V28 : own_VA Z H28 b1 .int [(.int (0 : Int32)), (.int (58 : Int32)), (.int (45 : Int32)), (.int (46 : Int32)), (.int (48 : Int32)), (.int (57 : Int32)), (.int (65 : Int32)), (.int (90 : Int32)), (.int (95 : Int32)), (.int (97 : Int32)), (.int (122 : Int32)), (.int (127 : Int32)), (.int (183 : Int32)), (.int (192 : Int32)), (.int (214 : Int32)), (.int (216 : Int32)), (.int (246 : Int32)), (.int (248 : Int32)), (.int (767 : Int32)), (.int (879 : Int32)), (.int (880 : Int32)), (.int (893 : Int32)), (.int (895 : Int32)), (.int (8191 : Int32)), (.int (8204 : Int32)), (.int (8205 : Int32)), (.int (8255 : Int32)), (.int (0 : Int32)), (.int (0 : Int32)), (.int (0 : Int32)), (.int (0 : Int32)), (.int (0 : Int32)), (.int (0 : Int32)), (.int (0 : Int32)), (.int (0 : Int32)), (.int (0 : Int32)), (.int (0 : Int32)), (.int (0 : Int32)), (.int (0 : Int32)), (.int (0 : Int32)), (.int (0 : Int32)), (.int (0 : Int32)), (.int (0 : Int32)), (.int (0 : Int32)), (.int (0 : Int32)), (.int (0 : Int32)), (.int (0 : Int32)), (.int (0 : Int32)), (.int (0 : Int32))] := V28'
  have N28 := FF28 _ N27 gb1
  have Z28 : n0 ≤ H28.size := Nat.le_trans Z27 (Nat.le_of_eq W28.size.symm)
  have SA28 := Sta.wr W28 SA27
  have BA28 := own_BA_other BA27 W28 nb1
  obtain ⟨T29, H29, Ls29, X29, e29, V29', W29, FF29, st29⟩ := own_stI X28 hx hZ e28 V28 (n := 49) (k := 27) rfl (by decide) (by decide) (g := (mkF m 180 #[.val (.int p1), .val (.int p2), .val (.int p3), .val (.int p4), .unset, .unset, .unset, .unset, .unset, .unset, .unset] [(.int (8303 : Int32)), (.int (27 : Int32)), (.ref b1), (.ref b1)])) rfl rfl (hb hby at_180)
  have V29 : own_VA Z H29 b1 .int [(.int (0 : Int32)), (.int (58 : Int32)), (.int (45 : Int32)), (.int (46 : Int32)), (.int (48 : Int32)), (.int (57 : Int32)), (.int (65 : Int32)), (.int (90 : Int32)), (.int (95 : Int32)), (.int (97 : Int32)), (.int (122 : Int32)), (.int (127 : Int32)), (.int (183 : Int32)), (.int (192 : Int32)), (.int (214 : Int32)), (.int (216 : Int32)), (.int (246 : Int32)), (.int (248 : Int32)), (.int (767 : Int32)), (.int (879 : Int32)), (.int (880 : Int32)), (.int (893 : Int32)), (.int (895 : Int32)), (.int (8191 : Int32)), (.int (8204 : Int32)), (.int (8205 : Int32)), (.int (8255 : Int32)), (.int (8303 : Int32)), (.int (0 : Int32)), (.int (0 : Int32)), (.int (0 : Int32)), (.int (0 : Int32)), (.int (0 : Int32)), (.int (0 : Int32)), (.int (0 : Int32)), (.int (0 : Int32)), (.int (0 : Int32)), (.int (0 : Int32)), (.int (0 : Int32)), (.int (0 : Int32)), (.int (0 : Int32)), (.int (0 : Int32)), (.int (0 : Int32)), (.int (0 : Int32)), (.int (0 : Int32)), (.int (0 : Int32)), (.int (0 : Int32)), (.int (0 : Int32)), (.int (0 : Int32))] := V29'
  have N29 := FF29 _ N28 gb1
  have Z29 : n0 ≤ H29.size := Nat.le_trans Z28 (Nat.le_of_eq W29.size.symm)
  have SA29 := Sta.wr W29 SA28
  have BA29 := own_BA_other BA28 W29 nb1
  obtain ⟨T30, H30, Ls30, X30, e30, V30', W30, FF30, st30⟩ := own_stI X29 hx hZ e29 V29 (n := 49) (k := 28) rfl (by decide) (by decide) (g := (mkF m 187 #[.val (.int p1), .val (.int p2), .val (.int p3), .val (.int p4), .unset, .unset, .unset, .unset, .unset, .unset, .unset] [(.int (8304 : Int32)), (.int (28 : Int32)), (.ref b1), (.ref b1)])) rfl rfl (hb hby at_187)
  have V30 : own_VA Z H30 b1 .int [(.int (0 : Int32)), (.int (58 : Int32)), (.int (45 : Int32)), (.int (46 : Int32)), (.int (48 : Int32)), (.int (57 : Int32)), (.int (65 : Int32)), (.int (90 : Int32)), (.int (95 : Int32)), (.int (97 : Int32)), (.int (122 : Int32)), (.int (127 : Int32)), (.int (183 : Int32)), (.int (192 : Int32)), (.int (214 : Int32)), (.int (216 : Int32)), (.int (246 : Int32)), (.int (248 : Int32)), (.int (767 : Int32)), (.int (879 : Int32)), (.int (880 : Int32)), (.int (893 : Int32)), (.int (895 : Int32)), (.int (8191 : Int32)), (.int (8204 : Int32)), (.int (8205 : Int32)), (.int (8255 : Int32)), (.int (8303 : Int32)), (.int (8304 : Int32)), (.int (0 : Int32)), (.int (0 : Int32)), (.int (0 : Int32)), (.int (0 : Int32)), (.int (0 : Int32)), (.int (0 : Int32)), (.int (0 : Int32)), (.int (0 : Int32)), (.int (0 : Int32)), (.int (0 : Int32)), (.int (0 : Int32)), (.int (0 : Int32)), (.int (0 : Int32)), (.int (0 : Int32)), (.int (0 : Int32)), (.int (0 : Int32)), (.int (0 : Int32)), (.int (0 : Int32)), (.int (0 : Int32)), (.int (0 : Int32))] := V30'
  have N30 := FF30 _ N29 gb1
  have Z30 : n0 ≤ H30.size := Nat.le_trans Z29 (Nat.le_of_eq W30.size.symm)
  have SA30 := Sta.wr W30 SA29
  have BA30 := own_BA_other BA29 W30 nb1
  obtain ⟨T31, H31, Ls31, X31, e31, V31', W31, FF31, st31⟩ := own_stI X30 hx hZ e30 V30 (n := 49) (k := 29) rfl (by decide) (by decide) (g := (mkF m 194 #[.val (.int p1), .val (.int p2), .val (.int p3), .val (.int p4), .unset, .unset, .unset, .unset, .unset, .unset, .unset] [(.int (8591 : Int32)), (.int (29 : Int32)), (.ref b1), (.ref b1)])) rfl rfl (hb hby at_194)
  have V31 : own_VA Z H31 b1 .int [(.int (0 : Int32)), (.int (58 : Int32)), (.int (45 : Int32)), (.int (46 : Int32)), (.int (48 : Int32)), (.int (57 : Int32)), (.int (65 : Int32)), (.int (90 : Int32)), (.int (95 : Int32)), (.int (97 : Int32)), (.int (122 : Int32)), (.int (127 : Int32)), (.int (183 : Int32)), (.int (192 : Int32)), (.int (214 : Int32)), (.int (216 : Int32)), (.int (246 : Int32)), (.int (248 : Int32)), (.int (767 : Int32)), (.int (879 : Int32)), (.int (880 : Int32)), (.int (893 : Int32)), (.int (895 : Int32)), (.int (8191 : Int32)), (.int (8204 : Int32)), (.int (8205 : Int32)), (.int (8255 : Int32)), (.int (8303 : Int32)), (.int (8304 : Int32)), (.int (8591 : Int32)), (.int (0 : Int32)), (.int (0 : Int32)), (.int (0 : Int32)), (.int (0 : Int32)), (.int (0 : Int32)), (.int (0 : Int32)), (.int (0 : Int32)), (.int (0 : Int32)), (.int (0 : Int32)), (.int (0 : Int32)), (.int (0 : Int32)), (.int (0 : Int32)), (.int (0 : Int32)), (.int (0 : Int32)), (.int (0 : Int32)), (.int (0 : Int32)), (.int (0 : Int32)), (.int (0 : Int32)), (.int (0 : Int32))] := V31'
  have N31 := FF31 _ N30 gb1
  have Z31 : n0 ≤ H31.size := Nat.le_trans Z30 (Nat.le_of_eq W31.size.symm)
  have SA31 := Sta.wr W31 SA30
  have BA31 := own_BA_other BA30 W31 nb1
  obtain ⟨T32, H32, Ls32, X32, e32, V32', W32, FF32, st32⟩ := own_stI X31 hx hZ e31 V31 (n := 49) (k := 30) rfl (by decide) (by decide) (g := (mkF m 201 #[.val (.int p1), .val (.int p2), .val (.int p3), .val (.int p4), .unset, .unset, .unset, .unset, .unset, .unset, .unset] [(.int (11263 : Int32)), (.int (30 : Int32)), (.ref b1), (.ref b1)])) rfl rfl (hb hby at_201)
  have V32 : own_VA Z H32 b1 .int [(.int (0 : Int32)), (.int (58 : Int32)), (.int (45 : Int32)), (.int (46 : Int32)), (.int (48 : Int32)), (.int (57 : Int32)), (.int (65 : Int32)), (.int (90 : Int32)), (.int (95 : Int32)), (.int (97 : Int32)), (.int (122 : Int32)), (.int (127 : Int32)), (.int (183 : Int32)), (.int (192 : Int32)), (.int (214 : Int32)), (.int (216 : Int32)), (.int (246 : Int32)), (.int (248 : Int32)), (.int (767 : Int32)), (.int (879 : Int32)), (.int (880 : Int32)), (.int (893 : Int32)), (.int (895 : Int32)), (.int (8191 : Int32)), (.int (8204 : Int32)), (.int (8205 : Int32)), (.int (8255 : Int32)), (.int (8303 : Int32)), (.int (8304 : Int32)), (.int (8591 : Int32)), (.int (11263 : Int32)), (.int (0 : Int32)), (.int (0 : Int32)), (.int (0 : Int32)), (.int (0 : Int32)), (.int (0 : Int32)), (.int (0 : Int32)), (.int (0 : Int32)), (.int (0 : Int32)), (.int (0 : Int32)), (.int (0 : Int32)), (.int (0 : Int32)), (.int (0 : Int32)), (.int (0 : Int32)), (.int (0 : Int32)), (.int (0 : Int32)), (.int (0 : Int32)), (.int (0 : Int32)), (.int (0 : Int32))] := V32'
  have N32 := FF32 _ N31 gb1
  have Z32 : n0 ≤ H32.size := Nat.le_trans Z31 (Nat.le_of_eq W32.size.symm)
  have SA32 := Sta.wr W32 SA31
  have BA32 := own_BA_other BA31 W32 nb1
  obtain ⟨T33, H33, Ls33, X33, e33, V33', W33, FF33, st33⟩ := own_stI X32 hx hZ e32 V32 (n := 49) (k := 31) rfl (by decide) (by decide) (g := (mkF m 208 #[.val (.int p1), .val (.int p2), .val (.int p3), .val (.int p4), .unset, .unset, .unset, .unset, .unset, .unset, .unset] [(.int (11264 : Int32)), (.int (31 : Int32)), (.ref b1), (.ref b1)])) rfl rfl (hb hby at_208)
  have V33 : own_VA Z H33 b1 .int [(.int (0 : Int32)), (.int (58 : Int32)), (.int (45 : Int32)), (.int (46 : Int32)), (.int (48 : Int32)), (.int (57 : Int32)), (.int (65 : Int32)), (.int (90 : Int32)), (.int (95 : Int32)), (.int (97 : Int32)), (.int (122 : Int32)), (.int (127 : Int32)), (.int (183 : Int32)), (.int (192 : Int32)), (.int (214 : Int32)), (.int (216 : Int32)), (.int (246 : Int32)), (.int (248 : Int32)), (.int (767 : Int32)), (.int (879 : Int32)), (.int (880 : Int32)), (.int (893 : Int32)), (.int (895 : Int32)), (.int (8191 : Int32)), (.int (8204 : Int32)), (.int (8205 : Int32)), (.int (8255 : Int32)), (.int (8303 : Int32)), (.int (8304 : Int32)), (.int (8591 : Int32)), (.int (11263 : Int32)), (.int (11264 : Int32)), (.int (0 : Int32)), (.int (0 : Int32)), (.int (0 : Int32)), (.int (0 : Int32)), (.int (0 : Int32)), (.int (0 : Int32)), (.int (0 : Int32)), (.int (0 : Int32)), (.int (0 : Int32)), (.int (0 : Int32)), (.int (0 : Int32)), (.int (0 : Int32)), (.int (0 : Int32)), (.int (0 : Int32)), (.int (0 : Int32)), (.int (0 : Int32)), (.int (0 : Int32))] := V33'
  have N33 := FF33 _ N32 gb1
  have Z33 : n0 ≤ H33.size := Nat.le_trans Z32 (Nat.le_of_eq W33.size.symm)
  have SA33 := Sta.wr W33 SA32
  have BA33 := own_BA_other BA32 W33 nb1
  obtain ⟨T34, H34, Ls34, X34, e34, V34', W34, FF34, st34⟩ := own_stI X33 hx hZ e33 V33 (n := 49) (k := 32) rfl (by decide) (by decide) (g := (mkF m 215 #[.val (.int p1), .val (.int p2), .val (.int p3), .val (.int p4), .unset, .unset, .unset, .unset, .unset, .unset, .unset] [(.int (12271 : Int32)), (.int (32 : Int32)), (.ref b1), (.ref b1)])) rfl rfl (hb hby at_215)
  have V34 : own_VA Z H34 b1 .int [(.int (0 : Int32)), (.int (58 : Int32)), (.int (45 : Int32)), (.int (46 : Int32)), (.int (48 : Int32)), (.int (57 : Int32)), (.int (65 : Int32)), (.int (90 : Int32)), (.int (95 : Int32)), (.int (97 : Int32)), (.int (122 : Int32)), (.int (127 : Int32)), (.int (183 : Int32)), (.int (192 : Int32)), (.int (214 : Int32)), (.int (216 : Int32)), (.int (246 : Int32)), (.int (248 : Int32)), (.int (767 : Int32)), (.int (879 : Int32)), (.int (880 : Int32)), (.int (893 : Int32)), (.int (895 : Int32)), (.int (8191 : Int32)), (.int (8204 : Int32)), (.int (8205 : Int32)), (.int (8255 : Int32)), (.int (8303 : Int32)), (.int (8304 : Int32)), (.int (8591 : Int32)), (.int (11263 : Int32)), (.int (11264 : Int32)), (.int (12271 : Int32)), (.int (0 : Int32)), (.int (0 : Int32)), (.int (0 : Int32)), (.int (0 : Int32)), (.int (0 : Int32)), (.int (0 : Int32)), (.int (0 : Int32)), (.int (0 : Int32)), (.int (0 : Int32)), (.int (0 : Int32)), (.int (0 : Int32)), (.int (0 : Int32)), (.int (0 : Int32)), (.int (0 : Int32)), (.int (0 : Int32)), (.int (0 : Int32))] := V34'
  have N34 := FF34 _ N33 gb1
  have Z34 : n0 ≤ H34.size := Nat.le_trans Z33 (Nat.le_of_eq W34.size.symm)
  have SA34 := Sta.wr W34 SA33
  have BA34 := own_BA_other BA33 W34 nb1
  obtain ⟨T35, H35, Ls35, X35, e35, V35', W35, FF35, st35⟩ := own_stI X34 hx hZ e34 V34 (n := 49) (k := 33) rfl (by decide) (by decide) (g := (mkF m 222 #[.val (.int p1), .val (.int p2), .val (.int p3), .val (.int p4), .unset, .unset, .unset, .unset, .unset, .unset, .unset] [(.int (12288 : Int32)), (.int (33 : Int32)), (.ref b1), (.ref b1)])) rfl rfl (hb hby at_222)
  have V35 : own_VA Z H35 b1 .int [(.int (0 : Int32)), (.int (58 : Int32)), (.int (45 : Int32)), (.int (46 : Int32)), (.int (48 : Int32)), (.int (57 : Int32)), (.int (65 : Int32)), (.int (90 : Int32)), (.int (95 : Int32)), (.int (97 : Int32)), (.int (122 : Int32)), (.int (127 : Int32)), (.int (183 : Int32)), (.int (192 : Int32)), (.int (214 : Int32)), (.int (216 : Int32)), (.int (246 : Int32)), (.int (248 : Int32)), (.int (767 : Int32)), (.int (879 : Int32)), (.int (880 : Int32)), (.int (893 : Int32)), (.int (895 : Int32)), (.int (8191 : Int32)), (.int (8204 : Int32)), (.int (8205 : Int32)), (.int (8255 : Int32)), (.int (8303 : Int32)), (.int (8304 : Int32)), (.int (8591 : Int32)), (.int (11263 : Int32)), (.int (11264 : Int32)), (.int (12271 : Int32)), (.int (12288 : Int32)), (.int (0 : Int32)), (.int (0 : Int32)), (.int (0 : Int32)), (.int (0 : Int32)), (.int (0 : Int32)), (.int (0 : Int32)), (.int (0 : Int32)), (.int (0 : Int32)), (.int (0 : Int32)), (.int (0 : Int32)), (.int (0 : Int32)), (.int (0 : Int32)), (.int (0 : Int32)), (.int (0 : Int32)), (.int (0 : Int32))] := V35'
  have N35 := FF35 _ N34 gb1
  have Z35 : n0 ≤ H35.size := Nat.le_trans Z34 (Nat.le_of_eq W35.size.symm)
  have SA35 := Sta.wr W35 SA34
  have BA35 := own_BA_other BA34 W35 nb1
  obtain ⟨T36, H36, Ls36, X36, e36, V36', W36, FF36, st36⟩ := own_stI X35 hx hZ e35 V35 (n := 49) (k := 34) rfl (by decide) (by decide) (g := (mkF m 229 #[.val (.int p1), .val (.int p2), .val (.int p3), .val (.int p4), .unset, .unset, .unset, .unset, .unset, .unset, .unset] [(.int (12289 : Int32)), (.int (34 : Int32)), (.ref b1), (.ref b1)])) rfl rfl (hb hby at_229)
  have V36 : own_VA Z H36 b1 .int [(.int (0 : Int32)), (.int (58 : Int32)), (.int (45 : Int32)), (.int (46 : Int32)), (.int (48 : Int32)), (.int (57 : Int32)), (.int (65 : Int32)), (.int (90 : Int32)), (.int (95 : Int32)), (.int (97 : Int32)), (.int (122 : Int32)), (.int (127 : Int32)), (.int (183 : Int32)), (.int (192 : Int32)), (.int (214 : Int32)), (.int (216 : Int32)), (.int (246 : Int32)), (.int (248 : Int32)), (.int (767 : Int32)), (.int (879 : Int32)), (.int (880 : Int32)), (.int (893 : Int32)), (.int (895 : Int32)), (.int (8191 : Int32)), (.int (8204 : Int32)), (.int (8205 : Int32)), (.int (8255 : Int32)), (.int (8303 : Int32)), (.int (8304 : Int32)), (.int (8591 : Int32)), (.int (11263 : Int32)), (.int (11264 : Int32)), (.int (12271 : Int32)), (.int (12288 : Int32)), (.int (12289 : Int32)), (.int (0 : Int32)), (.int (0 : Int32)), (.int (0 : Int32)), (.int (0 : Int32)), (.int (0 : Int32)), (.int (0 : Int32)), (.int (0 : Int32)), (.int (0 : Int32)), (.int (0 : Int32)), (.int (0 : Int32)), (.int (0 : Int32)), (.int (0 : Int32)), (.int (0 : Int32)), (.int (0 : Int32))] := V36'
  have N36 := FF36 _ N35 gb1
  have Z36 : n0 ≤ H36.size := Nat.le_trans Z35 (Nat.le_of_eq W36.size.symm)
  have SA36 := Sta.wr W36 SA35
  have BA36 := own_BA_other BA35 W36 nb1
  obtain ⟨T37, H37, Ls37, X37, e37, V37', W37, FF37, st37⟩ := own_stI X36 hx hZ e36 V36 (n := 49) (k := 35) rfl (by decide) (by decide) (g := (mkF m 235 #[.val (.int p1), .val (.int p2), .val (.int p3), .val (.int p4), .unset, .unset, .unset, .unset, .unset, .unset, .unset] [(.int (55295 : Int32)), (.int (35 : Int32)), (.ref b1), (.ref b1)])) rfl rfl (hb hby at_235)
  have V37 : own_VA Z H37 b1 .int [(.int (0 : Int32)), (.int (58 : Int32)), (.int (45 : Int32)), (.int (46 : Int32)), (.int (48 : Int32)), (.int (57 : Int32)), (.int (65 : Int32)), (.int (90 : Int32)), (.int (95 : Int32)), (.int (97 : Int32)), (.int (122 : Int32)), (.int (127 : Int32)), (.int (183 : Int32)), (.int (192 : Int32)), (.int (214 : Int32)), (.int (216 : Int32)), (.int (246 : Int32)), (.int (248 : Int32)), (.int (767 : Int32)), (.int (879 : Int32)), (.int (880 : Int32)), (.int (893 : Int32)), (.int (895 : Int32)), (.int (8191 : Int32)), (.int (8204 : Int32)), (.int (8205 : Int32)), (.int (8255 : Int32)), (.int (8303 : Int32)), (.int (8304 : Int32)), (.int (8591 : Int32)), (.int (11263 : Int32)), (.int (11264 : Int32)), (.int (12271 : Int32)), (.int (12288 : Int32)), (.int (12289 : Int32)), (.int (55295 : Int32)), (.int (0 : Int32)), (.int (0 : Int32)), (.int (0 : Int32)), (.int (0 : Int32)), (.int (0 : Int32)), (.int (0 : Int32)), (.int (0 : Int32)), (.int (0 : Int32)), (.int (0 : Int32)), (.int (0 : Int32)), (.int (0 : Int32)), (.int (0 : Int32)), (.int (0 : Int32))] := V37'
  have N37 := FF37 _ N36 gb1
  have Z37 : n0 ≤ H37.size := Nat.le_trans Z36 (Nat.le_of_eq W37.size.symm)
  have SA37 := Sta.wr W37 SA36
  have BA37 := own_BA_other BA36 W37 nb1
  obtain ⟨T38, H38, Ls38, X38, e38, V38', W38, FF38, st38⟩ := own_stI X37 hx hZ e37 V37 (n := 49) (k := 36) rfl (by decide) (by decide) (g := (mkF m 241 #[.val (.int p1), .val (.int p2), .val (.int p3), .val (.int p4), .unset, .unset, .unset, .unset, .unset, .unset, .unset] [(.int (57343 : Int32)), (.int (36 : Int32)), (.ref b1), (.ref b1)])) rfl rfl (hb hby at_241)
  have V38 : own_VA Z H38 b1 .int [(.int (0 : Int32)), (.int (58 : Int32)), (.int (45 : Int32)), (.int (46 : Int32)), (.int (48 : Int32)), (.int (57 : Int32)), (.int (65 : Int32)), (.int (90 : Int32)), (.int (95 : Int32)), (.int (97 : Int32)), (.int (122 : Int32)), (.int (127 : Int32)), (.int (183 : Int32)), (.int (192 : Int32)), (.int (214 : Int32)), (.int (216 : Int32)), (.int (246 : Int32)), (.int (248 : Int32)), (.int (767 : Int32)), (.int (879 : Int32)), (.int (880 : Int32)), (.int (893 : Int32)), (.int (895 : Int32)), (.int (8191 : Int32)), (.int (8204 : Int32)), (.int (8205 : Int32)), (.int (8255 : Int32)), (.int (8303 : Int32)), (.int (8304 : Int32)), (.int (8591 : Int32)), (.int (11263 : Int32)), (.int (11264 : Int32)), (.int (12271 : Int32)), (.int (12288 : Int32)), (.int (12289 : Int32)), (.int (55295 : Int32)), (.int (57343 : Int32)), (.int (0 : Int32)), (.int (0 : Int32)), (.int (0 : Int32)), (.int (0 : Int32)), (.int (0 : Int32)), (.int (0 : Int32)), (.int (0 : Int32)), (.int (0 : Int32)), (.int (0 : Int32)), (.int (0 : Int32)), (.int (0 : Int32)), (.int (0 : Int32))] := V38'
  have N38 := FF38 _ N37 gb1
  have Z38 : n0 ≤ H38.size := Nat.le_trans Z37 (Nat.le_of_eq W38.size.symm)
  have SA38 := Sta.wr W38 SA37
  have BA38 := own_BA_other BA37 W38 nb1
  obtain ⟨T39, H39, Ls39, X39, e39, V39', W39, FF39, st39⟩ := own_stI X38 hx hZ e38 V38 (n := 49) (k := 37) rfl (by decide) (by decide) (g := (mkF m 247 #[.val (.int p1), .val (.int p2), .val (.int p3), .val (.int p4), .unset, .unset, .unset, .unset, .unset, .unset, .unset] [(.int (63743 : Int32)), (.int (37 : Int32)), (.ref b1), (.ref b1)])) rfl rfl (hb hby at_247)
  have V39 : own_VA Z H39 b1 .int [(.int (0 : Int32)), (.int (58 : Int32)), (.int (45 : Int32)), (.int (46 : Int32)), (.int (48 : Int32)), (.int (57 : Int32)), (.int (65 : Int32)), (.int (90 : Int32)), (.int (95 : Int32)), (.int (97 : Int32)), (.int (122 : Int32)), (.int (127 : Int32)), (.int (183 : Int32)), (.int (192 : Int32)), (.int (214 : Int32)), (.int (216 : Int32)), (.int (246 : Int32)), (.int (248 : Int32)), (.int (767 : Int32)), (.int (879 : Int32)), (.int (880 : Int32)), (.int (893 : Int32)), (.int (895 : Int32)), (.int (8191 : Int32)), (.int (8204 : Int32)), (.int (8205 : Int32)), (.int (8255 : Int32)), (.int (8303 : Int32)), (.int (8304 : Int32)), (.int (8591 : Int32)), (.int (11263 : Int32)), (.int (11264 : Int32)), (.int (12271 : Int32)), (.int (12288 : Int32)), (.int (12289 : Int32)), (.int (55295 : Int32)), (.int (57343 : Int32)), (.int (63743 : Int32)), (.int (0 : Int32)), (.int (0 : Int32)), (.int (0 : Int32)), (.int (0 : Int32)), (.int (0 : Int32)), (.int (0 : Int32)), (.int (0 : Int32)), (.int (0 : Int32)), (.int (0 : Int32)), (.int (0 : Int32)), (.int (0 : Int32))] := V39'
  have N39 := FF39 _ N38 gb1
  have Z39 : n0 ≤ H39.size := Nat.le_trans Z38 (Nat.le_of_eq W39.size.symm)
  have SA39 := Sta.wr W39 SA38
  have BA39 := own_BA_other BA38 W39 nb1
  obtain ⟨T40, H40, Ls40, X40, e40, V40', W40, FF40, st40⟩ := own_stI X39 hx hZ e39 V39 (n := 49) (k := 38) rfl (by decide) (by decide) (g := (mkF m 253 #[.val (.int p1), .val (.int p2), .val (.int p3), .val (.int p4), .unset, .unset, .unset, .unset, .unset, .unset, .unset] [(.int (63744 : Int32)), (.int (38 : Int32)), (.ref b1), (.ref b1)])) rfl rfl (hb hby at_253)
  have V40 : own_VA Z H40 b1 .int [(.int (0 : Int32)), (.int (58 : Int32)), (.int (45 : Int32)), (.int (46 : Int32)), (.int (48 : Int32)), (.int (57 : Int32)), (.int (65 : Int32)), (.int (90 : Int32)), (.int (95 : Int32)), (.int (97 : Int32)), (.int (122 : Int32)), (.int (127 : Int32)), (.int (183 : Int32)), (.int (192 : Int32)), (.int (214 : Int32)), (.int (216 : Int32)), (.int (246 : Int32)), (.int (248 : Int32)), (.int (767 : Int32)), (.int (879 : Int32)), (.int (880 : Int32)), (.int (893 : Int32)), (.int (895 : Int32)), (.int (8191 : Int32)), (.int (8204 : Int32)), (.int (8205 : Int32)), (.int (8255 : Int32)), (.int (8303 : Int32)), (.int (8304 : Int32)), (.int (8591 : Int32)), (.int (11263 : Int32)), (.int (11264 : Int32)), (.int (12271 : Int32)), (.int (12288 : Int32)), (.int (12289 : Int32)), (.int (55295 : Int32)), (.int (57343 : Int32)), (.int (63743 : Int32)), (.int (63744 : Int32)), (.int (0 : Int32)), (.int (0 : Int32)), (.int (0 : Int32)), (.int (0 : Int32)), (.int (0 : Int32)), (.int (0 : Int32)), (.int (0 : Int32)), (.int (0 : Int32)), (.int (0 : Int32)), (.int (0 : Int32))] := V40'
  have N40 := FF40 _ N39 gb1
  have Z40 : n0 ≤ H40.size := Nat.le_trans Z39 (Nat.le_of_eq W40.size.symm)
  have SA40 := Sta.wr W40 SA39
  have BA40 := own_BA_other BA39 W40 nb1
  obtain ⟨T41, H41, Ls41, X41, e41, V41', W41, FF41, st41⟩ := own_stI X40 hx hZ e40 V40 (n := 49) (k := 39) rfl (by decide) (by decide) (g := (mkF m 259 #[.val (.int p1), .val (.int p2), .val (.int p3), .val (.int p4), .unset, .unset, .unset, .unset, .unset, .unset, .unset] [(.int (64975 : Int32)), (.int (39 : Int32)), (.ref b1), (.ref b1)])) rfl rfl (hb hby at_259)
  have V41 : own_VA Z H41 b1 .int [(.int (0 : Int32)), (.int (58 : Int32)), (.int (45 : Int32)), (.int (46 : Int32)), (.int (48 : Int32)), (.int (57 : Int32)), (.int (65 : Int32)), (.int (90 : Int32)), (.int (95 : Int32)), (.int (97 : Int32)), (.int (122 : Int32)), (.int (127 : Int32)), (.int (183 : Int32)), (.int (192 : Int32)), (.int (214 : Int32)), (.int (216 : Int32)), (.int (246 : Int32)), (.int (248 : Int32)), (.int (767 : Int32)), (.int (879 : Int32)), (.int (880 : Int32)), (.int (893 : Int32)), (.int (895 : Int32)), (.int (8191 : Int32)), (.int (8204 : Int32)), (.int (8205 : Int32)), (.int (8255 : Int32)), (.int (8303 : Int32)), (.int (8304 : Int32)), (.int (8591 : Int32)), (.int (11263 : Int32)), (.int (11264 : Int32)), (.int (12271 : Int32)), (.int (12288 : Int32)), (.int (12289 : Int32)), (.int (55295 : Int32)), (.int (57343 : Int32)), (.int (63743 : Int32)), (.int (63744 : Int32)), (.int (64975 : Int32)), (.int (0 : Int32)), (.int (0 : Int32)), (.int (0 : Int32)), (.int (0 : Int32)), (.int (0 : Int32)), (.int (0 : Int32)), (.int (0 : Int32)), (.int (0 : Int32)), (.int (0 : Int32))] := V41'
  have N41 := FF41 _ N40 gb1
  have Z41 : n0 ≤ H41.size := Nat.le_trans Z40 (Nat.le_of_eq W41.size.symm)
  have SA41 := Sta.wr W41 SA40
  have BA41 := own_BA_other BA40 W41 nb1
  obtain ⟨T42, H42, Ls42, X42, e42, V42', W42, FF42, st42⟩ := own_stI X41 hx hZ e41 V41 (n := 49) (k := 40) rfl (by decide) (by decide) (g := (mkF m 265 #[.val (.int p1), .val (.int p2), .val (.int p3), .val (.int p4), .unset, .unset, .unset, .unset, .unset, .unset, .unset] [(.int (65007 : Int32)), (.int (40 : Int32)), (.ref b1), (.ref b1)])) rfl rfl (hb hby at_265)
  have V42 : own_VA Z H42 b1 .int [(.int (0 : Int32)), (.int (58 : Int32)), (.int (45 : Int32)), (.int (46 : Int32)), (.int (48 : Int32)), (.int (57 : Int32)), (.int (65 : Int32)), (.int (90 : Int32)), (.int (95 : Int32)), (.int (97 : Int32)), (.int (122 : Int32)), (.int (127 : Int32)), (.int (183 : Int32)), (.int (192 : Int32)), (.int (214 : Int32)), (.int (216 : Int32)), (.int (246 : Int32)), (.int (248 : Int32)), (.int (767 : Int32)), (.int (879 : Int32)), (.int (880 : Int32)), (.int (893 : Int32)), (.int (895 : Int32)), (.int (8191 : Int32)), (.int (8204 : Int32)), (.int (8205 : Int32)), (.int (8255 : Int32)), (.int (8303 : Int32)), (.int (8304 : Int32)), (.int (8591 : Int32)), (.int (11263 : Int32)), (.int (11264 : Int32)), (.int (12271 : Int32)), (.int (12288 : Int32)), (.int (12289 : Int32)), (.int (55295 : Int32)), (.int (57343 : Int32)), (.int (63743 : Int32)), (.int (63744 : Int32)), (.int (64975 : Int32)), (.int (65007 : Int32)), (.int (0 : Int32)), (.int (0 : Int32)), (.int (0 : Int32)), (.int (0 : Int32)), (.int (0 : Int32)), (.int (0 : Int32)), (.int (0 : Int32)), (.int (0 : Int32))] := V42'
  have N42 := FF42 _ N41 gb1
  have Z42 : n0 ≤ H42.size := Nat.le_trans Z41 (Nat.le_of_eq W42.size.symm)
  have SA42 := Sta.wr W42 SA41
  have BA42 := own_BA_other BA41 W42 nb1
  obtain ⟨T43, H43, Ls43, X43, e43, V43', W43, FF43, st43⟩ := own_stI X42 hx hZ e42 V42 (n := 49) (k := 41) rfl (by decide) (by decide) (g := (mkF m 271 #[.val (.int p1), .val (.int p2), .val (.int p3), .val (.int p4), .unset, .unset, .unset, .unset, .unset, .unset, .unset] [(.int (65008 : Int32)), (.int (41 : Int32)), (.ref b1), (.ref b1)])) rfl rfl (hb hby at_271)
  have V43 : own_VA Z H43 b1 .int [(.int (0 : Int32)), (.int (58 : Int32)), (.int (45 : Int32)), (.int (46 : Int32)), (.int (48 : Int32)), (.int (57 : Int32)), (.int (65 : Int32)), (.int (90 : Int32)), (.int (95 : Int32)), (.int (97 : Int32)), (.int (122 : Int32)), (.int (127 : Int32)), (.int (183 : Int32)), (.int (192 : Int32)), (.int (214 : Int32)), (.int (216 : Int32)), (.int (246 : Int32)), (.int (248 : Int32)), (.int (767 : Int32)), (.int (879 : Int32)), (.int (880 : Int32)), (.int (893 : Int32)), (.int (895 : Int32)), (.int (8191 : Int32)), (.int (8204 : Int32)), (.int (8205 : Int32)), (.int (8255 : Int32)), (.int (8303 : Int32)), (.int (8304 : Int32)), (.int (8591 : Int32)), (.int (11263 : Int32)), (.int (11264 : Int32)), (.int (12271 : Int32)), (.int (12288 : Int32)), (.int (12289 : Int32)), (.int (55295 : Int32)), (.int (57343 : Int32)), (.int (63743 : Int32)), (.int (63744 : Int32)), (.int (64975 : Int32)), (.int (65007 : Int32)), (.int (65008 : Int32)), (.int (0 : Int32)), (.int (0 : Int32)), (.int (0 : Int32)), (.int (0 : Int32)), (.int (0 : Int32)), (.int (0 : Int32)), (.int (0 : Int32))] := V43'
  have N43 := FF43 _ N42 gb1
  have Z43 : n0 ≤ H43.size := Nat.le_trans Z42 (Nat.le_of_eq W43.size.symm)
  have SA43 := Sta.wr W43 SA42
  have BA43 := own_BA_other BA42 W43 nb1
  obtain ⟨T44, H44, Ls44, X44, e44, V44', W44, FF44, st44⟩ := own_stI X43 hx hZ e43 V43 (n := 49) (k := 42) rfl (by decide) (by decide) (g := (mkF m 277 #[.val (.int p1), .val (.int p2), .val (.int p3), .val (.int p4), .unset, .unset, .unset, .unset, .unset, .unset, .unset] [(.int (65533 : Int32)), (.int (42 : Int32)), (.ref b1), (.ref b1)])) rfl rfl (hb hby at_277)
  have V44 : own_VA Z H44 b1 .int [(.int (0 : Int32)), (.int (58 : Int32)), (.int (45 : Int32)), (.int (46 : Int32)), (.int (48 : Int32)), (.int (57 : Int32)), (.int (65 : Int32)), (.int (90 : Int32)), (.int (95 : Int32)), (.int (97 : Int32)), (.int (122 : Int32)), (.int (127 : Int32)), (.int (183 : Int32)), (.int (192 : Int32)), (.int (214 : Int32)), (.int (216 : Int32)), (.int (246 : Int32)), (.int (248 : Int32)), (.int (767 : Int32)), (.int (879 : Int32)), (.int (880 : Int32)), (.int (893 : Int32)), (.int (895 : Int32)), (.int (8191 : Int32)), (.int (8204 : Int32)), (.int (8205 : Int32)), (.int (8255 : Int32)), (.int (8303 : Int32)), (.int (8304 : Int32)), (.int (8591 : Int32)), (.int (11263 : Int32)), (.int (11264 : Int32)), (.int (12271 : Int32)), (.int (12288 : Int32)), (.int (12289 : Int32)), (.int (55295 : Int32)), (.int (57343 : Int32)), (.int (63743 : Int32)), (.int (63744 : Int32)), (.int (64975 : Int32)), (.int (65007 : Int32)), (.int (65008 : Int32)), (.int (65533 : Int32)), (.int (0 : Int32)), (.int (0 : Int32)), (.int (0 : Int32)), (.int (0 : Int32)), (.int (0 : Int32)), (.int (0 : Int32))] := V44'
  have N44 := FF44 _ N43 gb1
  have Z44 : n0 ≤ H44.size := Nat.le_trans Z43 (Nat.le_of_eq W44.size.symm)
  have SA44 := Sta.wr W44 SA43
  have BA44 := own_BA_other BA43 W44 nb1
  obtain ⟨T45, H45, Ls45, X45, e45, V45', W45, FF45, st45⟩ := own_stI X44 hx hZ e44 V44 (n := 49) (k := 43) rfl (by decide) (by decide) (g := (mkF m 283 #[.val (.int p1), .val (.int p2), .val (.int p3), .val (.int p4), .unset, .unset, .unset, .unset, .unset, .unset, .unset] [(.int (65535 : Int32)), (.int (43 : Int32)), (.ref b1), (.ref b1)])) rfl rfl (hb hby at_283)
  have V45 : own_VA Z H45 b1 .int [(.int (0 : Int32)), (.int (58 : Int32)), (.int (45 : Int32)), (.int (46 : Int32)), (.int (48 : Int32)), (.int (57 : Int32)), (.int (65 : Int32)), (.int (90 : Int32)), (.int (95 : Int32)), (.int (97 : Int32)), (.int (122 : Int32)), (.int (127 : Int32)), (.int (183 : Int32)), (.int (192 : Int32)), (.int (214 : Int32)), (.int (216 : Int32)), (.int (246 : Int32)), (.int (248 : Int32)), (.int (767 : Int32)), (.int (879 : Int32)), (.int (880 : Int32)), (.int (893 : Int32)), (.int (895 : Int32)), (.int (8191 : Int32)), (.int (8204 : Int32)), (.int (8205 : Int32)), (.int (8255 : Int32)), (.int (8303 : Int32)), (.int (8304 : Int32)), (.int (8591 : Int32)), (.int (11263 : Int32)), (.int (11264 : Int32)), (.int (12271 : Int32)), (.int (12288 : Int32)), (.int (12289 : Int32)), (.int (55295 : Int32)), (.int (57343 : Int32)), (.int (63743 : Int32)), (.int (63744 : Int32)), (.int (64975 : Int32)), (.int (65007 : Int32)), (.int (65008 : Int32)), (.int (65533 : Int32)), (.int (65535 : Int32)), (.int (0 : Int32)), (.int (0 : Int32)), (.int (0 : Int32)), (.int (0 : Int32)), (.int (0 : Int32))] := V45'
  have N45 := FF45 _ N44 gb1
  have Z45 : n0 ≤ H45.size := Nat.le_trans Z44 (Nat.le_of_eq W45.size.symm)
  have SA45 := Sta.wr W45 SA44
  have BA45 := own_BA_other BA44 W45 nb1
  obtain ⟨T46, H46, Ls46, X46, e46, V46', W46, FF46, st46⟩ := own_stI X45 hx hZ e45 V45 (n := 49) (k := 44) rfl (by decide) (by decide) (g := (mkF m 289 #[.val (.int p1), .val (.int p2), .val (.int p3), .val (.int p4), .unset, .unset, .unset, .unset, .unset, .unset, .unset] [(.int (65536 : Int32)), (.int (44 : Int32)), (.ref b1), (.ref b1)])) rfl rfl (hb hby at_289)
  have V46 : own_VA Z H46 b1 .int [(.int (0 : Int32)), (.int (58 : Int32)), (.int (45 : Int32)), (.int (46 : Int32)), (.int (48 : Int32)), (.int (57 : Int32)), (.int (65 : Int32)), (.int (90 : Int32)), (.int (95 : Int32)), (.int (97 : Int32)), (.int (122 : Int32)), (.int (127 : Int32)), (.int (183 : Int32)), (.int (192 : Int32)), (.int (214 : Int32)), (.int (216 : Int32)), (.int (246 : Int32)), (.int (248 : Int32)), (.int (767 : Int32)), (.int (879 : Int32)), (.int (880 : Int32)), (.int (893 : Int32)), (.int (895 : Int32)), (.int (8191 : Int32)), (.int (8204 : Int32)), (.int (8205 : Int32)), (.int (8255 : Int32)), (.int (8303 : Int32)), (.int (8304 : Int32)), (.int (8591 : Int32)), (.int (11263 : Int32)), (.int (11264 : Int32)), (.int (12271 : Int32)), (.int (12288 : Int32)), (.int (12289 : Int32)), (.int (55295 : Int32)), (.int (57343 : Int32)), (.int (63743 : Int32)), (.int (63744 : Int32)), (.int (64975 : Int32)), (.int (65007 : Int32)), (.int (65008 : Int32)), (.int (65533 : Int32)), (.int (65535 : Int32)), (.int (65536 : Int32)), (.int (0 : Int32)), (.int (0 : Int32)), (.int (0 : Int32)), (.int (0 : Int32))] := V46'
  have N46 := FF46 _ N45 gb1
  have Z46 : n0 ≤ H46.size := Nat.le_trans Z45 (Nat.le_of_eq W46.size.symm)
  have SA46 := Sta.wr W46 SA45
  have BA46 := own_BA_other BA45 W46 nb1
  obtain ⟨T47, H47, Ls47, X47, e47, V47', W47, FF47, st47⟩ := own_stI X46 hx hZ e46 V46 (n := 49) (k := 45) rfl (by decide) (by decide) (g := (mkF m 295 #[.val (.int p1), .val (.int p2), .val (.int p3), .val (.int p4), .unset, .unset, .unset, .unset, .unset, .unset, .unset] [(.int (983039 : Int32)), (.int (45 : Int32)), (.ref b1), (.ref b1)])) rfl rfl (hb hby at_295)
  have V47 : own_VA Z H47 b1 .int [(.int (0 : Int32)), (.int (58 : Int32)), (.int (45 : Int32)), (.int (46 : Int32)), (.int (48 : Int32)), (.int (57 : Int32)), (.int (65 : Int32)), (.int (90 : Int32)), (.int (95 : Int32)), (.int (97 : Int32)), (.int (122 : Int32)), (.int (127 : Int32)), (.int (183 : Int32)), (.int (192 : Int32)), (.int (214 : Int32)), (.int (216 : Int32)), (.int (246 : Int32)), (.int (248 : Int32)), (.int (767 : Int32)), (.int (879 : Int32)), (.int (880 : Int32)), (.int (893 : Int32)), (.int (895 : Int32)), (.int (8191 : Int32)), (.int (8204 : Int32)), (.int (8205 : Int32)), (.int (8255 : Int32)), (.int (8303 : Int32)), (.int (8304 : Int32)), (.int (8591 : Int32)), (.int (11263 : Int32)), (.int (11264 : Int32)), (.int (12271 : Int32)), (.int (12288 : Int32)), (.int (12289 : Int32)), (.int (55295 : Int32)), (.int (57343 : Int32)), (.int (63743 : Int32)), (.int (63744 : Int32)), (.int (64975 : Int32)), (.int (65007 : Int32)), (.int (65008 : Int32)), (.int (65533 : Int32)), (.int (65535 : Int32)), (.int (65536 : Int32)), (.int (983039 : Int32)), (.int (0 : Int32)), (.int (0 : Int32)), (.int (0 : Int32))] := V47'
  have N47 := FF47 _ N46 gb1
  have Z47 : n0 ≤ H47.size := Nat.le_trans Z46 (Nat.le_of_eq W47.size.symm)
  have SA47 := Sta.wr W47 SA46
  have BA47 := own_BA_other BA46 W47 nb1
  obtain ⟨T48, H48, Ls48, X48, e48, V48', W48, FF48, st48⟩ := own_stI X47 hx hZ e47 V47 (n := 49) (k := 46) rfl (by decide) (by decide) (g := (mkF m 301 #[.val (.int p1), .val (.int p2), .val (.int p3), .val (.int p4), .unset, .unset, .unset, .unset, .unset, .unset, .unset] [(.int (1114111 : Int32)), (.int (46 : Int32)), (.ref b1), (.ref b1)])) rfl rfl (hb hby at_301)
  have V48 : own_VA Z H48 b1 .int [(.int (0 : Int32)), (.int (58 : Int32)), (.int (45 : Int32)), (.int (46 : Int32)), (.int (48 : Int32)), (.int (57 : Int32)), (.int (65 : Int32)), (.int (90 : Int32)), (.int (95 : Int32)), (.int (97 : Int32)), (.int (122 : Int32)), (.int (127 : Int32)), (.int (183 : Int32)), (.int (192 : Int32)), (.int (214 : Int32)), (.int (216 : Int32)), (.int (246 : Int32)), (.int (248 : Int32)), (.int (767 : Int32)), (.int (879 : Int32)), (.int (880 : Int32)), (.int (893 : Int32)), (.int (895 : Int32)), (.int (8191 : Int32)), (.int (8204 : Int32)), (.int (8205 : Int32)), (.int (8255 : Int32)), (.int (8303 : Int32)), (.int (8304 : Int32)), (.int (8591 : Int32)), (.int (11263 : Int32)), (.int (11264 : Int32)), (.int (12271 : Int32)), (.int (12288 : Int32)), (.int (12289 : Int32)), (.int (55295 : Int32)), (.int (57343 : Int32)), (.int (63743 : Int32)), (.int (63744 : Int32)), (.int (64975 : Int32)), (.int (65007 : Int32)), (.int (65008 : Int32)), (.int (65533 : Int32)), (.int (65535 : Int32)), (.int (65536 : Int32)), (.int (983039 : Int32)), (.int (1114111 : Int32)), (.int (0 : Int32)), (.int (0 : Int32))] := V48'
  have N48 := FF48 _ N47 gb1
  have Z48 : n0 ≤ H48.size := Nat.le_trans Z47 (Nat.le_of_eq W48.size.symm)
  have SA48 := Sta.wr W48 SA47
  have BA48 := own_BA_other BA47 W48 nb1
  obtain ⟨T49, H49, Ls49, X49, e49, V49', W49, FF49, st49⟩ := own_stI X48 hx hZ e48 V48 (n := 49) (k := 47) rfl (by decide) (by decide) (g := (mkF m 307 #[.val (.int p1), .val (.int p2), .val (.int p3), .val (.int p4), .unset, .unset, .unset, .unset, .unset, .unset, .unset] [(.int (-2147483648 : Int32)), (.int (47 : Int32)), (.ref b1), (.ref b1)])) rfl rfl (hb hby at_307)
  have V49 : own_VA Z H49 b1 .int [(.int (0 : Int32)), (.int (58 : Int32)), (.int (45 : Int32)), (.int (46 : Int32)), (.int (48 : Int32)), (.int (57 : Int32)), (.int (65 : Int32)), (.int (90 : Int32)), (.int (95 : Int32)), (.int (97 : Int32)), (.int (122 : Int32)), (.int (127 : Int32)), (.int (183 : Int32)), (.int (192 : Int32)), (.int (214 : Int32)), (.int (216 : Int32)), (.int (246 : Int32)), (.int (248 : Int32)), (.int (767 : Int32)), (.int (879 : Int32)), (.int (880 : Int32)), (.int (893 : Int32)), (.int (895 : Int32)), (.int (8191 : Int32)), (.int (8204 : Int32)), (.int (8205 : Int32)), (.int (8255 : Int32)), (.int (8303 : Int32)), (.int (8304 : Int32)), (.int (8591 : Int32)), (.int (11263 : Int32)), (.int (11264 : Int32)), (.int (12271 : Int32)), (.int (12288 : Int32)), (.int (12289 : Int32)), (.int (55295 : Int32)), (.int (57343 : Int32)), (.int (63743 : Int32)), (.int (63744 : Int32)), (.int (64975 : Int32)), (.int (65007 : Int32)), (.int (65008 : Int32)), (.int (65533 : Int32)), (.int (65535 : Int32)), (.int (65536 : Int32)), (.int (983039 : Int32)), (.int (1114111 : Int32)), (.int (-2147483648 : Int32)), (.int (0 : Int32))] := V49'
  have N49 := FF49 _ N48 gb1
  have Z49 : n0 ≤ H49.size := Nat.le_trans Z48 (Nat.le_of_eq W49.size.symm)
  have SA49 := Sta.wr W49 SA48
  have BA49 := own_BA_other BA48 W49 nb1
  obtain ⟨T50, H50, Ls50, X50, e50, V50', W50, FF50, st50⟩ := own_stI X49 hx hZ e49 V49 (n := 49) (k := 48) rfl (by decide) (by decide) (g := (mkF m 313 #[.val (.int p1), .val (.int p2), .val (.int p3), .val (.int p4), .unset, .unset, .unset, .unset, .unset, .unset, .unset] [(.int (2147483647 : Int32)), (.int (48 : Int32)), (.ref b1), (.ref b1)])) rfl rfl (hb hby at_313)
  have V50 : own_VA Z H50 b1 .int [(.int (0 : Int32)), (.int (58 : Int32)), (.int (45 : Int32)), (.int (46 : Int32)), (.int (48 : Int32)), (.int (57 : Int32)), (.int (65 : Int32)), (.int (90 : Int32)), (.int (95 : Int32)), (.int (97 : Int32)), (.int (122 : Int32)), (.int (127 : Int32)), (.int (183 : Int32)), (.int (192 : Int32)), (.int (214 : Int32)), (.int (216 : Int32)), (.int (246 : Int32)), (.int (248 : Int32)), (.int (767 : Int32)), (.int (879 : Int32)), (.int (880 : Int32)), (.int (893 : Int32)), (.int (895 : Int32)), (.int (8191 : Int32)), (.int (8204 : Int32)), (.int (8205 : Int32)), (.int (8255 : Int32)), (.int (8303 : Int32)), (.int (8304 : Int32)), (.int (8591 : Int32)), (.int (11263 : Int32)), (.int (11264 : Int32)), (.int (12271 : Int32)), (.int (12288 : Int32)), (.int (12289 : Int32)), (.int (55295 : Int32)), (.int (57343 : Int32)), (.int (63743 : Int32)), (.int (63744 : Int32)), (.int (64975 : Int32)), (.int (65007 : Int32)), (.int (65008 : Int32)), (.int (65533 : Int32)), (.int (65535 : Int32)), (.int (65536 : Int32)), (.int (983039 : Int32)), (.int (1114111 : Int32)), (.int (-2147483648 : Int32)), (.int (2147483647 : Int32))] := V50'
  have N50 := FF50 _ N49 gb1
  have Z50 : n0 ≤ H50.size := Nat.le_trans Z49 (Nat.le_of_eq W50.size.symm)
  have SA50 := Sta.wr W50 SA49
  have BA50 := own_BA_other BA49 W50 nb1
  have hj51 : ¬ (((p2 &&& (2147483647 : Int32)) - ((p2 &&& (2147483647 : Int32)) / (49 : Int32)) * (49 : Int32)) < 0 ∨ 49 ≤ (((p2 &&& (2147483647 : Int32)) - ((p2 &&& (2147483647 : Int32)) / (49 : Int32)) * (49 : Int32))).toNatClampNeg) := own_remin (own_nn _) (by decide) (by decide)
  obtain ⟨w51, hv51⟩ := own_some (us := [(0 : Int32), (58 : Int32), (45 : Int32), (46 : Int32), (48 : Int32), (57 : Int32), (65 : Int32), (90 : Int32), (95 : Int32), (97 : Int32), (122 : Int32), (127 : Int32), (183 : Int32), (192 : Int32), (214 : Int32), (216 : Int32), (246 : Int32), (248 : Int32), (767 : Int32), (879 : Int32), (880 : Int32), (893 : Int32), (895 : Int32), (8191 : Int32), (8204 : Int32), (8205 : Int32), (8255 : Int32), (8303 : Int32), (8304 : Int32), (8591 : Int32), (11263 : Int32), (11264 : Int32), (12271 : Int32), (12288 : Int32), (12289 : Int32), (55295 : Int32), (57343 : Int32), (63743 : Int32), (63744 : Int32), (64975 : Int32), (65007 : Int32), (65008 : Int32), (65533 : Int32), (65535 : Int32), (65536 : Int32), (983039 : Int32), (1114111 : Int32), (-2147483648 : Int32), (2147483647 : Int32)]) (vs := [(.int (0 : Int32)), (.int (58 : Int32)), (.int (45 : Int32)), (.int (46 : Int32)), (.int (48 : Int32)), (.int (57 : Int32)), (.int (65 : Int32)), (.int (90 : Int32)), (.int (95 : Int32)), (.int (97 : Int32)), (.int (122 : Int32)), (.int (127 : Int32)), (.int (183 : Int32)), (.int (192 : Int32)), (.int (214 : Int32)), (.int (216 : Int32)), (.int (246 : Int32)), (.int (248 : Int32)), (.int (767 : Int32)), (.int (879 : Int32)), (.int (880 : Int32)), (.int (893 : Int32)), (.int (895 : Int32)), (.int (8191 : Int32)), (.int (8204 : Int32)), (.int (8205 : Int32)), (.int (8255 : Int32)), (.int (8303 : Int32)), (.int (8304 : Int32)), (.int (8591 : Int32)), (.int (11263 : Int32)), (.int (11264 : Int32)), (.int (12271 : Int32)), (.int (12288 : Int32)), (.int (12289 : Int32)), (.int (55295 : Int32)), (.int (57343 : Int32)), (.int (63743 : Int32)), (.int (63744 : Int32)), (.int (64975 : Int32)), (.int (65007 : Int32)), (.int (65008 : Int32)), (.int (65533 : Int32)), (.int (65535 : Int32)), (.int (65536 : Int32)), (.int (983039 : Int32)), (.int (1114111 : Int32)), (.int (-2147483648 : Int32)), (.int (2147483647 : Int32))]) rfl (n := 49) rfl (own_lt hj51)
  obtain ⟨_, _, ⟨T52, L52, k52, n52⟩, -, X52, ⟨Lc52, hQ52, l52, y52, z52⟩, st52⟩ := Jvm.LawKit.callS X50 hx (y := (⟨"com/example/twyg/twyg/xml/XmlCharacters", "isNameStart", "(I)Z"⟩ : MethodName)) hown (mvT hZ (hw _ (List.mem_of_getElem? (i := 16) rfl))) (mvT hZ (hw _ (List.mem_of_getElem? (i := 17) rfl))) (mvT hZ (hw _ (List.mem_of_getElem? (i := 18) rfl))) (mvT hZ (hw _ (List.mem_of_getElem? (i := 19) rfl))) (by decide) (backOf (W := 0) (rm1 l Z a0 hw [] p1 H50 n0 Z50 aA SA50 BA50) hZ (hw _ (List.mem_of_getElem? (i := 19) rfl)) (hw _ (List.mem_of_getElem? (i := 18) rfl)) (by decide) (by decide)) (g := (mkF m 346 #[.val (.int p1), .val (.int p2), .val (.int p3), .val (.int p4), .val (.ref b1), .val (.int w51), .val (.int (w51 + ((p3 &&& (3 : Int32)) - (1 : Int32)))), .val (.int (p4 &&& (1048575 : Int32))), .unset, .unset, .unset] [(.int p1)])) rfl (by rw [hml]; rfl) (argsL := [(.int p1)]) (rest := []) (lenOf pd_0_0 rfl) rfl (by show 2 * 0 + _ ≤ _; exact Nat.le_of_eq rfl) (hb hby at_346) (fun _ _ => ⟨rfl, e50, (by decide : 1 + 0 ≤ _), (by decide : 49 + 0 ≤ _)⟩)
  dsimp only [Pt.U, Pt.locs, Pt.cells, Pt.slots] at X52 l52 y52 z52 st52 hQ52
  subst l52 y52 z52
  obtain ⟨rfl, N52q, e52⟩ := hQ52
  have N52 := Fr.app N50 N52q
  obtain ⟨_, _, ⟨T53, L53, k53, n53⟩, -, X53, ⟨Lc53, hQ53, l53, y53, z53⟩, st53⟩ := Jvm.LawKit.callS X52 hx (y := (⟨"com/example/twyg/twyg/xml/XmlCharactersIsNameStartPinLaw", "ref", "(I)Z"⟩ : MethodName)) hown (mvT hZ (hw _ (List.mem_of_getElem? (i := 22) rfl))) (mvT hZ (hw _ (List.mem_of_getElem? (i := 23) rfl))) (mvT hZ (hw _ (List.mem_of_getElem? (i := 24) rfl))) (mvT hZ (hw _ (List.mem_of_getElem? (i := 25) rfl))) (by decide) (backOf (W := 1) (rm2 l Z a0 hw [] p1 H50 n0) hZ (hw _ (List.mem_of_getElem? (i := 25) rfl)) (hw _ (List.mem_of_getElem? (i := 24) rfl)) (by decide) (by decide)) (g := (mkF m 350 #[.val (.int p1), .val (.int p2), .val (.int p3), .val (.int p4), .val (.ref b1), .val (.int w51), .val (.int (w51 + ((p3 &&& (3 : Int32)) - (1 : Int32)))), .val (.int (p4 &&& (1048575 : Int32))), .unset, .unset, .unset] [(.int p1), (.int (fN p1))])) rfl (by rw [hml]; rfl) (argsL := [(.int p1)]) (rest := [(.int (fN p1))]) (lenOf pd_0_0 rfl) rfl (by show 2 * 0 + _ ≤ _; exact Nat.le_of_eq rfl) (hb hby at_350) (fun _ _ => ⟨rfl, e52, (by decide : 1 + 0 ≤ _), (by decide : 49 + 0 ≤ _)⟩)
  dsimp only [Pt.U, Pt.locs, Pt.cells, Pt.slots] at X53 l53 y53 z53 st53 hQ53
  subst l53 y53 z53
  obtain ⟨rfl, N53q, e53⟩ := hQ53
  have N53 := Fr.app N52 N53q
  have h353_54 : (fN p1) = (f2_0 p1) := own_eq _
  obtain ⟨_, _, ⟨T55, L55, k55, n55⟩, -, X55, ⟨Lc55, hQ55, l55, y55, z55⟩, st55⟩ := Jvm.LawKit.callS X53 hx (y := (⟨"com/example/twyg/twyg/xml/XmlCharacters", "isNameStart", "(I)Z"⟩ : MethodName)) hown (mvT hZ (hw _ (List.mem_of_getElem? (i := 16) rfl))) (mvT hZ (hw _ (List.mem_of_getElem? (i := 17) rfl))) (mvT hZ (hw _ (List.mem_of_getElem? (i := 18) rfl))) (mvT hZ (hw _ (List.mem_of_getElem? (i := 19) rfl))) (by decide) (backOf (W := 0) (rm1 l Z a0 hw [] (w51 + ((p3 &&& (3 : Int32)) - (1 : Int32))) H50 n0 Z50 aA SA50 BA50) hZ (hw _ (List.mem_of_getElem? (i := 19) rfl)) (hw _ (List.mem_of_getElem? (i := 18) rfl)) (by decide) (by decide)) (g := (mkF m 365 #[.val (.int p1), .val (.int p2), .val (.int p3), .val (.int p4), .val (.ref b1), .val (.int w51), .val (.int (w51 + ((p3 &&& (3 : Int32)) - (1 : Int32)))), .val (.int (p4 &&& (1048575 : Int32))), .val (.int (1 : Int32)), .unset, .unset] [(.int (w51 + ((p3 &&& (3 : Int32)) - (1 : Int32))))])) rfl (by rw [hml]; rfl) (argsL := [(.int (w51 + ((p3 &&& (3 : Int32)) - (1 : Int32))))]) (rest := []) (lenOf pd_0_0 rfl) rfl (by show 2 * 0 + _ ≤ _; exact Nat.le_of_eq rfl) (hb hby at_365) (fun _ _ => ⟨rfl, e53, (by decide : 1 + 0 ≤ _), (by decide : 49 + 0 ≤ _)⟩)
  dsimp only [Pt.U, Pt.locs, Pt.cells, Pt.slots] at X55 l55 y55 z55 st55 hQ55
  subst l55 y55 z55
  obtain ⟨rfl, N55q, e55⟩ := hQ55
  have N55 := Fr.app N53 N55q
  obtain ⟨_, _, ⟨T56, L56, k56, n56⟩, -, X56, ⟨Lc56, hQ56, l56, y56, z56⟩, st56⟩ := Jvm.LawKit.callS X55 hx (y := (⟨"com/example/twyg/twyg/xml/XmlCharactersIsNameStartPinLaw", "ref", "(I)Z"⟩ : MethodName)) hown (mvT hZ (hw _ (List.mem_of_getElem? (i := 22) rfl))) (mvT hZ (hw _ (List.mem_of_getElem? (i := 23) rfl))) (mvT hZ (hw _ (List.mem_of_getElem? (i := 24) rfl))) (mvT hZ (hw _ (List.mem_of_getElem? (i := 25) rfl))) (by decide) (backOf (W := 1) (rm2 l Z a0 hw [] (w51 + ((p3 &&& (3 : Int32)) - (1 : Int32))) H50 n0) hZ (hw _ (List.mem_of_getElem? (i := 25) rfl)) (hw _ (List.mem_of_getElem? (i := 24) rfl)) (by decide) (by decide)) (g := (mkF m 370 #[.val (.int p1), .val (.int p2), .val (.int p3), .val (.int p4), .val (.ref b1), .val (.int w51), .val (.int (w51 + ((p3 &&& (3 : Int32)) - (1 : Int32)))), .val (.int (p4 &&& (1048575 : Int32))), .val (.int (1 : Int32)), .unset, .unset] [(.int (w51 + ((p3 &&& (3 : Int32)) - (1 : Int32)))), (.int (fN (w51 + ((p3 &&& (3 : Int32)) - (1 : Int32)))))])) rfl (by rw [hml]; rfl) (argsL := [(.int (w51 + ((p3 &&& (3 : Int32)) - (1 : Int32))))]) (rest := [(.int (fN (w51 + ((p3 &&& (3 : Int32)) - (1 : Int32)))))]) (lenOf pd_0_0 rfl) rfl (by show 2 * 0 + _ ≤ _; exact Nat.le_of_eq rfl) (hb hby at_370) (fun _ _ => ⟨rfl, e55, (by decide : 1 + 0 ≤ _), (by decide : 49 + 0 ≤ _)⟩)
  dsimp only [Pt.U, Pt.locs, Pt.cells, Pt.slots] at X56 l56 y56 z56 st56 hQ56
  subst l56 y56 z56
  obtain ⟨rfl, N56q, e56⟩ := hQ56
  have N56 := Fr.app N55 N56q
  have h373_57 : (fN (w51 + ((p3 &&& (3 : Int32)) - (1 : Int32)))) = (f2_0 (w51 + ((p3 &&& (3 : Int32)) - (1 : Int32)))) := own_eq _
  obtain ⟨_, _, ⟨T58, L58, k58, n58⟩, -, X58, ⟨Lc58, hQ58, l58, y58, z58⟩, st58⟩ := Jvm.LawKit.callS X56 hx (y := (⟨"com/example/twyg/twyg/xml/XmlCharacters", "isNameStart", "(I)Z"⟩ : MethodName)) hown (mvT hZ (hw _ (List.mem_of_getElem? (i := 16) rfl))) (mvT hZ (hw _ (List.mem_of_getElem? (i := 17) rfl))) (mvT hZ (hw _ (List.mem_of_getElem? (i := 18) rfl))) (mvT hZ (hw _ (List.mem_of_getElem? (i := 19) rfl))) (by decide) (backOf (W := 0) (rm1 l Z a0 hw [] (p4 &&& (1048575 : Int32)) H50 n0 Z50 aA SA50 BA50) hZ (hw _ (List.mem_of_getElem? (i := 19) rfl)) (hw _ (List.mem_of_getElem? (i := 18) rfl)) (by decide) (by decide)) (g := (mkF m 385 #[.val (.int p1), .val (.int p2), .val (.int p3), .val (.int p4), .val (.ref b1), .val (.int w51), .val (.int (w51 + ((p3 &&& (3 : Int32)) - (1 : Int32)))), .val (.int (p4 &&& (1048575 : Int32))), .val (.int (1 : Int32)), .val (.int (1 : Int32)), .unset] [(.int (p4 &&& (1048575 : Int32)))])) rfl (by rw [hml]; rfl) (argsL := [(.int (p4 &&& (1048575 : Int32)))]) (rest := []) (lenOf pd_0_0 rfl) rfl (by show 2 * 0 + _ ≤ _; exact Nat.le_of_eq rfl) (hb hby at_385) (fun _ _ => ⟨rfl, e56, (by decide : 1 + 0 ≤ _), (by decide : 49 + 0 ≤ _)⟩)
  dsimp only [Pt.U, Pt.locs, Pt.cells, Pt.slots] at X58 l58 y58 z58 st58 hQ58
  subst l58 y58 z58
  obtain ⟨rfl, N58q, e58⟩ := hQ58
  have N58 := Fr.app N56 N58q
  obtain ⟨_, _, ⟨T59, L59, k59, n59⟩, -, X59, ⟨Lc59, hQ59, l59, y59, z59⟩, st59⟩ := Jvm.LawKit.callS X58 hx (y := (⟨"com/example/twyg/twyg/xml/XmlCharactersIsNameStartPinLaw", "ref", "(I)Z"⟩ : MethodName)) hown (mvT hZ (hw _ (List.mem_of_getElem? (i := 22) rfl))) (mvT hZ (hw _ (List.mem_of_getElem? (i := 23) rfl))) (mvT hZ (hw _ (List.mem_of_getElem? (i := 24) rfl))) (mvT hZ (hw _ (List.mem_of_getElem? (i := 25) rfl))) (by decide) (backOf (W := 1) (rm2 l Z a0 hw [] (p4 &&& (1048575 : Int32)) H50 n0) hZ (hw _ (List.mem_of_getElem? (i := 25) rfl)) (hw _ (List.mem_of_getElem? (i := 24) rfl)) (by decide) (by decide)) (g := (mkF m 390 #[.val (.int p1), .val (.int p2), .val (.int p3), .val (.int p4), .val (.ref b1), .val (.int w51), .val (.int (w51 + ((p3 &&& (3 : Int32)) - (1 : Int32)))), .val (.int (p4 &&& (1048575 : Int32))), .val (.int (1 : Int32)), .val (.int (1 : Int32)), .unset] [(.int (p4 &&& (1048575 : Int32))), (.int (fN (p4 &&& (1048575 : Int32))))])) rfl (by rw [hml]; rfl) (argsL := [(.int (p4 &&& (1048575 : Int32)))]) (rest := [(.int (fN (p4 &&& (1048575 : Int32))))]) (lenOf pd_0_0 rfl) rfl (by show 2 * 0 + _ ≤ _; exact Nat.le_of_eq rfl) (hb hby at_390) (fun _ _ => ⟨rfl, e58, (by decide : 1 + 0 ≤ _), (by decide : 49 + 0 ≤ _)⟩)
  dsimp only [Pt.U, Pt.locs, Pt.cells, Pt.slots] at X59 l59 y59 z59 st59 hQ59
  subst l59 y59 z59
  obtain ⟨rfl, N59q, e59⟩ := hQ59
  have N59 := Fr.app N58 N59q
  have h393_60 : (fN (p4 &&& (1048575 : Int32))) = (f2_0 (p4 &&& (1048575 : Int32))) := own_eq _
  have h405_61 : ¬ ((1 : Int32) = (0 : Int32)) := by decide
  have h410_62 : ¬ ((1 : Int32) = (0 : Int32)) := by decide
  have h415_63 : ¬ ((1 : Int32) = (0 : Int32)) := by decide
  have pre64 : ∀ t, Steps p.tables e below (T59.setTop (mkF m 423 #[.val (.int p1), .val (.int p2), .val (.int p3), .val (.int p4), .val (.ref b1), .val (.int w51), .val (.int (w51 + ((p3 &&& (3 : Int32)) - (1 : Int32)))), .val (.int (p4 &&& (1048575 : Int32))), .val (.int (1 : Int32)), .val (.int (1 : Int32)), .val (.int (1 : Int32))] [(.int (1 : Int32))])) t → Steps p.tables e below (s₁.setTop (entryFrame m #[(.int p1), (.int p2), (.int p3), (.int p4)] maxLocals)) t := by
    intro t k
    refine pre0 t ?_
    show Steps p.tables e below (s₁.setTop (mkF m 0 #[.val (.int p1), .val (.int p2), .val (.int p3), .val (.int p4), .unset, .unset, .unset, .unset, .unset, .unset, .unset] [])) _
    refine XS.bipush X0.here hx rfl (hb hby at_0) ?_
    show Steps p.tables e below (s₁.setTop (mkF m 2 #[.val (.int p1), .val (.int p2), .val (.int p3), .val (.int p4), .unset, .unset, .unset, .unset, .unset, .unset, .unset] [(.int (49 : Int32))])) _
    refine st1 _ ?_
    show Steps p.tables e below (T1.setTop (mkF m 4 #[.val (.int p1), .val (.int p2), .val (.int p3), .val (.int p4), .unset, .unset, .unset, .unset, .unset, .unset, .unset] [(.ref b1)])) _
    refine XS.dup X1.here hx rfl (hb hby at_4) rfl rfl ?_
    show Steps p.tables e below (T1.setTop (mkF m 5 #[.val (.int p1), .val (.int p2), .val (.int p3), .val (.int p4), .unset, .unset, .unset, .unset, .unset, .unset, .unset] [(.ref b1), (.ref b1)])) _
    refine XS.iconst X1.here hx rfl (hb hby at_5) ?_
    show Steps p.tables e below (T1.setTop (mkF m 6 #[.val (.int p1), .val (.int p2), .val (.int p3), .val (.int p4), .unset, .unset, .unset, .unset, .unset, .unset, .unset] [(.int (0 : Int32)), (.ref b1), (.ref b1)])) _
    refine XS.iconst X1.here hx rfl (hb hby at_6) ?_
    show Steps p.tables e below (T1.setTop (mkF m 7 #[.val (.int p1), .val (.int p2), .val (.int p3), .val (.int p4), .unset, .unset, .unset, .unset, .unset, .unset, .unset] [(.int (0 : Int32)), (.int (0 : Int32)), (.ref b1), (.ref b1)])) _
    refine st2 _ ?_
    show Steps p.tables e below (T2.setTop (mkF m 8 #[.val (.int p1), .val (.int p2), .val (.int p3), .val (.int p4), .unset, .unset, .unset, .unset, .unset, .unset, .unset] [(.ref b1)])) _
    refine XS.dup X2.here hx rfl (hb hby at_8) rfl rfl ?_
    show Steps p.tables e below (T2.setTop (mkF m 9 #[.val (.int p1), .val (.int p2), .val (.int p3), .val (.int p4), .unset, .unset, .unset, .unset, .unset, .unset, .unset] [(.ref b1), (.ref b1)])) _
    refine XS.iconst X2.here hx rfl (hb hby at_9) ?_
    show Steps p.tables e below (T2.setTop (mkF m 10 #[.val (.int p1), .val (.int p2), .val (.int p3), .val (.int p4), .unset, .unset, .unset, .unset, .unset, .unset, .unset] [(.int (1 : Int32)), (.ref b1), (.ref b1)])) _
    refine XS.bipush X2.here hx rfl (hb hby at_10) ?_
    show Steps p.tables e below (T2.setTop (mkF m 12 #[.val (.int p1), .val (.int p2), .val (.int p3), .val (.int p4), .unset, .unset, .unset, .unset, .unset, .unset, .unset] [(.int (58 : Int32)), (.int (1 : Int32)), (.ref b1), (.ref b1)])) _
    refine st3 _ ?_
    show Steps p.tables e below (T3.setTop (mkF m 13 #[.val (.int p1), .val (.int p2), .val (.int p3), .val (.int p4), .unset, .unset, .unset, .unset, .unset, .unset, .unset] [(.ref b1)])) _
    refine XS.dup X3.here hx rfl (hb hby at_13) rfl rfl ?_
    show Steps p.tables e below (T3.setTop (mkF m 14 #[.val (.int p1), .val (.int p2), .val (.int p3), .val (.int p4), .unset, .unset, .unset, .unset, .unset, .unset, .unset] [(.ref b1), (.ref b1)])) _
    refine XS.iconst X3.here hx rfl (hb hby at_14) ?_
    show Steps p.tables e below (T3.setTop (mkF m 15 #[.val (.int p1), .val (.int p2), .val (.int p3), .val (.int p4), .unset, .unset, .unset, .unset, .unset, .unset, .unset] [(.int (2 : Int32)), (.ref b1), (.ref b1)])) _
    refine XS.bipush X3.here hx rfl (hb hby at_15) ?_
    show Steps p.tables e below (T3.setTop (mkF m 17 #[.val (.int p1), .val (.int p2), .val (.int p3), .val (.int p4), .unset, .unset, .unset, .unset, .unset, .unset, .unset] [(.int (45 : Int32)), (.int (2 : Int32)), (.ref b1), (.ref b1)])) _
    refine st4 _ ?_
    show Steps p.tables e below (T4.setTop (mkF m 18 #[.val (.int p1), .val (.int p2), .val (.int p3), .val (.int p4), .unset, .unset, .unset, .unset, .unset, .unset, .unset] [(.ref b1)])) _
    refine XS.dup X4.here hx rfl (hb hby at_18) rfl rfl ?_
    show Steps p.tables e below (T4.setTop (mkF m 19 #[.val (.int p1), .val (.int p2), .val (.int p3), .val (.int p4), .unset, .unset, .unset, .unset, .unset, .unset, .unset] [(.ref b1), (.ref b1)])) _
    refine XS.iconst X4.here hx rfl (hb hby at_19) ?_
    show Steps p.tables e below (T4.setTop (mkF m 20 #[.val (.int p1), .val (.int p2), .val (.int p3), .val (.int p4), .unset, .unset, .unset, .unset, .unset, .unset, .unset] [(.int (3 : Int32)), (.ref b1), (.ref b1)])) _
    refine XS.bipush X4.here hx rfl (hb hby at_20) ?_
    show Steps p.tables e below (T4.setTop (mkF m 22 #[.val (.int p1), .val (.int p2), .val (.int p3), .val (.int p4), .unset, .unset, .unset, .unset, .unset, .unset, .unset] [(.int (46 : Int32)), (.int (3 : Int32)), (.ref b1), (.ref b1)])) _
    refine st5 _ ?_
    show Steps p.tables e below (T5.setTop (mkF m 23 #[.val (.int p1), .val (.int p2), .val (.int p3), .val (.int p4), .unset, .unset, .unset, .unset, .unset, .unset, .unset] [(.ref b1)])) _
    refine XS.dup X5.here hx rfl (hb hby at_23) rfl rfl ?_
    show Steps p.tables e below (T5.setTop (mkF m 24 #[.val (.int p1), .val (.int p2), .val (.int p3), .val (.int p4), .unset, .unset, .unset, .unset, .unset, .unset, .unset] [(.ref b1), (.ref b1)])) _
    refine XS.iconst X5.here hx rfl (hb hby at_24) ?_
    show Steps p.tables e below (T5.setTop (mkF m 25 #[.val (.int p1), .val (.int p2), .val (.int p3), .val (.int p4), .unset, .unset, .unset, .unset, .unset, .unset, .unset] [(.int (4 : Int32)), (.ref b1), (.ref b1)])) _
    refine XS.bipush X5.here hx rfl (hb hby at_25) ?_
    show Steps p.tables e below (T5.setTop (mkF m 27 #[.val (.int p1), .val (.int p2), .val (.int p3), .val (.int p4), .unset, .unset, .unset, .unset, .unset, .unset, .unset] [(.int (48 : Int32)), (.int (4 : Int32)), (.ref b1), (.ref b1)])) _
    refine st6 _ ?_
    show Steps p.tables e below (T6.setTop (mkF m 28 #[.val (.int p1), .val (.int p2), .val (.int p3), .val (.int p4), .unset, .unset, .unset, .unset, .unset, .unset, .unset] [(.ref b1)])) _
    refine XS.dup X6.here hx rfl (hb hby at_28) rfl rfl ?_
    show Steps p.tables e below (T6.setTop (mkF m 29 #[.val (.int p1), .val (.int p2), .val (.int p3), .val (.int p4), .unset, .unset, .unset, .unset, .unset, .unset, .unset] [(.ref b1), (.ref b1)])) _
    refine XS.iconst X6.here hx rfl (hb hby at_29) ?_
    show Steps p.tables e below (T6.setTop (mkF m 30 #[.val (.int p1), .val (.int p2), .val (.int p3), .val (.int p4), .unset, .unset, .unset, .unset, .unset, .unset, .unset] [(.int (5 : Int32)), (.ref b1), (.ref b1)])) _
    refine XS.bipush X6.here hx rfl (hb hby at_30) ?_
    show Steps p.tables e below (T6.setTop (mkF m 32 #[.val (.int p1), .val (.int p2), .val (.int p3), .val (.int p4), .unset, .unset, .unset, .unset, .unset, .unset, .unset] [(.int (57 : Int32)), (.int (5 : Int32)), (.ref b1), (.ref b1)])) _
    refine st7 _ ?_
    show Steps p.tables e below (T7.setTop (mkF m 33 #[.val (.int p1), .val (.int p2), .val (.int p3), .val (.int p4), .unset, .unset, .unset, .unset, .unset, .unset, .unset] [(.ref b1)])) _
    refine XS.dup X7.here hx rfl (hb hby at_33) rfl rfl ?_
    show Steps p.tables e below (T7.setTop (mkF m 34 #[.val (.int p1), .val (.int p2), .val (.int p3), .val (.int p4), .unset, .unset, .unset, .unset, .unset, .unset, .unset] [(.ref b1), (.ref b1)])) _
    refine XS.bipush X7.here hx rfl (hb hby at_34) ?_
    show Steps p.tables e below (T7.setTop (mkF m 36 #[.val (.int p1), .val (.int p2), .val (.int p3), .val (.int p4), .unset, .unset, .unset, .unset, .unset, .unset, .unset] [(.int (6 : Int32)), (.ref b1), (.ref b1)])) _
    refine XS.bipush X7.here hx rfl (hb hby at_36) ?_
    show Steps p.tables e below (T7.setTop (mkF m 38 #[.val (.int p1), .val (.int p2), .val (.int p3), .val (.int p4), .unset, .unset, .unset, .unset, .unset, .unset, .unset] [(.int (65 : Int32)), (.int (6 : Int32)), (.ref b1), (.ref b1)])) _
    refine st8 _ ?_
    show Steps p.tables e below (T8.setTop (mkF m 39 #[.val (.int p1), .val (.int p2), .val (.int p3), .val (.int p4), .unset, .unset, .unset, .unset, .unset, .unset, .unset] [(.ref b1)])) _
    refine XS.dup X8.here hx rfl (hb hby at_39) rfl rfl ?_
    show Steps p.tables e below (T8.setTop (mkF m 40 #[.val (.int p1), .val (.int p2), .val (.int p3), .val (.int p4), .unset, .unset, .unset, .unset, .unset, .unset, .unset] [(.ref b1), (.ref b1)])) _
    refine XS.bipush X8.here hx rfl (hb hby at_40) ?_
    show Steps p.tables e below (T8.setTop (mkF m 42 #[.val (.int p1), .val (.int p2), .val (.int p3), .val (.int p4), .unset, .unset, .unset, .unset, .unset, .unset, .unset] [(.int (7 : Int32)), (.ref b1), (.ref b1)])) _
    refine XS.bipush X8.here hx rfl (hb hby at_42) ?_
    show Steps p.tables e below (T8.setTop (mkF m 44 #[.val (.int p1), .val (.int p2), .val (.int p3), .val (.int p4), .unset, .unset, .unset, .unset, .unset, .unset, .unset] [(.int (90 : Int32)), (.int (7 : Int32)), (.ref b1), (.ref b1)])) _
    refine st9 _ ?_
    show Steps p.tables e below (T9.setTop (mkF m 45 #[.val (.int p1), .val (.int p2), .val (.int p3), .val (.int p4), .unset, .unset, .unset, .unset, .unset, .unset, .unset] [(.ref b1)])) _
    refine XS.dup X9.here hx rfl (hb hby at_45) rfl rfl ?_
    show Steps p.tables e below (T9.setTop (mkF m 46 #[.val (.int p1), .val (.int p2), .val (.int p3), .val (.int p4), .unset, .unset, .unset, .unset, .unset, .unset, .unset] [(.ref b1), (.ref b1)])) _
    refine XS.bipush X9.here hx rfl (hb hby at_46) ?_
    show Steps p.tables e below (T9.setTop (mkF m 48 #[.val (.int p1), .val (.int p2), .val (.int p3), .val (.int p4), .unset, .unset, .unset, .unset, .unset, .unset, .unset] [(.int (8 : Int32)), (.ref b1), (.ref b1)])) _
    refine XS.bipush X9.here hx rfl (hb hby at_48) ?_
    show Steps p.tables e below (T9.setTop (mkF m 50 #[.val (.int p1), .val (.int p2), .val (.int p3), .val (.int p4), .unset, .unset, .unset, .unset, .unset, .unset, .unset] [(.int (95 : Int32)), (.int (8 : Int32)), (.ref b1), (.ref b1)])) _
    refine st10 _ ?_
    show Steps p.tables e below (T10.setTop (mkF m 51 #[.val (.int p1), .val (.int p2), .val (.int p3), .val (.int p4), .unset, .unset, .unset, .unset, .unset, .unset, .unset] [(.ref b1)])) _
    refine XS.dup X10.here hx rfl (hb hby at_51) rfl rfl ?_
    show Steps p.tables e below (T10.setTop (mkF m 52 #[.val (.int p1), .val (.int p2), .val (.int p3), .val (.int p4), .unset, .unset, .unset, .unset, .unset, .unset, .unset] [(.ref b1), (.ref b1)])) _
    refine XS.bipush X10.here hx rfl (hb hby at_52) ?_
    show Steps p.tables e below (T10.setTop (mkF m 54 #[.val (.int p1), .val (.int p2), .val (.int p3), .val (.int p4), .unset, .unset, .unset, .unset, .unset, .unset, .unset] [(.int (9 : Int32)), (.ref b1), (.ref b1)])) _
    refine XS.bipush X10.here hx rfl (hb hby at_54) ?_
    show Steps p.tables e below (T10.setTop (mkF m 56 #[.val (.int p1), .val (.int p2), .val (.int p3), .val (.int p4), .unset, .unset, .unset, .unset, .unset, .unset, .unset] [(.int (97 : Int32)), (.int (9 : Int32)), (.ref b1), (.ref b1)])) _
    refine st11 _ ?_
    show Steps p.tables e below (T11.setTop (mkF m 57 #[.val (.int p1), .val (.int p2), .val (.int p3), .val (.int p4), .unset, .unset, .unset, .unset, .unset, .unset, .unset] [(.ref b1)])) _
    refine XS.dup X11.here hx rfl (hb hby at_57) rfl rfl ?_
    show Steps p.tables e below (T11.setTop (mkF m 58 #[.val (.int p1), .val (.int p2), .val (.int p3), .val (.int p4), .unset, .unset, .unset, .unset, .unset, .unset, .unset] [(.ref b1), (.ref b1)])) _
    refine XS.bipush X11.here hx rfl (hb hby at_58) ?_
    show Steps p.tables e below (T11.setTop (mkF m 60 #[.val (.int p1), .val (.int p2), .val (.int p3), .val (.int p4), .unset, .unset, .unset, .unset, .unset, .unset, .unset] [(.int (10 : Int32)), (.ref b1), (.ref b1)])) _
    refine XS.bipush X11.here hx rfl (hb hby at_60) ?_
    show Steps p.tables e below (T11.setTop (mkF m 62 #[.val (.int p1), .val (.int p2), .val (.int p3), .val (.int p4), .unset, .unset, .unset, .unset, .unset, .unset, .unset] [(.int (122 : Int32)), (.int (10 : Int32)), (.ref b1), (.ref b1)])) _
    refine st12 _ ?_
    show Steps p.tables e below (T12.setTop (mkF m 63 #[.val (.int p1), .val (.int p2), .val (.int p3), .val (.int p4), .unset, .unset, .unset, .unset, .unset, .unset, .unset] [(.ref b1)])) _
    refine XS.dup X12.here hx rfl (hb hby at_63) rfl rfl ?_
    show Steps p.tables e below (T12.setTop (mkF m 64 #[.val (.int p1), .val (.int p2), .val (.int p3), .val (.int p4), .unset, .unset, .unset, .unset, .unset, .unset, .unset] [(.ref b1), (.ref b1)])) _
    refine XS.bipush X12.here hx rfl (hb hby at_64) ?_
    show Steps p.tables e below (T12.setTop (mkF m 66 #[.val (.int p1), .val (.int p2), .val (.int p3), .val (.int p4), .unset, .unset, .unset, .unset, .unset, .unset, .unset] [(.int (11 : Int32)), (.ref b1), (.ref b1)])) _
    refine XS.bipush X12.here hx rfl (hb hby at_66) ?_
    show Steps p.tables e below (T12.setTop (mkF m 68 #[.val (.int p1), .val (.int p2), .val (.int p3), .val (.int p4), .unset, .unset, .unset, .unset, .unset, .unset, .unset] [(.int (127 : Int32)), (.int (11 : Int32)), (.ref b1), (.ref b1)])) _
    refine st13 _ ?_
    show Steps p.tables e below (T13.setTop (mkF m 69 #[.val (.int p1), .val (.int p2), .val (.int p3), .val (.int p4), .unset, .unset, .unset, .unset, .unset, .unset, .unset] [(.ref b1)])) _
    refine XS.dup X13.here hx rfl (hb hby at_69) rfl rfl ?_
    show Steps p.tables e below (T13.setTop (mkF m 70 #[.val (.int p1), .val (.int p2), .val (.int p3), .val (.int p4), .unset, .unset, .unset, .unset, .unset, .unset, .unset] [(.ref b1), (.ref b1)])) _
    refine XS.bipush X13.here hx rfl (hb hby at_70) ?_
    show Steps p.tables e below (T13.setTop (mkF m 72 #[.val (.int p1), .val (.int p2), .val (.int p3), .val (.int p4), .unset, .unset, .unset, .unset, .unset, .unset, .unset] [(.int (12 : Int32)), (.ref b1), (.ref b1)])) _
    refine XS.sipush X13.here hx rfl (hb hby at_72) ?_
    show Steps p.tables e below (T13.setTop (mkF m 75 #[.val (.int p1), .val (.int p2), .val (.int p3), .val (.int p4), .unset, .unset, .unset, .unset, .unset, .unset, .unset] [(.int (183 : Int32)), (.int (12 : Int32)), (.ref b1), (.ref b1)])) _
    refine st14 _ ?_
    show Steps p.tables e below (T14.setTop (mkF m 76 #[.val (.int p1), .val (.int p2), .val (.int p3), .val (.int p4), .unset, .unset, .unset, .unset, .unset, .unset, .unset] [(.ref b1)])) _
    refine XS.dup X14.here hx rfl (hb hby at_76) rfl rfl ?_
    show Steps p.tables e below (T14.setTop (mkF m 77 #[.val (.int p1), .val (.int p2), .val (.int p3), .val (.int p4), .unset, .unset, .unset, .unset, .unset, .unset, .unset] [(.ref b1), (.ref b1)])) _
    refine XS.bipush X14.here hx rfl (hb hby at_77) ?_
    show Steps p.tables e below (T14.setTop (mkF m 79 #[.val (.int p1), .val (.int p2), .val (.int p3), .val (.int p4), .unset, .unset, .unset, .unset, .unset, .unset, .unset] [(.int (13 : Int32)), (.ref b1), (.ref b1)])) _
    refine XS.sipush X14.here hx rfl (hb hby at_79) ?_
    show Steps p.tables e below (T14.setTop (mkF m 82 #[.val (.int p1), .val (.int p2), .val (.int p3), .val (.int p4), .unset, .unset, .unset, .unset, .unset, .unset, .unset] [(.int (192 : Int32)), (.int (13 : Int32)), (.ref b1), (.ref b1)])) _
    refine st15 _ ?_
    show Steps p.tables e below (T15.setTop (mkF m 83 #[.val (.int p1), .val (.int p2), .val (.int p3), .val (.int p4), .unset, .unset, .unset, .unset, .unset, .unset, .unset] [(.ref b1)])) _
    refine XS.dup X15.here hx rfl (hb hby at_83) rfl rfl ?_
    show Steps p.tables e below (T15.setTop (mkF m 84 #[.val (.int p1), .val (.int p2), .val (.int p3), .val (.int p4), .unset, .unset, .unset, .unset, .unset, .unset, .unset] [(.ref b1), (.ref b1)])) _
    refine XS.bipush X15.here hx rfl (hb hby at_84) ?_
    show Steps p.tables e below (T15.setTop (mkF m 86 #[.val (.int p1), .val (.int p2), .val (.int p3), .val (.int p4), .unset, .unset, .unset, .unset, .unset, .unset, .unset] [(.int (14 : Int32)), (.ref b1), (.ref b1)])) _
    refine XS.sipush X15.here hx rfl (hb hby at_86) ?_
    show Steps p.tables e below (T15.setTop (mkF m 89 #[.val (.int p1), .val (.int p2), .val (.int p3), .val (.int p4), .unset, .unset, .unset, .unset, .unset, .unset, .unset] [(.int (214 : Int32)), (.int (14 : Int32)), (.ref b1), (.ref b1)])) _
    refine st16 _ ?_
    show Steps p.tables e below (T16.setTop (mkF m 90 #[.val (.int p1), .val (.int p2), .val (.int p3), .val (.int p4), .unset, .unset, .unset, .unset, .unset, .unset, .unset] [(.ref b1)])) _
    refine XS.dup X16.here hx rfl (hb hby at_90) rfl rfl ?_
    show Steps p.tables e below (T16.setTop (mkF m 91 #[.val (.int p1), .val (.int p2), .val (.int p3), .val (.int p4), .unset, .unset, .unset, .unset, .unset, .unset, .unset] [(.ref b1), (.ref b1)])) _
    refine XS.bipush X16.here hx rfl (hb hby at_91) ?_
    show Steps p.tables e below (T16.setTop (mkF m 93 #[.val (.int p1), .val (.int p2), .val (.int p3), .val (.int p4), .unset, .unset, .unset, .unset, .unset, .unset, .unset] [(.int (15 : Int32)), (.ref b1), (.ref b1)])) _
    refine XS.sipush X16.here hx rfl (hb hby at_93) ?_
    show Steps p.tables e below (T16.setTop (mkF m 96 #[.val (.int p1), .val (.int p2), .val (.int p3), .val (.int p4), .unset, .unset, .unset, .unset, .unset, .unset, .unset] [(.int (216 : Int32)), (.int (15 : Int32)), (.ref b1), (.ref b1)])) _
    refine st17 _ ?_
    show Steps p.tables e below (T17.setTop (mkF m 97 #[.val (.int p1), .val (.int p2), .val (.int p3), .val (.int p4), .unset, .unset, .unset, .unset, .unset, .unset, .unset] [(.ref b1)])) _
    refine XS.dup X17.here hx rfl (hb hby at_97) rfl rfl ?_
    show Steps p.tables e below (T17.setTop (mkF m 98 #[.val (.int p1), .val (.int p2), .val (.int p3), .val (.int p4), .unset, .unset, .unset, .unset, .unset, .unset, .unset] [(.ref b1), (.ref b1)])) _
    refine XS.bipush X17.here hx rfl (hb hby at_98) ?_
    show Steps p.tables e below (T17.setTop (mkF m 100 #[.val (.int p1), .val (.int p2), .val (.int p3), .val (.int p4), .unset, .unset, .unset, .unset, .unset, .unset, .unset] [(.int (16 : Int32)), (.ref b1), (.ref b1)])) _
    refine XS.sipush X17.here hx rfl (hb hby at_100) ?_
    show Steps p.tables e below (T17.setTop (mkF m 103 #[.val (.int p1), .val (.int p2), .val (.int p3), .val (.int p4), .unset, .unset, .unset, .unset, .unset, .unset, .unset] [(.int (246 : Int32)), (.int (16 : Int32)), (.ref b1), (.ref b1)])) _
    refine st18 _ ?_
    show Steps p.tables e below (T18.setTop (mkF m 104 #[.val (.int p1), .val (.int p2), .val (.int p3), .val (.int p4), .unset, .unset, .unset, .unset, .unset, .unset, .unset] [(.ref b1)])) _
    refine XS.dup X18.here hx rfl (hb hby at_104) rfl rfl ?_
    show Steps p.tables e below (T18.setTop (mkF m 105 #[.val (.int p1), .val (.int p2), .val (.int p3), .val (.int p4), .unset, .unset, .unset, .unset, .unset, .unset, .unset] [(.ref b1), (.ref b1)])) _
    refine XS.bipush X18.here hx rfl (hb hby at_105) ?_
    show Steps p.tables e below (T18.setTop (mkF m 107 #[.val (.int p1), .val (.int p2), .val (.int p3), .val (.int p4), .unset, .unset, .unset, .unset, .unset, .unset, .unset] [(.int (17 : Int32)), (.ref b1), (.ref b1)])) _
    refine XS.sipush X18.here hx rfl (hb hby at_107) ?_
    show Steps p.tables e below (T18.setTop (mkF m 110 #[.val (.int p1), .val (.int p2), .val (.int p3), .val (.int p4), .unset, .unset, .unset, .unset, .unset, .unset, .unset] [(.int (248 : Int32)), (.int (17 : Int32)), (.ref b1), (.ref b1)])) _
    refine st19 _ ?_
    show Steps p.tables e below (T19.setTop (mkF m 111 #[.val (.int p1), .val (.int p2), .val (.int p3), .val (.int p4), .unset, .unset, .unset, .unset, .unset, .unset, .unset] [(.ref b1)])) _
    refine XS.dup X19.here hx rfl (hb hby at_111) rfl rfl ?_
    show Steps p.tables e below (T19.setTop (mkF m 112 #[.val (.int p1), .val (.int p2), .val (.int p3), .val (.int p4), .unset, .unset, .unset, .unset, .unset, .unset, .unset] [(.ref b1), (.ref b1)])) _
    refine XS.bipush X19.here hx rfl (hb hby at_112) ?_
    show Steps p.tables e below (T19.setTop (mkF m 114 #[.val (.int p1), .val (.int p2), .val (.int p3), .val (.int p4), .unset, .unset, .unset, .unset, .unset, .unset, .unset] [(.int (18 : Int32)), (.ref b1), (.ref b1)])) _
    refine XS.sipush X19.here hx rfl (hb hby at_114) ?_
    show Steps p.tables e below (T19.setTop (mkF m 117 #[.val (.int p1), .val (.int p2), .val (.int p3), .val (.int p4), .unset, .unset, .unset, .unset, .unset, .unset, .unset] [(.int (767 : Int32)), (.int (18 : Int32)), (.ref b1), (.ref b1)])) _
    refine st20 _ ?_
    show Steps p.tables e below (T20.setTop (mkF m 118 #[.val (.int p1), .val (.int p2), .val (.int p3), .val (.int p4), .unset, .unset, .unset, .unset, .unset, .unset, .unset] [(.ref b1)])) _
    refine XS.dup X20.here hx rfl (hb hby at_118) rfl rfl ?_
    show Steps p.tables e below (T20.setTop (mkF m 119 #[.val (.int p1), .val (.int p2), .val (.int p3), .val (.int p4), .unset, .unset, .unset, .unset, .unset, .unset, .unset] [(.ref b1), (.ref b1)])) _
    refine XS.bipush X20.here hx rfl (hb hby at_119) ?_
    show Steps p.tables e below (T20.setTop (mkF m 121 #[.val (.int p1), .val (.int p2), .val (.int p3), .val (.int p4), .unset, .unset, .unset, .unset, .unset, .unset, .unset] [(.int (19 : Int32)), (.ref b1), (.ref b1)])) _
    refine XS.sipush X20.here hx rfl (hb hby at_121) ?_
    show Steps p.tables e below (T20.setTop (mkF m 124 #[.val (.int p1), .val (.int p2), .val (.int p3), .val (.int p4), .unset, .unset, .unset, .unset, .unset, .unset, .unset] [(.int (879 : Int32)), (.int (19 : Int32)), (.ref b1), (.ref b1)])) _
    refine st21 _ ?_
    show Steps p.tables e below (T21.setTop (mkF m 125 #[.val (.int p1), .val (.int p2), .val (.int p3), .val (.int p4), .unset, .unset, .unset, .unset, .unset, .unset, .unset] [(.ref b1)])) _
    refine XS.dup X21.here hx rfl (hb hby at_125) rfl rfl ?_
    show Steps p.tables e below (T21.setTop (mkF m 126 #[.val (.int p1), .val (.int p2), .val (.int p3), .val (.int p4), .unset, .unset, .unset, .unset, .unset, .unset, .unset] [(.ref b1), (.ref b1)])) _
    refine XS.bipush X21.here hx rfl (hb hby at_126) ?_
    show Steps p.tables e below (T21.setTop (mkF m 128 #[.val (.int p1), .val (.int p2), .val (.int p3), .val (.int p4), .unset, .unset, .unset, .unset, .unset, .unset, .unset] [(.int (20 : Int32)), (.ref b1), (.ref b1)])) _
    refine XS.sipush X21.here hx rfl (hb hby at_128) ?_
    show Steps p.tables e below (T21.setTop (mkF m 131 #[.val (.int p1), .val (.int p2), .val (.int p3), .val (.int p4), .unset, .unset, .unset, .unset, .unset, .unset, .unset] [(.int (880 : Int32)), (.int (20 : Int32)), (.ref b1), (.ref b1)])) _
    refine st22 _ ?_
    show Steps p.tables e below (T22.setTop (mkF m 132 #[.val (.int p1), .val (.int p2), .val (.int p3), .val (.int p4), .unset, .unset, .unset, .unset, .unset, .unset, .unset] [(.ref b1)])) _
    refine XS.dup X22.here hx rfl (hb hby at_132) rfl rfl ?_
    show Steps p.tables e below (T22.setTop (mkF m 133 #[.val (.int p1), .val (.int p2), .val (.int p3), .val (.int p4), .unset, .unset, .unset, .unset, .unset, .unset, .unset] [(.ref b1), (.ref b1)])) _
    refine XS.bipush X22.here hx rfl (hb hby at_133) ?_
    show Steps p.tables e below (T22.setTop (mkF m 135 #[.val (.int p1), .val (.int p2), .val (.int p3), .val (.int p4), .unset, .unset, .unset, .unset, .unset, .unset, .unset] [(.int (21 : Int32)), (.ref b1), (.ref b1)])) _
    refine XS.sipush X22.here hx rfl (hb hby at_135) ?_
    show Steps p.tables e below (T22.setTop (mkF m 138 #[.val (.int p1), .val (.int p2), .val (.int p3), .val (.int p4), .unset, .unset, .unset, .unset, .unset, .unset, .unset] [(.int (893 : Int32)), (.int (21 : Int32)), (.ref b1), (.ref b1)])) _
    refine st23 _ ?_
    show Steps p.tables e below (T23.setTop (mkF m 139 #[.val (.int p1), .val (.int p2), .val (.int p3), .val (.int p4), .unset, .unset, .unset, .unset, .unset, .unset, .unset] [(.ref b1)])) _
    refine XS.dup X23.here hx rfl (hb hby at_139) rfl rfl ?_
    show Steps p.tables e below (T23.setTop (mkF m 140 #[.val (.int p1), .val (.int p2), .val (.int p3), .val (.int p4), .unset, .unset, .unset, .unset, .unset, .unset, .unset] [(.ref b1), (.ref b1)])) _
    refine XS.bipush X23.here hx rfl (hb hby at_140) ?_
    show Steps p.tables e below (T23.setTop (mkF m 142 #[.val (.int p1), .val (.int p2), .val (.int p3), .val (.int p4), .unset, .unset, .unset, .unset, .unset, .unset, .unset] [(.int (22 : Int32)), (.ref b1), (.ref b1)])) _
    refine XS.sipush X23.here hx rfl (hb hby at_142) ?_
    show Steps p.tables e below (T23.setTop (mkF m 145 #[.val (.int p1), .val (.int p2), .val (.int p3), .val (.int p4), .unset, .unset, .unset, .unset, .unset, .unset, .unset] [(.int (895 : Int32)), (.int (22 : Int32)), (.ref b1), (.ref b1)])) _
    refine st24 _ ?_
    show Steps p.tables e below (T24.setTop (mkF m 146 #[.val (.int p1), .val (.int p2), .val (.int p3), .val (.int p4), .unset, .unset, .unset, .unset, .unset, .unset, .unset] [(.ref b1)])) _
    refine XS.dup X24.here hx rfl (hb hby at_146) rfl rfl ?_
    show Steps p.tables e below (T24.setTop (mkF m 147 #[.val (.int p1), .val (.int p2), .val (.int p3), .val (.int p4), .unset, .unset, .unset, .unset, .unset, .unset, .unset] [(.ref b1), (.ref b1)])) _
    refine XS.bipush X24.here hx rfl (hb hby at_147) ?_
    show Steps p.tables e below (T24.setTop (mkF m 149 #[.val (.int p1), .val (.int p2), .val (.int p3), .val (.int p4), .unset, .unset, .unset, .unset, .unset, .unset, .unset] [(.int (23 : Int32)), (.ref b1), (.ref b1)])) _
    refine XS.sipush X24.here hx rfl (hb hby at_149) ?_
    show Steps p.tables e below (T24.setTop (mkF m 152 #[.val (.int p1), .val (.int p2), .val (.int p3), .val (.int p4), .unset, .unset, .unset, .unset, .unset, .unset, .unset] [(.int (8191 : Int32)), (.int (23 : Int32)), (.ref b1), (.ref b1)])) _
    refine st25 _ ?_
    show Steps p.tables e below (T25.setTop (mkF m 153 #[.val (.int p1), .val (.int p2), .val (.int p3), .val (.int p4), .unset, .unset, .unset, .unset, .unset, .unset, .unset] [(.ref b1)])) _
    refine XS.dup X25.here hx rfl (hb hby at_153) rfl rfl ?_
    show Steps p.tables e below (T25.setTop (mkF m 154 #[.val (.int p1), .val (.int p2), .val (.int p3), .val (.int p4), .unset, .unset, .unset, .unset, .unset, .unset, .unset] [(.ref b1), (.ref b1)])) _
    refine XS.bipush X25.here hx rfl (hb hby at_154) ?_
    show Steps p.tables e below (T25.setTop (mkF m 156 #[.val (.int p1), .val (.int p2), .val (.int p3), .val (.int p4), .unset, .unset, .unset, .unset, .unset, .unset, .unset] [(.int (24 : Int32)), (.ref b1), (.ref b1)])) _
    refine XS.sipush X25.here hx rfl (hb hby at_156) ?_
    show Steps p.tables e below (T25.setTop (mkF m 159 #[.val (.int p1), .val (.int p2), .val (.int p3), .val (.int p4), .unset, .unset, .unset, .unset, .unset, .unset, .unset] [(.int (8204 : Int32)), (.int (24 : Int32)), (.ref b1), (.ref b1)])) _
    refine st26 _ ?_
    show Steps p.tables e below (T26.setTop (mkF m 160 #[.val (.int p1), .val (.int p2), .val (.int p3), .val (.int p4), .unset, .unset, .unset, .unset, .unset, .unset, .unset] [(.ref b1)])) _
    refine XS.dup X26.here hx rfl (hb hby at_160) rfl rfl ?_
    show Steps p.tables e below (T26.setTop (mkF m 161 #[.val (.int p1), .val (.int p2), .val (.int p3), .val (.int p4), .unset, .unset, .unset, .unset, .unset, .unset, .unset] [(.ref b1), (.ref b1)])) _
    refine XS.bipush X26.here hx rfl (hb hby at_161) ?_
    show Steps p.tables e below (T26.setTop (mkF m 163 #[.val (.int p1), .val (.int p2), .val (.int p3), .val (.int p4), .unset, .unset, .unset, .unset, .unset, .unset, .unset] [(.int (25 : Int32)), (.ref b1), (.ref b1)])) _
    refine XS.sipush X26.here hx rfl (hb hby at_163) ?_
    show Steps p.tables e below (T26.setTop (mkF m 166 #[.val (.int p1), .val (.int p2), .val (.int p3), .val (.int p4), .unset, .unset, .unset, .unset, .unset, .unset, .unset] [(.int (8205 : Int32)), (.int (25 : Int32)), (.ref b1), (.ref b1)])) _
    refine st27 _ ?_
    show Steps p.tables e below (T27.setTop (mkF m 167 #[.val (.int p1), .val (.int p2), .val (.int p3), .val (.int p4), .unset, .unset, .unset, .unset, .unset, .unset, .unset] [(.ref b1)])) _
    refine XS.dup X27.here hx rfl (hb hby at_167) rfl rfl ?_
    show Steps p.tables e below (T27.setTop (mkF m 168 #[.val (.int p1), .val (.int p2), .val (.int p3), .val (.int p4), .unset, .unset, .unset, .unset, .unset, .unset, .unset] [(.ref b1), (.ref b1)])) _
    refine XS.bipush X27.here hx rfl (hb hby at_168) ?_
    show Steps p.tables e below (T27.setTop (mkF m 170 #[.val (.int p1), .val (.int p2), .val (.int p3), .val (.int p4), .unset, .unset, .unset, .unset, .unset, .unset, .unset] [(.int (26 : Int32)), (.ref b1), (.ref b1)])) _
    refine XS.sipush X27.here hx rfl (hb hby at_170) ?_
    show Steps p.tables e below (T27.setTop (mkF m 173 #[.val (.int p1), .val (.int p2), .val (.int p3), .val (.int p4), .unset, .unset, .unset, .unset, .unset, .unset, .unset] [(.int (8255 : Int32)), (.int (26 : Int32)), (.ref b1), (.ref b1)])) _
    refine st28 _ ?_
    show Steps p.tables e below (T28.setTop (mkF m 174 #[.val (.int p1), .val (.int p2), .val (.int p3), .val (.int p4), .unset, .unset, .unset, .unset, .unset, .unset, .unset] [(.ref b1)])) _
    refine XS.dup X28.here hx rfl (hb hby at_174) rfl rfl ?_
    show Steps p.tables e below (T28.setTop (mkF m 175 #[.val (.int p1), .val (.int p2), .val (.int p3), .val (.int p4), .unset, .unset, .unset, .unset, .unset, .unset, .unset] [(.ref b1), (.ref b1)])) _
    refine XS.bipush X28.here hx rfl (hb hby at_175) ?_
    show Steps p.tables e below (T28.setTop (mkF m 177 #[.val (.int p1), .val (.int p2), .val (.int p3), .val (.int p4), .unset, .unset, .unset, .unset, .unset, .unset, .unset] [(.int (27 : Int32)), (.ref b1), (.ref b1)])) _
    refine XS.sipush X28.here hx rfl (hb hby at_177) ?_
    show Steps p.tables e below (T28.setTop (mkF m 180 #[.val (.int p1), .val (.int p2), .val (.int p3), .val (.int p4), .unset, .unset, .unset, .unset, .unset, .unset, .unset] [(.int (8303 : Int32)), (.int (27 : Int32)), (.ref b1), (.ref b1)])) _
    refine st29 _ ?_
    show Steps p.tables e below (T29.setTop (mkF m 181 #[.val (.int p1), .val (.int p2), .val (.int p3), .val (.int p4), .unset, .unset, .unset, .unset, .unset, .unset, .unset] [(.ref b1)])) _
    refine XS.dup X29.here hx rfl (hb hby at_181) rfl rfl ?_
    show Steps p.tables e below (T29.setTop (mkF m 182 #[.val (.int p1), .val (.int p2), .val (.int p3), .val (.int p4), .unset, .unset, .unset, .unset, .unset, .unset, .unset] [(.ref b1), (.ref b1)])) _
    refine XS.bipush X29.here hx rfl (hb hby at_182) ?_
    show Steps p.tables e below (T29.setTop (mkF m 184 #[.val (.int p1), .val (.int p2), .val (.int p3), .val (.int p4), .unset, .unset, .unset, .unset, .unset, .unset, .unset] [(.int (28 : Int32)), (.ref b1), (.ref b1)])) _
    refine XS.sipush X29.here hx rfl (hb hby at_184) ?_
    show Steps p.tables e below (T29.setTop (mkF m 187 #[.val (.int p1), .val (.int p2), .val (.int p3), .val (.int p4), .unset, .unset, .unset, .unset, .unset, .unset, .unset] [(.int (8304 : Int32)), (.int (28 : Int32)), (.ref b1), (.ref b1)])) _
    refine st30 _ ?_
    show Steps p.tables e below (T30.setTop (mkF m 188 #[.val (.int p1), .val (.int p2), .val (.int p3), .val (.int p4), .unset, .unset, .unset, .unset, .unset, .unset, .unset] [(.ref b1)])) _
    refine XS.dup X30.here hx rfl (hb hby at_188) rfl rfl ?_
    show Steps p.tables e below (T30.setTop (mkF m 189 #[.val (.int p1), .val (.int p2), .val (.int p3), .val (.int p4), .unset, .unset, .unset, .unset, .unset, .unset, .unset] [(.ref b1), (.ref b1)])) _
    refine XS.bipush X30.here hx rfl (hb hby at_189) ?_
    show Steps p.tables e below (T30.setTop (mkF m 191 #[.val (.int p1), .val (.int p2), .val (.int p3), .val (.int p4), .unset, .unset, .unset, .unset, .unset, .unset, .unset] [(.int (29 : Int32)), (.ref b1), (.ref b1)])) _
    refine XS.sipush X30.here hx rfl (hb hby at_191) ?_
    show Steps p.tables e below (T30.setTop (mkF m 194 #[.val (.int p1), .val (.int p2), .val (.int p3), .val (.int p4), .unset, .unset, .unset, .unset, .unset, .unset, .unset] [(.int (8591 : Int32)), (.int (29 : Int32)), (.ref b1), (.ref b1)])) _
    refine st31 _ ?_
    show Steps p.tables e below (T31.setTop (mkF m 195 #[.val (.int p1), .val (.int p2), .val (.int p3), .val (.int p4), .unset, .unset, .unset, .unset, .unset, .unset, .unset] [(.ref b1)])) _
    refine XS.dup X31.here hx rfl (hb hby at_195) rfl rfl ?_
    show Steps p.tables e below (T31.setTop (mkF m 196 #[.val (.int p1), .val (.int p2), .val (.int p3), .val (.int p4), .unset, .unset, .unset, .unset, .unset, .unset, .unset] [(.ref b1), (.ref b1)])) _
    refine XS.bipush X31.here hx rfl (hb hby at_196) ?_
    show Steps p.tables e below (T31.setTop (mkF m 198 #[.val (.int p1), .val (.int p2), .val (.int p3), .val (.int p4), .unset, .unset, .unset, .unset, .unset, .unset, .unset] [(.int (30 : Int32)), (.ref b1), (.ref b1)])) _
    refine XS.sipush X31.here hx rfl (hb hby at_198) ?_
    show Steps p.tables e below (T31.setTop (mkF m 201 #[.val (.int p1), .val (.int p2), .val (.int p3), .val (.int p4), .unset, .unset, .unset, .unset, .unset, .unset, .unset] [(.int (11263 : Int32)), (.int (30 : Int32)), (.ref b1), (.ref b1)])) _
    refine st32 _ ?_
    show Steps p.tables e below (T32.setTop (mkF m 202 #[.val (.int p1), .val (.int p2), .val (.int p3), .val (.int p4), .unset, .unset, .unset, .unset, .unset, .unset, .unset] [(.ref b1)])) _
    refine XS.dup X32.here hx rfl (hb hby at_202) rfl rfl ?_
    show Steps p.tables e below (T32.setTop (mkF m 203 #[.val (.int p1), .val (.int p2), .val (.int p3), .val (.int p4), .unset, .unset, .unset, .unset, .unset, .unset, .unset] [(.ref b1), (.ref b1)])) _
    refine XS.bipush X32.here hx rfl (hb hby at_203) ?_
    show Steps p.tables e below (T32.setTop (mkF m 205 #[.val (.int p1), .val (.int p2), .val (.int p3), .val (.int p4), .unset, .unset, .unset, .unset, .unset, .unset, .unset] [(.int (31 : Int32)), (.ref b1), (.ref b1)])) _
    refine XS.sipush X32.here hx rfl (hb hby at_205) ?_
    show Steps p.tables e below (T32.setTop (mkF m 208 #[.val (.int p1), .val (.int p2), .val (.int p3), .val (.int p4), .unset, .unset, .unset, .unset, .unset, .unset, .unset] [(.int (11264 : Int32)), (.int (31 : Int32)), (.ref b1), (.ref b1)])) _
    refine st33 _ ?_
    show Steps p.tables e below (T33.setTop (mkF m 209 #[.val (.int p1), .val (.int p2), .val (.int p3), .val (.int p4), .unset, .unset, .unset, .unset, .unset, .unset, .unset] [(.ref b1)])) _
    refine XS.dup X33.here hx rfl (hb hby at_209) rfl rfl ?_
    show Steps p.tables e below (T33.setTop (mkF m 210 #[.val (.int p1), .val (.int p2), .val (.int p3), .val (.int p4), .unset, .unset, .unset, .unset, .unset, .unset, .unset] [(.ref b1), (.ref b1)])) _
    refine XS.bipush X33.here hx rfl (hb hby at_210) ?_
    show Steps p.tables e below (T33.setTop (mkF m 212 #[.val (.int p1), .val (.int p2), .val (.int p3), .val (.int p4), .unset, .unset, .unset, .unset, .unset, .unset, .unset] [(.int (32 : Int32)), (.ref b1), (.ref b1)])) _
    refine XS.sipush X33.here hx rfl (hb hby at_212) ?_
    show Steps p.tables e below (T33.setTop (mkF m 215 #[.val (.int p1), .val (.int p2), .val (.int p3), .val (.int p4), .unset, .unset, .unset, .unset, .unset, .unset, .unset] [(.int (12271 : Int32)), (.int (32 : Int32)), (.ref b1), (.ref b1)])) _
    refine st34 _ ?_
    show Steps p.tables e below (T34.setTop (mkF m 216 #[.val (.int p1), .val (.int p2), .val (.int p3), .val (.int p4), .unset, .unset, .unset, .unset, .unset, .unset, .unset] [(.ref b1)])) _
    refine XS.dup X34.here hx rfl (hb hby at_216) rfl rfl ?_
    show Steps p.tables e below (T34.setTop (mkF m 217 #[.val (.int p1), .val (.int p2), .val (.int p3), .val (.int p4), .unset, .unset, .unset, .unset, .unset, .unset, .unset] [(.ref b1), (.ref b1)])) _
    refine XS.bipush X34.here hx rfl (hb hby at_217) ?_
    show Steps p.tables e below (T34.setTop (mkF m 219 #[.val (.int p1), .val (.int p2), .val (.int p3), .val (.int p4), .unset, .unset, .unset, .unset, .unset, .unset, .unset] [(.int (33 : Int32)), (.ref b1), (.ref b1)])) _
    refine XS.sipush X34.here hx rfl (hb hby at_219) ?_
    show Steps p.tables e below (T34.setTop (mkF m 222 #[.val (.int p1), .val (.int p2), .val (.int p3), .val (.int p4), .unset, .unset, .unset, .unset, .unset, .unset, .unset] [(.int (12288 : Int32)), (.int (33 : Int32)), (.ref b1), (.ref b1)])) _
    refine st35 _ ?_
    show Steps p.tables e below (T35.setTop (mkF m 223 #[.val (.int p1), .val (.int p2), .val (.int p3), .val (.int p4), .unset, .unset, .unset, .unset, .unset, .unset, .unset] [(.ref b1)])) _
    refine XS.dup X35.here hx rfl (hb hby at_223) rfl rfl ?_
    show Steps p.tables e below (T35.setTop (mkF m 224 #[.val (.int p1), .val (.int p2), .val (.int p3), .val (.int p4), .unset, .unset, .unset, .unset, .unset, .unset, .unset] [(.ref b1), (.ref b1)])) _
    refine XS.bipush X35.here hx rfl (hb hby at_224) ?_
    show Steps p.tables e below (T35.setTop (mkF m 226 #[.val (.int p1), .val (.int p2), .val (.int p3), .val (.int p4), .unset, .unset, .unset, .unset, .unset, .unset, .unset] [(.int (34 : Int32)), (.ref b1), (.ref b1)])) _
    refine XS.sipush X35.here hx rfl (hb hby at_226) ?_
    show Steps p.tables e below (T35.setTop (mkF m 229 #[.val (.int p1), .val (.int p2), .val (.int p3), .val (.int p4), .unset, .unset, .unset, .unset, .unset, .unset, .unset] [(.int (12289 : Int32)), (.int (34 : Int32)), (.ref b1), (.ref b1)])) _
    refine st36 _ ?_
    show Steps p.tables e below (T36.setTop (mkF m 230 #[.val (.int p1), .val (.int p2), .val (.int p3), .val (.int p4), .unset, .unset, .unset, .unset, .unset, .unset, .unset] [(.ref b1)])) _
    refine XS.dup X36.here hx rfl (hb hby at_230) rfl rfl ?_
    show Steps p.tables e below (T36.setTop (mkF m 231 #[.val (.int p1), .val (.int p2), .val (.int p3), .val (.int p4), .unset, .unset, .unset, .unset, .unset, .unset, .unset] [(.ref b1), (.ref b1)])) _
    refine XS.bipush X36.here hx rfl (hb hby at_231) ?_
    show Steps p.tables e below (T36.setTop (mkF m 233 #[.val (.int p1), .val (.int p2), .val (.int p3), .val (.int p4), .unset, .unset, .unset, .unset, .unset, .unset, .unset] [(.int (35 : Int32)), (.ref b1), (.ref b1)])) _
    refine X36.ldcInt hx hown (mvT hZ (hw _ (List.mem_of_getElem? (i := 1) rfl))) (g := (mkF m 233 #[.val (.int p1), .val (.int p2), .val (.int p3), .val (.int p4), .unset, .unset, .unset, .unset, .unset, .unset, .unset] [(.int (35 : Int32)), (.ref b1), (.ref b1)])) rfl (hb hby at_233) _ ?_
    show Steps p.tables e below (T36.setTop (mkF m 235 #[.val (.int p1), .val (.int p2), .val (.int p3), .val (.int p4), .unset, .unset, .unset, .unset, .unset, .unset, .unset] [(.int (55295 : Int32)), (.int (35 : Int32)), (.ref b1), (.ref b1)])) _
    refine st37 _ ?_
    show Steps p.tables e below (T37.setTop (mkF m 236 #[.val (.int p1), .val (.int p2), .val (.int p3), .val (.int p4), .unset, .unset, .unset, .unset, .unset, .unset, .unset] [(.ref b1)])) _
    refine XS.dup X37.here hx rfl (hb hby at_236) rfl rfl ?_
    show Steps p.tables e below (T37.setTop (mkF m 237 #[.val (.int p1), .val (.int p2), .val (.int p3), .val (.int p4), .unset, .unset, .unset, .unset, .unset, .unset, .unset] [(.ref b1), (.ref b1)])) _
    refine XS.bipush X37.here hx rfl (hb hby at_237) ?_
    show Steps p.tables e below (T37.setTop (mkF m 239 #[.val (.int p1), .val (.int p2), .val (.int p3), .val (.int p4), .unset, .unset, .unset, .unset, .unset, .unset, .unset] [(.int (36 : Int32)), (.ref b1), (.ref b1)])) _
    refine X37.ldcInt hx hown (mvT hZ (hw _ (List.mem_of_getElem? (i := 2) rfl))) (g := (mkF m 239 #[.val (.int p1), .val (.int p2), .val (.int p3), .val (.int p4), .unset, .unset, .unset, .unset, .unset, .unset, .unset] [(.int (36 : Int32)), (.ref b1), (.ref b1)])) rfl (hb hby at_239) _ ?_
    show Steps p.tables e below (T37.setTop (mkF m 241 #[.val (.int p1), .val (.int p2), .val (.int p3), .val (.int p4), .unset, .unset, .unset, .unset, .unset, .unset, .unset] [(.int (57343 : Int32)), (.int (36 : Int32)), (.ref b1), (.ref b1)])) _
    refine st38 _ ?_
    show Steps p.tables e below (T38.setTop (mkF m 242 #[.val (.int p1), .val (.int p2), .val (.int p3), .val (.int p4), .unset, .unset, .unset, .unset, .unset, .unset, .unset] [(.ref b1)])) _
    refine XS.dup X38.here hx rfl (hb hby at_242) rfl rfl ?_
    show Steps p.tables e below (T38.setTop (mkF m 243 #[.val (.int p1), .val (.int p2), .val (.int p3), .val (.int p4), .unset, .unset, .unset, .unset, .unset, .unset, .unset] [(.ref b1), (.ref b1)])) _
    refine XS.bipush X38.here hx rfl (hb hby at_243) ?_
    show Steps p.tables e below (T38.setTop (mkF m 245 #[.val (.int p1), .val (.int p2), .val (.int p3), .val (.int p4), .unset, .unset, .unset, .unset, .unset, .unset, .unset] [(.int (37 : Int32)), (.ref b1), (.ref b1)])) _
    refine X38.ldcInt hx hown (mvT hZ (hw _ (List.mem_of_getElem? (i := 3) rfl))) (g := (mkF m 245 #[.val (.int p1), .val (.int p2), .val (.int p3), .val (.int p4), .unset, .unset, .unset, .unset, .unset, .unset, .unset] [(.int (37 : Int32)), (.ref b1), (.ref b1)])) rfl (hb hby at_245) _ ?_
    show Steps p.tables e below (T38.setTop (mkF m 247 #[.val (.int p1), .val (.int p2), .val (.int p3), .val (.int p4), .unset, .unset, .unset, .unset, .unset, .unset, .unset] [(.int (63743 : Int32)), (.int (37 : Int32)), (.ref b1), (.ref b1)])) _
    refine st39 _ ?_
    show Steps p.tables e below (T39.setTop (mkF m 248 #[.val (.int p1), .val (.int p2), .val (.int p3), .val (.int p4), .unset, .unset, .unset, .unset, .unset, .unset, .unset] [(.ref b1)])) _
    refine XS.dup X39.here hx rfl (hb hby at_248) rfl rfl ?_
    show Steps p.tables e below (T39.setTop (mkF m 249 #[.val (.int p1), .val (.int p2), .val (.int p3), .val (.int p4), .unset, .unset, .unset, .unset, .unset, .unset, .unset] [(.ref b1), (.ref b1)])) _
    refine XS.bipush X39.here hx rfl (hb hby at_249) ?_
    show Steps p.tables e below (T39.setTop (mkF m 251 #[.val (.int p1), .val (.int p2), .val (.int p3), .val (.int p4), .unset, .unset, .unset, .unset, .unset, .unset, .unset] [(.int (38 : Int32)), (.ref b1), (.ref b1)])) _
    refine X39.ldcInt hx hown (mvT hZ (hw _ (List.mem_of_getElem? (i := 4) rfl))) (g := (mkF m 251 #[.val (.int p1), .val (.int p2), .val (.int p3), .val (.int p4), .unset, .unset, .unset, .unset, .unset, .unset, .unset] [(.int (38 : Int32)), (.ref b1), (.ref b1)])) rfl (hb hby at_251) _ ?_
    show Steps p.tables e below (T39.setTop (mkF m 253 #[.val (.int p1), .val (.int p2), .val (.int p3), .val (.int p4), .unset, .unset, .unset, .unset, .unset, .unset, .unset] [(.int (63744 : Int32)), (.int (38 : Int32)), (.ref b1), (.ref b1)])) _
    refine st40 _ ?_
    show Steps p.tables e below (T40.setTop (mkF m 254 #[.val (.int p1), .val (.int p2), .val (.int p3), .val (.int p4), .unset, .unset, .unset, .unset, .unset, .unset, .unset] [(.ref b1)])) _
    refine XS.dup X40.here hx rfl (hb hby at_254) rfl rfl ?_
    show Steps p.tables e below (T40.setTop (mkF m 255 #[.val (.int p1), .val (.int p2), .val (.int p3), .val (.int p4), .unset, .unset, .unset, .unset, .unset, .unset, .unset] [(.ref b1), (.ref b1)])) _
    refine XS.bipush X40.here hx rfl (hb hby at_255) ?_
    show Steps p.tables e below (T40.setTop (mkF m 257 #[.val (.int p1), .val (.int p2), .val (.int p3), .val (.int p4), .unset, .unset, .unset, .unset, .unset, .unset, .unset] [(.int (39 : Int32)), (.ref b1), (.ref b1)])) _
    refine X40.ldcInt hx hown (mvT hZ (hw _ (List.mem_of_getElem? (i := 5) rfl))) (g := (mkF m 257 #[.val (.int p1), .val (.int p2), .val (.int p3), .val (.int p4), .unset, .unset, .unset, .unset, .unset, .unset, .unset] [(.int (39 : Int32)), (.ref b1), (.ref b1)])) rfl (hb hby at_257) _ ?_
    show Steps p.tables e below (T40.setTop (mkF m 259 #[.val (.int p1), .val (.int p2), .val (.int p3), .val (.int p4), .unset, .unset, .unset, .unset, .unset, .unset, .unset] [(.int (64975 : Int32)), (.int (39 : Int32)), (.ref b1), (.ref b1)])) _
    refine st41 _ ?_
    show Steps p.tables e below (T41.setTop (mkF m 260 #[.val (.int p1), .val (.int p2), .val (.int p3), .val (.int p4), .unset, .unset, .unset, .unset, .unset, .unset, .unset] [(.ref b1)])) _
    refine XS.dup X41.here hx rfl (hb hby at_260) rfl rfl ?_
    show Steps p.tables e below (T41.setTop (mkF m 261 #[.val (.int p1), .val (.int p2), .val (.int p3), .val (.int p4), .unset, .unset, .unset, .unset, .unset, .unset, .unset] [(.ref b1), (.ref b1)])) _
    refine XS.bipush X41.here hx rfl (hb hby at_261) ?_
    show Steps p.tables e below (T41.setTop (mkF m 263 #[.val (.int p1), .val (.int p2), .val (.int p3), .val (.int p4), .unset, .unset, .unset, .unset, .unset, .unset, .unset] [(.int (40 : Int32)), (.ref b1), (.ref b1)])) _
    refine X41.ldcInt hx hown (mvT hZ (hw _ (List.mem_of_getElem? (i := 6) rfl))) (g := (mkF m 263 #[.val (.int p1), .val (.int p2), .val (.int p3), .val (.int p4), .unset, .unset, .unset, .unset, .unset, .unset, .unset] [(.int (40 : Int32)), (.ref b1), (.ref b1)])) rfl (hb hby at_263) _ ?_
    show Steps p.tables e below (T41.setTop (mkF m 265 #[.val (.int p1), .val (.int p2), .val (.int p3), .val (.int p4), .unset, .unset, .unset, .unset, .unset, .unset, .unset] [(.int (65007 : Int32)), (.int (40 : Int32)), (.ref b1), (.ref b1)])) _
    refine st42 _ ?_
    show Steps p.tables e below (T42.setTop (mkF m 266 #[.val (.int p1), .val (.int p2), .val (.int p3), .val (.int p4), .unset, .unset, .unset, .unset, .unset, .unset, .unset] [(.ref b1)])) _
    refine XS.dup X42.here hx rfl (hb hby at_266) rfl rfl ?_
    show Steps p.tables e below (T42.setTop (mkF m 267 #[.val (.int p1), .val (.int p2), .val (.int p3), .val (.int p4), .unset, .unset, .unset, .unset, .unset, .unset, .unset] [(.ref b1), (.ref b1)])) _
    refine XS.bipush X42.here hx rfl (hb hby at_267) ?_
    show Steps p.tables e below (T42.setTop (mkF m 269 #[.val (.int p1), .val (.int p2), .val (.int p3), .val (.int p4), .unset, .unset, .unset, .unset, .unset, .unset, .unset] [(.int (41 : Int32)), (.ref b1), (.ref b1)])) _
    refine X42.ldcInt hx hown (mvT hZ (hw _ (List.mem_of_getElem? (i := 7) rfl))) (g := (mkF m 269 #[.val (.int p1), .val (.int p2), .val (.int p3), .val (.int p4), .unset, .unset, .unset, .unset, .unset, .unset, .unset] [(.int (41 : Int32)), (.ref b1), (.ref b1)])) rfl (hb hby at_269) _ ?_
    show Steps p.tables e below (T42.setTop (mkF m 271 #[.val (.int p1), .val (.int p2), .val (.int p3), .val (.int p4), .unset, .unset, .unset, .unset, .unset, .unset, .unset] [(.int (65008 : Int32)), (.int (41 : Int32)), (.ref b1), (.ref b1)])) _
    refine st43 _ ?_
    show Steps p.tables e below (T43.setTop (mkF m 272 #[.val (.int p1), .val (.int p2), .val (.int p3), .val (.int p4), .unset, .unset, .unset, .unset, .unset, .unset, .unset] [(.ref b1)])) _
    refine XS.dup X43.here hx rfl (hb hby at_272) rfl rfl ?_
    show Steps p.tables e below (T43.setTop (mkF m 273 #[.val (.int p1), .val (.int p2), .val (.int p3), .val (.int p4), .unset, .unset, .unset, .unset, .unset, .unset, .unset] [(.ref b1), (.ref b1)])) _
    refine XS.bipush X43.here hx rfl (hb hby at_273) ?_
    show Steps p.tables e below (T43.setTop (mkF m 275 #[.val (.int p1), .val (.int p2), .val (.int p3), .val (.int p4), .unset, .unset, .unset, .unset, .unset, .unset, .unset] [(.int (42 : Int32)), (.ref b1), (.ref b1)])) _
    refine X43.ldcInt hx hown (mvT hZ (hw _ (List.mem_of_getElem? (i := 8) rfl))) (g := (mkF m 275 #[.val (.int p1), .val (.int p2), .val (.int p3), .val (.int p4), .unset, .unset, .unset, .unset, .unset, .unset, .unset] [(.int (42 : Int32)), (.ref b1), (.ref b1)])) rfl (hb hby at_275) _ ?_
    show Steps p.tables e below (T43.setTop (mkF m 277 #[.val (.int p1), .val (.int p2), .val (.int p3), .val (.int p4), .unset, .unset, .unset, .unset, .unset, .unset, .unset] [(.int (65533 : Int32)), (.int (42 : Int32)), (.ref b1), (.ref b1)])) _
    refine st44 _ ?_
    show Steps p.tables e below (T44.setTop (mkF m 278 #[.val (.int p1), .val (.int p2), .val (.int p3), .val (.int p4), .unset, .unset, .unset, .unset, .unset, .unset, .unset] [(.ref b1)])) _
    refine XS.dup X44.here hx rfl (hb hby at_278) rfl rfl ?_
    show Steps p.tables e below (T44.setTop (mkF m 279 #[.val (.int p1), .val (.int p2), .val (.int p3), .val (.int p4), .unset, .unset, .unset, .unset, .unset, .unset, .unset] [(.ref b1), (.ref b1)])) _
    refine XS.bipush X44.here hx rfl (hb hby at_279) ?_
    show Steps p.tables e below (T44.setTop (mkF m 281 #[.val (.int p1), .val (.int p2), .val (.int p3), .val (.int p4), .unset, .unset, .unset, .unset, .unset, .unset, .unset] [(.int (43 : Int32)), (.ref b1), (.ref b1)])) _
    refine X44.ldcInt hx hown (mvT hZ (hw _ (List.mem_of_getElem? (i := 9) rfl))) (g := (mkF m 281 #[.val (.int p1), .val (.int p2), .val (.int p3), .val (.int p4), .unset, .unset, .unset, .unset, .unset, .unset, .unset] [(.int (43 : Int32)), (.ref b1), (.ref b1)])) rfl (hb hby at_281) _ ?_
    show Steps p.tables e below (T44.setTop (mkF m 283 #[.val (.int p1), .val (.int p2), .val (.int p3), .val (.int p4), .unset, .unset, .unset, .unset, .unset, .unset, .unset] [(.int (65535 : Int32)), (.int (43 : Int32)), (.ref b1), (.ref b1)])) _
    refine st45 _ ?_
    show Steps p.tables e below (T45.setTop (mkF m 284 #[.val (.int p1), .val (.int p2), .val (.int p3), .val (.int p4), .unset, .unset, .unset, .unset, .unset, .unset, .unset] [(.ref b1)])) _
    refine XS.dup X45.here hx rfl (hb hby at_284) rfl rfl ?_
    show Steps p.tables e below (T45.setTop (mkF m 285 #[.val (.int p1), .val (.int p2), .val (.int p3), .val (.int p4), .unset, .unset, .unset, .unset, .unset, .unset, .unset] [(.ref b1), (.ref b1)])) _
    refine XS.bipush X45.here hx rfl (hb hby at_285) ?_
    show Steps p.tables e below (T45.setTop (mkF m 287 #[.val (.int p1), .val (.int p2), .val (.int p3), .val (.int p4), .unset, .unset, .unset, .unset, .unset, .unset, .unset] [(.int (44 : Int32)), (.ref b1), (.ref b1)])) _
    refine X45.ldcInt hx hown (mvT hZ (hw _ (List.mem_of_getElem? (i := 10) rfl))) (g := (mkF m 287 #[.val (.int p1), .val (.int p2), .val (.int p3), .val (.int p4), .unset, .unset, .unset, .unset, .unset, .unset, .unset] [(.int (44 : Int32)), (.ref b1), (.ref b1)])) rfl (hb hby at_287) _ ?_
    show Steps p.tables e below (T45.setTop (mkF m 289 #[.val (.int p1), .val (.int p2), .val (.int p3), .val (.int p4), .unset, .unset, .unset, .unset, .unset, .unset, .unset] [(.int (65536 : Int32)), (.int (44 : Int32)), (.ref b1), (.ref b1)])) _
    refine st46 _ ?_
    show Steps p.tables e below (T46.setTop (mkF m 290 #[.val (.int p1), .val (.int p2), .val (.int p3), .val (.int p4), .unset, .unset, .unset, .unset, .unset, .unset, .unset] [(.ref b1)])) _
    refine XS.dup X46.here hx rfl (hb hby at_290) rfl rfl ?_
    show Steps p.tables e below (T46.setTop (mkF m 291 #[.val (.int p1), .val (.int p2), .val (.int p3), .val (.int p4), .unset, .unset, .unset, .unset, .unset, .unset, .unset] [(.ref b1), (.ref b1)])) _
    refine XS.bipush X46.here hx rfl (hb hby at_291) ?_
    show Steps p.tables e below (T46.setTop (mkF m 293 #[.val (.int p1), .val (.int p2), .val (.int p3), .val (.int p4), .unset, .unset, .unset, .unset, .unset, .unset, .unset] [(.int (45 : Int32)), (.ref b1), (.ref b1)])) _
    refine X46.ldcInt hx hown (mvT hZ (hw _ (List.mem_of_getElem? (i := 11) rfl))) (g := (mkF m 293 #[.val (.int p1), .val (.int p2), .val (.int p3), .val (.int p4), .unset, .unset, .unset, .unset, .unset, .unset, .unset] [(.int (45 : Int32)), (.ref b1), (.ref b1)])) rfl (hb hby at_293) _ ?_
    show Steps p.tables e below (T46.setTop (mkF m 295 #[.val (.int p1), .val (.int p2), .val (.int p3), .val (.int p4), .unset, .unset, .unset, .unset, .unset, .unset, .unset] [(.int (983039 : Int32)), (.int (45 : Int32)), (.ref b1), (.ref b1)])) _
    refine st47 _ ?_
    show Steps p.tables e below (T47.setTop (mkF m 296 #[.val (.int p1), .val (.int p2), .val (.int p3), .val (.int p4), .unset, .unset, .unset, .unset, .unset, .unset, .unset] [(.ref b1)])) _
    refine XS.dup X47.here hx rfl (hb hby at_296) rfl rfl ?_
    show Steps p.tables e below (T47.setTop (mkF m 297 #[.val (.int p1), .val (.int p2), .val (.int p3), .val (.int p4), .unset, .unset, .unset, .unset, .unset, .unset, .unset] [(.ref b1), (.ref b1)])) _
    refine XS.bipush X47.here hx rfl (hb hby at_297) ?_
    show Steps p.tables e below (T47.setTop (mkF m 299 #[.val (.int p1), .val (.int p2), .val (.int p3), .val (.int p4), .unset, .unset, .unset, .unset, .unset, .unset, .unset] [(.int (46 : Int32)), (.ref b1), (.ref b1)])) _
    refine X47.ldcInt hx hown (mvT hZ (hw _ (List.mem_of_getElem? (i := 12) rfl))) (g := (mkF m 299 #[.val (.int p1), .val (.int p2), .val (.int p3), .val (.int p4), .unset, .unset, .unset, .unset, .unset, .unset, .unset] [(.int (46 : Int32)), (.ref b1), (.ref b1)])) rfl (hb hby at_299) _ ?_
    show Steps p.tables e below (T47.setTop (mkF m 301 #[.val (.int p1), .val (.int p2), .val (.int p3), .val (.int p4), .unset, .unset, .unset, .unset, .unset, .unset, .unset] [(.int (1114111 : Int32)), (.int (46 : Int32)), (.ref b1), (.ref b1)])) _
    refine st48 _ ?_
    show Steps p.tables e below (T48.setTop (mkF m 302 #[.val (.int p1), .val (.int p2), .val (.int p3), .val (.int p4), .unset, .unset, .unset, .unset, .unset, .unset, .unset] [(.ref b1)])) _
    refine XS.dup X48.here hx rfl (hb hby at_302) rfl rfl ?_
    show Steps p.tables e below (T48.setTop (mkF m 303 #[.val (.int p1), .val (.int p2), .val (.int p3), .val (.int p4), .unset, .unset, .unset, .unset, .unset, .unset, .unset] [(.ref b1), (.ref b1)])) _
    refine XS.bipush X48.here hx rfl (hb hby at_303) ?_
    show Steps p.tables e below (T48.setTop (mkF m 305 #[.val (.int p1), .val (.int p2), .val (.int p3), .val (.int p4), .unset, .unset, .unset, .unset, .unset, .unset, .unset] [(.int (47 : Int32)), (.ref b1), (.ref b1)])) _
    refine X48.ldcInt hx hown (mvT hZ (hw _ (List.mem_of_getElem? (i := 13) rfl))) (g := (mkF m 305 #[.val (.int p1), .val (.int p2), .val (.int p3), .val (.int p4), .unset, .unset, .unset, .unset, .unset, .unset, .unset] [(.int (47 : Int32)), (.ref b1), (.ref b1)])) rfl (hb hby at_305) _ ?_
    show Steps p.tables e below (T48.setTop (mkF m 307 #[.val (.int p1), .val (.int p2), .val (.int p3), .val (.int p4), .unset, .unset, .unset, .unset, .unset, .unset, .unset] [(.int (-2147483648 : Int32)), (.int (47 : Int32)), (.ref b1), (.ref b1)])) _
    refine st49 _ ?_
    show Steps p.tables e below (T49.setTop (mkF m 308 #[.val (.int p1), .val (.int p2), .val (.int p3), .val (.int p4), .unset, .unset, .unset, .unset, .unset, .unset, .unset] [(.ref b1)])) _
    refine XS.dup X49.here hx rfl (hb hby at_308) rfl rfl ?_
    show Steps p.tables e below (T49.setTop (mkF m 309 #[.val (.int p1), .val (.int p2), .val (.int p3), .val (.int p4), .unset, .unset, .unset, .unset, .unset, .unset, .unset] [(.ref b1), (.ref b1)])) _
    refine XS.bipush X49.here hx rfl (hb hby at_309) ?_
    show Steps p.tables e below (T49.setTop (mkF m 311 #[.val (.int p1), .val (.int p2), .val (.int p3), .val (.int p4), .unset, .unset, .unset, .unset, .unset, .unset, .unset] [(.int (48 : Int32)), (.ref b1), (.ref b1)])) _
    refine X49.ldcInt hx hown (mvT hZ (hw _ (List.mem_of_getElem? (i := 14) rfl))) (g := (mkF m 311 #[.val (.int p1), .val (.int p2), .val (.int p3), .val (.int p4), .unset, .unset, .unset, .unset, .unset, .unset, .unset] [(.int (48 : Int32)), (.ref b1), (.ref b1)])) rfl (hb hby at_311) _ ?_
    show Steps p.tables e below (T49.setTop (mkF m 313 #[.val (.int p1), .val (.int p2), .val (.int p3), .val (.int p4), .unset, .unset, .unset, .unset, .unset, .unset, .unset] [(.int (2147483647 : Int32)), (.int (48 : Int32)), (.ref b1), (.ref b1)])) _
    refine st50 _ ?_
    show Steps p.tables e below (T50.setTop (mkF m 314 #[.val (.int p1), .val (.int p2), .val (.int p3), .val (.int p4), .unset, .unset, .unset, .unset, .unset, .unset, .unset] [(.ref b1)])) _
    refine XS.astore X50.here hx rfl (hb hby at_314) rfl rfl (l' := #[.val (.int p1), .val (.int p2), .val (.int p3), .val (.int p4), .val (.ref b1), .unset, .unset, .unset, .unset, .unset, .unset]) rfl ?_
    show Steps p.tables e below (T50.setTop (mkF m 316 #[.val (.int p1), .val (.int p2), .val (.int p3), .val (.int p4), .val (.ref b1), .unset, .unset, .unset, .unset, .unset, .unset] [])) _
    refine XS.aload X50.here hx rfl (hb hby at_316) rfl rfl ?_
    show Steps p.tables e below (T50.setTop (mkF m 318 #[.val (.int p1), .val (.int p2), .val (.int p3), .val (.int p4), .val (.ref b1), .unset, .unset, .unset, .unset, .unset, .unset] [(.ref b1)])) _
    refine XS.iloadN X50.here hx rfl (hb hby at_318) rfl ?_
    show Steps p.tables e below (T50.setTop (mkF m 319 #[.val (.int p1), .val (.int p2), .val (.int p3), .val (.int p4), .val (.ref b1), .unset, .unset, .unset, .unset, .unset, .unset] [(.int p2), (.ref b1)])) _
    refine X50.ldcInt hx hown (mvT hZ (hw _ (List.mem_of_getElem? (i := 14) rfl))) (g := (mkF m 319 #[.val (.int p1), .val (.int p2), .val (.int p3), .val (.int p4), .val (.ref b1), .unset, .unset, .unset, .unset, .unset, .unset] [(.int p2), (.ref b1)])) rfl (hb hby at_319) _ ?_
    show Steps p.tables e below (T50.setTop (mkF m 321 #[.val (.int p1), .val (.int p2), .val (.int p3), .val (.int p4), .val (.ref b1), .unset, .unset, .unset, .unset, .unset, .unset] [(.int (2147483647 : Int32)), (.int p2), (.ref b1)])) _
    refine XS.iand X50.here hx rfl (hb hby at_321) rfl ?_
    show Steps p.tables e below (T50.setTop (mkF m 322 #[.val (.int p1), .val (.int p2), .val (.int p3), .val (.int p4), .val (.ref b1), .unset, .unset, .unset, .unset, .unset, .unset] [(.int (p2 &&& (2147483647 : Int32))), (.ref b1)])) _
    refine XS.aload X50.here hx rfl (hb hby at_322) rfl rfl ?_
    show Steps p.tables e below (T50.setTop (mkF m 324 #[.val (.int p1), .val (.int p2), .val (.int p3), .val (.int p4), .val (.ref b1), .unset, .unset, .unset, .unset, .unset, .unset] [(.ref b1), (.int (p2 &&& (2147483647 : Int32))), (.ref b1)])) _
    refine own_len X50 hx hZ e50 V50 (n := 49) (k := (49 : Int32)) rfl (by decide) (g := (mkF m 324 #[.val (.int p1), .val (.int p2), .val (.int p3), .val (.int p4), .val (.ref b1), .unset, .unset, .unset, .unset, .unset, .unset] [(.ref b1), (.int (p2 &&& (2147483647 : Int32))), (.ref b1)])) rfl rfl (hb hby at_324) _ ?_
    show Steps p.tables e below (T50.setTop (mkF m 325 #[.val (.int p1), .val (.int p2), .val (.int p3), .val (.int p4), .val (.ref b1), .unset, .unset, .unset, .unset, .unset, .unset] [(.int (49 : Int32)), (.int (p2 &&& (2147483647 : Int32))), (.ref b1)])) _
    refine XS.irem X50.here hx rfl (hb hby at_325) rfl (by decide) ?_
    show Steps p.tables e below (T50.setTop (mkF m 326 #[.val (.int p1), .val (.int p2), .val (.int p3), .val (.int p4), .val (.ref b1), .unset, .unset, .unset, .unset, .unset, .unset] [(.int ((p2 &&& (2147483647 : Int32)) - ((p2 &&& (2147483647 : Int32)) / (49 : Int32)) * (49 : Int32))), (.ref b1)])) _
    refine own_ldI X50 hx hZ e50 V50 (n := 49) (v := (.int w51)) rfl hj51 hv51 (g := (mkF m 326 #[.val (.int p1), .val (.int p2), .val (.int p3), .val (.int p4), .val (.ref b1), .unset, .unset, .unset, .unset, .unset, .unset] [(.int ((p2 &&& (2147483647 : Int32)) - ((p2 &&& (2147483647 : Int32)) / (49 : Int32)) * (49 : Int32))), (.ref b1)])) rfl rfl (hb hby at_326) _ ?_
    show Steps p.tables e below (T50.setTop (mkF m 327 #[.val (.int p1), .val (.int p2), .val (.int p3), .val (.int p4), .val (.ref b1), .unset, .unset, .unset, .unset, .unset, .unset] [(.int w51)])) _
    refine XS.istore X50.here hx rfl (hb hby at_327) rfl (l' := #[.val (.int p1), .val (.int p2), .val (.int p3), .val (.int p4), .val (.ref b1), .val (.int w51), .unset, .unset, .unset, .unset, .unset]) rfl ?_
    show Steps p.tables e below (T50.setTop (mkF m 329 #[.val (.int p1), .val (.int p2), .val (.int p3), .val (.int p4), .val (.ref b1), .val (.int w51), .unset, .unset, .unset, .unset, .unset] [])) _
    refine XS.iload X50.here hx rfl (hb hby at_329) rfl ?_
    show Steps p.tables e below (T50.setTop (mkF m 331 #[.val (.int p1), .val (.int p2), .val (.int p3), .val (.int p4), .val (.ref b1), .val (.int w51), .unset, .unset, .unset, .unset, .unset] [(.int w51)])) _
    refine XS.iloadN X50.here hx rfl (hb hby at_331) rfl ?_
    show Steps p.tables e below (T50.setTop (mkF m 332 #[.val (.int p1), .val (.int p2), .val (.int p3), .val (.int p4), .val (.ref b1), .val (.int w51), .unset, .unset, .unset, .unset, .unset] [(.int p3), (.int w51)])) _
    refine XS.iconst X50.here hx rfl (hb hby at_332) ?_
    show Steps p.tables e below (T50.setTop (mkF m 333 #[.val (.int p1), .val (.int p2), .val (.int p3), .val (.int p4), .val (.ref b1), .val (.int w51), .unset, .unset, .unset, .unset, .unset] [(.int (3 : Int32)), (.int p3), (.int w51)])) _
    refine XS.iand X50.here hx rfl (hb hby at_333) rfl ?_
    show Steps p.tables e below (T50.setTop (mkF m 334 #[.val (.int p1), .val (.int p2), .val (.int p3), .val (.int p4), .val (.ref b1), .val (.int w51), .unset, .unset, .unset, .unset, .unset] [(.int (p3 &&& (3 : Int32))), (.int w51)])) _
    refine XS.iconst X50.here hx rfl (hb hby at_334) ?_
    show Steps p.tables e below (T50.setTop (mkF m 335 #[.val (.int p1), .val (.int p2), .val (.int p3), .val (.int p4), .val (.ref b1), .val (.int w51), .unset, .unset, .unset, .unset, .unset] [(.int (1 : Int32)), (.int (p3 &&& (3 : Int32))), (.int w51)])) _
    refine XS.isub X50.here hx rfl (hb hby at_335) rfl ?_
    show Steps p.tables e below (T50.setTop (mkF m 336 #[.val (.int p1), .val (.int p2), .val (.int p3), .val (.int p4), .val (.ref b1), .val (.int w51), .unset, .unset, .unset, .unset, .unset] [(.int ((p3 &&& (3 : Int32)) - (1 : Int32))), (.int w51)])) _
    refine XS.iadd X50.here hx rfl (hb hby at_336) rfl ?_
    show Steps p.tables e below (T50.setTop (mkF m 337 #[.val (.int p1), .val (.int p2), .val (.int p3), .val (.int p4), .val (.ref b1), .val (.int w51), .unset, .unset, .unset, .unset, .unset] [(.int (w51 + ((p3 &&& (3 : Int32)) - (1 : Int32))))])) _
    refine XS.istore X50.here hx rfl (hb hby at_337) rfl (l' := #[.val (.int p1), .val (.int p2), .val (.int p3), .val (.int p4), .val (.ref b1), .val (.int w51), .val (.int (w51 + ((p3 &&& (3 : Int32)) - (1 : Int32)))), .unset, .unset, .unset, .unset]) rfl ?_
    show Steps p.tables e below (T50.setTop (mkF m 339 #[.val (.int p1), .val (.int p2), .val (.int p3), .val (.int p4), .val (.ref b1), .val (.int w51), .val (.int (w51 + ((p3 &&& (3 : Int32)) - (1 : Int32)))), .unset, .unset, .unset, .unset] [])) _
    refine XS.iloadN X50.here hx rfl (hb hby at_339) rfl ?_
    show Steps p.tables e below (T50.setTop (mkF m 340 #[.val (.int p1), .val (.int p2), .val (.int p3), .val (.int p4), .val (.ref b1), .val (.int w51), .val (.int (w51 + ((p3 &&& (3 : Int32)) - (1 : Int32)))), .unset, .unset, .unset, .unset] [(.int p4)])) _
    refine X50.ldcInt hx hown (mvT hZ (hw _ (List.mem_of_getElem? (i := 15) rfl))) (g := (mkF m 340 #[.val (.int p1), .val (.int p2), .val (.int p3), .val (.int p4), .val (.ref b1), .val (.int w51), .val (.int (w51 + ((p3 &&& (3 : Int32)) - (1 : Int32)))), .unset, .unset, .unset, .unset] [(.int p4)])) rfl (hb hby at_340) _ ?_
    show Steps p.tables e below (T50.setTop (mkF m 342 #[.val (.int p1), .val (.int p2), .val (.int p3), .val (.int p4), .val (.ref b1), .val (.int w51), .val (.int (w51 + ((p3 &&& (3 : Int32)) - (1 : Int32)))), .unset, .unset, .unset, .unset] [(.int (1048575 : Int32)), (.int p4)])) _
    refine XS.iand X50.here hx rfl (hb hby at_342) rfl ?_
    show Steps p.tables e below (T50.setTop (mkF m 343 #[.val (.int p1), .val (.int p2), .val (.int p3), .val (.int p4), .val (.ref b1), .val (.int w51), .val (.int (w51 + ((p3 &&& (3 : Int32)) - (1 : Int32)))), .unset, .unset, .unset, .unset] [(.int (p4 &&& (1048575 : Int32)))])) _
    refine XS.istore X50.here hx rfl (hb hby at_343) rfl (l' := #[.val (.int p1), .val (.int p2), .val (.int p3), .val (.int p4), .val (.ref b1), .val (.int w51), .val (.int (w51 + ((p3 &&& (3 : Int32)) - (1 : Int32)))), .val (.int (p4 &&& (1048575 : Int32))), .unset, .unset, .unset]) rfl ?_
    show Steps p.tables e below (T50.setTop (mkF m 345 #[.val (.int p1), .val (.int p2), .val (.int p3), .val (.int p4), .val (.ref b1), .val (.int w51), .val (.int (w51 + ((p3 &&& (3 : Int32)) - (1 : Int32)))), .val (.int (p4 &&& (1048575 : Int32))), .unset, .unset, .unset] [])) _
    refine XS.iloadN X50.here hx rfl (hb hby at_345) rfl ?_
    show Steps p.tables e below (T50.setTop (mkF m 346 #[.val (.int p1), .val (.int p2), .val (.int p3), .val (.int p4), .val (.ref b1), .val (.int w51), .val (.int (w51 + ((p3 &&& (3 : Int32)) - (1 : Int32)))), .val (.int (p4 &&& (1048575 : Int32))), .unset, .unset, .unset] [(.int p1)])) _
    refine st52 _ ?_
    show Steps p.tables e below (T52.setTop (mkF m 349 #[.val (.int p1), .val (.int p2), .val (.int p3), .val (.int p4), .val (.ref b1), .val (.int w51), .val (.int (w51 + ((p3 &&& (3 : Int32)) - (1 : Int32)))), .val (.int (p4 &&& (1048575 : Int32))), .unset, .unset, .unset] [(.int (fN p1))])) _
    refine XS.iloadN X52.here hx rfl (hb hby at_349) rfl ?_
    show Steps p.tables e below (T52.setTop (mkF m 350 #[.val (.int p1), .val (.int p2), .val (.int p3), .val (.int p4), .val (.ref b1), .val (.int w51), .val (.int (w51 + ((p3 &&& (3 : Int32)) - (1 : Int32)))), .val (.int (p4 &&& (1048575 : Int32))), .unset, .unset, .unset] [(.int p1), (.int (fN p1))])) _
    refine st53 _ ?_
    show Steps p.tables e below (T53.setTop (mkF m 353 #[.val (.int p1), .val (.int p2), .val (.int p3), .val (.int p4), .val (.ref b1), .val (.int w51), .val (.int (w51 + ((p3 &&& (3 : Int32)) - (1 : Int32)))), .val (.int (p4 &&& (1048575 : Int32))), .unset, .unset, .unset] [(.int (f2_0 p1)), (.int (fN p1))])) _
    refine XS.icmpNo X53.here hx rfl (hb hby at_353) rfl (teq h353_54).2 ?_
    show Steps p.tables e below (T53.setTop (mkF m 356 #[.val (.int p1), .val (.int p2), .val (.int p3), .val (.int p4), .val (.ref b1), .val (.int w51), .val (.int (w51 + ((p3 &&& (3 : Int32)) - (1 : Int32)))), .val (.int (p4 &&& (1048575 : Int32))), .unset, .unset, .unset] [])) _
    refine XS.iconst X53.here hx rfl (hb hby at_356) ?_
    show Steps p.tables e below (T53.setTop (mkF m 357 #[.val (.int p1), .val (.int p2), .val (.int p3), .val (.int p4), .val (.ref b1), .val (.int w51), .val (.int (w51 + ((p3 &&& (3 : Int32)) - (1 : Int32)))), .val (.int (p4 &&& (1048575 : Int32))), .unset, .unset, .unset] [(.int (1 : Int32))])) _
    refine XS.goto X53.here hx rfl (pc0 := 357) (pc' := 361) rfl (hb hby at_357) (by decide) (by decide) ?_
    show Steps p.tables e below (T53.setTop (mkF m 361 #[.val (.int p1), .val (.int p2), .val (.int p3), .val (.int p4), .val (.ref b1), .val (.int w51), .val (.int (w51 + ((p3 &&& (3 : Int32)) - (1 : Int32)))), .val (.int (p4 &&& (1048575 : Int32))), .unset, .unset, .unset] [(.int (1 : Int32))])) _
    refine XS.istore X53.here hx rfl (hb hby at_361) rfl (l' := #[.val (.int p1), .val (.int p2), .val (.int p3), .val (.int p4), .val (.ref b1), .val (.int w51), .val (.int (w51 + ((p3 &&& (3 : Int32)) - (1 : Int32)))), .val (.int (p4 &&& (1048575 : Int32))), .val (.int (1 : Int32)), .unset, .unset]) rfl ?_
    show Steps p.tables e below (T53.setTop (mkF m 363 #[.val (.int p1), .val (.int p2), .val (.int p3), .val (.int p4), .val (.ref b1), .val (.int w51), .val (.int (w51 + ((p3 &&& (3 : Int32)) - (1 : Int32)))), .val (.int (p4 &&& (1048575 : Int32))), .val (.int (1 : Int32)), .unset, .unset] [])) _
    refine XS.iload X53.here hx rfl (hb hby at_363) rfl ?_
    show Steps p.tables e below (T53.setTop (mkF m 365 #[.val (.int p1), .val (.int p2), .val (.int p3), .val (.int p4), .val (.ref b1), .val (.int w51), .val (.int (w51 + ((p3 &&& (3 : Int32)) - (1 : Int32)))), .val (.int (p4 &&& (1048575 : Int32))), .val (.int (1 : Int32)), .unset, .unset] [(.int (w51 + ((p3 &&& (3 : Int32)) - (1 : Int32))))])) _
    refine st55 _ ?_
    show Steps p.tables e below (T55.setTop (mkF m 368 #[.val (.int p1), .val (.int p2), .val (.int p3), .val (.int p4), .val (.ref b1), .val (.int w51), .val (.int (w51 + ((p3 &&& (3 : Int32)) - (1 : Int32)))), .val (.int (p4 &&& (1048575 : Int32))), .val (.int (1 : Int32)), .unset, .unset] [(.int (fN (w51 + ((p3 &&& (3 : Int32)) - (1 : Int32)))))])) _
    refine XS.iload X55.here hx rfl (hb hby at_368) rfl ?_
    show Steps p.tables e below (T55.setTop (mkF m 370 #[.val (.int p1), .val (.int p2), .val (.int p3), .val (.int p4), .val (.ref b1), .val (.int w51), .val (.int (w51 + ((p3 &&& (3 : Int32)) - (1 : Int32)))), .val (.int (p4 &&& (1048575 : Int32))), .val (.int (1 : Int32)), .unset, .unset] [(.int (w51 + ((p3 &&& (3 : Int32)) - (1 : Int32)))), (.int (fN (w51 + ((p3 &&& (3 : Int32)) - (1 : Int32)))))])) _
    refine st56 _ ?_
    show Steps p.tables e below (T56.setTop (mkF m 373 #[.val (.int p1), .val (.int p2), .val (.int p3), .val (.int p4), .val (.ref b1), .val (.int w51), .val (.int (w51 + ((p3 &&& (3 : Int32)) - (1 : Int32)))), .val (.int (p4 &&& (1048575 : Int32))), .val (.int (1 : Int32)), .unset, .unset] [(.int (f2_0 (w51 + ((p3 &&& (3 : Int32)) - (1 : Int32))))), (.int (fN (w51 + ((p3 &&& (3 : Int32)) - (1 : Int32)))))])) _
    refine XS.icmpNo X56.here hx rfl (hb hby at_373) rfl (teq h373_57).2 ?_
    show Steps p.tables e below (T56.setTop (mkF m 376 #[.val (.int p1), .val (.int p2), .val (.int p3), .val (.int p4), .val (.ref b1), .val (.int w51), .val (.int (w51 + ((p3 &&& (3 : Int32)) - (1 : Int32)))), .val (.int (p4 &&& (1048575 : Int32))), .val (.int (1 : Int32)), .unset, .unset] [])) _
    refine XS.iconst X56.here hx rfl (hb hby at_376) ?_
    show Steps p.tables e below (T56.setTop (mkF m 377 #[.val (.int p1), .val (.int p2), .val (.int p3), .val (.int p4), .val (.ref b1), .val (.int w51), .val (.int (w51 + ((p3 &&& (3 : Int32)) - (1 : Int32)))), .val (.int (p4 &&& (1048575 : Int32))), .val (.int (1 : Int32)), .unset, .unset] [(.int (1 : Int32))])) _
    refine XS.goto X56.here hx rfl (pc0 := 377) (pc' := 381) rfl (hb hby at_377) (by decide) (by decide) ?_
    show Steps p.tables e below (T56.setTop (mkF m 381 #[.val (.int p1), .val (.int p2), .val (.int p3), .val (.int p4), .val (.ref b1), .val (.int w51), .val (.int (w51 + ((p3 &&& (3 : Int32)) - (1 : Int32)))), .val (.int (p4 &&& (1048575 : Int32))), .val (.int (1 : Int32)), .unset, .unset] [(.int (1 : Int32))])) _
    refine XS.istore X56.here hx rfl (hb hby at_381) rfl (l' := #[.val (.int p1), .val (.int p2), .val (.int p3), .val (.int p4), .val (.ref b1), .val (.int w51), .val (.int (w51 + ((p3 &&& (3 : Int32)) - (1 : Int32)))), .val (.int (p4 &&& (1048575 : Int32))), .val (.int (1 : Int32)), .val (.int (1 : Int32)), .unset]) rfl ?_
    show Steps p.tables e below (T56.setTop (mkF m 383 #[.val (.int p1), .val (.int p2), .val (.int p3), .val (.int p4), .val (.ref b1), .val (.int w51), .val (.int (w51 + ((p3 &&& (3 : Int32)) - (1 : Int32)))), .val (.int (p4 &&& (1048575 : Int32))), .val (.int (1 : Int32)), .val (.int (1 : Int32)), .unset] [])) _
    refine XS.iload X56.here hx rfl (hb hby at_383) rfl ?_
    show Steps p.tables e below (T56.setTop (mkF m 385 #[.val (.int p1), .val (.int p2), .val (.int p3), .val (.int p4), .val (.ref b1), .val (.int w51), .val (.int (w51 + ((p3 &&& (3 : Int32)) - (1 : Int32)))), .val (.int (p4 &&& (1048575 : Int32))), .val (.int (1 : Int32)), .val (.int (1 : Int32)), .unset] [(.int (p4 &&& (1048575 : Int32)))])) _
    refine st58 _ ?_
    show Steps p.tables e below (T58.setTop (mkF m 388 #[.val (.int p1), .val (.int p2), .val (.int p3), .val (.int p4), .val (.ref b1), .val (.int w51), .val (.int (w51 + ((p3 &&& (3 : Int32)) - (1 : Int32)))), .val (.int (p4 &&& (1048575 : Int32))), .val (.int (1 : Int32)), .val (.int (1 : Int32)), .unset] [(.int (fN (p4 &&& (1048575 : Int32))))])) _
    refine XS.iload X58.here hx rfl (hb hby at_388) rfl ?_
    show Steps p.tables e below (T58.setTop (mkF m 390 #[.val (.int p1), .val (.int p2), .val (.int p3), .val (.int p4), .val (.ref b1), .val (.int w51), .val (.int (w51 + ((p3 &&& (3 : Int32)) - (1 : Int32)))), .val (.int (p4 &&& (1048575 : Int32))), .val (.int (1 : Int32)), .val (.int (1 : Int32)), .unset] [(.int (p4 &&& (1048575 : Int32))), (.int (fN (p4 &&& (1048575 : Int32))))])) _
    refine st59 _ ?_
    show Steps p.tables e below (T59.setTop (mkF m 393 #[.val (.int p1), .val (.int p2), .val (.int p3), .val (.int p4), .val (.ref b1), .val (.int w51), .val (.int (w51 + ((p3 &&& (3 : Int32)) - (1 : Int32)))), .val (.int (p4 &&& (1048575 : Int32))), .val (.int (1 : Int32)), .val (.int (1 : Int32)), .unset] [(.int (f2_0 (p4 &&& (1048575 : Int32)))), (.int (fN (p4 &&& (1048575 : Int32))))])) _
    refine XS.icmpNo X59.here hx rfl (hb hby at_393) rfl (teq h393_60).2 ?_
    show Steps p.tables e below (T59.setTop (mkF m 396 #[.val (.int p1), .val (.int p2), .val (.int p3), .val (.int p4), .val (.ref b1), .val (.int w51), .val (.int (w51 + ((p3 &&& (3 : Int32)) - (1 : Int32)))), .val (.int (p4 &&& (1048575 : Int32))), .val (.int (1 : Int32)), .val (.int (1 : Int32)), .unset] [])) _
    refine XS.iconst X59.here hx rfl (hb hby at_396) ?_
    show Steps p.tables e below (T59.setTop (mkF m 397 #[.val (.int p1), .val (.int p2), .val (.int p3), .val (.int p4), .val (.ref b1), .val (.int w51), .val (.int (w51 + ((p3 &&& (3 : Int32)) - (1 : Int32)))), .val (.int (p4 &&& (1048575 : Int32))), .val (.int (1 : Int32)), .val (.int (1 : Int32)), .unset] [(.int (1 : Int32))])) _
    refine XS.goto X59.here hx rfl (pc0 := 397) (pc' := 401) rfl (hb hby at_397) (by decide) (by decide) ?_
    show Steps p.tables e below (T59.setTop (mkF m 401 #[.val (.int p1), .val (.int p2), .val (.int p3), .val (.int p4), .val (.ref b1), .val (.int w51), .val (.int (w51 + ((p3 &&& (3 : Int32)) - (1 : Int32)))), .val (.int (p4 &&& (1048575 : Int32))), .val (.int (1 : Int32)), .val (.int (1 : Int32)), .unset] [(.int (1 : Int32))])) _
    refine XS.istore X59.here hx rfl (hb hby at_401) rfl (l' := #[.val (.int p1), .val (.int p2), .val (.int p3), .val (.int p4), .val (.ref b1), .val (.int w51), .val (.int (w51 + ((p3 &&& (3 : Int32)) - (1 : Int32)))), .val (.int (p4 &&& (1048575 : Int32))), .val (.int (1 : Int32)), .val (.int (1 : Int32)), .val (.int (1 : Int32))]) rfl ?_
    show Steps p.tables e below (T59.setTop (mkF m 403 #[.val (.int p1), .val (.int p2), .val (.int p3), .val (.int p4), .val (.ref b1), .val (.int w51), .val (.int (w51 + ((p3 &&& (3 : Int32)) - (1 : Int32)))), .val (.int (p4 &&& (1048575 : Int32))), .val (.int (1 : Int32)), .val (.int (1 : Int32)), .val (.int (1 : Int32))] [])) _
    refine XS.iload X59.here hx rfl (hb hby at_403) rfl ?_
    show Steps p.tables e below (T59.setTop (mkF m 405 #[.val (.int p1), .val (.int p2), .val (.int p3), .val (.int p4), .val (.ref b1), .val (.int w51), .val (.int (w51 + ((p3 &&& (3 : Int32)) - (1 : Int32)))), .val (.int (p4 &&& (1048575 : Int32))), .val (.int (1 : Int32)), .val (.int (1 : Int32)), .val (.int (1 : Int32))] [(.int (1 : Int32))])) _
    refine XS.ifNo X59.here hx rfl (hb hby at_405) rfl ((if0 _ _).trans (feq h405_61).1) ?_
    show Steps p.tables e below (T59.setTop (mkF m 408 #[.val (.int p1), .val (.int p2), .val (.int p3), .val (.int p4), .val (.ref b1), .val (.int w51), .val (.int (w51 + ((p3 &&& (3 : Int32)) - (1 : Int32)))), .val (.int (p4 &&& (1048575 : Int32))), .val (.int (1 : Int32)), .val (.int (1 : Int32)), .val (.int (1 : Int32))] [])) _
    refine XS.iload X59.here hx rfl (hb hby at_408) rfl ?_
    show Steps p.tables e below (T59.setTop (mkF m 410 #[.val (.int p1), .val (.int p2), .val (.int p3), .val (.int p4), .val (.ref b1), .val (.int w51), .val (.int (w51 + ((p3 &&& (3 : Int32)) - (1 : Int32)))), .val (.int (p4 &&& (1048575 : Int32))), .val (.int (1 : Int32)), .val (.int (1 : Int32)), .val (.int (1 : Int32))] [(.int (1 : Int32))])) _
    refine XS.ifNo X59.here hx rfl (hb hby at_410) rfl ((if0 _ _).trans (feq h410_62).1) ?_
    show Steps p.tables e below (T59.setTop (mkF m 413 #[.val (.int p1), .val (.int p2), .val (.int p3), .val (.int p4), .val (.ref b1), .val (.int w51), .val (.int (w51 + ((p3 &&& (3 : Int32)) - (1 : Int32)))), .val (.int (p4 &&& (1048575 : Int32))), .val (.int (1 : Int32)), .val (.int (1 : Int32)), .val (.int (1 : Int32))] [])) _
    refine XS.iload X59.here hx rfl (hb hby at_413) rfl ?_
    show Steps p.tables e below (T59.setTop (mkF m 415 #[.val (.int p1), .val (.int p2), .val (.int p3), .val (.int p4), .val (.ref b1), .val (.int w51), .val (.int (w51 + ((p3 &&& (3 : Int32)) - (1 : Int32)))), .val (.int (p4 &&& (1048575 : Int32))), .val (.int (1 : Int32)), .val (.int (1 : Int32)), .val (.int (1 : Int32))] [(.int (1 : Int32))])) _
    refine XS.ifNo X59.here hx rfl (hb hby at_415) rfl ((if0 _ _).trans (feq h415_63).1) ?_
    show Steps p.tables e below (T59.setTop (mkF m 418 #[.val (.int p1), .val (.int p2), .val (.int p3), .val (.int p4), .val (.ref b1), .val (.int w51), .val (.int (w51 + ((p3 &&& (3 : Int32)) - (1 : Int32)))), .val (.int (p4 &&& (1048575 : Int32))), .val (.int (1 : Int32)), .val (.int (1 : Int32)), .val (.int (1 : Int32))] [])) _
    refine XS.iconst X59.here hx rfl (hb hby at_418) ?_
    show Steps p.tables e below (T59.setTop (mkF m 419 #[.val (.int p1), .val (.int p2), .val (.int p3), .val (.int p4), .val (.ref b1), .val (.int w51), .val (.int (w51 + ((p3 &&& (3 : Int32)) - (1 : Int32)))), .val (.int (p4 &&& (1048575 : Int32))), .val (.int (1 : Int32)), .val (.int (1 : Int32)), .val (.int (1 : Int32))] [(.int (1 : Int32))])) _
    refine XS.goto X59.here hx rfl (pc0 := 419) (pc' := 423) rfl (hb hby at_419) (by decide) (by decide) ?_
    show Steps p.tables e below (T59.setTop (mkF m 423 #[.val (.int p1), .val (.int p2), .val (.int p3), .val (.int p4), .val (.ref b1), .val (.int w51), .val (.int (w51 + ((p3 &&& (3 : Int32)) - (1 : Int32)))), .val (.int (p4 &&& (1048575 : Int32))), .val (.int (1 : Int32)), .val (.int (1 : Int32)), .val (.int (1 : Int32))] [(.int (1 : Int32))])) _
    exact k
  obtain ⟨fs, hr, hrun, hended, hW, hsame⟩ := X59.leave (v := some (.int (1 : Int32))) (fun h => by rw [Bd.returns] at h; cases h)
  refine ⟨_, _, pre64 _ ?_, hrun, hended, _, _, rfl, ?_, ⟨_, rfl⟩, hW, hsame.mono (by decide) (by decide)⟩
  · exact retN X59 hx (t := .boolean) Bd.returns (by simp) (hb hby at_423) hr
  · exact ⟨rfl, N59⟩
set_option maxRecDepth 65536 in
set_option maxHeartbeats 40000000 in
theorem comes_1 {Post : Tables → Env → Array Value → State → Outcome → State → Prop} (hpost : ∀ tb e args s v u, (limb_1_1.after args s (.returned v) u = true ∧ limb_1_2.after args s (.returned v) u = true ∧ True) → FrameEnd s (.returned v) u (Jvm.fieldLocs frame_1_writes args s ++ Jvm.arrayLocs frame_1_arrays args s ++ Jvm.staticLocs frame_1_statics s) 16 192 → Post tb e args s (.returned v) u) :
    ArmFor flags0 classFile x code maxLocals ret World_1 tables_1 room_1 Calls_1 rest_1 Pre_1 Post := by
  intro l hfl _ _ p e ha hc hk s m args below hf hA hF happ hP
  obtain ⟨hcalls, hrest, hpre⟩ := hP
  obtain ⟨-, -, -, hnamed, -, -, -, hat⟩ := (Spec.applies_iff hf).mp happ
  obtain ⟨hg, hn⟩ := and_e (Cond.before_iff.mp (show (Jvm.Cond.and given_1 narrow_1).before args s = true from hpre))
  obtain ⟨hc0, hr1⟩ := and_e hg
  obtain ⟨ha0, hr2⟩ := and_e hr1
  obtain ⟨ha1, hr3⟩ := and_e hr2
  obtain ⟨ha2, hr4⟩ := and_e hr3
  obtain ⟨w0, w1, w2, w3, rfl⟩ : ∃ w0 w1 w2 w3 : Value, args = #[w0, w1, w2, w3] := by
    have hs : args.size = 4 := by simpa [Cond.value, given_1] using hc0
    obtain ⟨L⟩ := args
    match L, hs with
    | [w0, w1, w2, w3], _ => exact ⟨w0, w1, w2, w3, rfl⟩
  have hw := fun d (hd : d ∈ tables_1) => atoms_spec (ws := Jvm.Cond.code x code maxLocals ret :: tables_1) hat d (List.mem_cons_of_mem _ hd)
  have hfit : Fit s := fun {y c} hc i hi => by
    obtain ⟨ha, rfl⟩ := Array.getElem?_eq_some_iff.mp hc
    have q := List.all_eq_true.mp ((Array.all_eq_true_iff_forall_mem.mp hF) _ (Array.getElem_mem ha)) i (List.mem_range.mpr hi)
    simpa [Array.getElem?_eq_getElem hi] using q
  obtain ⟨i0, ei0⟩ := is_v ha0
  obtain rfl : w0 = (.int i0) := Option.some.inj ei0
  obtain ⟨i1, ei1⟩ := is_v ha1
  obtain rfl : w1 = (.int i1) := Option.some.inj ei1
  obtain ⟨i2, ei2⟩ := is_v ha2
  obtain rfl : w2 = (.int i2) := Option.some.inj ei2
  obtain ⟨i3, ei3⟩ := is_v hr4
  obtain rfl : w3 = (.int i3) := Option.some.inj ei3
  obtain ⟨c0, r0⟩ := and_e hn
  obtain ⟨c1, r1⟩ := and_e r0
  obtain ⟨c2, r2⟩ := and_e r1
  obtain ⟨c3, r3⟩ := and_e r2
  obtain ⟨c4, r4⟩ := and_e r3
  obtain ⟨c5, r5⟩ := and_e r4
  obtain ⟨c6, r6⟩ := and_e r5
  obtain ⟨c7, r7⟩ := and_e r6
  have c8 := r7
  obtain ⟨aA, va⟩ := arr_v c0
  have SA : Sta s s.heap "com/example/twyg/twyg/xml/XmlCharacters" "ASCII_NAME_STARTS" "[Z" (.ref aA) := Sta.start va (Or.inr ⟨(hw _ (List.mem_of_getElem? (i := 18) rfl)), (hw _ (List.mem_of_getElem? (i := 21) rfl))⟩)
  obtain ⟨cA, AA⟩ := Arr.start va c0
  have aa : s.arrayAt? aA = some cA := Arr.fin (Vm.Alike.refl _) AA
  have hz : cA.slots.size = 128 := own_len128 va aa c1
  have BA : own_BA s s.heap aA := ⟨cA, AA, hz, fun i hi => by
    have g2 := Cond.all_elim va aa c2 i (by omega)
    have g3 := Cond.all_elim va aa c3 i (by omega)
    have g4 := Cond.all_elim va aa c4 i (by omega)
    have g7 := Cond.all_elim va aa c7 i (by omega)
    have g8 := Cond.all_elim va aa c8 i (by omega)
    have ix : (Term.index 0).eval #[.int i0, .int i1, .int i2, .int i3] s none [i] s = some (.int i.toInt32) := Term.index_eval _
    have vi : (Term.static "com/example/twyg/twyg/xml/XmlCharacters" "ASCII_NAME_STARTS" "[Z").eval #[.int i0, .int i1, .int i2, .int i3] s none [i] s = some (.ref aA) := va
    have ki : i.toInt32.toInt = i := len_toInt (by omega)
    have kn : i.toInt32.toNatClampNeg = i := by show i.toInt32.toInt.toNat = i; omega
    have hle : ∀ k : Int32, (Jvm.Cond.le (.int k) (.index 0)).value #[.int i0, .int i1, .int i2, .int i3] s none s [i] = some (decide (k ≤ i.toInt32)) := fun k => Cond.le_ints (Term.int_eval k) ix
    have hlt : ∀ k : Int32, (Jvm.Cond.lt (.index 0) (.int k)).value #[.int i0, .int i1, .int i2, .int i3] s none s [i] = some (decide (i.toInt32 < k)) := fun k => Cond.lt_ints ix (Term.int_eval k)
    have get : ∀ v : Int32, (Jvm.Cond.eq (.elem (.static "com/example/twyg/twyg/xml/XmlCharacters" "ASCII_NAME_STARTS" "[Z") (.index 0)) (.int v)).value #[.int i0, .int i1, .int i2, .int i3] s none s [i] = some true → cA.slots[i]? = some (.int v) := fun v q => by have := own_elem vi ix AA.1 q; rw [kn] at this; exact this
    have nle : ∀ k : Int32, i < k.toInt → (Jvm.Cond.le (.int k) (.index 0)).value #[.int i0, .int i1, .int i2, .int i3] s none s [i] = some false := fun k q => by rw [hle, decide_eq_false]; rw [Int32.le_iff_toInt_le]; omega
    have nlt : ∀ k : Int32, k.toInt ≤ i → (Jvm.Cond.lt (.index 0) (.int k)).value #[.int i0, .int i1, .int i2, .int i3] s none s [i] = some false := fun k q => by rw [hlt, decide_eq_false]; rw [Int32.lt_iff_toInt_lt]; omega
    have j65 : (65 : Int32).toInt = 65 := by decide
    have j91 : (91 : Int32).toInt = 91 := by decide
    have j95 : (95 : Int32).toInt = 95 := by decide
    have j97 : (97 : Int32).toInt = 97 := by decide
    have j123 : (123 : Int32).toInt = 123 := by decide
    by_cases a65 : i < 65
    · rw [get 0 (own_or g2 (nle 65 (by omega)))]; unfold own_tv; rw [if_neg (by omega)]
    by_cases a91 : i < 91
    · rw [get 1 (own_or (own_or g3 (nlt 65 (by omega))) (nle 91 (by omega)))]; unfold own_tv; rw [if_pos (by omega)]
    by_cases a95 : i < 95
    · rw [get 0 (own_or (own_or g4 (nlt 91 (by omega))) (nle 95 (by omega)))]; unfold own_tv; rw [if_neg (by omega)]
    by_cases b95 : i = 95
    · subst b95; exact own_elem va (Term.int_eval 95) AA.1 c5
    by_cases b96 : i = 96
    · subst b96; exact own_elem va (Term.int_eval 96) AA.1 c6
    by_cases a123 : i < 123
    · rw [get 1 (own_or (own_or g7 (nlt 97 (by omega))) (nle 123 (by omega)))]; unfold own_tv; rw [if_pos (by omega)]
    · rw [get 0 (own_or g8 (nlt 123 (by omega)))]; unfold own_tv; rw [if_neg (by omega)]⟩
  obtain ⟨n, o, h1, h2, h3, _, L, rfl, ⟨rfl, N⟩, hq⟩ := rm0 l s _ hw tables_1 i0 i1 i2 i3 s.heap s.heap.size (Nat.le_refl _) aA SA BA p e ha hc hk s m _ below hf ((Spec.applies_iff_loose hf).mp happ).1 ⟨rfl, State.Warmed39.refl s, rfl⟩ trivial
  refine ⟨n, _, h1, h2, h3, hpost _ _ _ _ _ _ ⟨Cond.after_iff.mpr rfl, Cond.after_iff.mpr (eq_i res_at (Term.int_eval (1)) rfl), trivial⟩ ⟨hq.1, hq.2.1, (hq.2.2.sift fun y hy => Or.inr (N y hy)).mono (by decide) (by decide)⟩⟩
theorem main_1_1 : Claimed_1_1 := comes_1 fun _ _ _ _ _ _ h hF => ⟨h.1, hF⟩
theorem main_1_2 : Claimed_1_2 := comes_1 fun _ _ _ _ _ _ h hF => ⟨h.2.1, hF⟩
end Jvm.Pilot.@@N@@
namespace Jvm.Pilot.@@N@@
open Jvm Jvm.ClassFile Sem Op Lib Jvm.Free Jvm.Stand Jvm.Pilot.@@N@@.Jvm.D
/-! MADE BY PROGRAM (witnessworld.py) out of the Statement's table words and the real class files: 11 classes; the members and pool entries that the words name. The judged class is class 1, her method 2. -/
namespace start1
open Jvm.ClassFile
def u (s : String) : CpInfo := .utf8 (stringToUtf16 s)
/-- a pool by its gaps: so many unusable entries, then the entry; so many at the end -/
def gap : Nat → List CpInfo → List CpInfo
  | 0, r => r
  | n + 1, r => .unusable :: gap n r
def poolList (es : List (Nat × CpInfo)) (last : Nat) : List CpInfo := es.foldr (fun e r => gap e.1 (e.2 :: r)) (gap last [])
def pool (es : List (Nat × CpInfo)) (last : Nat) : Array CpInfo := ⟨poolList es last⟩
def fileOf (pool : Array CpInfo) (this : Nat) (attrs : Array Attribute := #[]) (ms : Array MethodInfo := #[]) (fl : Nat := 33) (sup : Nat := 0) (ifs : Array Nat := #[]) (fds : Array FieldInfo := #[]) : ClassFile where
  minorVersion := 0
  majorVersion := 65
  constantPool := pool
  accessFlags := fl
  thisClass := this
  superClass := sup
  interfaces := ifs
  fields := fds
  methods := ms
  attributes := attrs
def plain (name : String) (sup : Option ClassId) : Class where
  name := name
  kind := .ordinary
  loader := none
  accessFlags := 33
  super := sup
  interfaces := #[]
  cf := none
  fields := #[]
  methods := #[]
  instanceTypes := #[]
  staticTypes := #[]
  resolved := #[]
  callSites := []
  init := .initialized
  statics := none
  mirror := none

def pool0 : Array CpInfo := pool [(5, u "<init>"), (0, u "()V"), (1, .class_ 10), (1, u "java/lang/Object")] 113

def k0m0 : Method := { name := "<init>", desc := "()V", sig := { parameters := [], returnType := none }, accessFlags := 1, code := none }
/-- java/lang/Object -/
def k0 : Class := { plain "java/lang/Object" none with
  accessFlags := 33
  interfaces := #[]
  cf := some (fileOf pool0 8 #[] #[{ accessFlags := 1, nameIndex := 5, descriptorIndex := 6, attributes := #[] }] 33 0 #[] #[])
  fields := #[]
  methods := #[k0m0]
  instanceTypes := #[]
  staticTypes := #[]
  resolved := Array.replicate 124 none
  statics := none }

def pool1 : Array CpInfo := pool [(2, .class_ 4), (1, u "java/lang/Object"), (0, u "<init>"), (0, u "()V"), (0, .integer 983039), (0, .integer 55296), (0, .integer 63743), (0, .integer 64976), (0, .integer 65007), (0, .integer 65534), (0, .integer 65535), (0, .integer 55295), (0, .integer 57343), (0, .integer 63744), (0, .integer 64975), (0, .integer 65008), (0, .integer 65533), (0, .integer 65536), (0, .integer 1114111), (2, .integer 2147483648), (0, .integer 2147483647), (0, .integer 1048575), (0, .methodref 28 29), (0, .class_ 30), (0, .nameAndType 31 32), (0, u "com/example/twyg/twyg/xml/XmlCharacters"), (0, u "isNameStart"), (0, u "(I)Z"), (0, .methodref 34 35), (0, .class_ 36), (0, .nameAndType 37 32), (0, u "com/example/twyg/twyg/xml/XmlCharactersIsNameStartPinLaw"), (0, u "ref"), (3, u "law"), (0, u "(IIII)Z")] 4

def k1m0 : Method := { name := "<init>", desc := "()V", sig := { parameters := [], returnType := none }, accessFlags := 2, code := none }
def k1c1 : Code := { maxStack := 2, maxLocals := 1, code := method_2_code, exceptionTable := #[], attributes := #[] }
def k1m1 : Method := { name := "ref", desc := "(I)Z", sig := { parameters := [.int], returnType := some .boolean }, accessFlags := 10, code := some k1c1 }
def k1c2 : Code := { maxStack := 4, maxLocals := 11, code := code, exceptionTable := #[], attributes := #[] }
def k1m2 : Method := { name := "law", desc := "(IIII)Z", sig := { parameters := [.int, .int, .int, .int], returnType := some .boolean }, accessFlags := 9, code := some k1c2 }
/-- com/example/twyg/twyg/xml/XmlCharactersIsNameStartPinLaw -/
def k1 : Class := { plain "com/example/twyg/twyg/xml/XmlCharactersIsNameStartPinLaw" (some 0) with
  accessFlags := 49
  interfaces := #[]
  cf := some (fileOf pool1 34 #[] #[{ accessFlags := 2, nameIndex := 5, descriptorIndex := 6, attributes := #[] }, { accessFlags := 10, nameIndex := 37, descriptorIndex := 32, attributes := #[] }, { accessFlags := 9, nameIndex := 41, descriptorIndex := 42, attributes := #[] }] 49 2 #[] #[])
  fields := #[]
  methods := #[k1m0, k1m1, k1m2]
  instanceTypes := #[]
  staticTypes := #[]
  resolved := Array.replicate 47 none
  statics := none }

def pool2 : Array CpInfo := pool [(2, .class_ 4), (1, u "java/lang/Object"), (0, u "<init>"), (0, u "()V"), (0, .integer 55295), (1, .integer 65533), (0, .integer 65536), (1, .fieldref 13 14), (0, .class_ 15), (0, .nameAndType 16 17), (0, u "com/example/twyg/twyg/xml/XmlCharacters"), (0, u "ASCII_NAME_STARTS"), (0, u "[Z"), (0, .integer 63744), (0, .integer 64975), (0, .integer 65008), (0, .integer 983039), (2, u "ASCII_NAME_PARTS"), (2, u "isNameStart"), (0, u "(I)Z")] 91

def k2m0 : Method := { name := "<init>", desc := "()V", sig := { parameters := [], returnType := none }, accessFlags := 2, code := none }
def k2c1 : Code := { maxStack := 2, maxLocals := 1, code := prog_262_method_3_code, exceptionTable := #[], attributes := #[] }
def k2m1 : Method := { name := "isNameStart", desc := "(I)Z", sig := { parameters := [.int], returnType := some .boolean }, accessFlags := 9, code := some k2c1 }
/-- com/example/twyg/twyg/xml/XmlCharacters -/
def k2 : Class := { plain "com/example/twyg/twyg/xml/XmlCharacters" (some 0) with
  accessFlags := 49
  interfaces := #[]
  cf := some (fileOf pool2 13 #[] #[{ accessFlags := 2, nameIndex := 5, descriptorIndex := 6, attributes := #[] }, { accessFlags := 9, nameIndex := 27, descriptorIndex := 28, attributes := #[] }] 49 2 #[] #[{ accessFlags := 26, nameIndex := 16, descriptorIndex := 17, attributes := #[] }, { accessFlags := 26, nameIndex := 24, descriptorIndex := 17, attributes := #[] }])
  fields := #[{ name := "ASCII_NAME_STARTS", type := (.array .boolean), accessFlags := 26, slot := 0, constantValue := 0 }, { name := "ASCII_NAME_PARTS", type := (.array .boolean), accessFlags := 26, slot := 1, constantValue := 0 }]
  methods := #[k2m0, k2m1]
  instanceTypes := #[]
  staticTypes := #[(.array .boolean), (.array .boolean)]
  resolved := Array.replicate 120 none
  statics := some 0 }

def pool3 : Array CpInfo := pool [(1, u "java/lang/Cloneable"), (0, .class_ 1), (0, u "java/lang/Object"), (0, .class_ 3)] 3

/-- java/lang/Cloneable -/
def k3 : Class := { plain "java/lang/Cloneable" (some 0) with
  accessFlags := 1537
  interfaces := #[]
  cf := some (fileOf pool3 2 #[] #[] 1537 4 #[] #[])
  fields := #[]
  methods := #[]
  instanceTypes := #[]
  staticTypes := #[]
  resolved := Array.replicate 8 none
  statics := none }

def pool4 : Array CpInfo := pool [(1, u "java/io/Serializable"), (0, .class_ 1), (0, u "java/lang/Object"), (0, .class_ 3)] 3

/-- java/io/Serializable -/
def k4 : Class := { plain "java/io/Serializable" (some 0) with
  accessFlags := 1537
  interfaces := #[]
  cf := some (fileOf pool4 2 #[] #[] 1537 4 #[] #[])
  fields := #[]
  methods := #[]
  instanceTypes := #[]
  staticTypes := #[]
  resolved := Array.replicate 8 none
  statics := none }

/-- the primitive boolean -/
def k5 : Class := { plain "boolean" none with kind := .primitive 'Z', accessFlags := 0x411 }
/-- [Z -/
def k6 : Class := { plain "[Z" (some 0) with kind := .array 5 .boolean, interfaces := #[3, 4], accessFlags := 1041 }

/-- the primitive byte -/
def k7 : Class := { plain "byte" none with kind := .primitive 'B', accessFlags := 0x411 }
/-- [B -/
def k8 : Class := { plain "[B" (some 0) with kind := .array 7 .byte, interfaces := #[3, 4], accessFlags := 1041 }

/-- the primitive int -/
def k9 : Class := { plain "int" none with kind := .primitive 'I', accessFlags := 0x411 }
/-- [I -/
def k10 : Class := { plain "[I" (some 0) with kind := .array 9 .int, interfaces := #[3, 4], accessFlags := 1041 }

def heap : Heap := #[{ cls := 2, slots := #[.ref 1, .null], vm := .statics 2 },
  { cls := 6, slots := #[.int 0, .int 0, .int 0, .int 0, .int 0, .int 0, .int 0, .int 0, .int 0, .int 0, .int 0, .int 0, .int 0, .int 0, .int 0, .int 0, .int 0, .int 0, .int 0, .int 0, .int 0, .int 0, .int 0, .int 0, .int 0, .int 0, .int 0, .int 0, .int 0, .int 0, .int 0, .int 0, .int 0, .int 0, .int 0, .int 0, .int 0, .int 0, .int 0, .int 0, .int 0, .int 0, .int 0, .int 0, .int 0, .int 0, .int 0, .int 0, .int 0, .int 0, .int 0, .int 0, .int 0, .int 0, .int 0, .int 0, .int 0, .int 0, .int 0, .int 0, .int 0, .int 0, .int 0, .int 0, .int 0, .int 1, .int 1, .int 1, .int 1, .int 1, .int 1, .int 1, .int 1, .int 1, .int 1, .int 1, .int 1, .int 1, .int 1, .int 1, .int 1, .int 1, .int 1, .int 1, .int 1, .int 1, .int 1, .int 1, .int 1, .int 1, .int 1, .int 0, .int 0, .int 0, .int 0, .int 1, .int 0, .int 1, .int 1, .int 1, .int 1, .int 1, .int 1, .int 1, .int 1, .int 1, .int 1, .int 1, .int 1, .int 1, .int 1, .int 1, .int 1, .int 1, .int 1, .int 1, .int 1, .int 1, .int 1, .int 1, .int 1, .int 1, .int 1, .int 0, .int 0, .int 0, .int 0, .int 0], vm := .none }]
def classes : Array Class := #[k0, k1, k2, k3, k4, k5, k6, k7, k8, k9, k10]
def interned : List (Array UInt16 × Addr) := []
def slotsUsed : Nat := 130
def theMethod : MethodId := ⟨1, 2⟩
def args0 : Array Value := #[.int 5, .int 3, .int 1, .int 7]
def aboutOver (below : List Frame) : State where
  vm := { classes := classes, interned := interned.toArray }
  heap := heap
  slotsUsed := slotsUsed
  threads := #[{ frames := .invoking theMethod args0 :: below }]
def below0 : List Frame := [.native { method := ⟨0, 0⟩, args := #[] }]
def about1 : State := aboutOver below0
def p0 : Program := .bare "" "" ""
def e0 : Env := launch0.env 0 0 0
theorem w_frames : about1.frames = Frame.invoking theMethod args0 :: below0 := rfl
set_option maxRecDepth 65536 in
theorem w_args : argsFit about1.vm theMethod args0 = true := by decide +kernel
set_option maxRecDepth 65536 in
theorem w_heap : heapFits about1 = true := by decide +kernel
set_option maxRecDepth 65536 in
theorem w_runnable : about1.curStatus? = some .runnable := by decide +kernel
set_option maxRecDepth 65536 in
theorem w_alone : about1.alone = true := by decide +kernel
set_option maxRecDepth 65536 in
theorem w_named : about1.methodNamed? x = some theMethod := by decide +kernel
set_option maxRecDepth 65536 in
theorem w_hears : about1.hears theMethod below0 = true := by decide +kernel
set_option maxRecDepth 65536 in
theorem w_ripe : about1.ripe theMethod args0 below0 = true := by decide +kernel
theorem w_running : about1.status = .running := rfl
set_option maxRecDepth 65536 in
theorem w_room : about1.hasRoom e0.platform room_1 = true :=
  launch0.hasRoom_least _ room_1 (by decide +kernel) (by decide +kernel) (by decide +kernel) (by decide +kernel) (by decide +kernel) (by decide +kernel)
theorem allAtoms_all (ts : List Jvm.Cond) (a : Array Jvm.Value) (st : Jvm.State) : (allAtoms ts).before a st = ts.all (fun c => c.before a st) := by
  induction ts with
  | nil => rfl
  | cons c t ih =>
    show (Jvm.Cond.and c (allAtoms t)).before a st = _
    rw [Jvm.Cond.before_and, ih, List.all_cons]
def words1 : List Jvm.Cond := Jvm.Cond.code x code maxLocals ret :: tables_1
/-- a 'code' word, met by the world's own term for the bytes: nothing is compared byte by byte -/
theorem code_word {y : MethodName} {bytes : ByteArray} {mx : Nat} {rt : Option FieldType} {a : Array Value} {s : State} {m : MethodId} {meth : Method} {c : Code} (h1 : s.methodNamed? y = some m) (h2 : s.vm.method? m = some meth) (h3 : meth.code = some c) (h4 : c.code = bytes)
    (h5 : (c.maxLocals == mx && c.exceptionTable.isEmpty && decide (c.maxStack ≤ mostOperands) && decide (meth.sig.returnType = rt) && !meth.locks && decide (parseMethodDescriptor y.desc = some meth.sig)) = true) : (Jvm.Cond.code y bytes mx rt).before a s = true := by
  simp only [Bool.and_eq_true, beq_iff_eq, Bool.not_eq_true', decide_eq_true_eq] at h5
  obtain ⟨⟨⟨⟨⟨g1, g2⟩, g3⟩, g4⟩, g5⟩, g6⟩ := h5
  simp [Cond.before, Cond.holds, Cond.value, h1, h2, h3, h4, g1, g2, g3, g4, g5, g6]
def isCode : Jvm.Cond → Bool
  | .code _ _ _ _ => true
  | _ => false
theorem all_split {L : List Jvm.Cond} {P : Jvm.Cond → Bool} (h1 : L.all (fun c => isCode c || P c) = true) (h2 : ∀ c ∈ L.filter isCode, P c = true) : L.all P = true := by
  refine List.all_eq_true.mpr fun c hc => ?_
  have h := List.all_eq_true.mp h1 c hc
  rcases Bool.eq_false_or_eq_true (isCode c) with hi | hi
  · exact h2 c (List.mem_filter.mpr ⟨hc, hi⟩)
  · simpa [hi] using h
set_option maxRecDepth 65536 in
theorem w_c0 : (Jvm.Cond.code x code maxLocals ret).before args0 about1 = true := code_word (m := ⟨1, 2⟩) (meth := k1m2) (c := k1c2) (by decide +kernel) rfl rfl rfl (by decide +kernel)
set_option maxRecDepth 65536 in
theorem w_c1 : (Jvm.Cond.code ({ cls := "com/example/twyg/twyg/xml/XmlCharacters", name := "isNameStart", desc := "(I)Z" } : Jvm.MethodName) prog_262_method_3_code (1 : Nat) (Option.some Jvm.ClassFile.FieldType.boolean)).before args0 about1 = true := code_word (m := ⟨2, 1⟩) (meth := k2m1) (c := k2c1) (by decide +kernel) rfl rfl rfl (by decide +kernel)
set_option maxRecDepth 65536 in
theorem w_c2 : (Jvm.Cond.code ({ cls := "com/example/twyg/twyg/xml/XmlCharactersIsNameStartPinLaw", name := "ref", desc := "(I)Z" } : Jvm.MethodName) method_2_code (1 : Nat) (Option.some Jvm.ClassFile.FieldType.boolean)).before args0 about1 = true := code_word (m := ⟨1, 1⟩) (meth := k1m1) (c := k1c1) (by decide +kernel) rfl rfl rfl (by decide +kernel)
def codes1 : List Jvm.Cond := [Jvm.Cond.code x code maxLocals ret, Jvm.Cond.code ({ cls := "com/example/twyg/twyg/xml/XmlCharacters", name := "isNameStart", desc := "(I)Z" } : Jvm.MethodName) prog_262_method_3_code (1 : Nat) (Option.some Jvm.ClassFile.FieldType.boolean), Jvm.Cond.code ({ cls := "com/example/twyg/twyg/xml/XmlCharactersIsNameStartPinLaw", name := "ref", desc := "(I)Z" } : Jvm.MethodName) method_2_code (1 : Nat) (Option.some Jvm.ClassFile.FieldType.boolean)]
set_option maxRecDepth 65536 in
theorem codes_eq : words1.filter isCode = codes1 := rfl
theorem w_codes : ∀ c ∈ words1.filter isCode, c.before args0 about1 = true := by
  rw [codes_eq]
  intro c hc
  simp only [codes1, List.mem_cons, List.not_mem_nil, or_false] at hc
  rcases hc with rfl | rfl | rfl
  · exact w_c0
  · exact w_c1
  · exact w_c2
set_option maxRecDepth 65536 in
theorem w_t1 : (words1.take 24).all (fun c => isCode c || c.before args0 about1) = true := by decide +kernel
set_option maxRecDepth 65536 in
theorem w_t2 : (words1.drop 24).all (fun c => isCode c || c.before args0 about1) = true := by decide +kernel
theorem w_tables : (allAtoms (Jvm.Cond.code x code maxLocals ret :: tables_1)).before args0 about1 = true := by
  rw [allAtoms_all]
  show words1.all (fun c => c.before args0 about1) = true
  refine all_split ?_ w_codes
  rw [← List.take_append_drop 24 words1, List.all_append, w_t1, w_t2]
  rfl
set_option maxRecDepth 65536 in
theorem w_case : (Jvm.Cond.and given_1 narrow_1).before args0 about1 = true := by decide +kernel
theorem w_applies : (headSpec (Jvm.Cond.code x code maxLocals ret :: tables_1) room_1).applies x e0.platform about1 = true :=
  (Spec.applies_iff w_frames).mpr ⟨w_running, w_runnable, w_alone, w_named, w_hears, w_ripe, w_room, w_tables⟩
theorem atStart : AtStart classFile x code maxLocals ret World_1 tables_1 room_1 Calls_1 rest_1 Pre_1 launch0 p0 e0 about1 theMethod args0 below0 :=
  ⟨lists_1, trivial, launch0.admits_env _ _ _, launch0.least_env, fairChoices_fair.cas, fairChoices_fair.clock, w_frames, w_args, w_heap, w_applies, trivial, trivial, w_case⟩
end start1
theorem witness_1 : WitnessClaimed_1 := ⟨start1.p0, start1.e0, start1.about1, start1.theMethod, start1.args0, start1.below0, start1.atStart⟩
end Jvm.Pilot.@@N@@
