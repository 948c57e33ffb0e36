import JvmDerived
import JvmDerived.Pilot.@@N@@Statement
import JvmDerived.Pilot.@@N@@Code
set_option linter.unusedVariables false
set_option linter.unusedSimpArgs false
@@BLOCK:NumsL.lean.txt@@
namespace Jvm.RoadKit
open Sem ClassFile Op Lib Jvm.Stand Jvm.Free Jvm.LawKit
section New
variable {p : Program} {l : Launch} {e : Env} {R : Room} {s : State} {m : MethodId} {args : Array Value} {below : List Frame} {meth : Method} {c : Code} {T : State} {locs : List Loc} {cells slots : Nat}
theorem retI (X : Stand p l e R s m args below meth c T locs cells slots) (hx : p.tables.exec = Jvm.exec) {pc : Nat} {Ls : Array Slot} {z : Int32} {rest : List Value} (hret : meth.sig.returnType = some .int) (hd : decode c.code pc = .ok (.ireturn, 1)) {fs : List Frame}
    (hl : ∀ (f : JFrame) (acts : List Action), f.method = m → f.locked = none → f.entered = [] → (doReturn e (T.setTop f) acts (some (.int z))).1 = T.setFrames fs) : Steps p.tables e below (T.setTop (mkF m pc Ls (.int z :: rest))) (T.setFrames fs) := by
  have hm' : T.vm.method? m = some meth := X.method'
  have hn : narrow .int (.int z) = .int z := rfl
  show Steps p.tables e below (T.setTop { method := m, pc := pc, locals := Ls, stack := _ :: rest, locked := none }) _
  jvm_step X.here [X.here.top, hx, hd, hm', hret, hn]
  first | (intro acts; rw [hl _ acts rfl rfl rfl]) | rw [hl _ _ rfl rfl rfl]
  exact Steps.refl _
end New
end Jvm.RoadKit
namespace Jvm.Pilot.@@N@@
open Jvm Jvm.ClassFile Sem Op Lib Jvm.Free Jvm.Stand Jvm.LawKit Jvm.RoadKit Bundle Jvm.Pilot.@@N@@.Jvm.D
def own_VA (Z : State) (h : Heap) (a : Addr) (ty : FieldType) (vs : List Value) : Prop := ∃ cl : Cell, Arr Z h a cl ty ∧ cl.slots = vs.toArray
theorem own_VA_new {Z : State} {h : Heap} {a : Addr} {cA : ClassId} {ty : FieldType} {n : Int32} {k : Nat} (A : Arr Z h a (newA cA ty n) ty) (hk : n.toNatClampNeg = k) : own_VA Z h a ty (List.replicate k (defaultValue ty)) := ⟨_, A, by show Array.replicate n.toNatClampNeg (defaultValue ty) = _; rw [hk]; simp⟩
theorem own_VA_set {Z : State} {h h' : Heap} {a : Addr} {ty : FieldType} {vs : List Value} {k : Nat} {v : Value} (A : own_VA Z h a ty vs) (W : Wr h h' a k v) : own_VA Z h' a ty (vs.set k v) := by
  obtain ⟨cl, A, e⟩ := A
  exact ⟨_, A.same W, by show cl.slots.setIfInBounds k v = _; rw [e]; simp⟩
theorem own_VA_other {Z : State} {h h' : Heap} {a b : Addr} {ty : FieldType} {vs : List Value} {k : Nat} {v : Value} (A : own_VA Z h b ty vs) (W : Wr h h' a k v) (hne : b ≠ a) : own_VA Z h' b ty vs := by
  obtain ⟨cl, A, e⟩ := A
  exact ⟨_, A.other W hne, e⟩
theorem own_VA_ext {Z : State} {h h' : Heap} {a : Addr} {ty : FieldType} {vs : List Value} (A : own_VA Z h a ty vs) (E : Ext h h') : own_VA Z h' a ty vs := by
  obtain ⟨cl, A, e⟩ := A
  exact ⟨_, A.ext E, e⟩
theorem own_VA_keep {Z : State} {h h' : Heap} {a : Addr} {ty : FieldType} {vs : List Value} {ws : List Addr} (A : own_VA Z h a ty vs) (K : Keep h h' ws) (hn : a ∉ ws) : own_VA Z h' a ty vs := by
  obtain ⟨cl, A, e⟩ := A
  exact ⟨cl, ⟨K.2.1 _ _ A.1 hn, A.2⟩, e⟩
theorem own_VA_lt {Z : State} {h : Heap} {a : Addr} {ty : FieldType} {vs : List Value} (A : own_VA Z h a ty vs) : a < h.size := by
  obtain ⟨cl, A, e⟩ := A
  exact A.lt
section OwnArr
variable {p : Program} {l : Launch} {e : Env} {R : Room} {s : State} {m : MethodId} {args : Array Value} {below : List Frame} {meth : Method} {c : Code} {T : State} {locs : List Loc} {cells slots : Nat} {Z : State} {h : Heap}
theorem own_stI (X : Stand p l e R s m args below meth c T locs cells slots) (hx : p.tables.exec = Jvm.exec) (hZ : Z.Warmed39 s.vm) (eT : T.heap = h) {a : Addr} {vs : List Value} (A : own_VA Z h a .int vs) {j : Int32} {k n : Nat} {x : Int32} (hn : vs.length = n) (hj : ¬ (j < 0 ∨ n ≤ j.toNatClampNeg)) (hk : j.toNatClampNeg = k) {g : JFrame} (hg : g.method = m) {rest : List Value} (hs : g.stack = .int x :: .int j :: .ref a :: rest) (hd : decode c.code g.pc = .ok (.iastore, 1)) :
    ∃ T' h' ls, Stand p l e R s m args below meth c T' ls cells slots ∧ T'.heap = h' ∧ own_VA Z h' a .int (vs.set k (.int x)) ∧ Wr h h' a k (.int x) ∧ (∀ n0, Fr n0 locs → n0 ≤ a → Fr n0 ls) ∧ ∀ target, Steps p.tables e below (T'.setTop { g with pc := g.pc + 1, stack := rest }) target → Steps p.tables e below (T.setTop g) target := by
  subst hk
  obtain ⟨cl, A1, ec⟩ := A
  obtain ⟨T', h', X', e', W, st⟩ := stI X hx hZ eT A1 (j := j) (x := x) (by rw [ec]; simpa [hn] using hj) hg hs hd
  exact ⟨T', h', _, X', e', own_VA_set ⟨cl, A1, ec⟩ W, W, fun n0 N q => Fr.snoc X' N q, st⟩
theorem own_stJ (X : Stand p l e R s m args below meth c T locs cells slots) (hx : p.tables.exec = Jvm.exec) (hZ : Z.Warmed39 s.vm) (eT : T.heap = h) {a : Addr} {vs : List Value} (A : own_VA Z h a .long vs) {j : Int32} {k n : Nat} {x : Int64} (hn : vs.length = n) (hj : ¬ (j < 0 ∨ n ≤ j.toNatClampNeg)) (hk : j.toNatClampNeg = k) {g : JFrame} (hg : g.method = m) {rest : List Value} (hs : g.stack = .long x :: .int j :: .ref a :: rest) (hd : decode c.code g.pc = .ok (.lastore, 1)) :
    ∃ T' h' ls, Stand p l e R s m args below meth c T' ls cells slots ∧ T'.heap = h' ∧ own_VA Z h' a .long (vs.set k (.long x)) ∧ Wr h h' a k (.long x) ∧ (∀ n0, Fr n0 locs → n0 ≤ a → Fr n0 ls) ∧ ∀ target, Steps p.tables e below (T'.setTop { g with pc := g.pc + 1, stack := rest }) target → Steps p.tables e below (T.setTop g) target := by
  subst hk
  obtain ⟨cl, A1, ec⟩ := A
  obtain ⟨T', h', X', e', W, st⟩ := stJ X hx hZ eT A1 (j := j) (x := x) (by rw [ec]; simpa [hn] using hj) hg hs hd
  exact ⟨T', h', _, X', e', own_VA_set ⟨cl, A1, ec⟩ W, W, fun n0 N q => Fr.snoc X' N q, st⟩
theorem own_ldI (X : Stand p l e R s m args below meth c T locs cells slots) (hx : p.tables.exec = Jvm.exec) (hZ : Z.Warmed39 s.vm) (eT : T.heap = h) {a : Addr} {vs : List Value} (A : own_VA Z h a .int vs) {j : Int32} {n : Nat} {v : Value} (hn : vs.length = n) (hj : ¬ (j < 0 ∨ n ≤ j.toNatClampNeg)) (hv : vs[j.toNatClampNeg]? = some v) {g : JFrame} (hg : g.method = m) {rest : List Value} (hs : g.stack = .int j :: .ref a :: rest) (hd : decode c.code g.pc = .ok (.iaload, 1)) :
    ∀ target, Steps p.tables e below (T.setTop { g with pc := g.pc + 1, stack := v :: rest }) target → Steps p.tables e below (T.setTop g) target := by
  obtain ⟨cl, A1, ec⟩ := A
  intro target k
  exact X.iaload hx (by rw [eT]; exact A1.1) (State.isArrayOf_alike hZ.alike A1.2.1) A1.2.2 (by rw [ec]; simpa [hn] using hj) (by rw [ec]; simpa using hv) hg hs hd target k
theorem own_ldJ (X : Stand p l e R s m args below meth c T locs cells slots) (hx : p.tables.exec = Jvm.exec) (hZ : Z.Warmed39 s.vm) (eT : T.heap = h) {a : Addr} {vs : List Value} (A : own_VA Z h a .long vs) {j : Int32} {n : Nat} {v : Value} (hn : vs.length = n) (hj : ¬ (j < 0 ∨ n ≤ j.toNatClampNeg)) (hv : vs[j.toNatClampNeg]? = some v) {g : JFrame} (hg : g.method = m) {rest : List Value} (hs : g.stack = .int j :: .ref a :: rest) (hd : decode c.code g.pc = .ok (.laload, 1)) :
    ∀ target, Steps p.tables e below (T.setTop { g with pc := g.pc + 1, stack := v :: rest }) target → Steps p.tables e below (T.setTop g) target := by
  obtain ⟨cl, A1, ec⟩ := A
  intro target k
  exact X.laload hx (by rw [eT]; exact A1.1) (State.isArrayOf_alike hZ.alike A1.2.1) A1.2.2 (by rw [ec]; simpa [hn] using hj) (by rw [ec]; simpa using hv) hg hs hd target k
theorem own_len (X : Stand p l e R s m args below meth c T locs cells slots) (hx : p.tables.exec = Jvm.exec) (hZ : Z.Warmed39 s.vm) (eT : T.heap = h) {a : Addr} {vs : List Value} {ty : FieldType} (A : own_VA Z h a ty vs) {n : Nat} {k : Int32} (hn : vs.length = n) (hk : n.toInt32 = k) {g : JFrame} (hg : g.method = m) {rest : List Value} (hs : g.stack = .ref a :: rest) (hd : decode c.code g.pc = .ok (.arraylength, 1)) :
    ∀ target, Steps p.tables e below (T.setTop { g with pc := g.pc + 1, stack := .int k :: rest }) target → Steps p.tables e below (T.setTop g) target := by
  obtain ⟨cl, A1, ec⟩ := A
  intro target q
  have z : cl.slots.size.toInt32 = k := by rw [ec, ← hk, ← hn]; simp
  refine X.arraylength hx (by rw [eT]; exact A1.1) (State.isArrayOf_alike hZ.alike A1.2.1) hg hs hd target ?_
  rw [z]; exact q
end OwnArr
theorem own_some {us : List Int32} {vs : List Value} (e : vs = us.map Value.int) {n i : Nat} (hn : vs.length = n) (h : i < n) : ∃ w : Int32, vs[i]? = some (.int w) := by
  subst e hn
  have h' : i < us.length := by simpa using h
  exact ⟨us[i], by simp [h']⟩
theorem own_idx {j : Int32} {n : Nat} (h0 : 0 ≤ j.toInt) (h1 : j.toInt < n) : ¬ (j < 0 ∨ n ≤ j.toNatClampNeg) := by
  have z : (0 : Int32).toInt = 0 := by decide
  intro q
  rcases q with q | q
  · rw [Int32.lt_iff_toInt_lt] at q; omega
  · have : j.toNatClampNeg = j.toInt.toNat := rfl
    omega
theorem own_lt {j : Int32} {n : Nat} (h : ¬ (j < 0 ∨ n ≤ j.toNatClampNeg)) : j.toNatClampNeg < n := Nat.lt_of_not_le fun q => h (Or.inr q)
theorem own_rem (q n : Int32) (hq : 0 ≤ q.toInt) : (q - (q / n) * n).toInt = q.toInt % n.toInt := by
  rw [rem_toInt, Int.tmod_eq_emod_of_nonneg hq]
theorem own_nn (p : Int32) : 0 ≤ (p &&& (2147483647 : Int32)).toInt := by
  rw [Jvm.Kit.i32_mask p 2147483647 (k := 31) (by decide) (by decide)]; omega
theorem own_remin {q n : Int32} {k : Nat} (hq : 0 ≤ q.toInt) (hn : n.toInt = k) (hk : 0 < k) : ¬ ((q - (q / n) * n) < 0 ∨ k ≤ (q - (q / n) * n).toNatClampNeg) := by
  have h := own_rem q n hq
  rw [hn] at h
  have h1 := Int.emod_nonneg q.toInt (show (k : Int) ≠ 0 by omega)
  have h2 := Int.emod_lt_of_pos q.toInt (show (0 : Int) < k by omega)
  exact own_idx (by omega) (by omega)
theorem d1_0 : decode prog_94_method_4_code 0 = .ok (.iload_n 0, 1) := by decide +kernel
theorem d1_1 : decode prog_94_method_4_code 1 = .ok (.bipush 65, 2) := by decide +kernel
theorem d1_3 : decode prog_94_method_4_code 3 = .ok (.if_icmp .lt 9, 3) := by decide +kernel
theorem d1_6 : decode prog_94_method_4_code 6 = .ok (.iload_n 0, 1) := by decide +kernel
theorem d1_7 : decode prog_94_method_4_code 7 = .ok (.bipush 90, 2) := by decide +kernel
theorem d1_9 : decode prog_94_method_4_code 9 = .ok (.if_icmp .le 182, 3) := by decide +kernel
theorem d1_12 : decode prog_94_method_4_code 12 = .ok (.iload_n 0, 1) := by decide +kernel
theorem d1_13 : decode prog_94_method_4_code 13 = .ok (.bipush 95, 2) := by decide +kernel
theorem d1_15 : decode prog_94_method_4_code 15 = .ok (.if_icmp .eq 176, 3) := by decide +kernel
theorem d1_18 : decode prog_94_method_4_code 18 = .ok (.iload_n 0, 1) := by decide +kernel
theorem d1_19 : decode prog_94_method_4_code 19 = .ok (.bipush 97, 2) := by decide +kernel
theorem d1_21 : decode prog_94_method_4_code 21 = .ok (.if_icmp .lt 9, 3) := by decide +kernel
theorem d1_24 : decode prog_94_method_4_code 24 = .ok (.iload_n 0, 1) := by decide +kernel
theorem d1_25 : decode prog_94_method_4_code 25 = .ok (.bipush 122, 2) := by decide +kernel
theorem d1_27 : decode prog_94_method_4_code 27 = .ok (.if_icmp .le 164, 3) := by decide +kernel
theorem d1_30 : decode prog_94_method_4_code 30 = .ok (.iload_n 0, 1) := by decide +kernel
theorem d1_31 : decode prog_94_method_4_code 31 = .ok (.sipush 192, 3) := by decide +kernel
theorem d1_34 : decode prog_94_method_4_code 34 = .ok (.if_icmp .lt 10, 3) := by decide +kernel
theorem d1_37 : decode prog_94_method_4_code 37 = .ok (.iload_n 0, 1) := by decide +kernel
theorem d1_38 : decode prog_94_method_4_code 38 = .ok (.sipush 214, 3) := by decide +kernel
theorem d1_41 : decode prog_94_method_4_code 41 = .ok (.if_icmp .le 150, 3) := by decide +kernel
theorem d1_44 : decode prog_94_method_4_code 44 = .ok (.iload_n 0, 1) := by decide +kernel
theorem d1_45 : decode prog_94_method_4_code 45 = .ok (.sipush 216, 3) := by decide +kernel
theorem d1_48 : decode prog_94_method_4_code 48 = .ok (.if_icmp .lt 10, 3) := by decide +kernel
theorem d1_51 : decode prog_94_method_4_code 51 = .ok (.iload_n 0, 1) := by decide +kernel
theorem d1_52 : decode prog_94_method_4_code 52 = .ok (.sipush 246, 3) := by decide +kernel
theorem d1_55 : decode prog_94_method_4_code 55 = .ok (.if_icmp .le 136, 3) := by decide +kernel
theorem d1_58 : decode prog_94_method_4_code 58 = .ok (.iload_n 0, 1) := by decide +kernel
theorem d1_59 : decode prog_94_method_4_code 59 = .ok (.sipush 248, 3) := by decide +kernel
theorem d1_62 : decode prog_94_method_4_code 62 = .ok (.if_icmp .lt 10, 3) := by decide +kernel
theorem d1_65 : decode prog_94_method_4_code 65 = .ok (.iload_n 0, 1) := by decide +kernel
theorem d1_66 : decode prog_94_method_4_code 66 = .ok (.sipush 767, 3) := by decide +kernel
theorem d1_69 : decode prog_94_method_4_code 69 = .ok (.if_icmp .le 122, 3) := by decide +kernel
theorem d1_72 : decode prog_94_method_4_code 72 = .ok (.iload_n 0, 1) := by decide +kernel
theorem d1_73 : decode prog_94_method_4_code 73 = .ok (.sipush 880, 3) := by decide +kernel
theorem d1_76 : decode prog_94_method_4_code 76 = .ok (.if_icmp .lt 10, 3) := by decide +kernel
theorem d1_79 : decode prog_94_method_4_code 79 = .ok (.iload_n 0, 1) := by decide +kernel
theorem d1_80 : decode prog_94_method_4_code 80 = .ok (.sipush 893, 3) := by decide +kernel
theorem d1_83 : decode prog_94_method_4_code 83 = .ok (.if_icmp .le 108, 3) := by decide +kernel
theorem d1_86 : decode prog_94_method_4_code 86 = .ok (.iload_n 0, 1) := by decide +kernel
theorem d1_87 : decode prog_94_method_4_code 87 = .ok (.sipush 895, 3) := by decide +kernel
theorem d1_90 : decode prog_94_method_4_code 90 = .ok (.if_icmp .lt 10, 3) := by decide +kernel
theorem d1_93 : decode prog_94_method_4_code 93 = .ok (.iload_n 0, 1) := by decide +kernel
theorem d1_94 : decode prog_94_method_4_code 94 = .ok (.sipush 8191, 3) := by decide +kernel
theorem d1_97 : decode prog_94_method_4_code 97 = .ok (.if_icmp .le 94, 3) := by decide +kernel
theorem d1_100 : decode prog_94_method_4_code 100 = .ok (.iload_n 0, 1) := by decide +kernel
theorem d1_101 : decode prog_94_method_4_code 101 = .ok (.sipush 8204, 3) := by decide +kernel
theorem d1_104 : decode prog_94_method_4_code 104 = .ok (.if_icmp .lt 10, 3) := by decide +kernel
theorem d1_107 : decode prog_94_method_4_code 107 = .ok (.iload_n 0, 1) := by decide +kernel
theorem d1_108 : decode prog_94_method_4_code 108 = .ok (.sipush 8205, 3) := by decide +kernel
theorem d1_111 : decode prog_94_method_4_code 111 = .ok (.if_icmp .le 80, 3) := by decide +kernel
theorem d1_114 : decode prog_94_method_4_code 114 = .ok (.iload_n 0, 1) := by decide +kernel
theorem d1_115 : decode prog_94_method_4_code 115 = .ok (.sipush 8304, 3) := by decide +kernel
theorem d1_118 : decode prog_94_method_4_code 118 = .ok (.if_icmp .lt 10, 3) := by decide +kernel
theorem d1_121 : decode prog_94_method_4_code 121 = .ok (.iload_n 0, 1) := by decide +kernel
theorem d1_122 : decode prog_94_method_4_code 122 = .ok (.sipush 8591, 3) := by decide +kernel
theorem d1_125 : decode prog_94_method_4_code 125 = .ok (.if_icmp .le 66, 3) := by decide +kernel
theorem d1_128 : decode prog_94_method_4_code 128 = .ok (.iload_n 0, 1) := by decide +kernel
theorem d1_129 : decode prog_94_method_4_code 129 = .ok (.sipush 11264, 3) := by decide +kernel
theorem d1_132 : decode prog_94_method_4_code 132 = .ok (.if_icmp .lt 10, 3) := by decide +kernel
theorem d1_135 : decode prog_94_method_4_code 135 = .ok (.iload_n 0, 1) := by decide +kernel
theorem d1_136 : decode prog_94_method_4_code 136 = .ok (.sipush 12271, 3) := by decide +kernel
theorem d1_139 : decode prog_94_method_4_code 139 = .ok (.if_icmp .le 52, 3) := by decide +kernel
theorem d1_142 : decode prog_94_method_4_code 142 = .ok (.iload_n 0, 1) := by decide +kernel
theorem d1_143 : decode prog_94_method_4_code 143 = .ok (.sipush 12289, 3) := by decide +kernel
theorem d1_146 : decode prog_94_method_4_code 146 = .ok (.if_icmp .lt 9, 3) := by decide +kernel
theorem d1_149 : decode prog_94_method_4_code 149 = .ok (.iload_n 0, 1) := by decide +kernel
theorem d1_150 : decode prog_94_method_4_code 150 = .ok (.ldc 49, 2) := by decide +kernel
theorem d1_152 : decode prog_94_method_4_code 152 = .ok (.if_icmp .le 39, 3) := by decide +kernel
theorem d1_155 : decode prog_94_method_4_code 155 = .ok (.iload_n 0, 1) := by decide +kernel
theorem d1_156 : decode prog_94_method_4_code 156 = .ok (.ldc 56, 2) := by decide +kernel
theorem d1_158 : decode prog_94_method_4_code 158 = .ok (.if_icmp .lt 9, 3) := by decide +kernel
theorem d1_161 : decode prog_94_method_4_code 161 = .ok (.iload_n 0, 1) := by decide +kernel
theorem d1_162 : decode prog_94_method_4_code 162 = .ok (.ldc 57, 2) := by decide +kernel
theorem d1_164 : decode prog_94_method_4_code 164 = .ok (.if_icmp .le 27, 3) := by decide +kernel
theorem d1_167 : decode prog_94_method_4_code 167 = .ok (.iload_n 0, 1) := by decide +kernel
theorem d1_168 : decode prog_94_method_4_code 168 = .ok (.ldc 58, 2) := by decide +kernel
theorem d1_170 : decode prog_94_method_4_code 170 = .ok (.if_icmp .lt 9, 3) := by decide +kernel
theorem d1_173 : decode prog_94_method_4_code 173 = .ok (.iload_n 0, 1) := by decide +kernel
theorem d1_174 : decode prog_94_method_4_code 174 = .ok (.ldc 51, 2) := by decide +kernel
theorem d1_176 : decode prog_94_method_4_code 176 = .ok (.if_icmp .le 15, 3) := by decide +kernel
theorem d1_179 : decode prog_94_method_4_code 179 = .ok (.iload_n 0, 1) := by decide +kernel
theorem d1_180 : decode prog_94_method_4_code 180 = .ok (.ldc 52, 2) := by decide +kernel
theorem d1_182 : decode prog_94_method_4_code 182 = .ok (.if_icmp .lt 13, 3) := by decide +kernel
theorem d1_185 : decode prog_94_method_4_code 185 = .ok (.iload_n 0, 1) := by decide +kernel
theorem d1_186 : decode prog_94_method_4_code 186 = .ok (.ldc 59, 2) := by decide +kernel
theorem d1_188 : decode prog_94_method_4_code 188 = .ok (.if_icmp .gt 7, 3) := by decide +kernel
theorem d1_191 : decode prog_94_method_4_code 191 = .ok (.iconst 1, 1) := by decide +kernel
theorem d1_192 : decode prog_94_method_4_code 192 = .ok (.goto 4, 3) := by decide +kernel
theorem d1_195 : decode prog_94_method_4_code 195 = .ok (.iconst 0, 1) := by decide +kernel
theorem d1_196 : decode prog_94_method_4_code 196 = .ok (.ireturn, 1) := by decide +kernel
theorem pn_1 : plainName "com/example/axislint/axislint/schema/XmlNames" = true := by first | (simp [plainName, overriddenIn]; done) | decide +kernel
def f1_196 (x0 : Int32) (y0 : Int32) : Int32 := nar .boolean y0
theorem b1_196 {p : Program} {l : Launch} {e : Env} {R : Room} {s : State} {m : MethodId} {args : Array Value} {below : List Frame} {meth : Method} {c : Code} {T : State} {locs : List Loc} {cells slots : Nat} (X : Stand p l e R s m args below meth c T locs cells slots) (hx : p.tables.exec = Jvm.exec) (hby : c.code = prog_94_method_4_code) (hown : s.vm.findClass "com/example/axislint/axislint/schema/XmlNames" = some m.cls) (hret : meth.sig.returnType = some .boolean) {fs : List Frame} {z : Int32} (hl : ∀ (f : JFrame) (acts : List Action), f.method = m → f.locked = none → f.entered = [] → (doReturn e (T.setTop f) acts (some (.int z))).1 = T.setFrames fs) (k49 : (Jvm.Cond.constant "com/example/axislint/axislint/schema/XmlNames" 49 (55295 : Int32)).before args s = true) (k51 : (Jvm.Cond.constant "com/example/axislint/axislint/schema/XmlNames" 51 (65533 : Int32)).before args s = true) (k52 : (Jvm.Cond.constant "com/example/axislint/axislint/schema/XmlNames" 52 (65536 : Int32)).before args s = true) (k56 : (Jvm.Cond.constant "com/example/axislint/axislint/schema/XmlNames" 56 (63744 : Int32)).before args s = true) (k57 : (Jvm.Cond.constant "com/example/axislint/axislint/schema/XmlNames" 57 (64975 : Int32)).before args s = true) (k58 : (Jvm.Cond.constant "com/example/axislint/axislint/schema/XmlNames" 58 (65008 : Int32)).before args s = true) (k59 : (Jvm.Cond.constant "com/example/axislint/axislint/schema/XmlNames" 59 (983039 : Int32)).before args s = true) (x0 : Int32) (y0 : Int32) (hz : f1_196 x0 y0 = z) :
    Steps p.tables e below (T.setTop (mkF m 196 #[.val (.int x0)] [(.int y0)])) (T.setFrames fs) := by
  unfold f1_196 at hz
  subst hz
  exact retN X hx hret (by simp) (hb hby d1_196) hl
def f1_191 (x0 : Int32) : Int32 := f1_196 x0 (1 : Int32)
theorem b1_191 {p : Program} {l : Launch} {e : Env} {R : Room} {s : State} {m : MethodId} {args : Array Value} {below : List Frame} {meth : Method} {c : Code} {T : State} {locs : List Loc} {cells slots : Nat} (X : Stand p l e R s m args below meth c T locs cells slots) (hx : p.tables.exec = Jvm.exec) (hby : c.code = prog_94_method_4_code) (hown : s.vm.findClass "com/example/axislint/axislint/schema/XmlNames" = some m.cls) (hret : meth.sig.returnType = some .boolean) {fs : List Frame} {z : Int32} (hl : ∀ (f : JFrame) (acts : List Action), f.method = m → f.locked = none → f.entered = [] → (doReturn e (T.setTop f) acts (some (.int z))).1 = T.setFrames fs) (k49 : (Jvm.Cond.constant "com/example/axislint/axislint/schema/XmlNames" 49 (55295 : Int32)).before args s = true) (k51 : (Jvm.Cond.constant "com/example/axislint/axislint/schema/XmlNames" 51 (65533 : Int32)).before args s = true) (k52 : (Jvm.Cond.constant "com/example/axislint/axislint/schema/XmlNames" 52 (65536 : Int32)).before args s = true) (k56 : (Jvm.Cond.constant "com/example/axislint/axislint/schema/XmlNames" 56 (63744 : Int32)).before args s = true) (k57 : (Jvm.Cond.constant "com/example/axislint/axislint/schema/XmlNames" 57 (64975 : Int32)).before args s = true) (k58 : (Jvm.Cond.constant "com/example/axislint/axislint/schema/XmlNames" 58 (65008 : Int32)).before args s = true) (k59 : (Jvm.Cond.constant "com/example/axislint/axislint/schema/XmlNames" 59 (983039 : Int32)).before args s = true) (x0 : Int32) (hz : f1_191 x0 = z) :
    Steps p.tables e below (T.setTop (mkF m 191 #[.val (.int x0)] [])) (T.setFrames fs) := by
  unfold f1_191 at hz
  refine XS.iconst X.here hx rfl (hb hby d1_191) ?_
  show Steps p.tables e below (T.setTop (mkF m 192 #[.val (.int x0)] [(.int (1 : Int32))])) _
  refine XS.goto X.here hx rfl (pc0 := 192) (pc' := 196) rfl (hb hby d1_192) (by decide) (by decide) ?_
  show Steps p.tables e below (T.setTop (mkF m 196 #[.val (.int x0)] [(.int (1 : Int32))])) _
  exact b1_196 X hx hby hown hret hl k49 k51 k52 k56 k57 k58 k59 x0 (1 : Int32)  hz
def f1_195 (x0 : Int32) : Int32 := f1_196 x0 (0 : Int32)
theorem b1_195 {p : Program} {l : Launch} {e : Env} {R : Room} {s : State} {m : MethodId} {args : Array Value} {below : List Frame} {meth : Method} {c : Code} {T : State} {locs : List Loc} {cells slots : Nat} (X : Stand p l e R s m args below meth c T locs cells slots) (hx : p.tables.exec = Jvm.exec) (hby : c.code = prog_94_method_4_code) (hown : s.vm.findClass "com/example/axislint/axislint/schema/XmlNames" = some m.cls) (hret : meth.sig.returnType = some .boolean) {fs : List Frame} {z : Int32} (hl : ∀ (f : JFrame) (acts : List Action), f.method = m → f.locked = none → f.entered = [] → (doReturn e (T.setTop f) acts (some (.int z))).1 = T.setFrames fs) (k49 : (Jvm.Cond.constant "com/example/axislint/axislint/schema/XmlNames" 49 (55295 : Int32)).before args s = true) (k51 : (Jvm.Cond.constant "com/example/axislint/axislint/schema/XmlNames" 51 (65533 : Int32)).before args s = true) (k52 : (Jvm.Cond.constant "com/example/axislint/axislint/schema/XmlNames" 52 (65536 : Int32)).before args s = true) (k56 : (Jvm.Cond.constant "com/example/axislint/axislint/schema/XmlNames" 56 (63744 : Int32)).before args s = true) (k57 : (Jvm.Cond.constant "com/example/axislint/axislint/schema/XmlNames" 57 (64975 : Int32)).before args s = true) (k58 : (Jvm.Cond.constant "com/example/axislint/axislint/schema/XmlNames" 58 (65008 : Int32)).before args s = true) (k59 : (Jvm.Cond.constant "com/example/axislint/axislint/schema/XmlNames" 59 (983039 : Int32)).before args s = true) (x0 : Int32) (hz : f1_195 x0 = z) :
    Steps p.tables e below (T.setTop (mkF m 195 #[.val (.int x0)] [])) (T.setFrames fs) := by
  unfold f1_195 at hz
  refine XS.iconst X.here hx rfl (hb hby d1_195) ?_
  show Steps p.tables e below (T.setTop (mkF m 196 #[.val (.int x0)] [(.int (0 : Int32))])) _
  exact b1_196 X hx hby hown hret hl k49 k51 k52 k56 k57 k58 k59 x0 (0 : Int32)  hz
def f1_179 (x0 : Int32) : Int32 := if x0 < (65536 : Int32) then f1_195 x0 else (if (983039 : Int32) < x0 then f1_195 x0 else f1_191 x0)
theorem b1_179 {p : Program} {l : Launch} {e : Env} {R : Room} {s : State} {m : MethodId} {args : Array Value} {below : List Frame} {meth : Method} {c : Code} {T : State} {locs : List Loc} {cells slots : Nat} (X : Stand p l e R s m args below meth c T locs cells slots) (hx : p.tables.exec = Jvm.exec) (hby : c.code = prog_94_method_4_code) (hown : s.vm.findClass "com/example/axislint/axislint/schema/XmlNames" = some m.cls) (hret : meth.sig.returnType = some .boolean) {fs : List Frame} {z : Int32} (hl : ∀ (f : JFrame) (acts : List Action), f.method = m → f.locked = none → f.entered = [] → (doReturn e (T.setTop f) acts (some (.int z))).1 = T.setFrames fs) (k49 : (Jvm.Cond.constant "com/example/axislint/axislint/schema/XmlNames" 49 (55295 : Int32)).before args s = true) (k51 : (Jvm.Cond.constant "com/example/axislint/axislint/schema/XmlNames" 51 (65533 : Int32)).before args s = true) (k52 : (Jvm.Cond.constant "com/example/axislint/axislint/schema/XmlNames" 52 (65536 : Int32)).before args s = true) (k56 : (Jvm.Cond.constant "com/example/axislint/axislint/schema/XmlNames" 56 (63744 : Int32)).before args s = true) (k57 : (Jvm.Cond.constant "com/example/axislint/axislint/schema/XmlNames" 57 (64975 : Int32)).before args s = true) (k58 : (Jvm.Cond.constant "com/example/axislint/axislint/schema/XmlNames" 58 (65008 : Int32)).before args s = true) (k59 : (Jvm.Cond.constant "com/example/axislint/axislint/schema/XmlNames" 59 (983039 : Int32)).before args s = true) (x0 : Int32) (hz : f1_179 x0 = z) :
    Steps p.tables e below (T.setTop (mkF m 179 #[.val (.int x0)] [])) (T.setFrames fs) := by
  unfold f1_179 at hz
  refine XS.iloadN X.here hx rfl (hb hby d1_179) rfl ?_
  show Steps p.tables e below (T.setTop (mkF m 180 #[.val (.int x0)] [(.int x0)])) _
  refine X.ldcInt hx hown k52 (g := (mkF m 180 #[.val (.int x0)] [(.int x0)])) rfl (hb hby d1_180) _ ?_
  show Steps p.tables e below (T.setTop (mkF m 182 #[.val (.int x0)] [(.int (65536 : Int32)), (.int x0)])) _
  by_cases h182 : x0 < (65536 : Int32)
  · rw [if_pos h182] at hz
    refine XS.icmpYes X.here hx rfl (pc0 := 182) (pc' := 195) rfl (hb hby d1_182) rfl (tlt h182).1 (by decide) (by decide) ?_
    show Steps p.tables e below (T.setTop (mkF m 195 #[.val (.int x0)] [])) _
    exact b1_195 X hx hby hown hret hl k49 k51 k52 k56 k57 k58 k59 x0  hz
  · rw [if_neg h182] at hz
    refine XS.icmpNo X.here hx rfl (hb hby d1_182) rfl (flt h182).1 ?_
    show Steps p.tables e below (T.setTop (mkF m 185 #[.val (.int x0)] [])) _
    refine XS.iloadN X.here hx rfl (hb hby d1_185) rfl ?_
    show Steps p.tables e below (T.setTop (mkF m 186 #[.val (.int x0)] [(.int x0)])) _
    refine X.ldcInt hx hown k59 (g := (mkF m 186 #[.val (.int x0)] [(.int x0)])) rfl (hb hby d1_186) _ ?_
    show Steps p.tables e below (T.setTop (mkF m 188 #[.val (.int x0)] [(.int (983039 : Int32)), (.int x0)])) _
    by_cases h188 : (983039 : Int32) < x0
    · rw [if_pos h188] at hz
      refine XS.icmpYes X.here hx rfl (pc0 := 188) (pc' := 195) rfl (hb hby d1_188) rfl (tlt h188).2.2.1 (by decide) (by decide) ?_
      show Steps p.tables e below (T.setTop (mkF m 195 #[.val (.int x0)] [])) _
      exact b1_195 X hx hby hown hret hl k49 k51 k52 k56 k57 k58 k59 x0  hz
    · rw [if_neg h188] at hz
      refine XS.icmpNo X.here hx rfl (hb hby d1_188) rfl (flt h188).2.2.1 ?_
      show Steps p.tables e below (T.setTop (mkF m 191 #[.val (.int x0)] [])) _
      exact b1_191 X hx hby hown hret hl k49 k51 k52 k56 k57 k58 k59 x0  hz
def f1_167 (x0 : Int32) : Int32 := if x0 < (65008 : Int32) then f1_179 x0 else (if (65533 : Int32) < x0 then f1_179 x0 else f1_191 x0)
theorem b1_167 {p : Program} {l : Launch} {e : Env} {R : Room} {s : State} {m : MethodId} {args : Array Value} {below : List Frame} {meth : Method} {c : Code} {T : State} {locs : List Loc} {cells slots : Nat} (X : Stand p l e R s m args below meth c T locs cells slots) (hx : p.tables.exec = Jvm.exec) (hby : c.code = prog_94_method_4_code) (hown : s.vm.findClass "com/example/axislint/axislint/schema/XmlNames" = some m.cls) (hret : meth.sig.returnType = some .boolean) {fs : List Frame} {z : Int32} (hl : ∀ (f : JFrame) (acts : List Action), f.method = m → f.locked = none → f.entered = [] → (doReturn e (T.setTop f) acts (some (.int z))).1 = T.setFrames fs) (k49 : (Jvm.Cond.constant "com/example/axislint/axislint/schema/XmlNames" 49 (55295 : Int32)).before args s = true) (k51 : (Jvm.Cond.constant "com/example/axislint/axislint/schema/XmlNames" 51 (65533 : Int32)).before args s = true) (k52 : (Jvm.Cond.constant "com/example/axislint/axislint/schema/XmlNames" 52 (65536 : Int32)).before args s = true) (k56 : (Jvm.Cond.constant "com/example/axislint/axislint/schema/XmlNames" 56 (63744 : Int32)).before args s = true) (k57 : (Jvm.Cond.constant "com/example/axislint/axislint/schema/XmlNames" 57 (64975 : Int32)).before args s = true) (k58 : (Jvm.Cond.constant "com/example/axislint/axislint/schema/XmlNames" 58 (65008 : Int32)).before args s = true) (k59 : (Jvm.Cond.constant "com/example/axislint/axislint/schema/XmlNames" 59 (983039 : Int32)).before args s = true) (x0 : Int32) (hz : f1_167 x0 = z) :
    Steps p.tables e below (T.setTop (mkF m 167 #[.val (.int x0)] [])) (T.setFrames fs) := by
  unfold f1_167 at hz
  refine XS.iloadN X.here hx rfl (hb hby d1_167) rfl ?_
  show Steps p.tables e below (T.setTop (mkF m 168 #[.val (.int x0)] [(.int x0)])) _
  refine X.ldcInt hx hown k58 (g := (mkF m 168 #[.val (.int x0)] [(.int x0)])) rfl (hb hby d1_168) _ ?_
  show Steps p.tables e below (T.setTop (mkF m 170 #[.val (.int x0)] [(.int (65008 : Int32)), (.int x0)])) _
  by_cases h170 : x0 < (65008 : Int32)
  · rw [if_pos h170] at hz
    refine XS.icmpYes X.here hx rfl (pc0 := 170) (pc' := 179) rfl (hb hby d1_170) rfl (tlt h170).1 (by decide) (by decide) ?_
    show Steps p.tables e below (T.setTop (mkF m 179 #[.val (.int x0)] [])) _
    exact b1_179 X hx hby hown hret hl k49 k51 k52 k56 k57 k58 k59 x0  hz
  · rw [if_neg h170] at hz
    refine XS.icmpNo X.here hx rfl (hb hby d1_170) rfl (flt h170).1 ?_
    show Steps p.tables e below (T.setTop (mkF m 173 #[.val (.int x0)] [])) _
    refine XS.iloadN X.here hx rfl (hb hby d1_173) rfl ?_
    show Steps p.tables e below (T.setTop (mkF m 174 #[.val (.int x0)] [(.int x0)])) _
    refine X.ldcInt hx hown k51 (g := (mkF m 174 #[.val (.int x0)] [(.int x0)])) rfl (hb hby d1_174) _ ?_
    show Steps p.tables e below (T.setTop (mkF m 176 #[.val (.int x0)] [(.int (65533 : Int32)), (.int x0)])) _
    by_cases h176 : (65533 : Int32) < x0
    · rw [if_pos h176] at hz
      refine XS.icmpNo X.here hx rfl (hb hby d1_176) rfl (tlt h176).2.2.2 ?_
      show Steps p.tables e below (T.setTop (mkF m 179 #[.val (.int x0)] [])) _
      exact b1_179 X hx hby hown hret hl k49 k51 k52 k56 k57 k58 k59 x0  hz
    · rw [if_neg h176] at hz
      refine XS.icmpYes X.here hx rfl (pc0 := 176) (pc' := 191) rfl (hb hby d1_176) rfl (flt h176).2.2.2 (by decide) (by decide) ?_
      show Steps p.tables e below (T.setTop (mkF m 191 #[.val (.int x0)] [])) _
      exact b1_191 X hx hby hown hret hl k49 k51 k52 k56 k57 k58 k59 x0  hz
def f1_155 (x0 : Int32) : Int32 := if x0 < (63744 : Int32) then f1_167 x0 else (if (64975 : Int32) < x0 then f1_167 x0 else f1_191 x0)
theorem b1_155 {p : Program} {l : Launch} {e : Env} {R : Room} {s : State} {m : MethodId} {args : Array Value} {below : List Frame} {meth : Method} {c : Code} {T : State} {locs : List Loc} {cells slots : Nat} (X : Stand p l e R s m args below meth c T locs cells slots) (hx : p.tables.exec = Jvm.exec) (hby : c.code = prog_94_method_4_code) (hown : s.vm.findClass "com/example/axislint/axislint/schema/XmlNames" = some m.cls) (hret : meth.sig.returnType = some .boolean) {fs : List Frame} {z : Int32} (hl : ∀ (f : JFrame) (acts : List Action), f.method = m → f.locked = none → f.entered = [] → (doReturn e (T.setTop f) acts (some (.int z))).1 = T.setFrames fs) (k49 : (Jvm.Cond.constant "com/example/axislint/axislint/schema/XmlNames" 49 (55295 : Int32)).before args s = true) (k51 : (Jvm.Cond.constant "com/example/axislint/axislint/schema/XmlNames" 51 (65533 : Int32)).before args s = true) (k52 : (Jvm.Cond.constant "com/example/axislint/axislint/schema/XmlNames" 52 (65536 : Int32)).before args s = true) (k56 : (Jvm.Cond.constant "com/example/axislint/axislint/schema/XmlNames" 56 (63744 : Int32)).before args s = true) (k57 : (Jvm.Cond.constant "com/example/axislint/axislint/schema/XmlNames" 57 (64975 : Int32)).before args s = true) (k58 : (Jvm.Cond.constant "com/example/axislint/axislint/schema/XmlNames" 58 (65008 : Int32)).before args s = true) (k59 : (Jvm.Cond.constant "com/example/axislint/axislint/schema/XmlNames" 59 (983039 : Int32)).before args s = true) (x0 : Int32) (hz : f1_155 x0 = z) :
    Steps p.tables e below (T.setTop (mkF m 155 #[.val (.int x0)] [])) (T.setFrames fs) := by
  unfold f1_155 at hz
  refine XS.iloadN X.here hx rfl (hb hby d1_155) rfl ?_
  show Steps p.tables e below (T.setTop (mkF m 156 #[.val (.int x0)] [(.int x0)])) _
  refine X.ldcInt hx hown k56 (g := (mkF m 156 #[.val (.int x0)] [(.int x0)])) rfl (hb hby d1_156) _ ?_
  show Steps p.tables e below (T.setTop (mkF m 158 #[.val (.int x0)] [(.int (63744 : Int32)), (.int x0)])) _
  by_cases h158 : x0 < (63744 : Int32)
  · rw [if_pos h158] at hz
    refine XS.icmpYes X.here hx rfl (pc0 := 158) (pc' := 167) rfl (hb hby d1_158) rfl (tlt h158).1 (by decide) (by decide) ?_
    show Steps p.tables e below (T.setTop (mkF m 167 #[.val (.int x0)] [])) _
    exact b1_167 X hx hby hown hret hl k49 k51 k52 k56 k57 k58 k59 x0  hz
  · rw [if_neg h158] at hz
    refine XS.icmpNo X.here hx rfl (hb hby d1_158) rfl (flt h158).1 ?_
    show Steps p.tables e below (T.setTop (mkF m 161 #[.val (.int x0)] [])) _
    refine XS.iloadN X.here hx rfl (hb hby d1_161) rfl ?_
    show Steps p.tables e below (T.setTop (mkF m 162 #[.val (.int x0)] [(.int x0)])) _
    refine X.ldcInt hx hown k57 (g := (mkF m 162 #[.val (.int x0)] [(.int x0)])) rfl (hb hby d1_162) _ ?_
    show Steps p.tables e below (T.setTop (mkF m 164 #[.val (.int x0)] [(.int (64975 : Int32)), (.int x0)])) _
    by_cases h164 : (64975 : Int32) < x0
    · rw [if_pos h164] at hz
      refine XS.icmpNo X.here hx rfl (hb hby d1_164) rfl (tlt h164).2.2.2 ?_
      show Steps p.tables e below (T.setTop (mkF m 167 #[.val (.int x0)] [])) _
      exact b1_167 X hx hby hown hret hl k49 k51 k52 k56 k57 k58 k59 x0  hz
    · rw [if_neg h164] at hz
      refine XS.icmpYes X.here hx rfl (pc0 := 164) (pc' := 191) rfl (hb hby d1_164) rfl (flt h164).2.2.2 (by decide) (by decide) ?_
      show Steps p.tables e below (T.setTop (mkF m 191 #[.val (.int x0)] [])) _
      exact b1_191 X hx hby hown hret hl k49 k51 k52 k56 k57 k58 k59 x0  hz
def f1_142 (x0 : Int32) : Int32 := if x0 < (12289 : Int32) then f1_155 x0 else (if (55295 : Int32) < x0 then f1_155 x0 else f1_191 x0)
theorem b1_142 {p : Program} {l : Launch} {e : Env} {R : Room} {s : State} {m : MethodId} {args : Array Value} {below : List Frame} {meth : Method} {c : Code} {T : State} {locs : List Loc} {cells slots : Nat} (X : Stand p l e R s m args below meth c T locs cells slots) (hx : p.tables.exec = Jvm.exec) (hby : c.code = prog_94_method_4_code) (hown : s.vm.findClass "com/example/axislint/axislint/schema/XmlNames" = some m.cls) (hret : meth.sig.returnType = some .boolean) {fs : List Frame} {z : Int32} (hl : ∀ (f : JFrame) (acts : List Action), f.method = m → f.locked = none → f.entered = [] → (doReturn e (T.setTop f) acts (some (.int z))).1 = T.setFrames fs) (k49 : (Jvm.Cond.constant "com/example/axislint/axislint/schema/XmlNames" 49 (55295 : Int32)).before args s = true) (k51 : (Jvm.Cond.constant "com/example/axislint/axislint/schema/XmlNames" 51 (65533 : Int32)).before args s = true) (k52 : (Jvm.Cond.constant "com/example/axislint/axislint/schema/XmlNames" 52 (65536 : Int32)).before args s = true) (k56 : (Jvm.Cond.constant "com/example/axislint/axislint/schema/XmlNames" 56 (63744 : Int32)).before args s = true) (k57 : (Jvm.Cond.constant "com/example/axislint/axislint/schema/XmlNames" 57 (64975 : Int32)).before args s = true) (k58 : (Jvm.Cond.constant "com/example/axislint/axislint/schema/XmlNames" 58 (65008 : Int32)).before args s = true) (k59 : (Jvm.Cond.constant "com/example/axislint/axislint/schema/XmlNames" 59 (983039 : Int32)).before args s = true) (x0 : Int32) (hz : f1_142 x0 = z) :
    Steps p.tables e below (T.setTop (mkF m 142 #[.val (.int x0)] [])) (T.setFrames fs) := by
  unfold f1_142 at hz
  refine XS.iloadN X.here hx rfl (hb hby d1_142) rfl ?_
  show Steps p.tables e below (T.setTop (mkF m 143 #[.val (.int x0)] [(.int x0)])) _
  refine XS.sipush X.here hx rfl (hb hby d1_143) ?_
  show Steps p.tables e below (T.setTop (mkF m 146 #[.val (.int x0)] [(.int (12289 : Int32)), (.int x0)])) _
  by_cases h146 : x0 < (12289 : Int32)
  · rw [if_pos h146] at hz
    refine XS.icmpYes X.here hx rfl (pc0 := 146) (pc' := 155) rfl (hb hby d1_146) rfl (tlt h146).1 (by decide) (by decide) ?_
    show Steps p.tables e below (T.setTop (mkF m 155 #[.val (.int x0)] [])) _
    exact b1_155 X hx hby hown hret hl k49 k51 k52 k56 k57 k58 k59 x0  hz
  · rw [if_neg h146] at hz
    refine XS.icmpNo X.here hx rfl (hb hby d1_146) rfl (flt h146).1 ?_
    show Steps p.tables e below (T.setTop (mkF m 149 #[.val (.int x0)] [])) _
    refine XS.iloadN X.here hx rfl (hb hby d1_149) rfl ?_
    show Steps p.tables e below (T.setTop (mkF m 150 #[.val (.int x0)] [(.int x0)])) _
    refine X.ldcInt hx hown k49 (g := (mkF m 150 #[.val (.int x0)] [(.int x0)])) rfl (hb hby d1_150) _ ?_
    show Steps p.tables e below (T.setTop (mkF m 152 #[.val (.int x0)] [(.int (55295 : Int32)), (.int x0)])) _
    by_cases h152 : (55295 : Int32) < x0
    · rw [if_pos h152] at hz
      refine XS.icmpNo X.here hx rfl (hb hby d1_152) rfl (tlt h152).2.2.2 ?_
      show Steps p.tables e below (T.setTop (mkF m 155 #[.val (.int x0)] [])) _
      exact b1_155 X hx hby hown hret hl k49 k51 k52 k56 k57 k58 k59 x0  hz
    · rw [if_neg h152] at hz
      refine XS.icmpYes X.here hx rfl (pc0 := 152) (pc' := 191) rfl (hb hby d1_152) rfl (flt h152).2.2.2 (by decide) (by decide) ?_
      show Steps p.tables e below (T.setTop (mkF m 191 #[.val (.int x0)] [])) _
      exact b1_191 X hx hby hown hret hl k49 k51 k52 k56 k57 k58 k59 x0  hz
def f1_128 (x0 : Int32) : Int32 := if x0 < (11264 : Int32) then f1_142 x0 else (if (12271 : Int32) < x0 then f1_142 x0 else f1_191 x0)
theorem b1_128 {p : Program} {l : Launch} {e : Env} {R : Room} {s : State} {m : MethodId} {args : Array Value} {below : List Frame} {meth : Method} {c : Code} {T : State} {locs : List Loc} {cells slots : Nat} (X : Stand p l e R s m args below meth c T locs cells slots) (hx : p.tables.exec = Jvm.exec) (hby : c.code = prog_94_method_4_code) (hown : s.vm.findClass "com/example/axislint/axislint/schema/XmlNames" = some m.cls) (hret : meth.sig.returnType = some .boolean) {fs : List Frame} {z : Int32} (hl : ∀ (f : JFrame) (acts : List Action), f.method = m → f.locked = none → f.entered = [] → (doReturn e (T.setTop f) acts (some (.int z))).1 = T.setFrames fs) (k49 : (Jvm.Cond.constant "com/example/axislint/axislint/schema/XmlNames" 49 (55295 : Int32)).before args s = true) (k51 : (Jvm.Cond.constant "com/example/axislint/axislint/schema/XmlNames" 51 (65533 : Int32)).before args s = true) (k52 : (Jvm.Cond.constant "com/example/axislint/axislint/schema/XmlNames" 52 (65536 : Int32)).before args s = true) (k56 : (Jvm.Cond.constant "com/example/axislint/axislint/schema/XmlNames" 56 (63744 : Int32)).before args s = true) (k57 : (Jvm.Cond.constant "com/example/axislint/axislint/schema/XmlNames" 57 (64975 : Int32)).before args s = true) (k58 : (Jvm.Cond.constant "com/example/axislint/axislint/schema/XmlNames" 58 (65008 : Int32)).before args s = true) (k59 : (Jvm.Cond.constant "com/example/axislint/axislint/schema/XmlNames" 59 (983039 : Int32)).before args s = true) (x0 : Int32) (hz : f1_128 x0 = z) :
    Steps p.tables e below (T.setTop (mkF m 128 #[.val (.int x0)] [])) (T.setFrames fs) := by
  unfold f1_128 at hz
  refine XS.iloadN X.here hx rfl (hb hby d1_128) rfl ?_
  show Steps p.tables e below (T.setTop (mkF m 129 #[.val (.int x0)] [(.int x0)])) _
  refine XS.sipush X.here hx rfl (hb hby d1_129) ?_
  show Steps p.tables e below (T.setTop (mkF m 132 #[.val (.int x0)] [(.int (11264 : Int32)), (.int x0)])) _
  by_cases h132 : x0 < (11264 : Int32)
  · rw [if_pos h132] at hz
    refine XS.icmpYes X.here hx rfl (pc0 := 132) (pc' := 142) rfl (hb hby d1_132) rfl (tlt h132).1 (by decide) (by decide) ?_
    show Steps p.tables e below (T.setTop (mkF m 142 #[.val (.int x0)] [])) _
    exact b1_142 X hx hby hown hret hl k49 k51 k52 k56 k57 k58 k59 x0  hz
  · rw [if_neg h132] at hz
    refine XS.icmpNo X.here hx rfl (hb hby d1_132) rfl (flt h132).1 ?_
    show Steps p.tables e below (T.setTop (mkF m 135 #[.val (.int x0)] [])) _
    refine XS.iloadN X.here hx rfl (hb hby d1_135) rfl ?_
    show Steps p.tables e below (T.setTop (mkF m 136 #[.val (.int x0)] [(.int x0)])) _
    refine XS.sipush X.here hx rfl (hb hby d1_136) ?_
    show Steps p.tables e below (T.setTop (mkF m 139 #[.val (.int x0)] [(.int (12271 : Int32)), (.int x0)])) _
    by_cases h139 : (12271 : Int32) < x0
    · rw [if_pos h139] at hz
      refine XS.icmpNo X.here hx rfl (hb hby d1_139) rfl (tlt h139).2.2.2 ?_
      show Steps p.tables e below (T.setTop (mkF m 142 #[.val (.int x0)] [])) _
      exact b1_142 X hx hby hown hret hl k49 k51 k52 k56 k57 k58 k59 x0  hz
    · rw [if_neg h139] at hz
      refine XS.icmpYes X.here hx rfl (pc0 := 139) (pc' := 191) rfl (hb hby d1_139) rfl (flt h139).2.2.2 (by decide) (by decide) ?_
      show Steps p.tables e below (T.setTop (mkF m 191 #[.val (.int x0)] [])) _
      exact b1_191 X hx hby hown hret hl k49 k51 k52 k56 k57 k58 k59 x0  hz
def f1_114 (x0 : Int32) : Int32 := if x0 < (8304 : Int32) then f1_128 x0 else (if (8591 : Int32) < x0 then f1_128 x0 else f1_191 x0)
theorem b1_114 {p : Program} {l : Launch} {e : Env} {R : Room} {s : State} {m : MethodId} {args : Array Value} {below : List Frame} {meth : Method} {c : Code} {T : State} {locs : List Loc} {cells slots : Nat} (X : Stand p l e R s m args below meth c T locs cells slots) (hx : p.tables.exec = Jvm.exec) (hby : c.code = prog_94_method_4_code) (hown : s.vm.findClass "com/example/axislint/axislint/schema/XmlNames" = some m.cls) (hret : meth.sig.returnType = some .boolean) {fs : List Frame} {z : Int32} (hl : ∀ (f : JFrame) (acts : List Action), f.method = m → f.locked = none → f.entered = [] → (doReturn e (T.setTop f) acts (some (.int z))).1 = T.setFrames fs) (k49 : (Jvm.Cond.constant "com/example/axislint/axislint/schema/XmlNames" 49 (55295 : Int32)).before args s = true) (k51 : (Jvm.Cond.constant "com/example/axislint/axislint/schema/XmlNames" 51 (65533 : Int32)).before args s = true) (k52 : (Jvm.Cond.constant "com/example/axislint/axislint/schema/XmlNames" 52 (65536 : Int32)).before args s = true) (k56 : (Jvm.Cond.constant "com/example/axislint/axislint/schema/XmlNames" 56 (63744 : Int32)).before args s = true) (k57 : (Jvm.Cond.constant "com/example/axislint/axislint/schema/XmlNames" 57 (64975 : Int32)).before args s = true) (k58 : (Jvm.Cond.constant "com/example/axislint/axislint/schema/XmlNames" 58 (65008 : Int32)).before args s = true) (k59 : (Jvm.Cond.constant "com/example/axislint/axislint/schema/XmlNames" 59 (983039 : Int32)).before args s = true) (x0 : Int32) (hz : f1_114 x0 = z) :
    Steps p.tables e below (T.setTop (mkF m 114 #[.val (.int x0)] [])) (T.setFrames fs) := by
  unfold f1_114 at hz
  refine XS.iloadN X.here hx rfl (hb hby d1_114) rfl ?_
  show Steps p.tables e below (T.setTop (mkF m 115 #[.val (.int x0)] [(.int x0)])) _
  refine XS.sipush X.here hx rfl (hb hby d1_115) ?_
  show Steps p.tables e below (T.setTop (mkF m 118 #[.val (.int x0)] [(.int (8304 : Int32)), (.int x0)])) _
  by_cases h118 : x0 < (8304 : Int32)
  · rw [if_pos h118] at hz
    refine XS.icmpYes X.here hx rfl (pc0 := 118) (pc' := 128) rfl (hb hby d1_118) rfl (tlt h118).1 (by decide) (by decide) ?_
    show Steps p.tables e below (T.setTop (mkF m 128 #[.val (.int x0)] [])) _
    exact b1_128 X hx hby hown hret hl k49 k51 k52 k56 k57 k58 k59 x0  hz
  · rw [if_neg h118] at hz
    refine XS.icmpNo X.here hx rfl (hb hby d1_118) rfl (flt h118).1 ?_
    show Steps p.tables e below (T.setTop (mkF m 121 #[.val (.int x0)] [])) _
    refine XS.iloadN X.here hx rfl (hb hby d1_121) rfl ?_
    show Steps p.tables e below (T.setTop (mkF m 122 #[.val (.int x0)] [(.int x0)])) _
    refine XS.sipush X.here hx rfl (hb hby d1_122) ?_
    show Steps p.tables e below (T.setTop (mkF m 125 #[.val (.int x0)] [(.int (8591 : Int32)), (.int x0)])) _
    by_cases h125 : (8591 : Int32) < x0
    · rw [if_pos h125] at hz
      refine XS.icmpNo X.here hx rfl (hb hby d1_125) rfl (tlt h125).2.2.2 ?_
      show Steps p.tables e below (T.setTop (mkF m 128 #[.val (.int x0)] [])) _
      exact b1_128 X hx hby hown hret hl k49 k51 k52 k56 k57 k58 k59 x0  hz
    · rw [if_neg h125] at hz
      refine XS.icmpYes X.here hx rfl (pc0 := 125) (pc' := 191) rfl (hb hby d1_125) rfl (flt h125).2.2.2 (by decide) (by decide) ?_
      show Steps p.tables e below (T.setTop (mkF m 191 #[.val (.int x0)] [])) _
      exact b1_191 X hx hby hown hret hl k49 k51 k52 k56 k57 k58 k59 x0  hz
def f1_100 (x0 : Int32) : Int32 := if x0 < (8204 : Int32) then f1_114 x0 else (if (8205 : Int32) < x0 then f1_114 x0 else f1_191 x0)
theorem b1_100 {p : Program} {l : Launch} {e : Env} {R : Room} {s : State} {m : MethodId} {args : Array Value} {below : List Frame} {meth : Method} {c : Code} {T : State} {locs : List Loc} {cells slots : Nat} (X : Stand p l e R s m args below meth c T locs cells slots) (hx : p.tables.exec = Jvm.exec) (hby : c.code = prog_94_method_4_code) (hown : s.vm.findClass "com/example/axislint/axislint/schema/XmlNames" = some m.cls) (hret : meth.sig.returnType = some .boolean) {fs : List Frame} {z : Int32} (hl : ∀ (f : JFrame) (acts : List Action), f.method = m → f.locked = none → f.entered = [] → (doReturn e (T.setTop f) acts (some (.int z))).1 = T.setFrames fs) (k49 : (Jvm.Cond.constant "com/example/axislint/axislint/schema/XmlNames" 49 (55295 : Int32)).before args s = true) (k51 : (Jvm.Cond.constant "com/example/axislint/axislint/schema/XmlNames" 51 (65533 : Int32)).before args s = true) (k52 : (Jvm.Cond.constant "com/example/axislint/axislint/schema/XmlNames" 52 (65536 : Int32)).before args s = true) (k56 : (Jvm.Cond.constant "com/example/axislint/axislint/schema/XmlNames" 56 (63744 : Int32)).before args s = true) (k57 : (Jvm.Cond.constant "com/example/axislint/axislint/schema/XmlNames" 57 (64975 : Int32)).before args s = true) (k58 : (Jvm.Cond.constant "com/example/axislint/axislint/schema/XmlNames" 58 (65008 : Int32)).before args s = true) (k59 : (Jvm.Cond.constant "com/example/axislint/axislint/schema/XmlNames" 59 (983039 : Int32)).before args s = true) (x0 : Int32) (hz : f1_100 x0 = z) :
    Steps p.tables e below (T.setTop (mkF m 100 #[.val (.int x0)] [])) (T.setFrames fs) := by
  unfold f1_100 at hz
  refine XS.iloadN X.here hx rfl (hb hby d1_100) rfl ?_
  show Steps p.tables e below (T.setTop (mkF m 101 #[.val (.int x0)] [(.int x0)])) _
  refine XS.sipush X.here hx rfl (hb hby d1_101) ?_
  show Steps p.tables e below (T.setTop (mkF m 104 #[.val (.int x0)] [(.int (8204 : Int32)), (.int x0)])) _
  by_cases h104 : x0 < (8204 : Int32)
  · rw [if_pos h104] at hz
    refine XS.icmpYes X.here hx rfl (pc0 := 104) (pc' := 114) rfl (hb hby d1_104) rfl (tlt h104).1 (by decide) (by decide) ?_
    show Steps p.tables e below (T.setTop (mkF m 114 #[.val (.int x0)] [])) _
    exact b1_114 X hx hby hown hret hl k49 k51 k52 k56 k57 k58 k59 x0  hz
  · rw [if_neg h104] at hz
    refine XS.icmpNo X.here hx rfl (hb hby d1_104) rfl (flt h104).1 ?_
    show Steps p.tables e below (T.setTop (mkF m 107 #[.val (.int x0)] [])) _
    refine XS.iloadN X.here hx rfl (hb hby d1_107) rfl ?_
    show Steps p.tables e below (T.setTop (mkF m 108 #[.val (.int x0)] [(.int x0)])) _
    refine XS.sipush X.here hx rfl (hb hby d1_108) ?_
    show Steps p.tables e below (T.setTop (mkF m 111 #[.val (.int x0)] [(.int (8205 : Int32)), (.int x0)])) _
    by_cases h111 : (8205 : Int32) < x0
    · rw [if_pos h111] at hz
      refine XS.icmpNo X.here hx rfl (hb hby d1_111) rfl (tlt h111).2.2.2 ?_
      show Steps p.tables e below (T.setTop (mkF m 114 #[.val (.int x0)] [])) _
      exact b1_114 X hx hby hown hret hl k49 k51 k52 k56 k57 k58 k59 x0  hz
    · rw [if_neg h111] at hz
      refine XS.icmpYes X.here hx rfl (pc0 := 111) (pc' := 191) rfl (hb hby d1_111) rfl (flt h111).2.2.2 (by decide) (by decide) ?_
      show Steps p.tables e below (T.setTop (mkF m 191 #[.val (.int x0)] [])) _
      exact b1_191 X hx hby hown hret hl k49 k51 k52 k56 k57 k58 k59 x0  hz
def f1_86 (x0 : Int32) : Int32 := if x0 < (895 : Int32) then f1_100 x0 else (if (8191 : Int32) < x0 then f1_100 x0 else f1_191 x0)
theorem b1_86 {p : Program} {l : Launch} {e : Env} {R : Room} {s : State} {m : MethodId} {args : Array Value} {below : List Frame} {meth : Method} {c : Code} {T : State} {locs : List Loc} {cells slots : Nat} (X : Stand p l e R s m args below meth c T locs cells slots) (hx : p.tables.exec = Jvm.exec) (hby : c.code = prog_94_method_4_code) (hown : s.vm.findClass "com/example/axislint/axislint/schema/XmlNames" = some m.cls) (hret : meth.sig.returnType = some .boolean) {fs : List Frame} {z : Int32} (hl : ∀ (f : JFrame) (acts : List Action), f.method = m → f.locked = none → f.entered = [] → (doReturn e (T.setTop f) acts (some (.int z))).1 = T.setFrames fs) (k49 : (Jvm.Cond.constant "com/example/axislint/axislint/schema/XmlNames" 49 (55295 : Int32)).before args s = true) (k51 : (Jvm.Cond.constant "com/example/axislint/axislint/schema/XmlNames" 51 (65533 : Int32)).before args s = true) (k52 : (Jvm.Cond.constant "com/example/axislint/axislint/schema/XmlNames" 52 (65536 : Int32)).before args s = true) (k56 : (Jvm.Cond.constant "com/example/axislint/axislint/schema/XmlNames" 56 (63744 : Int32)).before args s = true) (k57 : (Jvm.Cond.constant "com/example/axislint/axislint/schema/XmlNames" 57 (64975 : Int32)).before args s = true) (k58 : (Jvm.Cond.constant "com/example/axislint/axislint/schema/XmlNames" 58 (65008 : Int32)).before args s = true) (k59 : (Jvm.Cond.constant "com/example/axislint/axislint/schema/XmlNames" 59 (983039 : Int32)).before args s = true) (x0 : Int32) (hz : f1_86 x0 = z) :
    Steps p.tables e below (T.setTop (mkF m 86 #[.val (.int x0)] [])) (T.setFrames fs) := by
  unfold f1_86 at hz
  refine XS.iloadN X.here hx rfl (hb hby d1_86) rfl ?_
  show Steps p.tables e below (T.setTop (mkF m 87 #[.val (.int x0)] [(.int x0)])) _
  refine XS.sipush X.here hx rfl (hb hby d1_87) ?_
  show Steps p.tables e below (T.setTop (mkF m 90 #[.val (.int x0)] [(.int (895 : Int32)), (.int x0)])) _
  by_cases h90 : x0 < (895 : Int32)
  · rw [if_pos h90] at hz
    refine XS.icmpYes X.here hx rfl (pc0 := 90) (pc' := 100) rfl (hb hby d1_90) rfl (tlt h90).1 (by decide) (by decide) ?_
    show Steps p.tables e below (T.setTop (mkF m 100 #[.val (.int x0)] [])) _
    exact b1_100 X hx hby hown hret hl k49 k51 k52 k56 k57 k58 k59 x0  hz
  · rw [if_neg h90] at hz
    refine XS.icmpNo X.here hx rfl (hb hby d1_90) rfl (flt h90).1 ?_
    show Steps p.tables e below (T.setTop (mkF m 93 #[.val (.int x0)] [])) _
    refine XS.iloadN X.here hx rfl (hb hby d1_93) rfl ?_
    show Steps p.tables e below (T.setTop (mkF m 94 #[.val (.int x0)] [(.int x0)])) _
    refine XS.sipush X.here hx rfl (hb hby d1_94) ?_
    show Steps p.tables e below (T.setTop (mkF m 97 #[.val (.int x0)] [(.int (8191 : Int32)), (.int x0)])) _
    by_cases h97 : (8191 : Int32) < x0
    · rw [if_pos h97] at hz
      refine XS.icmpNo X.here hx rfl (hb hby d1_97) rfl (tlt h97).2.2.2 ?_
      show Steps p.tables e below (T.setTop (mkF m 100 #[.val (.int x0)] [])) _
      exact b1_100 X hx hby hown hret hl k49 k51 k52 k56 k57 k58 k59 x0  hz
    · rw [if_neg h97] at hz
      refine XS.icmpYes X.here hx rfl (pc0 := 97) (pc' := 191) rfl (hb hby d1_97) rfl (flt h97).2.2.2 (by decide) (by decide) ?_
      show Steps p.tables e below (T.setTop (mkF m 191 #[.val (.int x0)] [])) _
      exact b1_191 X hx hby hown hret hl k49 k51 k52 k56 k57 k58 k59 x0  hz
def f1_72 (x0 : Int32) : Int32 := if x0 < (880 : Int32) then f1_86 x0 else (if (893 : Int32) < x0 then f1_86 x0 else f1_191 x0)
theorem b1_72 {p : Program} {l : Launch} {e : Env} {R : Room} {s : State} {m : MethodId} {args : Array Value} {below : List Frame} {meth : Method} {c : Code} {T : State} {locs : List Loc} {cells slots : Nat} (X : Stand p l e R s m args below meth c T locs cells slots) (hx : p.tables.exec = Jvm.exec) (hby : c.code = prog_94_method_4_code) (hown : s.vm.findClass "com/example/axislint/axislint/schema/XmlNames" = some m.cls) (hret : meth.sig.returnType = some .boolean) {fs : List Frame} {z : Int32} (hl : ∀ (f : JFrame) (acts : List Action), f.method = m → f.locked = none → f.entered = [] → (doReturn e (T.setTop f) acts (some (.int z))).1 = T.setFrames fs) (k49 : (Jvm.Cond.constant "com/example/axislint/axislint/schema/XmlNames" 49 (55295 : Int32)).before args s = true) (k51 : (Jvm.Cond.constant "com/example/axislint/axislint/schema/XmlNames" 51 (65533 : Int32)).before args s = true) (k52 : (Jvm.Cond.constant "com/example/axislint/axislint/schema/XmlNames" 52 (65536 : Int32)).before args s = true) (k56 : (Jvm.Cond.constant "com/example/axislint/axislint/schema/XmlNames" 56 (63744 : Int32)).before args s = true) (k57 : (Jvm.Cond.constant "com/example/axislint/axislint/schema/XmlNames" 57 (64975 : Int32)).before args s = true) (k58 : (Jvm.Cond.constant "com/example/axislint/axislint/schema/XmlNames" 58 (65008 : Int32)).before args s = true) (k59 : (Jvm.Cond.constant "com/example/axislint/axislint/schema/XmlNames" 59 (983039 : Int32)).before args s = true) (x0 : Int32) (hz : f1_72 x0 = z) :
    Steps p.tables e below (T.setTop (mkF m 72 #[.val (.int x0)] [])) (T.setFrames fs) := by
  unfold f1_72 at hz
  refine XS.iloadN X.here hx rfl (hb hby d1_72) rfl ?_
  show Steps p.tables e below (T.setTop (mkF m 73 #[.val (.int x0)] [(.int x0)])) _
  refine XS.sipush X.here hx rfl (hb hby d1_73) ?_
  show Steps p.tables e below (T.setTop (mkF m 76 #[.val (.int x0)] [(.int (880 : Int32)), (.int x0)])) _
  by_cases h76 : x0 < (880 : Int32)
  · rw [if_pos h76] at hz
    refine XS.icmpYes X.here hx rfl (pc0 := 76) (pc' := 86) rfl (hb hby d1_76) rfl (tlt h76).1 (by decide) (by decide) ?_
    show Steps p.tables e below (T.setTop (mkF m 86 #[.val (.int x0)] [])) _
    exact b1_86 X hx hby hown hret hl k49 k51 k52 k56 k57 k58 k59 x0  hz
  · rw [if_neg h76] at hz
    refine XS.icmpNo X.here hx rfl (hb hby d1_76) rfl (flt h76).1 ?_
    show Steps p.tables e below (T.setTop (mkF m 79 #[.val (.int x0)] [])) _
    refine XS.iloadN X.here hx rfl (hb hby d1_79) rfl ?_
    show Steps p.tables e below (T.setTop (mkF m 80 #[.val (.int x0)] [(.int x0)])) _
    refine XS.sipush X.here hx rfl (hb hby d1_80) ?_
    show Steps p.tables e below (T.setTop (mkF m 83 #[.val (.int x0)] [(.int (893 : Int32)), (.int x0)])) _
    by_cases h83 : (893 : Int32) < x0
    · rw [if_pos h83] at hz
      refine XS.icmpNo X.here hx rfl (hb hby d1_83) rfl (tlt h83).2.2.2 ?_
      show Steps p.tables e below (T.setTop (mkF m 86 #[.val (.int x0)] [])) _
      exact b1_86 X hx hby hown hret hl k49 k51 k52 k56 k57 k58 k59 x0  hz
    · rw [if_neg h83] at hz
      refine XS.icmpYes X.here hx rfl (pc0 := 83) (pc' := 191) rfl (hb hby d1_83) rfl (flt h83).2.2.2 (by decide) (by decide) ?_
      show Steps p.tables e below (T.setTop (mkF m 191 #[.val (.int x0)] [])) _
      exact b1_191 X hx hby hown hret hl k49 k51 k52 k56 k57 k58 k59 x0  hz
def f1_58 (x0 : Int32) : Int32 := if x0 < (248 : Int32) then f1_72 x0 else (if (767 : Int32) < x0 then f1_72 x0 else f1_191 x0)
theorem b1_58 {p : Program} {l : Launch} {e : Env} {R : Room} {s : State} {m : MethodId} {args : Array Value} {below : List Frame} {meth : Method} {c : Code} {T : State} {locs : List Loc} {cells slots : Nat} (X : Stand p l e R s m args below meth c T locs cells slots) (hx : p.tables.exec = Jvm.exec) (hby : c.code = prog_94_method_4_code) (hown : s.vm.findClass "com/example/axislint/axislint/schema/XmlNames" = some m.cls) (hret : meth.sig.returnType = some .boolean) {fs : List Frame} {z : Int32} (hl : ∀ (f : JFrame) (acts : List Action), f.method = m → f.locked = none → f.entered = [] → (doReturn e (T.setTop f) acts (some (.int z))).1 = T.setFrames fs) (k49 : (Jvm.Cond.constant "com/example/axislint/axislint/schema/XmlNames" 49 (55295 : Int32)).before args s = true) (k51 : (Jvm.Cond.constant "com/example/axislint/axislint/schema/XmlNames" 51 (65533 : Int32)).before args s = true) (k52 : (Jvm.Cond.constant "com/example/axislint/axislint/schema/XmlNames" 52 (65536 : Int32)).before args s = true) (k56 : (Jvm.Cond.constant "com/example/axislint/axislint/schema/XmlNames" 56 (63744 : Int32)).before args s = true) (k57 : (Jvm.Cond.constant "com/example/axislint/axislint/schema/XmlNames" 57 (64975 : Int32)).before args s = true) (k58 : (Jvm.Cond.constant "com/example/axislint/axislint/schema/XmlNames" 58 (65008 : Int32)).before args s = true) (k59 : (Jvm.Cond.constant "com/example/axislint/axislint/schema/XmlNames" 59 (983039 : Int32)).before args s = true) (x0 : Int32) (hz : f1_58 x0 = z) :
    Steps p.tables e below (T.setTop (mkF m 58 #[.val (.int x0)] [])) (T.setFrames fs) := by
  unfold f1_58 at hz
  refine XS.iloadN X.here hx rfl (hb hby d1_58) rfl ?_
  show Steps p.tables e below (T.setTop (mkF m 59 #[.val (.int x0)] [(.int x0)])) _
  refine XS.sipush X.here hx rfl (hb hby d1_59) ?_
  show Steps p.tables e below (T.setTop (mkF m 62 #[.val (.int x0)] [(.int (248 : Int32)), (.int x0)])) _
  by_cases h62 : x0 < (248 : Int32)
  · rw [if_pos h62] at hz
    refine XS.icmpYes X.here hx rfl (pc0 := 62) (pc' := 72) rfl (hb hby d1_62) rfl (tlt h62).1 (by decide) (by decide) ?_
    show Steps p.tables e below (T.setTop (mkF m 72 #[.val (.int x0)] [])) _
    exact b1_72 X hx hby hown hret hl k49 k51 k52 k56 k57 k58 k59 x0  hz
  · rw [if_neg h62] at hz
    refine XS.icmpNo X.here hx rfl (hb hby d1_62) rfl (flt h62).1 ?_
    show Steps p.tables e below (T.setTop (mkF m 65 #[.val (.int x0)] [])) _
    refine XS.iloadN X.here hx rfl (hb hby d1_65) rfl ?_
    show Steps p.tables e below (T.setTop (mkF m 66 #[.val (.int x0)] [(.int x0)])) _
    refine XS.sipush X.here hx rfl (hb hby d1_66) ?_
    show Steps p.tables e below (T.setTop (mkF m 69 #[.val (.int x0)] [(.int (767 : Int32)), (.int x0)])) _
    by_cases h69 : (767 : Int32) < x0
    · rw [if_pos h69] at hz
      refine XS.icmpNo X.here hx rfl (hb hby d1_69) rfl (tlt h69).2.2.2 ?_
      show Steps p.tables e below (T.setTop (mkF m 72 #[.val (.int x0)] [])) _
      exact b1_72 X hx hby hown hret hl k49 k51 k52 k56 k57 k58 k59 x0  hz
    · rw [if_neg h69] at hz
      refine XS.icmpYes X.here hx rfl (pc0 := 69) (pc' := 191) rfl (hb hby d1_69) rfl (flt h69).2.2.2 (by decide) (by decide) ?_
      show Steps p.tables e below (T.setTop (mkF m 191 #[.val (.int x0)] [])) _
      exact b1_191 X hx hby hown hret hl k49 k51 k52 k56 k57 k58 k59 x0  hz
def f1_44 (x0 : Int32) : Int32 := if x0 < (216 : Int32) then f1_58 x0 else (if (246 : Int32) < x0 then f1_58 x0 else f1_191 x0)
theorem b1_44 {p : Program} {l : Launch} {e : Env} {R : Room} {s : State} {m : MethodId} {args : Array Value} {below : List Frame} {meth : Method} {c : Code} {T : State} {locs : List Loc} {cells slots : Nat} (X : Stand p l e R s m args below meth c T locs cells slots) (hx : p.tables.exec = Jvm.exec) (hby : c.code = prog_94_method_4_code) (hown : s.vm.findClass "com/example/axislint/axislint/schema/XmlNames" = some m.cls) (hret : meth.sig.returnType = some .boolean) {fs : List Frame} {z : Int32} (hl : ∀ (f : JFrame) (acts : List Action), f.method = m → f.locked = none → f.entered = [] → (doReturn e (T.setTop f) acts (some (.int z))).1 = T.setFrames fs) (k49 : (Jvm.Cond.constant "com/example/axislint/axislint/schema/XmlNames" 49 (55295 : Int32)).before args s = true) (k51 : (Jvm.Cond.constant "com/example/axislint/axislint/schema/XmlNames" 51 (65533 : Int32)).before args s = true) (k52 : (Jvm.Cond.constant "com/example/axislint/axislint/schema/XmlNames" 52 (65536 : Int32)).before args s = true) (k56 : (Jvm.Cond.constant "com/example/axislint/axislint/schema/XmlNames" 56 (63744 : Int32)).before args s = true) (k57 : (Jvm.Cond.constant "com/example/axislint/axislint/schema/XmlNames" 57 (64975 : Int32)).before args s = true) (k58 : (Jvm.Cond.constant "com/example/axislint/axislint/schema/XmlNames" 58 (65008 : Int32)).before args s = true) (k59 : (Jvm.Cond.constant "com/example/axislint/axislint/schema/XmlNames" 59 (983039 : Int32)).before args s = true) (x0 : Int32) (hz : f1_44 x0 = z) :
    Steps p.tables e below (T.setTop (mkF m 44 #[.val (.int x0)] [])) (T.setFrames fs) := by
  unfold f1_44 at hz
  refine XS.iloadN X.here hx rfl (hb hby d1_44) rfl ?_
  show Steps p.tables e below (T.setTop (mkF m 45 #[.val (.int x0)] [(.int x0)])) _
  refine XS.sipush X.here hx rfl (hb hby d1_45) ?_
  show Steps p.tables e below (T.setTop (mkF m 48 #[.val (.int x0)] [(.int (216 : Int32)), (.int x0)])) _
  by_cases h48 : x0 < (216 : Int32)
  · rw [if_pos h48] at hz
    refine XS.icmpYes X.here hx rfl (pc0 := 48) (pc' := 58) rfl (hb hby d1_48) rfl (tlt h48).1 (by decide) (by decide) ?_
    show Steps p.tables e below (T.setTop (mkF m 58 #[.val (.int x0)] [])) _
    exact b1_58 X hx hby hown hret hl k49 k51 k52 k56 k57 k58 k59 x0  hz
  · rw [if_neg h48] at hz
    refine XS.icmpNo X.here hx rfl (hb hby d1_48) rfl (flt h48).1 ?_
    show Steps p.tables e below (T.setTop (mkF m 51 #[.val (.int x0)] [])) _
    refine XS.iloadN X.here hx rfl (hb hby d1_51) rfl ?_
    show Steps p.tables e below (T.setTop (mkF m 52 #[.val (.int x0)] [(.int x0)])) _
    refine XS.sipush X.here hx rfl (hb hby d1_52) ?_
    show Steps p.tables e below (T.setTop (mkF m 55 #[.val (.int x0)] [(.int (246 : Int32)), (.int x0)])) _
    by_cases h55 : (246 : Int32) < x0
    · rw [if_pos h55] at hz
      refine XS.icmpNo X.here hx rfl (hb hby d1_55) rfl (tlt h55).2.2.2 ?_
      show Steps p.tables e below (T.setTop (mkF m 58 #[.val (.int x0)] [])) _
      exact b1_58 X hx hby hown hret hl k49 k51 k52 k56 k57 k58 k59 x0  hz
    · rw [if_neg h55] at hz
      refine XS.icmpYes X.here hx rfl (pc0 := 55) (pc' := 191) rfl (hb hby d1_55) rfl (flt h55).2.2.2 (by decide) (by decide) ?_
      show Steps p.tables e below (T.setTop (mkF m 191 #[.val (.int x0)] [])) _
      exact b1_191 X hx hby hown hret hl k49 k51 k52 k56 k57 k58 k59 x0  hz
def f1_30 (x0 : Int32) : Int32 := if x0 < (192 : Int32) then f1_44 x0 else (if (214 : Int32) < x0 then f1_44 x0 else f1_191 x0)
theorem b1_30 {p : Program} {l : Launch} {e : Env} {R : Room} {s : State} {m : MethodId} {args : Array Value} {below : List Frame} {meth : Method} {c : Code} {T : State} {locs : List Loc} {cells slots : Nat} (X : Stand p l e R s m args below meth c T locs cells slots) (hx : p.tables.exec = Jvm.exec) (hby : c.code = prog_94_method_4_code) (hown : s.vm.findClass "com/example/axislint/axislint/schema/XmlNames" = some m.cls) (hret : meth.sig.returnType = some .boolean) {fs : List Frame} {z : Int32} (hl : ∀ (f : JFrame) (acts : List Action), f.method = m → f.locked = none → f.entered = [] → (doReturn e (T.setTop f) acts (some (.int z))).1 = T.setFrames fs) (k49 : (Jvm.Cond.constant "com/example/axislint/axislint/schema/XmlNames" 49 (55295 : Int32)).before args s = true) (k51 : (Jvm.Cond.constant "com/example/axislint/axislint/schema/XmlNames" 51 (65533 : Int32)).before args s = true) (k52 : (Jvm.Cond.constant "com/example/axislint/axislint/schema/XmlNames" 52 (65536 : Int32)).before args s = true) (k56 : (Jvm.Cond.constant "com/example/axislint/axislint/schema/XmlNames" 56 (63744 : Int32)).before args s = true) (k57 : (Jvm.Cond.constant "com/example/axislint/axislint/schema/XmlNames" 57 (64975 : Int32)).before args s = true) (k58 : (Jvm.Cond.constant "com/example/axislint/axislint/schema/XmlNames" 58 (65008 : Int32)).before args s = true) (k59 : (Jvm.Cond.constant "com/example/axislint/axislint/schema/XmlNames" 59 (983039 : Int32)).before args s = true) (x0 : Int32) (hz : f1_30 x0 = z) :
    Steps p.tables e below (T.setTop (mkF m 30 #[.val (.int x0)] [])) (T.setFrames fs) := by
  unfold f1_30 at hz
  refine XS.iloadN X.here hx rfl (hb hby d1_30) rfl ?_
  show Steps p.tables e below (T.setTop (mkF m 31 #[.val (.int x0)] [(.int x0)])) _
  refine XS.sipush X.here hx rfl (hb hby d1_31) ?_
  show Steps p.tables e below (T.setTop (mkF m 34 #[.val (.int x0)] [(.int (192 : Int32)), (.int x0)])) _
  by_cases h34 : x0 < (192 : Int32)
  · rw [if_pos h34] at hz
    refine XS.icmpYes X.here hx rfl (pc0 := 34) (pc' := 44) rfl (hb hby d1_34) rfl (tlt h34).1 (by decide) (by decide) ?_
    show Steps p.tables e below (T.setTop (mkF m 44 #[.val (.int x0)] [])) _
    exact b1_44 X hx hby hown hret hl k49 k51 k52 k56 k57 k58 k59 x0  hz
  · rw [if_neg h34] at hz
    refine XS.icmpNo X.here hx rfl (hb hby d1_34) rfl (flt h34).1 ?_
    show Steps p.tables e below (T.setTop (mkF m 37 #[.val (.int x0)] [])) _
    refine XS.iloadN X.here hx rfl (hb hby d1_37) rfl ?_
    show Steps p.tables e below (T.setTop (mkF m 38 #[.val (.int x0)] [(.int x0)])) _
    refine XS.sipush X.here hx rfl (hb hby d1_38) ?_
    show Steps p.tables e below (T.setTop (mkF m 41 #[.val (.int x0)] [(.int (214 : Int32)), (.int x0)])) _
    by_cases h41 : (214 : Int32) < x0
    · rw [if_pos h41] at hz
      refine XS.icmpNo X.here hx rfl (hb hby d1_41) rfl (tlt h41).2.2.2 ?_
      show Steps p.tables e below (T.setTop (mkF m 44 #[.val (.int x0)] [])) _
      exact b1_44 X hx hby hown hret hl k49 k51 k52 k56 k57 k58 k59 x0  hz
    · rw [if_neg h41] at hz
      refine XS.icmpYes X.here hx rfl (pc0 := 41) (pc' := 191) rfl (hb hby d1_41) rfl (flt h41).2.2.2 (by decide) (by decide) ?_
      show Steps p.tables e below (T.setTop (mkF m 191 #[.val (.int x0)] [])) _
      exact b1_191 X hx hby hown hret hl k49 k51 k52 k56 k57 k58 k59 x0  hz
def f1_12 (x0 : Int32) : Int32 := if x0 = (95 : Int32) then f1_191 x0 else (if x0 < (97 : Int32) then f1_30 x0 else (if (122 : Int32) < x0 then f1_30 x0 else f1_191 x0))
theorem b1_12 {p : Program} {l : Launch} {e : Env} {R : Room} {s : State} {m : MethodId} {args : Array Value} {below : List Frame} {meth : Method} {c : Code} {T : State} {locs : List Loc} {cells slots : Nat} (X : Stand p l e R s m args below meth c T locs cells slots) (hx : p.tables.exec = Jvm.exec) (hby : c.code = prog_94_method_4_code) (hown : s.vm.findClass "com/example/axislint/axislint/schema/XmlNames" = some m.cls) (hret : meth.sig.returnType = some .boolean) {fs : List Frame} {z : Int32} (hl : ∀ (f : JFrame) (acts : List Action), f.method = m → f.locked = none → f.entered = [] → (doReturn e (T.setTop f) acts (some (.int z))).1 = T.setFrames fs) (k49 : (Jvm.Cond.constant "com/example/axislint/axislint/schema/XmlNames" 49 (55295 : Int32)).before args s = true) (k51 : (Jvm.Cond.constant "com/example/axislint/axislint/schema/XmlNames" 51 (65533 : Int32)).before args s = true) (k52 : (Jvm.Cond.constant "com/example/axislint/axislint/schema/XmlNames" 52 (65536 : Int32)).before args s = true) (k56 : (Jvm.Cond.constant "com/example/axislint/axislint/schema/XmlNames" 56 (63744 : Int32)).before args s = true) (k57 : (Jvm.Cond.constant "com/example/axislint/axislint/schema/XmlNames" 57 (64975 : Int32)).before args s = true) (k58 : (Jvm.Cond.constant "com/example/axislint/axislint/schema/XmlNames" 58 (65008 : Int32)).before args s = true) (k59 : (Jvm.Cond.constant "com/example/axislint/axislint/schema/XmlNames" 59 (983039 : Int32)).before args s = true) (x0 : Int32) (hz : f1_12 x0 = z) :
    Steps p.tables e below (T.setTop (mkF m 12 #[.val (.int x0)] [])) (T.setFrames fs) := by
  unfold f1_12 at hz
  refine XS.iloadN X.here hx rfl (hb hby d1_12) rfl ?_
  show Steps p.tables e below (T.setTop (mkF m 13 #[.val (.int x0)] [(.int x0)])) _
  refine XS.bipush X.here hx rfl (hb hby d1_13) ?_
  show Steps p.tables e below (T.setTop (mkF m 15 #[.val (.int x0)] [(.int (95 : Int32)), (.int x0)])) _
  by_cases h15 : x0 = (95 : Int32)
  · rw [if_pos h15] at hz
    refine XS.icmpYes X.here hx rfl (pc0 := 15) (pc' := 191) rfl (hb hby d1_15) rfl (teq h15).1 (by decide) (by decide) ?_
    show Steps p.tables e below (T.setTop (mkF m 191 #[.val (.int x0)] [])) _
    exact b1_191 X hx hby hown hret hl k49 k51 k52 k56 k57 k58 k59 x0  hz
  · rw [if_neg h15] at hz
    refine XS.icmpNo X.here hx rfl (hb hby d1_15) rfl (feq h15).1 ?_
    show Steps p.tables e below (T.setTop (mkF m 18 #[.val (.int x0)] [])) _
    refine XS.iloadN X.here hx rfl (hb hby d1_18) rfl ?_
    show Steps p.tables e below (T.setTop (mkF m 19 #[.val (.int x0)] [(.int x0)])) _
    refine XS.bipush X.here hx rfl (hb hby d1_19) ?_
    show Steps p.tables e below (T.setTop (mkF m 21 #[.val (.int x0)] [(.int (97 : Int32)), (.int x0)])) _
    by_cases h21 : x0 < (97 : Int32)
    · rw [if_pos h21] at hz
      refine XS.icmpYes X.here hx rfl (pc0 := 21) (pc' := 30) rfl (hb hby d1_21) rfl (tlt h21).1 (by decide) (by decide) ?_
      show Steps p.tables e below (T.setTop (mkF m 30 #[.val (.int x0)] [])) _
      exact b1_30 X hx hby hown hret hl k49 k51 k52 k56 k57 k58 k59 x0  hz
    · rw [if_neg h21] at hz
      refine XS.icmpNo X.here hx rfl (hb hby d1_21) rfl (flt h21).1 ?_
      show Steps p.tables e below (T.setTop (mkF m 24 #[.val (.int x0)] [])) _
      refine XS.iloadN X.here hx rfl (hb hby d1_24) rfl ?_
      show Steps p.tables e below (T.setTop (mkF m 25 #[.val (.int x0)] [(.int x0)])) _
      refine XS.bipush X.here hx rfl (hb hby d1_25) ?_
      show Steps p.tables e below (T.setTop (mkF m 27 #[.val (.int x0)] [(.int (122 : Int32)), (.int x0)])) _
      by_cases h27 : (122 : Int32) < x0
      · rw [if_pos h27] at hz
        refine XS.icmpNo X.here hx rfl (hb hby d1_27) rfl (tlt h27).2.2.2 ?_
        show Steps p.tables e below (T.setTop (mkF m 30 #[.val (.int x0)] [])) _
        exact b1_30 X hx hby hown hret hl k49 k51 k52 k56 k57 k58 k59 x0  hz
      · rw [if_neg h27] at hz
        refine XS.icmpYes X.here hx rfl (pc0 := 27) (pc' := 191) rfl (hb hby d1_27) rfl (flt h27).2.2.2 (by decide) (by decide) ?_
        show Steps p.tables e below (T.setTop (mkF m 191 #[.val (.int x0)] [])) _
        exact b1_191 X hx hby hown hret hl k49 k51 k52 k56 k57 k58 k59 x0  hz
def f1_0 (x0 : Int32) : Int32 := if x0 < (65 : Int32) then f1_12 x0 else (if (90 : Int32) < x0 then f1_12 x0 else f1_191 x0)
theorem b1_0 {p : Program} {l : Launch} {e : Env} {R : Room} {s : State} {m : MethodId} {args : Array Value} {below : List Frame} {meth : Method} {c : Code} {T : State} {locs : List Loc} {cells slots : Nat} (X : Stand p l e R s m args below meth c T locs cells slots) (hx : p.tables.exec = Jvm.exec) (hby : c.code = prog_94_method_4_code) (hown : s.vm.findClass "com/example/axislint/axislint/schema/XmlNames" = some m.cls) (hret : meth.sig.returnType = some .boolean) {fs : List Frame} {z : Int32} (hl : ∀ (f : JFrame) (acts : List Action), f.method = m → f.locked = none → f.entered = [] → (doReturn e (T.setTop f) acts (some (.int z))).1 = T.setFrames fs) (k49 : (Jvm.Cond.constant "com/example/axislint/axislint/schema/XmlNames" 49 (55295 : Int32)).before args s = true) (k51 : (Jvm.Cond.constant "com/example/axislint/axislint/schema/XmlNames" 51 (65533 : Int32)).before args s = true) (k52 : (Jvm.Cond.constant "com/example/axislint/axislint/schema/XmlNames" 52 (65536 : Int32)).before args s = true) (k56 : (Jvm.Cond.constant "com/example/axislint/axislint/schema/XmlNames" 56 (63744 : Int32)).before args s = true) (k57 : (Jvm.Cond.constant "com/example/axislint/axislint/schema/XmlNames" 57 (64975 : Int32)).before args s = true) (k58 : (Jvm.Cond.constant "com/example/axislint/axislint/schema/XmlNames" 58 (65008 : Int32)).before args s = true) (k59 : (Jvm.Cond.constant "com/example/axislint/axislint/schema/XmlNames" 59 (983039 : Int32)).before args s = true) (x0 : Int32) (hz : f1_0 x0 = z) :
    Steps p.tables e below (T.setTop (mkF m 0 #[.val (.int x0)] [])) (T.setFrames fs) := by
  unfold f1_0 at hz
  refine XS.iloadN X.here hx rfl (hb hby d1_0) rfl ?_
  show Steps p.tables e below (T.setTop (mkF m 1 #[.val (.int x0)] [(.int x0)])) _
  refine XS.bipush X.here hx rfl (hb hby d1_1) ?_
  show Steps p.tables e below (T.setTop (mkF m 3 #[.val (.int x0)] [(.int (65 : Int32)), (.int x0)])) _
  by_cases h3 : x0 < (65 : Int32)
  · rw [if_pos h3] at hz
    refine XS.icmpYes X.here hx rfl (pc0 := 3) (pc' := 12) rfl (hb hby d1_3) rfl (tlt h3).1 (by decide) (by decide) ?_
    show Steps p.tables e below (T.setTop (mkF m 12 #[.val (.int x0)] [])) _
    exact b1_12 X hx hby hown hret hl k49 k51 k52 k56 k57 k58 k59 x0  hz
  · rw [if_neg h3] at hz
    refine XS.icmpNo X.here hx rfl (hb hby d1_3) rfl (flt h3).1 ?_
    show Steps p.tables e below (T.setTop (mkF m 6 #[.val (.int x0)] [])) _
    refine XS.iloadN X.here hx rfl (hb hby d1_6) rfl ?_
    show Steps p.tables e below (T.setTop (mkF m 7 #[.val (.int x0)] [(.int x0)])) _
    refine XS.bipush X.here hx rfl (hb hby d1_7) ?_
    show Steps p.tables e below (T.setTop (mkF m 9 #[.val (.int x0)] [(.int (90 : Int32)), (.int x0)])) _
    by_cases h9 : (90 : Int32) < x0
    · rw [if_pos h9] at hz
      refine XS.icmpNo X.here hx rfl (hb hby d1_9) rfl (tlt h9).2.2.2 ?_
      show Steps p.tables e below (T.setTop (mkF m 12 #[.val (.int x0)] [])) _
      exact b1_12 X hx hby hown hret hl k49 k51 k52 k56 k57 k58 k59 x0  hz
    · rw [if_neg h9] at hz
      refine XS.icmpYes X.here hx rfl (pc0 := 9) (pc' := 191) rfl (hb hby d1_9) rfl (flt h9).2.2.2 (by decide) (by decide) ?_
      show Steps p.tables e below (T.setTop (mkF m 191 #[.val (.int x0)] [])) _
      exact b1_191 X hx hby hown hret hl k49 k51 k52 k56 k57 k58 k59 x0  hz
theorem ef_1 (m : MethodId) (p1 : Int32) : entryFrame m #[(.int p1)] 1 = mkF m 0 #[.val (.int p1)] [] := by first | (simp [entryFrame, mkF, argsToLocals, Value.category]; done) | rfl
def Q1 (p1 : Int32) (h0 : Heap) (n0 : Nat) (v : Option Value) (h : Heap) (L : List Loc) : Prop := v = some (.int (f1_0 p1)) ∧ Fr n0 L ∧ h = h0
set_option maxRecDepth 65536 in
set_option maxHeartbeats 40000000 in
theorem rm1 (l : Launch) (Z : State) (a0 : Array Value) (hw : ∀ d ∈ tables_1, d.before a0 Z = true) (ws : List Jvm.Cond) (p1 : Int32) (h0 : Heap) (n0 : Nat) :
    MetFree l (⟨"com/example/axislint/axislint/schema/XmlNames", "isNameStartChar", "(I)Z"⟩ : MethodName) (head1 (Jvm.Cond.code (⟨"com/example/axislint/axislint/schema/XmlNames", "isNameStartChar", "(I)Z"⟩ : MethodName) prog_94_method_4_code 1 (some .boolean) :: ws) ({ frames := 0, cells := 0, slots := 0, locals := 0 } : Room)) (fun a U => a = #[(.int p1)] ∧ Z.Warmed39 U.vm ∧ U.heap = h0) (fun _ _ _ _ _ => True) (fun _ U o U' => ∃ v L, o = .returned v ∧ Q1 p1 h0 n0 v U'.heap L ∧ FrameEnd U o U' L ({ frames := 0, cells := 0, slots := 0, locals := 0 } : Room).cells ({ frames := 0, cells := 0, slots := 0, locals := 0 } : Room).slots) := by
  refine MetFree.of_bodySF (plainFor_of_name pn_1) hisR ?_
  intro p e s m args below meth c s₁ Bd hml0 hP hK
  obtain ⟨rfl, hZ, hh⟩ := hP
  have hx := Bd.exec
  have hby := Bd.bytes
  have hml : c.maxLocals = 1 := hml0
  have hown : s.vm.findClass "com/example/axislint/axislint/schema/XmlNames" = some m.cls := findClass_of_methodNamed Bd.named
  have hnm := (name_of_methodNamed Bd.named Bd.method).1
  have X0 : Stand p l e ({ frames := 0, cells := 0, slots := 0, locals := 0 } : Room) s m #[(.int p1)] below meth c s₁ [] 0 0 := Stand.of_body Bd
  have e0 : s₁.heap = h0 := by rw [← hh, Bd.state]; rfl
  have N0 := Fr.nil n0
  have pre0 : ∀ t, Steps p.tables e below (s₁.setTop (mkF m 0 #[.val (.int p1)] [])) t → Steps p.tables e below (s₁.setTop (entryFrame m #[(.int p1)] 1)) t := fun t k => castTop (ef_1 m p1) k
  obtain ⟨fs, hr, hrun, hended, hW, hsame⟩ := X0.leave (v := some (.int (f1_0 p1))) (fun h => by rw [Bd.returns] at h; cases h)
  refine ⟨_, _, pre0 _ ?_, hrun, hended, _, _, rfl, ?_, ⟨_, rfl⟩, hW, hsame.mono (by decide) (by decide)⟩
  · exact b1_0 X0 hx hby hown Bd.returns hr (mvT hZ (hw _ (List.mem_of_getElem? (i := 20) rfl))) (mvT hZ (hw _ (List.mem_of_getElem? (i := 24) rfl))) (mvT hZ (hw _ (List.mem_of_getElem? (i := 25) rfl))) (mvT hZ (hw _ (List.mem_of_getElem? (i := 21) rfl))) (mvT hZ (hw _ (List.mem_of_getElem? (i := 22) rfl))) (mvT hZ (hw _ (List.mem_of_getElem? (i := 23) rfl))) (mvT hZ (hw _ (List.mem_of_getElem? (i := 26) rfl))) p1 rfl
  · show Q1 p1 h0 n0 _ s₁.heap _
    rw [e0]
    exact ⟨rfl, N0, rfl⟩
theorem d2_0 : decode method_3_code 0 = .ok (.iload_n 0, 1) := by decide +kernel
theorem d2_1 : decode method_3_code 1 = .ok (.bipush 65, 2) := by decide +kernel
theorem d2_3 : decode method_3_code 3 = .ok (.if_icmp .lt 9, 3) := by decide +kernel
theorem d2_6 : decode method_3_code 6 = .ok (.iload_n 0, 1) := by decide +kernel
theorem d2_7 : decode method_3_code 7 = .ok (.ldc 13, 2) := by decide +kernel
theorem d2_9 : decode method_3_code 9 = .ok (.if_icmp .le 5, 3) := by decide +kernel
theorem d2_12 : decode method_3_code 12 = .ok (.iconst 0, 1) := by decide +kernel
theorem d2_13 : decode method_3_code 13 = .ok (.ireturn, 1) := by decide +kernel
theorem d2_14 : decode method_3_code 14 = .ok (.iload_n 0, 1) := by decide +kernel
theorem d2_15 : decode method_3_code 15 = .ok (.bipush 91, 2) := by decide +kernel
theorem d2_17 : decode method_3_code 17 = .ok (.if_icmp .lt 9, 3) := by decide +kernel
theorem d2_20 : decode method_3_code 20 = .ok (.iload_n 0, 1) := by decide +kernel
theorem d2_21 : decode method_3_code 21 = .ok (.bipush 94, 2) := by decide +kernel
theorem d2_23 : decode method_3_code 23 = .ok (.if_icmp .le 149, 3) := by decide +kernel
theorem d2_26 : decode method_3_code 26 = .ok (.iload_n 0, 1) := by decide +kernel
theorem d2_27 : decode method_3_code 27 = .ok (.bipush 96, 2) := by decide +kernel
theorem d2_29 : decode method_3_code 29 = .ok (.if_icmp .eq 143, 3) := by decide +kernel
theorem d2_32 : decode method_3_code 32 = .ok (.iload_n 0, 1) := by decide +kernel
theorem d2_33 : decode method_3_code 33 = .ok (.bipush 123, 2) := by decide +kernel
theorem d2_35 : decode method_3_code 35 = .ok (.if_icmp .lt 10, 3) := by decide +kernel
theorem d2_38 : decode method_3_code 38 = .ok (.iload_n 0, 1) := by decide +kernel
theorem d2_39 : decode method_3_code 39 = .ok (.sipush 191, 3) := by decide +kernel
theorem d2_42 : decode method_3_code 42 = .ok (.if_icmp .le 130, 3) := by decide +kernel
theorem d2_45 : decode method_3_code 45 = .ok (.iload_n 0, 1) := by decide +kernel
theorem d2_46 : decode method_3_code 46 = .ok (.sipush 215, 3) := by decide +kernel
theorem d2_49 : decode method_3_code 49 = .ok (.if_icmp .eq 123, 3) := by decide +kernel
theorem d2_52 : decode method_3_code 52 = .ok (.iload_n 0, 1) := by decide +kernel
theorem d2_53 : decode method_3_code 53 = .ok (.sipush 247, 3) := by decide +kernel
theorem d2_56 : decode method_3_code 56 = .ok (.if_icmp .eq 116, 3) := by decide +kernel
theorem d2_59 : decode method_3_code 59 = .ok (.iload_n 0, 1) := by decide +kernel
theorem d2_60 : decode method_3_code 60 = .ok (.sipush 768, 3) := by decide +kernel
theorem d2_63 : decode method_3_code 63 = .ok (.if_icmp .lt 10, 3) := by decide +kernel
theorem d2_66 : decode method_3_code 66 = .ok (.iload_n 0, 1) := by decide +kernel
theorem d2_67 : decode method_3_code 67 = .ok (.sipush 879, 3) := by decide +kernel
theorem d2_70 : decode method_3_code 70 = .ok (.if_icmp .le 102, 3) := by decide +kernel
theorem d2_73 : decode method_3_code 73 = .ok (.iload_n 0, 1) := by decide +kernel
theorem d2_74 : decode method_3_code 74 = .ok (.sipush 894, 3) := by decide +kernel
theorem d2_77 : decode method_3_code 77 = .ok (.if_icmp .eq 95, 3) := by decide +kernel
theorem d2_80 : decode method_3_code 80 = .ok (.iload_n 0, 1) := by decide +kernel
theorem d2_81 : decode method_3_code 81 = .ok (.sipush 8192, 3) := by decide +kernel
theorem d2_84 : decode method_3_code 84 = .ok (.if_icmp .lt 10, 3) := by decide +kernel
theorem d2_87 : decode method_3_code 87 = .ok (.iload_n 0, 1) := by decide +kernel
theorem d2_88 : decode method_3_code 88 = .ok (.sipush 8203, 3) := by decide +kernel
theorem d2_91 : decode method_3_code 91 = .ok (.if_icmp .le 81, 3) := by decide +kernel
theorem d2_94 : decode method_3_code 94 = .ok (.iload_n 0, 1) := by decide +kernel
theorem d2_95 : decode method_3_code 95 = .ok (.sipush 8206, 3) := by decide +kernel
theorem d2_98 : decode method_3_code 98 = .ok (.if_icmp .lt 10, 3) := by decide +kernel
theorem d2_101 : decode method_3_code 101 = .ok (.iload_n 0, 1) := by decide +kernel
theorem d2_102 : decode method_3_code 102 = .ok (.sipush 8303, 3) := by decide +kernel
theorem d2_105 : decode method_3_code 105 = .ok (.if_icmp .le 67, 3) := by decide +kernel
theorem d2_108 : decode method_3_code 108 = .ok (.iload_n 0, 1) := by decide +kernel
theorem d2_109 : decode method_3_code 109 = .ok (.sipush 8592, 3) := by decide +kernel
theorem d2_112 : decode method_3_code 112 = .ok (.if_icmp .lt 10, 3) := by decide +kernel
theorem d2_115 : decode method_3_code 115 = .ok (.iload_n 0, 1) := by decide +kernel
theorem d2_116 : decode method_3_code 116 = .ok (.sipush 11263, 3) := by decide +kernel
theorem d2_119 : decode method_3_code 119 = .ok (.if_icmp .le 53, 3) := by decide +kernel
theorem d2_122 : decode method_3_code 122 = .ok (.iload_n 0, 1) := by decide +kernel
theorem d2_123 : decode method_3_code 123 = .ok (.sipush 12272, 3) := by decide +kernel
theorem d2_126 : decode method_3_code 126 = .ok (.if_icmp .lt 10, 3) := by decide +kernel
theorem d2_129 : decode method_3_code 129 = .ok (.iload_n 0, 1) := by decide +kernel
theorem d2_130 : decode method_3_code 130 = .ok (.sipush 12288, 3) := by decide +kernel
theorem d2_133 : decode method_3_code 133 = .ok (.if_icmp .le 39, 3) := by decide +kernel
theorem d2_136 : decode method_3_code 136 = .ok (.iload_n 0, 1) := by decide +kernel
theorem d2_137 : decode method_3_code 137 = .ok (.ldc 26, 2) := by decide +kernel
theorem d2_139 : decode method_3_code 139 = .ok (.if_icmp .lt 9, 3) := by decide +kernel
theorem d2_142 : decode method_3_code 142 = .ok (.iload_n 0, 1) := by decide +kernel
theorem d2_143 : decode method_3_code 143 = .ok (.ldc 27, 2) := by decide +kernel
theorem d2_145 : decode method_3_code 145 = .ok (.if_icmp .le 27, 3) := by decide +kernel
theorem d2_148 : decode method_3_code 148 = .ok (.iload_n 0, 1) := by decide +kernel
theorem d2_149 : decode method_3_code 149 = .ok (.ldc 28, 2) := by decide +kernel
theorem d2_151 : decode method_3_code 151 = .ok (.if_icmp .lt 9, 3) := by decide +kernel
theorem d2_154 : decode method_3_code 154 = .ok (.iload_n 0, 1) := by decide +kernel
theorem d2_155 : decode method_3_code 155 = .ok (.ldc 29, 2) := by decide +kernel
theorem d2_157 : decode method_3_code 157 = .ok (.if_icmp .le 15, 3) := by decide +kernel
theorem d2_160 : decode method_3_code 160 = .ok (.iload_n 0, 1) := by decide +kernel
theorem d2_161 : decode method_3_code 161 = .ok (.ldc 30, 2) := by decide +kernel
theorem d2_163 : decode method_3_code 163 = .ok (.if_icmp .lt 13, 3) := by decide +kernel
theorem d2_166 : decode method_3_code 166 = .ok (.iload_n 0, 1) := by decide +kernel
theorem d2_167 : decode method_3_code 167 = .ok (.ldc 31, 2) := by decide +kernel
theorem d2_169 : decode method_3_code 169 = .ok (.if_icmp .gt 7, 3) := by decide +kernel
theorem d2_172 : decode method_3_code 172 = .ok (.iconst 1, 1) := by decide +kernel
theorem d2_173 : decode method_3_code 173 = .ok (.goto 4, 3) := by decide +kernel
theorem d2_176 : decode method_3_code 176 = .ok (.iconst 0, 1) := by decide +kernel
theorem d2_177 : decode method_3_code 177 = .ok (.istore_n 1, 1) := by decide +kernel
theorem d2_178 : decode method_3_code 178 = .ok (.iload_n 1, 1) := by decide +kernel
theorem d2_179 : decode method_3_code 179 = .ok (.ifCond .ne 7, 3) := by decide +kernel
theorem d2_182 : decode method_3_code 182 = .ok (.iconst 1, 1) := by decide +kernel
theorem d2_183 : decode method_3_code 183 = .ok (.goto 4, 3) := by decide +kernel
theorem d2_186 : decode method_3_code 186 = .ok (.iconst 0, 1) := by decide +kernel
theorem d2_187 : decode method_3_code 187 = .ok (.ireturn, 1) := by decide +kernel
theorem pn_2 : plainName "com/example/axislint/axislint/schema/XmlNamesIsNameStartCharPinLaw" = true := by first | (simp [plainName, overriddenIn]; done) | decide +kernel
def f2_187 (x0 : Int32) (x1 : Int32) (y0 : Int32) : Int32 := nar .boolean y0
theorem b2_187 {p : Program} {l : Launch} {e : Env} {R : Room} {s : State} {m : MethodId} {args : Array Value} {below : List Frame} {meth : Method} {c : Code} {T : State} {locs : List Loc} {cells slots : Nat} (X : Stand p l e R s m args below meth c T locs cells slots) (hx : p.tables.exec = Jvm.exec) (hby : c.code = method_3_code) (hown : s.vm.findClass "com/example/axislint/axislint/schema/XmlNamesIsNameStartCharPinLaw" = some m.cls) (hret : meth.sig.returnType = some .boolean) {fs : List Frame} {z : Int32} (hl : ∀ (f : JFrame) (acts : List Action), f.method = m → f.locked = none → f.entered = [] → (doReturn e (T.setTop f) acts (some (.int z))).1 = T.setFrames fs) (k13 : (Jvm.Cond.constant "com/example/axislint/axislint/schema/XmlNamesIsNameStartCharPinLaw" 13 (983039 : Int32)).before args s = true) (k26 : (Jvm.Cond.constant "com/example/axislint/axislint/schema/XmlNamesIsNameStartCharPinLaw" 26 (55296 : Int32)).before args s = true) (k27 : (Jvm.Cond.constant "com/example/axislint/axislint/schema/XmlNamesIsNameStartCharPinLaw" 27 (63743 : Int32)).before args s = true) (k28 : (Jvm.Cond.constant "com/example/axislint/axislint/schema/XmlNamesIsNameStartCharPinLaw" 28 (64976 : Int32)).before args s = true) (k29 : (Jvm.Cond.constant "com/example/axislint/axislint/schema/XmlNamesIsNameStartCharPinLaw" 29 (65007 : Int32)).before args s = true) (k30 : (Jvm.Cond.constant "com/example/axislint/axislint/schema/XmlNamesIsNameStartCharPinLaw" 30 (65534 : Int32)).before args s = true) (k31 : (Jvm.Cond.constant "com/example/axislint/axislint/schema/XmlNamesIsNameStartCharPinLaw" 31 (65535 : Int32)).before args s = true) (x0 : Int32) (x1 : Int32) (y0 : Int32) (hz : f2_187 x0 x1 y0 = z) :
    Steps p.tables e below (T.setTop (mkF m 187 #[.val (.int x0), .val (.int x1)] [(.int y0)])) (T.setFrames fs) := by
  unfold f2_187 at hz
  subst hz
  exact retN X hx hret (by simp) (hb hby d2_187) hl
def f2_177 (x0 : Int32) (y0 : Int32) : Int32 := if y0 = (0 : Int32) then f2_187 x0 y0 (1 : Int32) else f2_187 x0 y0 (0 : Int32)
theorem b2_177 {p : Program} {l : Launch} {e : Env} {R : Room} {s : State} {m : MethodId} {args : Array Value} {below : List Frame} {meth : Method} {c : Code} {T : State} {locs : List Loc} {cells slots : Nat} (X : Stand p l e R s m args below meth c T locs cells slots) (hx : p.tables.exec = Jvm.exec) (hby : c.code = method_3_code) (hown : s.vm.findClass "com/example/axislint/axislint/schema/XmlNamesIsNameStartCharPinLaw" = some m.cls) (hret : meth.sig.returnType = some .boolean) {fs : List Frame} {z : Int32} (hl : ∀ (f : JFrame) (acts : List Action), f.method = m → f.locked = none → f.entered = [] → (doReturn e (T.setTop f) acts (some (.int z))).1 = T.setFrames fs) (k13 : (Jvm.Cond.constant "com/example/axislint/axislint/schema/XmlNamesIsNameStartCharPinLaw" 13 (983039 : Int32)).before args s = true) (k26 : (Jvm.Cond.constant "com/example/axislint/axislint/schema/XmlNamesIsNameStartCharPinLaw" 26 (55296 : Int32)).before args s = true) (k27 : (Jvm.Cond.constant "com/example/axislint/axislint/schema/XmlNamesIsNameStartCharPinLaw" 27 (63743 : Int32)).before args s = true) (k28 : (Jvm.Cond.constant "com/example/axislint/axislint/schema/XmlNamesIsNameStartCharPinLaw" 28 (64976 : Int32)).before args s = true) (k29 : (Jvm.Cond.constant "com/example/axislint/axislint/schema/XmlNamesIsNameStartCharPinLaw" 29 (65007 : Int32)).before args s = true) (k30 : (Jvm.Cond.constant "com/example/axislint/axislint/schema/XmlNamesIsNameStartCharPinLaw" 30 (65534 : Int32)).before args s = true) (k31 : (Jvm.Cond.constant "com/example/axislint/axislint/schema/XmlNamesIsNameStartCharPinLaw" 31 (65535 : Int32)).before args s = true) (x0 : Int32) (y0 : Int32) (hz : f2_177 x0 y0 = z) :
    Steps p.tables e below (T.setTop (mkF m 177 #[.val (.int x0), .unset] [(.int y0)])) (T.setFrames fs) := by
  unfold f2_177 at hz
  refine XS.istoreN X.here hx rfl (hb hby d2_177) rfl (l' := #[.val (.int x0), .val (.int y0)]) rfl ?_
  show Steps p.tables e below (T.setTop (mkF m 178 #[.val (.int x0), .val (.int y0)] [])) _
  refine XS.iloadN X.here hx rfl (hb hby d2_178) rfl ?_
  show Steps p.tables e below (T.setTop (mkF m 179 #[.val (.int x0), .val (.int y0)] [(.int y0)])) _
  by_cases h179 : y0 = (0 : Int32)
  · rw [if_pos h179] at hz
    refine XS.ifNo X.here hx rfl (hb hby d2_179) rfl ((if0 _ _).trans (teq h179).2) ?_
    show Steps p.tables e below (T.setTop (mkF m 182 #[.val (.int x0), .val (.int y0)] [])) _
    refine XS.iconst X.here hx rfl (hb hby d2_182) ?_
    show Steps p.tables e below (T.setTop (mkF m 183 #[.val (.int x0), .val (.int y0)] [(.int (1 : Int32))])) _
    refine XS.goto X.here hx rfl (pc0 := 183) (pc' := 187) rfl (hb hby d2_183) (by decide) (by decide) ?_
    show Steps p.tables e below (T.setTop (mkF m 187 #[.val (.int x0), .val (.int y0)] [(.int (1 : Int32))])) _
    exact b2_187 X hx hby hown hret hl k13 k26 k27 k28 k29 k30 k31 x0 y0 (1 : Int32)  hz
  · rw [if_neg h179] at hz
    refine XS.ifYes X.here hx rfl (pc0 := 179) (pc' := 186) rfl (hb hby d2_179) rfl ((if0 _ _).trans (feq h179).2) (by decide) (by decide) ?_
    show Steps p.tables e below (T.setTop (mkF m 186 #[.val (.int x0), .val (.int y0)] [])) _
    refine XS.iconst X.here hx rfl (hb hby d2_186) ?_
    show Steps p.tables e below (T.setTop (mkF m 187 #[.val (.int x0), .val (.int y0)] [(.int (0 : Int32))])) _
    exact b2_187 X hx hby hown hret hl k13 k26 k27 k28 k29 k30 k31 x0 y0 (0 : Int32)  hz
def f2_172 (x0 : Int32) : Int32 := f2_177 x0 (1 : Int32)
theorem b2_172 {p : Program} {l : Launch} {e : Env} {R : Room} {s : State} {m : MethodId} {args : Array Value} {below : List Frame} {meth : Method} {c : Code} {T : State} {locs : List Loc} {cells slots : Nat} (X : Stand p l e R s m args below meth c T locs cells slots) (hx : p.tables.exec = Jvm.exec) (hby : c.code = method_3_code) (hown : s.vm.findClass "com/example/axislint/axislint/schema/XmlNamesIsNameStartCharPinLaw" = some m.cls) (hret : meth.sig.returnType = some .boolean) {fs : List Frame} {z : Int32} (hl : ∀ (f : JFrame) (acts : List Action), f.method = m → f.locked = none → f.entered = [] → (doReturn e (T.setTop f) acts (some (.int z))).1 = T.setFrames fs) (k13 : (Jvm.Cond.constant "com/example/axislint/axislint/schema/XmlNamesIsNameStartCharPinLaw" 13 (983039 : Int32)).before args s = true) (k26 : (Jvm.Cond.constant "com/example/axislint/axislint/schema/XmlNamesIsNameStartCharPinLaw" 26 (55296 : Int32)).before args s = true) (k27 : (Jvm.Cond.constant "com/example/axislint/axislint/schema/XmlNamesIsNameStartCharPinLaw" 27 (63743 : Int32)).before args s = true) (k28 : (Jvm.Cond.constant "com/example/axislint/axislint/schema/XmlNamesIsNameStartCharPinLaw" 28 (64976 : Int32)).before args s = true) (k29 : (Jvm.Cond.constant "com/example/axislint/axislint/schema/XmlNamesIsNameStartCharPinLaw" 29 (65007 : Int32)).before args s = true) (k30 : (Jvm.Cond.constant "com/example/axislint/axislint/schema/XmlNamesIsNameStartCharPinLaw" 30 (65534 : Int32)).before args s = true) (k31 : (Jvm.Cond.constant "com/example/axislint/axislint/schema/XmlNamesIsNameStartCharPinLaw" 31 (65535 : Int32)).before args s = true) (x0 : Int32) (hz : f2_172 x0 = z) :
    Steps p.tables e below (T.setTop (mkF m 172 #[.val (.int x0), .unset] [])) (T.setFrames fs) := by
  unfold f2_172 at hz
  refine XS.iconst X.here hx rfl (hb hby d2_172) ?_
  show Steps p.tables e below (T.setTop (mkF m 173 #[.val (.int x0), .unset] [(.int (1 : Int32))])) _
  refine XS.goto X.here hx rfl (pc0 := 173) (pc' := 177) rfl (hb hby d2_173) (by decide) (by decide) ?_
  show Steps p.tables e below (T.setTop (mkF m 177 #[.val (.int x0), .unset] [(.int (1 : Int32))])) _
  exact b2_177 X hx hby hown hret hl k13 k26 k27 k28 k29 k30 k31 x0 (1 : Int32)  hz
def f2_176 (x0 : Int32) : Int32 := f2_177 x0 (0 : Int32)
theorem b2_176 {p : Program} {l : Launch} {e : Env} {R : Room} {s : State} {m : MethodId} {args : Array Value} {below : List Frame} {meth : Method} {c : Code} {T : State} {locs : List Loc} {cells slots : Nat} (X : Stand p l e R s m args below meth c T locs cells slots) (hx : p.tables.exec = Jvm.exec) (hby : c.code = method_3_code) (hown : s.vm.findClass "com/example/axislint/axislint/schema/XmlNamesIsNameStartCharPinLaw" = some m.cls) (hret : meth.sig.returnType = some .boolean) {fs : List Frame} {z : Int32} (hl : ∀ (f : JFrame) (acts : List Action), f.method = m → f.locked = none → f.entered = [] → (doReturn e (T.setTop f) acts (some (.int z))).1 = T.setFrames fs) (k13 : (Jvm.Cond.constant "com/example/axislint/axislint/schema/XmlNamesIsNameStartCharPinLaw" 13 (983039 : Int32)).before args s = true) (k26 : (Jvm.Cond.constant "com/example/axislint/axislint/schema/XmlNamesIsNameStartCharPinLaw" 26 (55296 : Int32)).before args s = true) (k27 : (Jvm.Cond.constant "com/example/axislint/axislint/schema/XmlNamesIsNameStartCharPinLaw" 27 (63743 : Int32)).before args s = true) (k28 : (Jvm.Cond.constant "com/example/axislint/axislint/schema/XmlNamesIsNameStartCharPinLaw" 28 (64976 : Int32)).before args s = true) (k29 : (Jvm.Cond.constant "com/example/axislint/axislint/schema/XmlNamesIsNameStartCharPinLaw" 29 (65007 : Int32)).before args s = true) (k30 : (Jvm.Cond.constant "com/example/axislint/axislint/schema/XmlNamesIsNameStartCharPinLaw" 30 (65534 : Int32)).before args s = true) (k31 : (Jvm.Cond.constant "com/example/axislint/axislint/schema/XmlNamesIsNameStartCharPinLaw" 31 (65535 : Int32)).before args s = true) (x0 : Int32) (hz : f2_176 x0 = z) :
    Steps p.tables e below (T.setTop (mkF m 176 #[.val (.int x0), .unset] [])) (T.setFrames fs) := by
  unfold f2_176 at hz
  refine XS.iconst X.here hx rfl (hb hby d2_176) ?_
  show Steps p.tables e below (T.setTop (mkF m 177 #[.val (.int x0), .unset] [(.int (0 : Int32))])) _
  exact b2_177 X hx hby hown hret hl k13 k26 k27 k28 k29 k30 k31 x0 (0 : Int32)  hz
def f2_160 (x0 : Int32) : Int32 := if x0 < (65534 : Int32) then f2_176 x0 else (if (65535 : Int32) < x0 then f2_176 x0 else f2_172 x0)
theorem b2_160 {p : Program} {l : Launch} {e : Env} {R : Room} {s : State} {m : MethodId} {args : Array Value} {below : List Frame} {meth : Method} {c : Code} {T : State} {locs : List Loc} {cells slots : Nat} (X : Stand p l e R s m args below meth c T locs cells slots) (hx : p.tables.exec = Jvm.exec) (hby : c.code = method_3_code) (hown : s.vm.findClass "com/example/axislint/axislint/schema/XmlNamesIsNameStartCharPinLaw" = some m.cls) (hret : meth.sig.returnType = some .boolean) {fs : List Frame} {z : Int32} (hl : ∀ (f : JFrame) (acts : List Action), f.method = m → f.locked = none → f.entered = [] → (doReturn e (T.setTop f) acts (some (.int z))).1 = T.setFrames fs) (k13 : (Jvm.Cond.constant "com/example/axislint/axislint/schema/XmlNamesIsNameStartCharPinLaw" 13 (983039 : Int32)).before args s = true) (k26 : (Jvm.Cond.constant "com/example/axislint/axislint/schema/XmlNamesIsNameStartCharPinLaw" 26 (55296 : Int32)).before args s = true) (k27 : (Jvm.Cond.constant "com/example/axislint/axislint/schema/XmlNamesIsNameStartCharPinLaw" 27 (63743 : Int32)).before args s = true) (k28 : (Jvm.Cond.constant "com/example/axislint/axislint/schema/XmlNamesIsNameStartCharPinLaw" 28 (64976 : Int32)).before args s = true) (k29 : (Jvm.Cond.constant "com/example/axislint/axislint/schema/XmlNamesIsNameStartCharPinLaw" 29 (65007 : Int32)).before args s = true) (k30 : (Jvm.Cond.constant "com/example/axislint/axislint/schema/XmlNamesIsNameStartCharPinLaw" 30 (65534 : Int32)).before args s = true) (k31 : (Jvm.Cond.constant "com/example/axislint/axislint/schema/XmlNamesIsNameStartCharPinLaw" 31 (65535 : Int32)).before args s = true) (x0 : Int32) (hz : f2_160 x0 = z) :
    Steps p.tables e below (T.setTop (mkF m 160 #[.val (.int x0), .unset] [])) (T.setFrames fs) := by
  unfold f2_160 at hz
  refine XS.iloadN X.here hx rfl (hb hby d2_160) rfl ?_
  show Steps p.tables e below (T.setTop (mkF m 161 #[.val (.int x0), .unset] [(.int x0)])) _
  refine X.ldcInt hx hown k30 (g := (mkF m 161 #[.val (.int x0), .unset] [(.int x0)])) rfl (hb hby d2_161) _ ?_
  show Steps p.tables e below (T.setTop (mkF m 163 #[.val (.int x0), .unset] [(.int (65534 : Int32)), (.int x0)])) _
  by_cases h163 : x0 < (65534 : Int32)
  · rw [if_pos h163] at hz
    refine XS.icmpYes X.here hx rfl (pc0 := 163) (pc' := 176) rfl (hb hby d2_163) rfl (tlt h163).1 (by decide) (by decide) ?_
    show Steps p.tables e below (T.setTop (mkF m 176 #[.val (.int x0), .unset] [])) _
    exact b2_176 X hx hby hown hret hl k13 k26 k27 k28 k29 k30 k31 x0  hz
  · rw [if_neg h163] at hz
    refine XS.icmpNo X.here hx rfl (hb hby d2_163) rfl (flt h163).1 ?_
    show Steps p.tables e below (T.setTop (mkF m 166 #[.val (.int x0), .unset] [])) _
    refine XS.iloadN X.here hx rfl (hb hby d2_166) rfl ?_
    show Steps p.tables e below (T.setTop (mkF m 167 #[.val (.int x0), .unset] [(.int x0)])) _
    refine X.ldcInt hx hown k31 (g := (mkF m 167 #[.val (.int x0), .unset] [(.int x0)])) rfl (hb hby d2_167) _ ?_
    show Steps p.tables e below (T.setTop (mkF m 169 #[.val (.int x0), .unset] [(.int (65535 : Int32)), (.int x0)])) _
    by_cases h169 : (65535 : Int32) < x0
    · rw [if_pos h169] at hz
      refine XS.icmpYes X.here hx rfl (pc0 := 169) (pc' := 176) rfl (hb hby d2_169) rfl (tlt h169).2.2.1 (by decide) (by decide) ?_
      show Steps p.tables e below (T.setTop (mkF m 176 #[.val (.int x0), .unset] [])) _
      exact b2_176 X hx hby hown hret hl k13 k26 k27 k28 k29 k30 k31 x0  hz
    · rw [if_neg h169] at hz
      refine XS.icmpNo X.here hx rfl (hb hby d2_169) rfl (flt h169).2.2.1 ?_
      show Steps p.tables e below (T.setTop (mkF m 172 #[.val (.int x0), .unset] [])) _
      exact b2_172 X hx hby hown hret hl k13 k26 k27 k28 k29 k30 k31 x0  hz
def f2_148 (x0 : Int32) : Int32 := if x0 < (64976 : Int32) then f2_160 x0 else (if (65007 : Int32) < x0 then f2_160 x0 else f2_172 x0)
theorem b2_148 {p : Program} {l : Launch} {e : Env} {R : Room} {s : State} {m : MethodId} {args : Array Value} {below : List Frame} {meth : Method} {c : Code} {T : State} {locs : List Loc} {cells slots : Nat} (X : Stand p l e R s m args below meth c T locs cells slots) (hx : p.tables.exec = Jvm.exec) (hby : c.code = method_3_code) (hown : s.vm.findClass "com/example/axislint/axislint/schema/XmlNamesIsNameStartCharPinLaw" = some m.cls) (hret : meth.sig.returnType = some .boolean) {fs : List Frame} {z : Int32} (hl : ∀ (f : JFrame) (acts : List Action), f.method = m → f.locked = none → f.entered = [] → (doReturn e (T.setTop f) acts (some (.int z))).1 = T.setFrames fs) (k13 : (Jvm.Cond.constant "com/example/axislint/axislint/schema/XmlNamesIsNameStartCharPinLaw" 13 (983039 : Int32)).before args s = true) (k26 : (Jvm.Cond.constant "com/example/axislint/axislint/schema/XmlNamesIsNameStartCharPinLaw" 26 (55296 : Int32)).before args s = true) (k27 : (Jvm.Cond.constant "com/example/axislint/axislint/schema/XmlNamesIsNameStartCharPinLaw" 27 (63743 : Int32)).before args s = true) (k28 : (Jvm.Cond.constant "com/example/axislint/axislint/schema/XmlNamesIsNameStartCharPinLaw" 28 (64976 : Int32)).before args s = true) (k29 : (Jvm.Cond.constant "com/example/axislint/axislint/schema/XmlNamesIsNameStartCharPinLaw" 29 (65007 : Int32)).before args s = true) (k30 : (Jvm.Cond.constant "com/example/axislint/axislint/schema/XmlNamesIsNameStartCharPinLaw" 30 (65534 : Int32)).before args s = true) (k31 : (Jvm.Cond.constant "com/example/axislint/axislint/schema/XmlNamesIsNameStartCharPinLaw" 31 (65535 : Int32)).before args s = true) (x0 : Int32) (hz : f2_148 x0 = z) :
    Steps p.tables e below (T.setTop (mkF m 148 #[.val (.int x0), .unset] [])) (T.setFrames fs) := by
  unfold f2_148 at hz
  refine XS.iloadN X.here hx rfl (hb hby d2_148) rfl ?_
  show Steps p.tables e below (T.setTop (mkF m 149 #[.val (.int x0), .unset] [(.int x0)])) _
  refine X.ldcInt hx hown k28 (g := (mkF m 149 #[.val (.int x0), .unset] [(.int x0)])) rfl (hb hby d2_149) _ ?_
  show Steps p.tables e below (T.setTop (mkF m 151 #[.val (.int x0), .unset] [(.int (64976 : Int32)), (.int x0)])) _
  by_cases h151 : x0 < (64976 : Int32)
  · rw [if_pos h151] at hz
    refine XS.icmpYes X.here hx rfl (pc0 := 151) (pc' := 160) rfl (hb hby d2_151) rfl (tlt h151).1 (by decide) (by decide) ?_
    show Steps p.tables e below (T.setTop (mkF m 160 #[.val (.int x0), .unset] [])) _
    exact b2_160 X hx hby hown hret hl k13 k26 k27 k28 k29 k30 k31 x0  hz
  · rw [if_neg h151] at hz
    refine XS.icmpNo X.here hx rfl (hb hby d2_151) rfl (flt h151).1 ?_
    show Steps p.tables e below (T.setTop (mkF m 154 #[.val (.int x0), .unset] [])) _
    refine XS.iloadN X.here hx rfl (hb hby d2_154) rfl ?_
    show Steps p.tables e below (T.setTop (mkF m 155 #[.val (.int x0), .unset] [(.int x0)])) _
    refine X.ldcInt hx hown k29 (g := (mkF m 155 #[.val (.int x0), .unset] [(.int x0)])) rfl (hb hby d2_155) _ ?_
    show Steps p.tables e below (T.setTop (mkF m 157 #[.val (.int x0), .unset] [(.int (65007 : Int32)), (.int x0)])) _
    by_cases h157 : (65007 : Int32) < x0
    · rw [if_pos h157] at hz
      refine XS.icmpNo X.here hx rfl (hb hby d2_157) rfl (tlt h157).2.2.2 ?_
      show Steps p.tables e below (T.setTop (mkF m 160 #[.val (.int x0), .unset] [])) _
      exact b2_160 X hx hby hown hret hl k13 k26 k27 k28 k29 k30 k31 x0  hz
    · rw [if_neg h157] at hz
      refine XS.icmpYes X.here hx rfl (pc0 := 157) (pc' := 172) rfl (hb hby d2_157) rfl (flt h157).2.2.2 (by decide) (by decide) ?_
      show Steps p.tables e below (T.setTop (mkF m 172 #[.val (.int x0), .unset] [])) _
      exact b2_172 X hx hby hown hret hl k13 k26 k27 k28 k29 k30 k31 x0  hz
def f2_136 (x0 : Int32) : Int32 := if x0 < (55296 : Int32) then f2_148 x0 else (if (63743 : Int32) < x0 then f2_148 x0 else f2_172 x0)
theorem b2_136 {p : Program} {l : Launch} {e : Env} {R : Room} {s : State} {m : MethodId} {args : Array Value} {below : List Frame} {meth : Method} {c : Code} {T : State} {locs : List Loc} {cells slots : Nat} (X : Stand p l e R s m args below meth c T locs cells slots) (hx : p.tables.exec = Jvm.exec) (hby : c.code = method_3_code) (hown : s.vm.findClass "com/example/axislint/axislint/schema/XmlNamesIsNameStartCharPinLaw" = some m.cls) (hret : meth.sig.returnType = some .boolean) {fs : List Frame} {z : Int32} (hl : ∀ (f : JFrame) (acts : List Action), f.method = m → f.locked = none → f.entered = [] → (doReturn e (T.setTop f) acts (some (.int z))).1 = T.setFrames fs) (k13 : (Jvm.Cond.constant "com/example/axislint/axislint/schema/XmlNamesIsNameStartCharPinLaw" 13 (983039 : Int32)).before args s = true) (k26 : (Jvm.Cond.constant "com/example/axislint/axislint/schema/XmlNamesIsNameStartCharPinLaw" 26 (55296 : Int32)).before args s = true) (k27 : (Jvm.Cond.constant "com/example/axislint/axislint/schema/XmlNamesIsNameStartCharPinLaw" 27 (63743 : Int32)).before args s = true) (k28 : (Jvm.Cond.constant "com/example/axislint/axislint/schema/XmlNamesIsNameStartCharPinLaw" 28 (64976 : Int32)).before args s = true) (k29 : (Jvm.Cond.constant "com/example/axislint/axislint/schema/XmlNamesIsNameStartCharPinLaw" 29 (65007 : Int32)).before args s = true) (k30 : (Jvm.Cond.constant "com/example/axislint/axislint/schema/XmlNamesIsNameStartCharPinLaw" 30 (65534 : Int32)).before args s = true) (k31 : (Jvm.Cond.constant "com/example/axislint/axislint/schema/XmlNamesIsNameStartCharPinLaw" 31 (65535 : Int32)).before args s = true) (x0 : Int32) (hz : f2_136 x0 = z) :
    Steps p.tables e below (T.setTop (mkF m 136 #[.val (.int x0), .unset] [])) (T.setFrames fs) := by
  unfold f2_136 at hz
  refine XS.iloadN X.here hx rfl (hb hby d2_136) rfl ?_
  show Steps p.tables e below (T.setTop (mkF m 137 #[.val (.int x0), .unset] [(.int x0)])) _
  refine X.ldcInt hx hown k26 (g := (mkF m 137 #[.val (.int x0), .unset] [(.int x0)])) rfl (hb hby d2_137) _ ?_
  show Steps p.tables e below (T.setTop (mkF m 139 #[.val (.int x0), .unset] [(.int (55296 : Int32)), (.int x0)])) _
  by_cases h139 : x0 < (55296 : Int32)
  · rw [if_pos h139] at hz
    refine XS.icmpYes X.here hx rfl (pc0 := 139) (pc' := 148) rfl (hb hby d2_139) rfl (tlt h139).1 (by decide) (by decide) ?_
    show Steps p.tables e below (T.setTop (mkF m 148 #[.val (.int x0), .unset] [])) _
    exact b2_148 X hx hby hown hret hl k13 k26 k27 k28 k29 k30 k31 x0  hz
  · rw [if_neg h139] at hz
    refine XS.icmpNo X.here hx rfl (hb hby d2_139) rfl (flt h139).1 ?_
    show Steps p.tables e below (T.setTop (mkF m 142 #[.val (.int x0), .unset] [])) _
    refine XS.iloadN X.here hx rfl (hb hby d2_142) rfl ?_
    show Steps p.tables e below (T.setTop (mkF m 143 #[.val (.int x0), .unset] [(.int x0)])) _
    refine X.ldcInt hx hown k27 (g := (mkF m 143 #[.val (.int x0), .unset] [(.int x0)])) rfl (hb hby d2_143) _ ?_
    show Steps p.tables e below (T.setTop (mkF m 145 #[.val (.int x0), .unset] [(.int (63743 : Int32)), (.int x0)])) _
    by_cases h145 : (63743 : Int32) < x0
    · rw [if_pos h145] at hz
      refine XS.icmpNo X.here hx rfl (hb hby d2_145) rfl (tlt h145).2.2.2 ?_
      show Steps p.tables e below (T.setTop (mkF m 148 #[.val (.int x0), .unset] [])) _
      exact b2_148 X hx hby hown hret hl k13 k26 k27 k28 k29 k30 k31 x0  hz
    · rw [if_neg h145] at hz
      refine XS.icmpYes X.here hx rfl (pc0 := 145) (pc' := 172) rfl (hb hby d2_145) rfl (flt h145).2.2.2 (by decide) (by decide) ?_
      show Steps p.tables e below (T.setTop (mkF m 172 #[.val (.int x0), .unset] [])) _
      exact b2_172 X hx hby hown hret hl k13 k26 k27 k28 k29 k30 k31 x0  hz
def f2_122 (x0 : Int32) : Int32 := if x0 < (12272 : Int32) then f2_136 x0 else (if (12288 : Int32) < x0 then f2_136 x0 else f2_172 x0)
theorem b2_122 {p : Program} {l : Launch} {e : Env} {R : Room} {s : State} {m : MethodId} {args : Array Value} {below : List Frame} {meth : Method} {c : Code} {T : State} {locs : List Loc} {cells slots : Nat} (X : Stand p l e R s m args below meth c T locs cells slots) (hx : p.tables.exec = Jvm.exec) (hby : c.code = method_3_code) (hown : s.vm.findClass "com/example/axislint/axislint/schema/XmlNamesIsNameStartCharPinLaw" = some m.cls) (hret : meth.sig.returnType = some .boolean) {fs : List Frame} {z : Int32} (hl : ∀ (f : JFrame) (acts : List Action), f.method = m → f.locked = none → f.entered = [] → (doReturn e (T.setTop f) acts (some (.int z))).1 = T.setFrames fs) (k13 : (Jvm.Cond.constant "com/example/axislint/axislint/schema/XmlNamesIsNameStartCharPinLaw" 13 (983039 : Int32)).before args s = true) (k26 : (Jvm.Cond.constant "com/example/axislint/axislint/schema/XmlNamesIsNameStartCharPinLaw" 26 (55296 : Int32)).before args s = true) (k27 : (Jvm.Cond.constant "com/example/axislint/axislint/schema/XmlNamesIsNameStartCharPinLaw" 27 (63743 : Int32)).before args s = true) (k28 : (Jvm.Cond.constant "com/example/axislint/axislint/schema/XmlNamesIsNameStartCharPinLaw" 28 (64976 : Int32)).before args s = true) (k29 : (Jvm.Cond.constant "com/example/axislint/axislint/schema/XmlNamesIsNameStartCharPinLaw" 29 (65007 : Int32)).before args s = true) (k30 : (Jvm.Cond.constant "com/example/axislint/axislint/schema/XmlNamesIsNameStartCharPinLaw" 30 (65534 : Int32)).before args s = true) (k31 : (Jvm.Cond.constant "com/example/axislint/axislint/schema/XmlNamesIsNameStartCharPinLaw" 31 (65535 : Int32)).before args s = true) (x0 : Int32) (hz : f2_122 x0 = z) :
    Steps p.tables e below (T.setTop (mkF m 122 #[.val (.int x0), .unset] [])) (T.setFrames fs) := by
  unfold f2_122 at hz
  refine XS.iloadN X.here hx rfl (hb hby d2_122) rfl ?_
  show Steps p.tables e below (T.setTop (mkF m 123 #[.val (.int x0), .unset] [(.int x0)])) _
  refine XS.sipush X.here hx rfl (hb hby d2_123) ?_
  show Steps p.tables e below (T.setTop (mkF m 126 #[.val (.int x0), .unset] [(.int (12272 : Int32)), (.int x0)])) _
  by_cases h126 : x0 < (12272 : Int32)
  · rw [if_pos h126] at hz
    refine XS.icmpYes X.here hx rfl (pc0 := 126) (pc' := 136) rfl (hb hby d2_126) rfl (tlt h126).1 (by decide) (by decide) ?_
    show Steps p.tables e below (T.setTop (mkF m 136 #[.val (.int x0), .unset] [])) _
    exact b2_136 X hx hby hown hret hl k13 k26 k27 k28 k29 k30 k31 x0  hz
  · rw [if_neg h126] at hz
    refine XS.icmpNo X.here hx rfl (hb hby d2_126) rfl (flt h126).1 ?_
    show Steps p.tables e below (T.setTop (mkF m 129 #[.val (.int x0), .unset] [])) _
    refine XS.iloadN X.here hx rfl (hb hby d2_129) rfl ?_
    show Steps p.tables e below (T.setTop (mkF m 130 #[.val (.int x0), .unset] [(.int x0)])) _
    refine XS.sipush X.here hx rfl (hb hby d2_130) ?_
    show Steps p.tables e below (T.setTop (mkF m 133 #[.val (.int x0), .unset] [(.int (12288 : Int32)), (.int x0)])) _
    by_cases h133 : (12288 : Int32) < x0
    · rw [if_pos h133] at hz
      refine XS.icmpNo X.here hx rfl (hb hby d2_133) rfl (tlt h133).2.2.2 ?_
      show Steps p.tables e below (T.setTop (mkF m 136 #[.val (.int x0), .unset] [])) _
      exact b2_136 X hx hby hown hret hl k13 k26 k27 k28 k29 k30 k31 x0  hz
    · rw [if_neg h133] at hz
      refine XS.icmpYes X.here hx rfl (pc0 := 133) (pc' := 172) rfl (hb hby d2_133) rfl (flt h133).2.2.2 (by decide) (by decide) ?_
      show Steps p.tables e below (T.setTop (mkF m 172 #[.val (.int x0), .unset] [])) _
      exact b2_172 X hx hby hown hret hl k13 k26 k27 k28 k29 k30 k31 x0  hz
def f2_108 (x0 : Int32) : Int32 := if x0 < (8592 : Int32) then f2_122 x0 else (if (11263 : Int32) < x0 then f2_122 x0 else f2_172 x0)
theorem b2_108 {p : Program} {l : Launch} {e : Env} {R : Room} {s : State} {m : MethodId} {args : Array Value} {below : List Frame} {meth : Method} {c : Code} {T : State} {locs : List Loc} {cells slots : Nat} (X : Stand p l e R s m args below meth c T locs cells slots) (hx : p.tables.exec = Jvm.exec) (hby : c.code = method_3_code) (hown : s.vm.findClass "com/example/axislint/axislint/schema/XmlNamesIsNameStartCharPinLaw" = some m.cls) (hret : meth.sig.returnType = some .boolean) {fs : List Frame} {z : Int32} (hl : ∀ (f : JFrame) (acts : List Action), f.method = m → f.locked = none → f.entered = [] → (doReturn e (T.setTop f) acts (some (.int z))).1 = T.setFrames fs) (k13 : (Jvm.Cond.constant "com/example/axislint/axislint/schema/XmlNamesIsNameStartCharPinLaw" 13 (983039 : Int32)).before args s = true) (k26 : (Jvm.Cond.constant "com/example/axislint/axislint/schema/XmlNamesIsNameStartCharPinLaw" 26 (55296 : Int32)).before args s = true) (k27 : (Jvm.Cond.constant "com/example/axislint/axislint/schema/XmlNamesIsNameStartCharPinLaw" 27 (63743 : Int32)).before args s = true) (k28 : (Jvm.Cond.constant "com/example/axislint/axislint/schema/XmlNamesIsNameStartCharPinLaw" 28 (64976 : Int32)).before args s = true) (k29 : (Jvm.Cond.constant "com/example/axislint/axislint/schema/XmlNamesIsNameStartCharPinLaw" 29 (65007 : Int32)).before args s = true) (k30 : (Jvm.Cond.constant "com/example/axislint/axislint/schema/XmlNamesIsNameStartCharPinLaw" 30 (65534 : Int32)).before args s = true) (k31 : (Jvm.Cond.constant "com/example/axislint/axislint/schema/XmlNamesIsNameStartCharPinLaw" 31 (65535 : Int32)).before args s = true) (x0 : Int32) (hz : f2_108 x0 = z) :
    Steps p.tables e below (T.setTop (mkF m 108 #[.val (.int x0), .unset] [])) (T.setFrames fs) := by
  unfold f2_108 at hz
  refine XS.iloadN X.here hx rfl (hb hby d2_108) rfl ?_
  show Steps p.tables e below (T.setTop (mkF m 109 #[.val (.int x0), .unset] [(.int x0)])) _
  refine XS.sipush X.here hx rfl (hb hby d2_109) ?_
  show Steps p.tables e below (T.setTop (mkF m 112 #[.val (.int x0), .unset] [(.int (8592 : Int32)), (.int x0)])) _
  by_cases h112 : x0 < (8592 : Int32)
  · rw [if_pos h112] at hz
    refine XS.icmpYes X.here hx rfl (pc0 := 112) (pc' := 122) rfl (hb hby d2_112) rfl (tlt h112).1 (by decide) (by decide) ?_
    show Steps p.tables e below (T.setTop (mkF m 122 #[.val (.int x0), .unset] [])) _
    exact b2_122 X hx hby hown hret hl k13 k26 k27 k28 k29 k30 k31 x0  hz
  · rw [if_neg h112] at hz
    refine XS.icmpNo X.here hx rfl (hb hby d2_112) rfl (flt h112).1 ?_
    show Steps p.tables e below (T.setTop (mkF m 115 #[.val (.int x0), .unset] [])) _
    refine XS.iloadN X.here hx rfl (hb hby d2_115) rfl ?_
    show Steps p.tables e below (T.setTop (mkF m 116 #[.val (.int x0), .unset] [(.int x0)])) _
    refine XS.sipush X.here hx rfl (hb hby d2_116) ?_
    show Steps p.tables e below (T.setTop (mkF m 119 #[.val (.int x0), .unset] [(.int (11263 : Int32)), (.int x0)])) _
    by_cases h119 : (11263 : Int32) < x0
    · rw [if_pos h119] at hz
      refine XS.icmpNo X.here hx rfl (hb hby d2_119) rfl (tlt h119).2.2.2 ?_
      show Steps p.tables e below (T.setTop (mkF m 122 #[.val (.int x0), .unset] [])) _
      exact b2_122 X hx hby hown hret hl k13 k26 k27 k28 k29 k30 k31 x0  hz
    · rw [if_neg h119] at hz
      refine XS.icmpYes X.here hx rfl (pc0 := 119) (pc' := 172) rfl (hb hby d2_119) rfl (flt h119).2.2.2 (by decide) (by decide) ?_
      show Steps p.tables e below (T.setTop (mkF m 172 #[.val (.int x0), .unset] [])) _
      exact b2_172 X hx hby hown hret hl k13 k26 k27 k28 k29 k30 k31 x0  hz
def f2_94 (x0 : Int32) : Int32 := if x0 < (8206 : Int32) then f2_108 x0 else (if (8303 : Int32) < x0 then f2_108 x0 else f2_172 x0)
theorem b2_94 {p : Program} {l : Launch} {e : Env} {R : Room} {s : State} {m : MethodId} {args : Array Value} {below : List Frame} {meth : Method} {c : Code} {T : State} {locs : List Loc} {cells slots : Nat} (X : Stand p l e R s m args below meth c T locs cells slots) (hx : p.tables.exec = Jvm.exec) (hby : c.code = method_3_code) (hown : s.vm.findClass "com/example/axislint/axislint/schema/XmlNamesIsNameStartCharPinLaw" = some m.cls) (hret : meth.sig.returnType = some .boolean) {fs : List Frame} {z : Int32} (hl : ∀ (f : JFrame) (acts : List Action), f.method = m → f.locked = none → f.entered = [] → (doReturn e (T.setTop f) acts (some (.int z))).1 = T.setFrames fs) (k13 : (Jvm.Cond.constant "com/example/axislint/axislint/schema/XmlNamesIsNameStartCharPinLaw" 13 (983039 : Int32)).before args s = true) (k26 : (Jvm.Cond.constant "com/example/axislint/axislint/schema/XmlNamesIsNameStartCharPinLaw" 26 (55296 : Int32)).before args s = true) (k27 : (Jvm.Cond.constant "com/example/axislint/axislint/schema/XmlNamesIsNameStartCharPinLaw" 27 (63743 : Int32)).before args s = true) (k28 : (Jvm.Cond.constant "com/example/axislint/axislint/schema/XmlNamesIsNameStartCharPinLaw" 28 (64976 : Int32)).before args s = true) (k29 : (Jvm.Cond.constant "com/example/axislint/axislint/schema/XmlNamesIsNameStartCharPinLaw" 29 (65007 : Int32)).before args s = true) (k30 : (Jvm.Cond.constant "com/example/axislint/axislint/schema/XmlNamesIsNameStartCharPinLaw" 30 (65534 : Int32)).before args s = true) (k31 : (Jvm.Cond.constant "com/example/axislint/axislint/schema/XmlNamesIsNameStartCharPinLaw" 31 (65535 : Int32)).before args s = true) (x0 : Int32) (hz : f2_94 x0 = z) :
    Steps p.tables e below (T.setTop (mkF m 94 #[.val (.int x0), .unset] [])) (T.setFrames fs) := by
  unfold f2_94 at hz
  refine XS.iloadN X.here hx rfl (hb hby d2_94) rfl ?_
  show Steps p.tables e below (T.setTop (mkF m 95 #[.val (.int x0), .unset] [(.int x0)])) _
  refine XS.sipush X.here hx rfl (hb hby d2_95) ?_
  show Steps p.tables e below (T.setTop (mkF m 98 #[.val (.int x0), .unset] [(.int (8206 : Int32)), (.int x0)])) _
  by_cases h98 : x0 < (8206 : Int32)
  · rw [if_pos h98] at hz
    refine XS.icmpYes X.here hx rfl (pc0 := 98) (pc' := 108) rfl (hb hby d2_98) rfl (tlt h98).1 (by decide) (by decide) ?_
    show Steps p.tables e below (T.setTop (mkF m 108 #[.val (.int x0), .unset] [])) _
    exact b2_108 X hx hby hown hret hl k13 k26 k27 k28 k29 k30 k31 x0  hz
  · rw [if_neg h98] at hz
    refine XS.icmpNo X.here hx rfl (hb hby d2_98) rfl (flt h98).1 ?_
    show Steps p.tables e below (T.setTop (mkF m 101 #[.val (.int x0), .unset] [])) _
    refine XS.iloadN X.here hx rfl (hb hby d2_101) rfl ?_
    show Steps p.tables e below (T.setTop (mkF m 102 #[.val (.int x0), .unset] [(.int x0)])) _
    refine XS.sipush X.here hx rfl (hb hby d2_102) ?_
    show Steps p.tables e below (T.setTop (mkF m 105 #[.val (.int x0), .unset] [(.int (8303 : Int32)), (.int x0)])) _
    by_cases h105 : (8303 : Int32) < x0
    · rw [if_pos h105] at hz
      refine XS.icmpNo X.here hx rfl (hb hby d2_105) rfl (tlt h105).2.2.2 ?_
      show Steps p.tables e below (T.setTop (mkF m 108 #[.val (.int x0), .unset] [])) _
      exact b2_108 X hx hby hown hret hl k13 k26 k27 k28 k29 k30 k31 x0  hz
    · rw [if_neg h105] at hz
      refine XS.icmpYes X.here hx rfl (pc0 := 105) (pc' := 172) rfl (hb hby d2_105) rfl (flt h105).2.2.2 (by decide) (by decide) ?_
      show Steps p.tables e below (T.setTop (mkF m 172 #[.val (.int x0), .unset] [])) _
      exact b2_172 X hx hby hown hret hl k13 k26 k27 k28 k29 k30 k31 x0  hz
def f2_73 (x0 : Int32) : Int32 := if x0 = (894 : Int32) then f2_172 x0 else (if x0 < (8192 : Int32) then f2_94 x0 else (if (8203 : Int32) < x0 then f2_94 x0 else f2_172 x0))
theorem b2_73 {p : Program} {l : Launch} {e : Env} {R : Room} {s : State} {m : MethodId} {args : Array Value} {below : List Frame} {meth : Method} {c : Code} {T : State} {locs : List Loc} {cells slots : Nat} (X : Stand p l e R s m args below meth c T locs cells slots) (hx : p.tables.exec = Jvm.exec) (hby : c.code = method_3_code) (hown : s.vm.findClass "com/example/axislint/axislint/schema/XmlNamesIsNameStartCharPinLaw" = some m.cls) (hret : meth.sig.returnType = some .boolean) {fs : List Frame} {z : Int32} (hl : ∀ (f : JFrame) (acts : List Action), f.method = m → f.locked = none → f.entered = [] → (doReturn e (T.setTop f) acts (some (.int z))).1 = T.setFrames fs) (k13 : (Jvm.Cond.constant "com/example/axislint/axislint/schema/XmlNamesIsNameStartCharPinLaw" 13 (983039 : Int32)).before args s = true) (k26 : (Jvm.Cond.constant "com/example/axislint/axislint/schema/XmlNamesIsNameStartCharPinLaw" 26 (55296 : Int32)).before args s = true) (k27 : (Jvm.Cond.constant "com/example/axislint/axislint/schema/XmlNamesIsNameStartCharPinLaw" 27 (63743 : Int32)).before args s = true) (k28 : (Jvm.Cond.constant "com/example/axislint/axislint/schema/XmlNamesIsNameStartCharPinLaw" 28 (64976 : Int32)).before args s = true) (k29 : (Jvm.Cond.constant "com/example/axislint/axislint/schema/XmlNamesIsNameStartCharPinLaw" 29 (65007 : Int32)).before args s = true) (k30 : (Jvm.Cond.constant "com/example/axislint/axislint/schema/XmlNamesIsNameStartCharPinLaw" 30 (65534 : Int32)).before args s = true) (k31 : (Jvm.Cond.constant "com/example/axislint/axislint/schema/XmlNamesIsNameStartCharPinLaw" 31 (65535 : Int32)).before args s = true) (x0 : Int32) (hz : f2_73 x0 = z) :
    Steps p.tables e below (T.setTop (mkF m 73 #[.val (.int x0), .unset] [])) (T.setFrames fs) := by
  unfold f2_73 at hz
  refine XS.iloadN X.here hx rfl (hb hby d2_73) rfl ?_
  show Steps p.tables e below (T.setTop (mkF m 74 #[.val (.int x0), .unset] [(.int x0)])) _
  refine XS.sipush X.here hx rfl (hb hby d2_74) ?_
  show Steps p.tables e below (T.setTop (mkF m 77 #[.val (.int x0), .unset] [(.int (894 : Int32)), (.int x0)])) _
  by_cases h77 : x0 = (894 : Int32)
  · rw [if_pos h77] at hz
    refine XS.icmpYes X.here hx rfl (pc0 := 77) (pc' := 172) rfl (hb hby d2_77) rfl (teq h77).1 (by decide) (by decide) ?_
    show Steps p.tables e below (T.setTop (mkF m 172 #[.val (.int x0), .unset] [])) _
    exact b2_172 X hx hby hown hret hl k13 k26 k27 k28 k29 k30 k31 x0  hz
  · rw [if_neg h77] at hz
    refine XS.icmpNo X.here hx rfl (hb hby d2_77) rfl (feq h77).1 ?_
    show Steps p.tables e below (T.setTop (mkF m 80 #[.val (.int x0), .unset] [])) _
    refine XS.iloadN X.here hx rfl (hb hby d2_80) rfl ?_
    show Steps p.tables e below (T.setTop (mkF m 81 #[.val (.int x0), .unset] [(.int x0)])) _
    refine XS.sipush X.here hx rfl (hb hby d2_81) ?_
    show Steps p.tables e below (T.setTop (mkF m 84 #[.val (.int x0), .unset] [(.int (8192 : Int32)), (.int x0)])) _
    by_cases h84 : x0 < (8192 : Int32)
    · rw [if_pos h84] at hz
      refine XS.icmpYes X.here hx rfl (pc0 := 84) (pc' := 94) rfl (hb hby d2_84) rfl (tlt h84).1 (by decide) (by decide) ?_
      show Steps p.tables e below (T.setTop (mkF m 94 #[.val (.int x0), .unset] [])) _
      exact b2_94 X hx hby hown hret hl k13 k26 k27 k28 k29 k30 k31 x0  hz
    · rw [if_neg h84] at hz
      refine XS.icmpNo X.here hx rfl (hb hby d2_84) rfl (flt h84).1 ?_
      show Steps p.tables e below (T.setTop (mkF m 87 #[.val (.int x0), .unset] [])) _
      refine XS.iloadN X.here hx rfl (hb hby d2_87) rfl ?_
      show Steps p.tables e below (T.setTop (mkF m 88 #[.val (.int x0), .unset] [(.int x0)])) _
      refine XS.sipush X.here hx rfl (hb hby d2_88) ?_
      show Steps p.tables e below (T.setTop (mkF m 91 #[.val (.int x0), .unset] [(.int (8203 : Int32)), (.int x0)])) _
      by_cases h91 : (8203 : Int32) < x0
      · rw [if_pos h91] at hz
        refine XS.icmpNo X.here hx rfl (hb hby d2_91) rfl (tlt h91).2.2.2 ?_
        show Steps p.tables e below (T.setTop (mkF m 94 #[.val (.int x0), .unset] [])) _
        exact b2_94 X hx hby hown hret hl k13 k26 k27 k28 k29 k30 k31 x0  hz
      · rw [if_neg h91] at hz
        refine XS.icmpYes X.here hx rfl (pc0 := 91) (pc' := 172) rfl (hb hby d2_91) rfl (flt h91).2.2.2 (by decide) (by decide) ?_
        show Steps p.tables e below (T.setTop (mkF m 172 #[.val (.int x0), .unset] [])) _
        exact b2_172 X hx hby hown hret hl k13 k26 k27 k28 k29 k30 k31 x0  hz
def f2_45 (x0 : Int32) : Int32 := if x0 = (215 : Int32) then f2_172 x0 else (if x0 = (247 : Int32) then f2_172 x0 else (if x0 < (768 : Int32) then f2_73 x0 else (if (879 : Int32) < x0 then f2_73 x0 else f2_172 x0)))
theorem b2_45 {p : Program} {l : Launch} {e : Env} {R : Room} {s : State} {m : MethodId} {args : Array Value} {below : List Frame} {meth : Method} {c : Code} {T : State} {locs : List Loc} {cells slots : Nat} (X : Stand p l e R s m args below meth c T locs cells slots) (hx : p.tables.exec = Jvm.exec) (hby : c.code = method_3_code) (hown : s.vm.findClass "com/example/axislint/axislint/schema/XmlNamesIsNameStartCharPinLaw" = some m.cls) (hret : meth.sig.returnType = some .boolean) {fs : List Frame} {z : Int32} (hl : ∀ (f : JFrame) (acts : List Action), f.method = m → f.locked = none → f.entered = [] → (doReturn e (T.setTop f) acts (some (.int z))).1 = T.setFrames fs) (k13 : (Jvm.Cond.constant "com/example/axislint/axislint/schema/XmlNamesIsNameStartCharPinLaw" 13 (983039 : Int32)).before args s = true) (k26 : (Jvm.Cond.constant "com/example/axislint/axislint/schema/XmlNamesIsNameStartCharPinLaw" 26 (55296 : Int32)).before args s = true) (k27 : (Jvm.Cond.constant "com/example/axislint/axislint/schema/XmlNamesIsNameStartCharPinLaw" 27 (63743 : Int32)).before args s = true) (k28 : (Jvm.Cond.constant "com/example/axislint/axislint/schema/XmlNamesIsNameStartCharPinLaw" 28 (64976 : Int32)).before args s = true) (k29 : (Jvm.Cond.constant "com/example/axislint/axislint/schema/XmlNamesIsNameStartCharPinLaw" 29 (65007 : Int32)).before args s = true) (k30 : (Jvm.Cond.constant "com/example/axislint/axislint/schema/XmlNamesIsNameStartCharPinLaw" 30 (65534 : Int32)).before args s = true) (k31 : (Jvm.Cond.constant "com/example/axislint/axislint/schema/XmlNamesIsNameStartCharPinLaw" 31 (65535 : Int32)).before args s = true) (x0 : Int32) (hz : f2_45 x0 = z) :
    Steps p.tables e below (T.setTop (mkF m 45 #[.val (.int x0), .unset] [])) (T.setFrames fs) := by
  unfold f2_45 at hz
  refine XS.iloadN X.here hx rfl (hb hby d2_45) rfl ?_
  show Steps p.tables e below (T.setTop (mkF m 46 #[.val (.int x0), .unset] [(.int x0)])) _
  refine XS.sipush X.here hx rfl (hb hby d2_46) ?_
  show Steps p.tables e below (T.setTop (mkF m 49 #[.val (.int x0), .unset] [(.int (215 : Int32)), (.int x0)])) _
  by_cases h49 : x0 = (215 : Int32)
  · rw [if_pos h49] at hz
    refine XS.icmpYes X.here hx rfl (pc0 := 49) (pc' := 172) rfl (hb hby d2_49) rfl (teq h49).1 (by decide) (by decide) ?_
    show Steps p.tables e below (T.setTop (mkF m 172 #[.val (.int x0), .unset] [])) _
    exact b2_172 X hx hby hown hret hl k13 k26 k27 k28 k29 k30 k31 x0  hz
  · rw [if_neg h49] at hz
    refine XS.icmpNo X.here hx rfl (hb hby d2_49) rfl (feq h49).1 ?_
    show Steps p.tables e below (T.setTop (mkF m 52 #[.val (.int x0), .unset] [])) _
    refine XS.iloadN X.here hx rfl (hb hby d2_52) rfl ?_
    show Steps p.tables e below (T.setTop (mkF m 53 #[.val (.int x0), .unset] [(.int x0)])) _
    refine XS.sipush X.here hx rfl (hb hby d2_53) ?_
    show Steps p.tables e below (T.setTop (mkF m 56 #[.val (.int x0), .unset] [(.int (247 : Int32)), (.int x0)])) _
    by_cases h56 : x0 = (247 : Int32)
    · rw [if_pos h56] at hz
      refine XS.icmpYes X.here hx rfl (pc0 := 56) (pc' := 172) rfl (hb hby d2_56) rfl (teq h56).1 (by decide) (by decide) ?_
      show Steps p.tables e below (T.setTop (mkF m 172 #[.val (.int x0), .unset] [])) _
      exact b2_172 X hx hby hown hret hl k13 k26 k27 k28 k29 k30 k31 x0  hz
    · rw [if_neg h56] at hz
      refine XS.icmpNo X.here hx rfl (hb hby d2_56) rfl (feq h56).1 ?_
      show Steps p.tables e below (T.setTop (mkF m 59 #[.val (.int x0), .unset] [])) _
      refine XS.iloadN X.here hx rfl (hb hby d2_59) rfl ?_
      show Steps p.tables e below (T.setTop (mkF m 60 #[.val (.int x0), .unset] [(.int x0)])) _
      refine XS.sipush X.here hx rfl (hb hby d2_60) ?_
      show Steps p.tables e below (T.setTop (mkF m 63 #[.val (.int x0), .unset] [(.int (768 : Int32)), (.int x0)])) _
      by_cases h63 : x0 < (768 : Int32)
      · rw [if_pos h63] at hz
        refine XS.icmpYes X.here hx rfl (pc0 := 63) (pc' := 73) rfl (hb hby d2_63) rfl (tlt h63).1 (by decide) (by decide) ?_
        show Steps p.tables e below (T.setTop (mkF m 73 #[.val (.int x0), .unset] [])) _
        exact b2_73 X hx hby hown hret hl k13 k26 k27 k28 k29 k30 k31 x0  hz
      · rw [if_neg h63] at hz
        refine XS.icmpNo X.here hx rfl (hb hby d2_63) rfl (flt h63).1 ?_
        show Steps p.tables e below (T.setTop (mkF m 66 #[.val (.int x0), .unset] [])) _
        refine XS.iloadN X.here hx rfl (hb hby d2_66) rfl ?_
        show Steps p.tables e below (T.setTop (mkF m 67 #[.val (.int x0), .unset] [(.int x0)])) _
        refine XS.sipush X.here hx rfl (hb hby d2_67) ?_
        show Steps p.tables e below (T.setTop (mkF m 70 #[.val (.int x0), .unset] [(.int (879 : Int32)), (.int x0)])) _
        by_cases h70 : (879 : Int32) < x0
        · rw [if_pos h70] at hz
          refine XS.icmpNo X.here hx rfl (hb hby d2_70) rfl (tlt h70).2.2.2 ?_
          show Steps p.tables e below (T.setTop (mkF m 73 #[.val (.int x0), .unset] [])) _
          exact b2_73 X hx hby hown hret hl k13 k26 k27 k28 k29 k30 k31 x0  hz
        · rw [if_neg h70] at hz
          refine XS.icmpYes X.here hx rfl (pc0 := 70) (pc' := 172) rfl (hb hby d2_70) rfl (flt h70).2.2.2 (by decide) (by decide) ?_
          show Steps p.tables e below (T.setTop (mkF m 172 #[.val (.int x0), .unset] [])) _
          exact b2_172 X hx hby hown hret hl k13 k26 k27 k28 k29 k30 k31 x0  hz
def f2_26 (x0 : Int32) : Int32 := if x0 = (96 : Int32) then f2_172 x0 else (if x0 < (123 : Int32) then f2_45 x0 else (if (191 : Int32) < x0 then f2_45 x0 else f2_172 x0))
theorem b2_26 {p : Program} {l : Launch} {e : Env} {R : Room} {s : State} {m : MethodId} {args : Array Value} {below : List Frame} {meth : Method} {c : Code} {T : State} {locs : List Loc} {cells slots : Nat} (X : Stand p l e R s m args below meth c T locs cells slots) (hx : p.tables.exec = Jvm.exec) (hby : c.code = method_3_code) (hown : s.vm.findClass "com/example/axislint/axislint/schema/XmlNamesIsNameStartCharPinLaw" = some m.cls) (hret : meth.sig.returnType = some .boolean) {fs : List Frame} {z : Int32} (hl : ∀ (f : JFrame) (acts : List Action), f.method = m → f.locked = none → f.entered = [] → (doReturn e (T.setTop f) acts (some (.int z))).1 = T.setFrames fs) (k13 : (Jvm.Cond.constant "com/example/axislint/axislint/schema/XmlNamesIsNameStartCharPinLaw" 13 (983039 : Int32)).before args s = true) (k26 : (Jvm.Cond.constant "com/example/axislint/axislint/schema/XmlNamesIsNameStartCharPinLaw" 26 (55296 : Int32)).before args s = true) (k27 : (Jvm.Cond.constant "com/example/axislint/axislint/schema/XmlNamesIsNameStartCharPinLaw" 27 (63743 : Int32)).before args s = true) (k28 : (Jvm.Cond.constant "com/example/axislint/axislint/schema/XmlNamesIsNameStartCharPinLaw" 28 (64976 : Int32)).before args s = true) (k29 : (Jvm.Cond.constant "com/example/axislint/axislint/schema/XmlNamesIsNameStartCharPinLaw" 29 (65007 : Int32)).before args s = true) (k30 : (Jvm.Cond.constant "com/example/axislint/axislint/schema/XmlNamesIsNameStartCharPinLaw" 30 (65534 : Int32)).before args s = true) (k31 : (Jvm.Cond.constant "com/example/axislint/axislint/schema/XmlNamesIsNameStartCharPinLaw" 31 (65535 : Int32)).before args s = true) (x0 : Int32) (hz : f2_26 x0 = z) :
    Steps p.tables e below (T.setTop (mkF m 26 #[.val (.int x0), .unset] [])) (T.setFrames fs) := by
  unfold f2_26 at hz
  refine XS.iloadN X.here hx rfl (hb hby d2_26) rfl ?_
  show Steps p.tables e below (T.setTop (mkF m 27 #[.val (.int x0), .unset] [(.int x0)])) _
  refine XS.bipush X.here hx rfl (hb hby d2_27) ?_
  show Steps p.tables e below (T.setTop (mkF m 29 #[.val (.int x0), .unset] [(.int (96 : Int32)), (.int x0)])) _
  by_cases h29 : x0 = (96 : Int32)
  · rw [if_pos h29] at hz
    refine XS.icmpYes X.here hx rfl (pc0 := 29) (pc' := 172) rfl (hb hby d2_29) rfl (teq h29).1 (by decide) (by decide) ?_
    show Steps p.tables e below (T.setTop (mkF m 172 #[.val (.int x0), .unset] [])) _
    exact b2_172 X hx hby hown hret hl k13 k26 k27 k28 k29 k30 k31 x0  hz
  · rw [if_neg h29] at hz
    refine XS.icmpNo X.here hx rfl (hb hby d2_29) rfl (feq h29).1 ?_
    show Steps p.tables e below (T.setTop (mkF m 32 #[.val (.int x0), .unset] [])) _
    refine XS.iloadN X.here hx rfl (hb hby d2_32) rfl ?_
    show Steps p.tables e below (T.setTop (mkF m 33 #[.val (.int x0), .unset] [(.int x0)])) _
    refine XS.bipush X.here hx rfl (hb hby d2_33) ?_
    show Steps p.tables e below (T.setTop (mkF m 35 #[.val (.int x0), .unset] [(.int (123 : Int32)), (.int x0)])) _
    by_cases h35 : x0 < (123 : Int32)
    · rw [if_pos h35] at hz
      refine XS.icmpYes X.here hx rfl (pc0 := 35) (pc' := 45) rfl (hb hby d2_35) rfl (tlt h35).1 (by decide) (by decide) ?_
      show Steps p.tables e below (T.setTop (mkF m 45 #[.val (.int x0), .unset] [])) _
      exact b2_45 X hx hby hown hret hl k13 k26 k27 k28 k29 k30 k31 x0  hz
    · rw [if_neg h35] at hz
      refine XS.icmpNo X.here hx rfl (hb hby d2_35) rfl (flt h35).1 ?_
      show Steps p.tables e below (T.setTop (mkF m 38 #[.val (.int x0), .unset] [])) _
      refine XS.iloadN X.here hx rfl (hb hby d2_38) rfl ?_
      show Steps p.tables e below (T.setTop (mkF m 39 #[.val (.int x0), .unset] [(.int x0)])) _
      refine XS.sipush X.here hx rfl (hb hby d2_39) ?_
      show Steps p.tables e below (T.setTop (mkF m 42 #[.val (.int x0), .unset] [(.int (191 : Int32)), (.int x0)])) _
      by_cases h42 : (191 : Int32) < x0
      · rw [if_pos h42] at hz
        refine XS.icmpNo X.here hx rfl (hb hby d2_42) rfl (tlt h42).2.2.2 ?_
        show Steps p.tables e below (T.setTop (mkF m 45 #[.val (.int x0), .unset] [])) _
        exact b2_45 X hx hby hown hret hl k13 k26 k27 k28 k29 k30 k31 x0  hz
      · rw [if_neg h42] at hz
        refine XS.icmpYes X.here hx rfl (pc0 := 42) (pc' := 172) rfl (hb hby d2_42) rfl (flt h42).2.2.2 (by decide) (by decide) ?_
        show Steps p.tables e below (T.setTop (mkF m 172 #[.val (.int x0), .unset] [])) _
        exact b2_172 X hx hby hown hret hl k13 k26 k27 k28 k29 k30 k31 x0  hz
def f2_12 (x0 : Int32) : Int32 := nar .boolean (0 : Int32)
theorem b2_12 {p : Program} {l : Launch} {e : Env} {R : Room} {s : State} {m : MethodId} {args : Array Value} {below : List Frame} {meth : Method} {c : Code} {T : State} {locs : List Loc} {cells slots : Nat} (X : Stand p l e R s m args below meth c T locs cells slots) (hx : p.tables.exec = Jvm.exec) (hby : c.code = method_3_code) (hown : s.vm.findClass "com/example/axislint/axislint/schema/XmlNamesIsNameStartCharPinLaw" = some m.cls) (hret : meth.sig.returnType = some .boolean) {fs : List Frame} {z : Int32} (hl : ∀ (f : JFrame) (acts : List Action), f.method = m → f.locked = none → f.entered = [] → (doReturn e (T.setTop f) acts (some (.int z))).1 = T.setFrames fs) (k13 : (Jvm.Cond.constant "com/example/axislint/axislint/schema/XmlNamesIsNameStartCharPinLaw" 13 (983039 : Int32)).before args s = true) (k26 : (Jvm.Cond.constant "com/example/axislint/axislint/schema/XmlNamesIsNameStartCharPinLaw" 26 (55296 : Int32)).before args s = true) (k27 : (Jvm.Cond.constant "com/example/axislint/axislint/schema/XmlNamesIsNameStartCharPinLaw" 27 (63743 : Int32)).before args s = true) (k28 : (Jvm.Cond.constant "com/example/axislint/axislint/schema/XmlNamesIsNameStartCharPinLaw" 28 (64976 : Int32)).before args s = true) (k29 : (Jvm.Cond.constant "com/example/axislint/axislint/schema/XmlNamesIsNameStartCharPinLaw" 29 (65007 : Int32)).before args s = true) (k30 : (Jvm.Cond.constant "com/example/axislint/axislint/schema/XmlNamesIsNameStartCharPinLaw" 30 (65534 : Int32)).before args s = true) (k31 : (Jvm.Cond.constant "com/example/axislint/axislint/schema/XmlNamesIsNameStartCharPinLaw" 31 (65535 : Int32)).before args s = true) (x0 : Int32) (hz : f2_12 x0 = z) :
    Steps p.tables e below (T.setTop (mkF m 12 #[.val (.int x0), .unset] [])) (T.setFrames fs) := by
  unfold f2_12 at hz
  refine XS.iconst X.here hx rfl (hb hby d2_12) ?_
  show Steps p.tables e below (T.setTop (mkF m 13 #[.val (.int x0), .unset] [(.int (0 : Int32))])) _
  subst hz
  exact retN X hx hret (by simp) (hb hby d2_13) hl
def f2_0 (x0 : Int32) : Int32 := if x0 < (65 : Int32) then f2_12 x0 else (if (983039 : Int32) < x0 then f2_12 x0 else (if x0 < (91 : Int32) then f2_26 x0 else (if (94 : Int32) < x0 then f2_26 x0 else f2_172 x0)))
theorem b2_0 {p : Program} {l : Launch} {e : Env} {R : Room} {s : State} {m : MethodId} {args : Array Value} {below : List Frame} {meth : Method} {c : Code} {T : State} {locs : List Loc} {cells slots : Nat} (X : Stand p l e R s m args below meth c T locs cells slots) (hx : p.tables.exec = Jvm.exec) (hby : c.code = method_3_code) (hown : s.vm.findClass "com/example/axislint/axislint/schema/XmlNamesIsNameStartCharPinLaw" = some m.cls) (hret : meth.sig.returnType = some .boolean) {fs : List Frame} {z : Int32} (hl : ∀ (f : JFrame) (acts : List Action), f.method = m → f.locked = none → f.entered = [] → (doReturn e (T.setTop f) acts (some (.int z))).1 = T.setFrames fs) (k13 : (Jvm.Cond.constant "com/example/axislint/axislint/schema/XmlNamesIsNameStartCharPinLaw" 13 (983039 : Int32)).before args s = true) (k26 : (Jvm.Cond.constant "com/example/axislint/axislint/schema/XmlNamesIsNameStartCharPinLaw" 26 (55296 : Int32)).before args s = true) (k27 : (Jvm.Cond.constant "com/example/axislint/axislint/schema/XmlNamesIsNameStartCharPinLaw" 27 (63743 : Int32)).before args s = true) (k28 : (Jvm.Cond.constant "com/example/axislint/axislint/schema/XmlNamesIsNameStartCharPinLaw" 28 (64976 : Int32)).before args s = true) (k29 : (Jvm.Cond.constant "com/example/axislint/axislint/schema/XmlNamesIsNameStartCharPinLaw" 29 (65007 : Int32)).before args s = true) (k30 : (Jvm.Cond.constant "com/example/axislint/axislint/schema/XmlNamesIsNameStartCharPinLaw" 30 (65534 : Int32)).before args s = true) (k31 : (Jvm.Cond.constant "com/example/axislint/axislint/schema/XmlNamesIsNameStartCharPinLaw" 31 (65535 : Int32)).before args s = true) (x0 : Int32) (hz : f2_0 x0 = z) :
    Steps p.tables e below (T.setTop (mkF m 0 #[.val (.int x0), .unset] [])) (T.setFrames fs) := by
  unfold f2_0 at hz
  refine XS.iloadN X.here hx rfl (hb hby d2_0) rfl ?_
  show Steps p.tables e below (T.setTop (mkF m 1 #[.val (.int x0), .unset] [(.int x0)])) _
  refine XS.bipush X.here hx rfl (hb hby d2_1) ?_
  show Steps p.tables e below (T.setTop (mkF m 3 #[.val (.int x0), .unset] [(.int (65 : Int32)), (.int x0)])) _
  by_cases h3 : x0 < (65 : Int32)
  · rw [if_pos h3] at hz
    refine XS.icmpYes X.here hx rfl (pc0 := 3) (pc' := 12) rfl (hb hby d2_3) rfl (tlt h3).1 (by decide) (by decide) ?_
    show Steps p.tables e below (T.setTop (mkF m 12 #[.val (.int x0), .unset] [])) _
    exact b2_12 X hx hby hown hret hl k13 k26 k27 k28 k29 k30 k31 x0  hz
  · rw [if_neg h3] at hz
    refine XS.icmpNo X.here hx rfl (hb hby d2_3) rfl (flt h3).1 ?_
    show Steps p.tables e below (T.setTop (mkF m 6 #[.val (.int x0), .unset] [])) _
    refine XS.iloadN X.here hx rfl (hb hby d2_6) rfl ?_
    show Steps p.tables e below (T.setTop (mkF m 7 #[.val (.int x0), .unset] [(.int x0)])) _
    refine X.ldcInt hx hown k13 (g := (mkF m 7 #[.val (.int x0), .unset] [(.int x0)])) rfl (hb hby d2_7) _ ?_
    show Steps p.tables e below (T.setTop (mkF m 9 #[.val (.int x0), .unset] [(.int (983039 : Int32)), (.int x0)])) _
    by_cases h9 : (983039 : Int32) < x0
    · rw [if_pos h9] at hz
      refine XS.icmpNo X.here hx rfl (hb hby d2_9) rfl (tlt h9).2.2.2 ?_
      show Steps p.tables e below (T.setTop (mkF m 12 #[.val (.int x0), .unset] [])) _
      exact b2_12 X hx hby hown hret hl k13 k26 k27 k28 k29 k30 k31 x0  hz
    · rw [if_neg h9] at hz
      refine XS.icmpYes X.here hx rfl (pc0 := 9) (pc' := 14) rfl (hb hby d2_9) rfl (flt h9).2.2.2 (by decide) (by decide) ?_
      show Steps p.tables e below (T.setTop (mkF m 14 #[.val (.int x0), .unset] [])) _
      refine XS.iloadN X.here hx rfl (hb hby d2_14) rfl ?_
      show Steps p.tables e below (T.setTop (mkF m 15 #[.val (.int x0), .unset] [(.int x0)])) _
      refine XS.bipush X.here hx rfl (hb hby d2_15) ?_
      show Steps p.tables e below (T.setTop (mkF m 17 #[.val (.int x0), .unset] [(.int (91 : Int32)), (.int x0)])) _
      by_cases h17 : x0 < (91 : Int32)
      · rw [if_pos h17] at hz
        refine XS.icmpYes X.here hx rfl (pc0 := 17) (pc' := 26) rfl (hb hby d2_17) rfl (tlt h17).1 (by decide) (by decide) ?_
        show Steps p.tables e below (T.setTop (mkF m 26 #[.val (.int x0), .unset] [])) _
        exact b2_26 X hx hby hown hret hl k13 k26 k27 k28 k29 k30 k31 x0  hz
      · rw [if_neg h17] at hz
        refine XS.icmpNo X.here hx rfl (hb hby d2_17) rfl (flt h17).1 ?_
        show Steps p.tables e below (T.setTop (mkF m 20 #[.val (.int x0), .unset] [])) _
        refine XS.iloadN X.here hx rfl (hb hby d2_20) rfl ?_
        show Steps p.tables e below (T.setTop (mkF m 21 #[.val (.int x0), .unset] [(.int x0)])) _
        refine XS.bipush X.here hx rfl (hb hby d2_21) ?_
        show Steps p.tables e below (T.setTop (mkF m 23 #[.val (.int x0), .unset] [(.int (94 : Int32)), (.int x0)])) _
        by_cases h23 : (94 : Int32) < x0
        · rw [if_pos h23] at hz
          refine XS.icmpNo X.here hx rfl (hb hby d2_23) rfl (tlt h23).2.2.2 ?_
          show Steps p.tables e below (T.setTop (mkF m 26 #[.val (.int x0), .unset] [])) _
          exact b2_26 X hx hby hown hret hl k13 k26 k27 k28 k29 k30 k31 x0  hz
        · rw [if_neg h23] at hz
          refine XS.icmpYes X.here hx rfl (pc0 := 23) (pc' := 172) rfl (hb hby d2_23) rfl (flt h23).2.2.2 (by decide) (by decide) ?_
          show Steps p.tables e below (T.setTop (mkF m 172 #[.val (.int x0), .unset] [])) _
          exact b2_172 X hx hby hown hret hl k13 k26 k27 k28 k29 k30 k31 x0  hz
theorem ef_2 (m : MethodId) (p1 : Int32) : entryFrame m #[(.int p1)] 2 = mkF m 0 #[.val (.int p1), .unset] [] := by first | (simp [entryFrame, mkF, argsToLocals, Value.category]; done) | rfl
def Q2 (p1 : Int32) (h0 : Heap) (n0 : Nat) (v : Option Value) (h : Heap) (L : List Loc) : Prop := v = some (.int (f2_0 p1)) ∧ Fr n0 L ∧ h = h0
set_option maxRecDepth 65536 in
set_option maxHeartbeats 40000000 in
theorem rm2 (l : Launch) (Z : State) (a0 : Array Value) (hw : ∀ d ∈ tables_1, d.before a0 Z = true) (ws : List Jvm.Cond) (p1 : Int32) (h0 : Heap) (n0 : Nat) :
    MetFree l (⟨"com/example/axislint/axislint/schema/XmlNamesIsNameStartCharPinLaw", "expected", "(I)Z"⟩ : MethodName) (head1 (Jvm.Cond.code (⟨"com/example/axislint/axislint/schema/XmlNamesIsNameStartCharPinLaw", "expected", "(I)Z"⟩ : MethodName) method_3_code 2 (some .boolean) :: ws) ({ frames := 0, cells := 0, slots := 0, locals := 0 } : Room)) (fun a U => a = #[(.int p1)] ∧ Z.Warmed39 U.vm ∧ U.heap = h0) (fun _ _ _ _ _ => True) (fun _ U o U' => ∃ v L, o = .returned v ∧ Q2 p1 h0 n0 v U'.heap L ∧ FrameEnd U o U' L ({ frames := 0, cells := 0, slots := 0, locals := 0 } : Room).cells ({ frames := 0, cells := 0, slots := 0, locals := 0 } : Room).slots) := by
  refine MetFree.of_bodySF (plainFor_of_name pn_2) hisR ?_
  intro p e s m args below meth c s₁ Bd hml0 hP hK
  obtain ⟨rfl, hZ, hh⟩ := hP
  have hx := Bd.exec
  have hby := Bd.bytes
  have hml : c.maxLocals = 2 := hml0
  have hown : s.vm.findClass "com/example/axislint/axislint/schema/XmlNamesIsNameStartCharPinLaw" = some m.cls := findClass_of_methodNamed Bd.named
  have hnm := (name_of_methodNamed Bd.named Bd.method).1
  have X0 : Stand p l e ({ frames := 0, cells := 0, slots := 0, locals := 0 } : Room) s m #[(.int p1)] below meth c s₁ [] 0 0 := Stand.of_body Bd
  have e0 : s₁.heap = h0 := by rw [← hh, Bd.state]; rfl
  have N0 := Fr.nil n0
  have pre0 : ∀ t, Steps p.tables e below (s₁.setTop (mkF m 0 #[.val (.int p1), .unset] [])) t → Steps p.tables e below (s₁.setTop (entryFrame m #[(.int p1)] 2)) t := fun t k => castTop (ef_2 m p1) k
  obtain ⟨fs, hr, hrun, hended, hW, hsame⟩ := X0.leave (v := some (.int (f2_0 p1))) (fun h => by rw [Bd.returns] at h; cases h)
  refine ⟨_, _, pre0 _ ?_, hrun, hended, _, _, rfl, ?_, ⟨_, rfl⟩, hW, hsame.mono (by decide) (by decide)⟩
  · exact b2_0 X0 hx hby hown Bd.returns hr (mvT hZ (hw _ (List.mem_of_getElem? (i := 7) rfl))) (mvT hZ (hw _ (List.mem_of_getElem? (i := 17) rfl))) (mvT hZ (hw _ (List.mem_of_getElem? (i := 27) rfl))) (mvT hZ (hw _ (List.mem_of_getElem? (i := 18) rfl))) (mvT hZ (hw _ (List.mem_of_getElem? (i := 28) rfl))) (mvT hZ (hw _ (List.mem_of_getElem? (i := 19) rfl))) (mvT hZ (hw _ (List.mem_of_getElem? (i := 29) rfl))) p1 rfl
  · show Q2 p1 h0 n0 _ s₁.heap _
    rw [e0]
    exact ⟨rfl, N0, rfl⟩
theorem own_nar (x : Int32) : nar .boolean x = x &&& 1 := rfl
theorem own_nar1 : nar .boolean (1 : Int32) = 1 := by decide
theorem own_nar0 : nar .boolean (0 : Int32) = 0 := by decide
theorem own_10 : ((1 : Int32) = 0) = False := by decide
theorem own_00 : ((0 : Int32) = 0) = True := by decide
theorem own_i0 : (0 : Int32).toInt = 0 := by decide
theorem own_i1 : (1 : Int32).toInt = 1 := by decide
theorem own_i65 : (65 : Int32).toInt = 65 := by decide
theorem own_i90 : (90 : Int32).toInt = 90 := by decide
theorem own_i91 : (91 : Int32).toInt = 91 := by decide
theorem own_i94 : (94 : Int32).toInt = 94 := by decide
theorem own_i95 : (95 : Int32).toInt = 95 := by decide
theorem own_i96 : (96 : Int32).toInt = 96 := by decide
theorem own_i97 : (97 : Int32).toInt = 97 := by decide
theorem own_i122 : (122 : Int32).toInt = 122 := by decide
theorem own_i123 : (123 : Int32).toInt = 123 := by decide
theorem own_i191 : (191 : Int32).toInt = 191 := by decide
theorem own_i192 : (192 : Int32).toInt = 192 := by decide
theorem own_i214 : (214 : Int32).toInt = 214 := by decide
theorem own_i215 : (215 : Int32).toInt = 215 := by decide
theorem own_i216 : (216 : Int32).toInt = 216 := by decide
theorem own_i246 : (246 : Int32).toInt = 246 := by decide
theorem own_i247 : (247 : Int32).toInt = 247 := by decide
theorem own_i248 : (248 : Int32).toInt = 248 := by decide
theorem own_i767 : (767 : Int32).toInt = 767 := by decide
theorem own_i768 : (768 : Int32).toInt = 768 := by decide
theorem own_i879 : (879 : Int32).toInt = 879 := by decide
theorem own_i880 : (880 : Int32).toInt = 880 := by decide
theorem own_i893 : (893 : Int32).toInt = 893 := by decide
theorem own_i894 : (894 : Int32).toInt = 894 := by decide
theorem own_i895 : (895 : Int32).toInt = 895 := by decide
theorem own_i8191 : (8191 : Int32).toInt = 8191 := by decide
theorem own_i8192 : (8192 : Int32).toInt = 8192 := by decide
theorem own_i8203 : (8203 : Int32).toInt = 8203 := by decide
theorem own_i8204 : (8204 : Int32).toInt = 8204 := by decide
theorem own_i8205 : (8205 : Int32).toInt = 8205 := by decide
theorem own_i8206 : (8206 : Int32).toInt = 8206 := by decide
theorem own_i8303 : (8303 : Int32).toInt = 8303 := by decide
theorem own_i8304 : (8304 : Int32).toInt = 8304 := by decide
theorem own_i8591 : (8591 : Int32).toInt = 8591 := by decide
theorem own_i8592 : (8592 : Int32).toInt = 8592 := by decide
theorem own_i11263 : (11263 : Int32).toInt = 11263 := by decide
theorem own_i11264 : (11264 : Int32).toInt = 11264 := by decide
theorem own_i12271 : (12271 : Int32).toInt = 12271 := by decide
theorem own_i12272 : (12272 : Int32).toInt = 12272 := by decide
theorem own_i12288 : (12288 : Int32).toInt = 12288 := by decide
theorem own_i12289 : (12289 : Int32).toInt = 12289 := by decide
theorem own_i55295 : (55295 : Int32).toInt = 55295 := by decide
theorem own_i55296 : (55296 : Int32).toInt = 55296 := by decide
theorem own_i63743 : (63743 : Int32).toInt = 63743 := by decide
theorem own_i63744 : (63744 : Int32).toInt = 63744 := by decide
theorem own_i64975 : (64975 : Int32).toInt = 64975 := by decide
theorem own_i64976 : (64976 : Int32).toInt = 64976 := by decide
theorem own_i65007 : (65007 : Int32).toInt = 65007 := by decide
theorem own_i65008 : (65008 : Int32).toInt = 65008 := by decide
theorem own_i65533 : (65533 : Int32).toInt = 65533 := by decide
theorem own_i65534 : (65534 : Int32).toInt = 65534 := by decide
theorem own_i65535 : (65535 : Int32).toInt = 65535 := by decide
theorem own_i65536 : (65536 : Int32).toInt = 65536 := by decide
theorem own_i983039 : (983039 : Int32).toInt = 983039 := by decide
theorem sf1_191 (x : Int32) : f1_191 x = if True then 1 else 0 := by
  unfold f1_191
  have he : ∀ c : Int32, (x = c) = (x.toInt = c.toInt) := fun c => propext Int32.toInt_inj.symm
  simp only [own_nar1, own_nar0, own_10, own_00, ↓reduceIte, Int32.lt_iff_toInt_lt, he, own_i1, f1_196]
  all_goals
    have hl := Int32.le_toInt x
    have hh := Int32.toInt_lt x
    clear he
    generalize x.toInt = n at *
    repeat' split
    all_goals first | rfl | (exfalso; omega)
theorem sf1_195 (x : Int32) : f1_195 x = if False then 1 else 0 := by
  unfold f1_195
  have he : ∀ c : Int32, (x = c) = (x.toInt = c.toInt) := fun c => propext Int32.toInt_inj.symm
  simp only [own_nar1, own_nar0, own_10, own_00, ↓reduceIte, Int32.lt_iff_toInt_lt, he, own_i0, f1_196]
  all_goals
    have hl := Int32.le_toInt x
    have hh := Int32.toInt_lt x
    clear he
    generalize x.toInt = n at *
    repeat' split
    all_goals first | rfl | (exfalso; omega)
theorem sf1_179 (x : Int32) : f1_179 x = if (65536 ≤ x.toInt ∧ x.toInt ≤ 983039) then 1 else 0 := by
  unfold f1_179
  have he : ∀ c : Int32, (x = c) = (x.toInt = c.toInt) := fun c => propext Int32.toInt_inj.symm
  simp only [own_nar1, own_nar0, own_10, own_00, ↓reduceIte, Int32.lt_iff_toInt_lt, he, own_i65536, own_i983039, sf1_191, sf1_195]
  all_goals
    have hl := Int32.le_toInt x
    have hh := Int32.toInt_lt x
    clear he
    generalize x.toInt = n at *
    repeat' split
    all_goals first | rfl | (exfalso; omega)
theorem sf1_167 (x : Int32) : f1_167 x = if (65008 ≤ x.toInt ∧ x.toInt ≤ 65533) ∨ (65536 ≤ x.toInt ∧ x.toInt ≤ 983039) then 1 else 0 := by
  unfold f1_167
  have he : ∀ c : Int32, (x = c) = (x.toInt = c.toInt) := fun c => propext Int32.toInt_inj.symm
  simp only [own_nar1, own_nar0, own_10, own_00, ↓reduceIte, Int32.lt_iff_toInt_lt, he, own_i65008, own_i65533, sf1_179, sf1_191]
  all_goals
    have hl := Int32.le_toInt x
    have hh := Int32.toInt_lt x
    clear he
    generalize x.toInt = n at *
    repeat' split
    all_goals first | rfl | (exfalso; omega)
theorem sf1_155 (x : Int32) : f1_155 x = if (63744 ≤ x.toInt ∧ x.toInt ≤ 64975) ∨ (65008 ≤ x.toInt ∧ x.toInt ≤ 65533) ∨ (65536 ≤ x.toInt ∧ x.toInt ≤ 983039) then 1 else 0 := by
  unfold f1_155
  have he : ∀ c : Int32, (x = c) = (x.toInt = c.toInt) := fun c => propext Int32.toInt_inj.symm
  simp only [own_nar1, own_nar0, own_10, own_00, ↓reduceIte, Int32.lt_iff_toInt_lt, he, own_i63744, own_i64975, sf1_167, sf1_191]
  all_goals
    have hl := Int32.le_toInt x
    have hh := Int32.toInt_lt x
    clear he
    generalize x.toInt = n at *
    repeat' split
    all_goals first | rfl | (exfalso; omega)
theorem sf1_142 (x : Int32) : f1_142 x = if (12289 ≤ x.toInt ∧ x.toInt ≤ 55295) ∨ (63744 ≤ x.toInt ∧ x.toInt ≤ 64975) ∨ (65008 ≤ x.toInt ∧ x.toInt ≤ 65533) ∨ (65536 ≤ x.toInt ∧ x.toInt ≤ 983039) then 1 else 0 := by
  unfold f1_142
  have he : ∀ c : Int32, (x = c) = (x.toInt = c.toInt) := fun c => propext Int32.toInt_inj.symm
  simp only [own_nar1, own_nar0, own_10, own_00, ↓reduceIte, Int32.lt_iff_toInt_lt, he, own_i12289, own_i55295, sf1_155, sf1_191]
  all_goals
    have hl := Int32.le_toInt x
    have hh := Int32.toInt_lt x
    clear he
    generalize x.toInt = n at *
    repeat' split
    all_goals first | rfl | (exfalso; omega)
theorem sf1_128 (x : Int32) : f1_128 x = if (11264 ≤ x.toInt ∧ x.toInt ≤ 12271) ∨ (12289 ≤ x.toInt ∧ x.toInt ≤ 55295) ∨ (63744 ≤ x.toInt ∧ x.toInt ≤ 64975) ∨ (65008 ≤ x.toInt ∧ x.toInt ≤ 65533) ∨ (65536 ≤ x.toInt ∧ x.toInt ≤ 983039) then 1 else 0 := by
  unfold f1_128
  have he : ∀ c : Int32, (x = c) = (x.toInt = c.toInt) := fun c => propext Int32.toInt_inj.symm
  simp only [own_nar1, own_nar0, own_10, own_00, ↓reduceIte, Int32.lt_iff_toInt_lt, he, own_i11264, own_i12271, sf1_142, sf1_191]
  all_goals
    have hl := Int32.le_toInt x
    have hh := Int32.toInt_lt x
    clear he
    generalize x.toInt = n at *
    repeat' split
    all_goals first | rfl | (exfalso; omega)
theorem sf1_114 (x : Int32) : f1_114 x = if (8304 ≤ x.toInt ∧ x.toInt ≤ 8591) ∨ (11264 ≤ x.toInt ∧ x.toInt ≤ 12271) ∨ (12289 ≤ x.toInt ∧ x.toInt ≤ 55295) ∨ (63744 ≤ x.toInt ∧ x.toInt ≤ 64975) ∨ (65008 ≤ x.toInt ∧ x.toInt ≤ 65533) ∨ (65536 ≤ x.toInt ∧ x.toInt ≤ 983039) then 1 else 0 := by
  unfold f1_114
  have he : ∀ c : Int32, (x = c) = (x.toInt = c.toInt) := fun c => propext Int32.toInt_inj.symm
  simp only [own_nar1, own_nar0, own_10, own_00, ↓reduceIte, Int32.lt_iff_toInt_lt, he, own_i8304, own_i8591, sf1_128, sf1_191]
  all_goals
    have hl := Int32.le_toInt x
    have hh := Int32.toInt_lt x
    clear he
    generalize x.toInt = n at *
    repeat' split
    all_goals first | rfl | (exfalso; omega)
theorem sf1_100 (x : Int32) : f1_100 x = if (8204 ≤ x.toInt ∧ x.toInt ≤ 8205) ∨ (8304 ≤ x.toInt ∧ x.toInt ≤ 8591) ∨ (11264 ≤ x.toInt ∧ x.toInt ≤ 12271) ∨ (12289 ≤ x.toInt ∧ x.toInt ≤ 55295) ∨ (63744 ≤ x.toInt ∧ x.toInt ≤ 64975) ∨ (65008 ≤ x.toInt ∧ x.toInt ≤ 65533) ∨ (65536 ≤ x.toInt ∧ x.toInt ≤ 983039) then 1 else 0 := by
  unfold f1_100
  have he : ∀ c : Int32, (x = c) = (x.toInt = c.toInt) := fun c => propext Int32.toInt_inj.symm
  simp only [own_nar1, own_nar0, own_10, own_00, ↓reduceIte, Int32.lt_iff_toInt_lt, he, own_i8204, own_i8205, sf1_114, sf1_191]
  all_goals
    have hl := Int32.le_toInt x
    have hh := Int32.toInt_lt x
    clear he
    generalize x.toInt = n at *
    repeat' split
    all_goals first | rfl | (exfalso; omega)
theorem sf1_86 (x : Int32) : f1_86 x = if (895 ≤ x.toInt ∧ x.toInt ≤ 8191) ∨ (8204 ≤ x.toInt ∧ x.toInt ≤ 8205) ∨ (8304 ≤ x.toInt ∧ x.toInt ≤ 8591) ∨ (11264 ≤ x.toInt ∧ x.toInt ≤ 12271) ∨ (12289 ≤ x.toInt ∧ x.toInt ≤ 55295) ∨ (63744 ≤ x.toInt ∧ x.toInt ≤ 64975) ∨ (65008 ≤ x.toInt ∧ x.toInt ≤ 65533) ∨ (65536 ≤ x.toInt ∧ x.toInt ≤ 983039) then 1 else 0 := by
  unfold f1_86
  have he : ∀ c : Int32, (x = c) = (x.toInt = c.toInt) := fun c => propext Int32.toInt_inj.symm
  simp only [own_nar1, own_nar0, own_10, own_00, ↓reduceIte, Int32.lt_iff_toInt_lt, he, own_i8191, own_i895, sf1_100, sf1_191]
  all_goals
    have hl := Int32.le_toInt x
    have hh := Int32.toInt_lt x
    clear he
    generalize x.toInt = n at *
    repeat' split
    all_goals first | rfl | (exfalso; omega)
theorem sf1_72 (x : Int32) : f1_72 x = if (880 ≤ x.toInt ∧ x.toInt ≤ 893) ∨ (895 ≤ x.toInt ∧ x.toInt ≤ 8191) ∨ (8204 ≤ x.toInt ∧ x.toInt ≤ 8205) ∨ (8304 ≤ x.toInt ∧ x.toInt ≤ 8591) ∨ (11264 ≤ x.toInt ∧ x.toInt ≤ 12271) ∨ (12289 ≤ x.toInt ∧ x.toInt ≤ 55295) ∨ (63744 ≤ x.toInt ∧ x.toInt ≤ 64975) ∨ (65008 ≤ x.toInt ∧ x.toInt ≤ 65533) ∨ (65536 ≤ x.toInt ∧ x.toInt ≤ 983039) then 1 else 0 := by
  unfold f1_72
  have he : ∀ c : Int32, (x = c) = (x.toInt = c.toInt) := fun c => propext Int32.toInt_inj.symm
  simp only [own_nar1, own_nar0, own_10, own_00, ↓reduceIte, Int32.lt_iff_toInt_lt, he, own_i880, own_i893, sf1_191, sf1_86]
  all_goals
    have hl := Int32.le_toInt x
    have hh := Int32.toInt_lt x
    clear he
    generalize x.toInt = n at *
    repeat' split
    all_goals first | rfl | (exfalso; omega)
theorem sf1_58 (x : Int32) : f1_58 x = if (248 ≤ x.toInt ∧ x.toInt ≤ 767) ∨ (880 ≤ x.toInt ∧ x.toInt ≤ 893) ∨ (895 ≤ x.toInt ∧ x.toInt ≤ 8191) ∨ (8204 ≤ x.toInt ∧ x.toInt ≤ 8205) ∨ (8304 ≤ x.toInt ∧ x.toInt ≤ 8591) ∨ (11264 ≤ x.toInt ∧ x.toInt ≤ 12271) ∨ (12289 ≤ x.toInt ∧ x.toInt ≤ 55295) ∨ (63744 ≤ x.toInt ∧ x.toInt ≤ 64975) ∨ (65008 ≤ x.toInt ∧ x.toInt ≤ 65533) ∨ (65536 ≤ x.toInt ∧ x.toInt ≤ 983039) then 1 else 0 := by
  unfold f1_58
  have he : ∀ c : Int32, (x = c) = (x.toInt = c.toInt) := fun c => propext Int32.toInt_inj.symm
  simp only [own_nar1, own_nar0, own_10, own_00, ↓reduceIte, Int32.lt_iff_toInt_lt, he, own_i248, own_i767, sf1_191, sf1_72]
  all_goals
    have hl := Int32.le_toInt x
    have hh := Int32.toInt_lt x
    clear he
    generalize x.toInt = n at *
    repeat' split
    all_goals first | rfl | (exfalso; omega)
theorem sf1_44 (x : Int32) : f1_44 x = if (216 ≤ x.toInt ∧ x.toInt ≤ 246) ∨ (248 ≤ x.toInt ∧ x.toInt ≤ 767) ∨ (880 ≤ x.toInt ∧ x.toInt ≤ 893) ∨ (895 ≤ x.toInt ∧ x.toInt ≤ 8191) ∨ (8204 ≤ x.toInt ∧ x.toInt ≤ 8205) ∨ (8304 ≤ x.toInt ∧ x.toInt ≤ 8591) ∨ (11264 ≤ x.toInt ∧ x.toInt ≤ 12271) ∨ (12289 ≤ x.toInt ∧ x.toInt ≤ 55295) ∨ (63744 ≤ x.toInt ∧ x.toInt ≤ 64975) ∨ (65008 ≤ x.toInt ∧ x.toInt ≤ 65533) ∨ (65536 ≤ x.toInt ∧ x.toInt ≤ 983039) then 1 else 0 := by
  unfold f1_44
  have he : ∀ c : Int32, (x = c) = (x.toInt = c.toInt) := fun c => propext Int32.toInt_inj.symm
  simp only [own_nar1, own_nar0, own_10, own_00, ↓reduceIte, Int32.lt_iff_toInt_lt, he, own_i216, own_i246, sf1_191, sf1_58]
  all_goals
    have hl := Int32.le_toInt x
    have hh := Int32.toInt_lt x
    clear he
    generalize x.toInt = n at *
    repeat' split
    all_goals first | rfl | (exfalso; omega)
theorem sf1_30 (x : Int32) : f1_30 x = if (192 ≤ x.toInt ∧ x.toInt ≤ 214) ∨ (216 ≤ x.toInt ∧ x.toInt ≤ 246) ∨ (248 ≤ x.toInt ∧ x.toInt ≤ 767) ∨ (880 ≤ x.toInt ∧ x.toInt ≤ 893) ∨ (895 ≤ x.toInt ∧ x.toInt ≤ 8191) ∨ (8204 ≤ x.toInt ∧ x.toInt ≤ 8205) ∨ (8304 ≤ x.toInt ∧ x.toInt ≤ 8591) ∨ (11264 ≤ x.toInt ∧ x.toInt ≤ 12271) ∨ (12289 ≤ x.toInt ∧ x.toInt ≤ 55295) ∨ (63744 ≤ x.toInt ∧ x.toInt ≤ 64975) ∨ (65008 ≤ x.toInt ∧ x.toInt ≤ 65533) ∨ (65536 ≤ x.toInt ∧ x.toInt ≤ 983039) then 1 else 0 := by
  unfold f1_30
  have he : ∀ c : Int32, (x = c) = (x.toInt = c.toInt) := fun c => propext Int32.toInt_inj.symm
  simp only [own_nar1, own_nar0, own_10, own_00, ↓reduceIte, Int32.lt_iff_toInt_lt, he, own_i192, own_i214, sf1_191, sf1_44]
  all_goals
    have hl := Int32.le_toInt x
    have hh := Int32.toInt_lt x
    clear he
    generalize x.toInt = n at *
    repeat' split
    all_goals first | rfl | (exfalso; omega)
theorem sf1_12 (x : Int32) : f1_12 x = if x.toInt = 95 ∨ (97 ≤ x.toInt ∧ x.toInt ≤ 122) ∨ (192 ≤ x.toInt ∧ x.toInt ≤ 214) ∨ (216 ≤ x.toInt ∧ x.toInt ≤ 246) ∨ (248 ≤ x.toInt ∧ x.toInt ≤ 767) ∨ (880 ≤ x.toInt ∧ x.toInt ≤ 893) ∨ (895 ≤ x.toInt ∧ x.toInt ≤ 8191) ∨ (8204 ≤ x.toInt ∧ x.toInt ≤ 8205) ∨ (8304 ≤ x.toInt ∧ x.toInt ≤ 8591) ∨ (11264 ≤ x.toInt ∧ x.toInt ≤ 12271) ∨ (12289 ≤ x.toInt ∧ x.toInt ≤ 55295) ∨ (63744 ≤ x.toInt ∧ x.toInt ≤ 64975) ∨ (65008 ≤ x.toInt ∧ x.toInt ≤ 65533) ∨ (65536 ≤ x.toInt ∧ x.toInt ≤ 983039) then 1 else 0 := by
  unfold f1_12
  have he : ∀ c : Int32, (x = c) = (x.toInt = c.toInt) := fun c => propext Int32.toInt_inj.symm
  simp only [own_nar1, own_nar0, own_10, own_00, ↓reduceIte, Int32.lt_iff_toInt_lt, he, own_i122, own_i95, own_i97, sf1_191, sf1_30]
  all_goals
    have hl := Int32.le_toInt x
    have hh := Int32.toInt_lt x
    clear he
    generalize x.toInt = n at *
    repeat' split
    all_goals first | rfl | (exfalso; omega)
theorem sf1_0 (x : Int32) : f1_0 x = if (65 ≤ x.toInt ∧ x.toInt ≤ 90) ∨ x.toInt = 95 ∨ (97 ≤ x.toInt ∧ x.toInt ≤ 122) ∨ (192 ≤ x.toInt ∧ x.toInt ≤ 214) ∨ (216 ≤ x.toInt ∧ x.toInt ≤ 246) ∨ (248 ≤ x.toInt ∧ x.toInt ≤ 767) ∨ (880 ≤ x.toInt ∧ x.toInt ≤ 893) ∨ (895 ≤ x.toInt ∧ x.toInt ≤ 8191) ∨ (8204 ≤ x.toInt ∧ x.toInt ≤ 8205) ∨ (8304 ≤ x.toInt ∧ x.toInt ≤ 8591) ∨ (11264 ≤ x.toInt ∧ x.toInt ≤ 12271) ∨ (12289 ≤ x.toInt ∧ x.toInt ≤ 55295) ∨ (63744 ≤ x.toInt ∧ x.toInt ≤ 64975) ∨ (65008 ≤ x.toInt ∧ x.toInt ≤ 65533) ∨ (65536 ≤ x.toInt ∧ x.toInt ≤ 983039) then 1 else 0 := by
  unfold f1_0
  have he : ∀ c : Int32, (x = c) = (x.toInt = c.toInt) := fun c => propext Int32.toInt_inj.symm
  simp only [own_nar1, own_nar0, own_10, own_00, ↓reduceIte, Int32.lt_iff_toInt_lt, he, own_i65, own_i90, sf1_12, sf1_191]
  all_goals
    have hl := Int32.le_toInt x
    have hh := Int32.toInt_lt x
    clear he
    generalize x.toInt = n at *
    repeat' split
    all_goals first | rfl | (exfalso; omega)
theorem sf2_172 (x : Int32) : f2_172 x = if False then 1 else 0 := by
  unfold f2_172
  have he : ∀ c : Int32, (x = c) = (x.toInt = c.toInt) := fun c => propext Int32.toInt_inj.symm
  simp only [own_nar1, own_nar0, own_10, own_00, ↓reduceIte, Int32.lt_iff_toInt_lt, he, own_i0, own_i1, f2_177, f2_187]
  all_goals
    have hl := Int32.le_toInt x
    have hh := Int32.toInt_lt x
    clear he
    generalize x.toInt = n at *
    repeat' split
    all_goals first | rfl | (exfalso; omega)
theorem sf2_176 (x : Int32) : f2_176 x = if True then 1 else 0 := by
  unfold f2_176
  have he : ∀ c : Int32, (x = c) = (x.toInt = c.toInt) := fun c => propext Int32.toInt_inj.symm
  simp only [own_nar1, own_nar0, own_10, own_00, ↓reduceIte, Int32.lt_iff_toInt_lt, he, own_i0, own_i1, f2_177, f2_187]
  all_goals
    have hl := Int32.le_toInt x
    have hh := Int32.toInt_lt x
    clear he
    generalize x.toInt = n at *
    repeat' split
    all_goals first | rfl | (exfalso; omega)
theorem sf2_160 (x : Int32) : f2_160 x = if x.toInt ≤ 65533 ∨ 65536 ≤ x.toInt then 1 else 0 := by
  unfold f2_160
  have he : ∀ c : Int32, (x = c) = (x.toInt = c.toInt) := fun c => propext Int32.toInt_inj.symm
  simp only [own_nar1, own_nar0, own_10, own_00, ↓reduceIte, Int32.lt_iff_toInt_lt, he, own_i65534, own_i65535, sf2_172, sf2_176]
  all_goals
    have hl := Int32.le_toInt x
    have hh := Int32.toInt_lt x
    clear he
    generalize x.toInt = n at *
    repeat' split
    all_goals first | rfl | (exfalso; omega)
theorem sf2_148 (x : Int32) : f2_148 x = if x.toInt ≤ 64975 ∨ (65008 ≤ x.toInt ∧ x.toInt ≤ 65533) ∨ 65536 ≤ x.toInt then 1 else 0 := by
  unfold f2_148
  have he : ∀ c : Int32, (x = c) = (x.toInt = c.toInt) := fun c => propext Int32.toInt_inj.symm
  simp only [own_nar1, own_nar0, own_10, own_00, ↓reduceIte, Int32.lt_iff_toInt_lt, he, own_i64976, own_i65007, sf2_160, sf2_172]
  all_goals
    have hl := Int32.le_toInt x
    have hh := Int32.toInt_lt x
    clear he
    generalize x.toInt = n at *
    repeat' split
    all_goals first | rfl | (exfalso; omega)
theorem sf2_136 (x : Int32) : f2_136 x = if x.toInt ≤ 55295 ∨ (63744 ≤ x.toInt ∧ x.toInt ≤ 64975) ∨ (65008 ≤ x.toInt ∧ x.toInt ≤ 65533) ∨ 65536 ≤ x.toInt then 1 else 0 := by
  unfold f2_136
  have he : ∀ c : Int32, (x = c) = (x.toInt = c.toInt) := fun c => propext Int32.toInt_inj.symm
  simp only [own_nar1, own_nar0, own_10, own_00, ↓reduceIte, Int32.lt_iff_toInt_lt, he, own_i55296, own_i63743, sf2_148, sf2_172]
  all_goals
    have hl := Int32.le_toInt x
    have hh := Int32.toInt_lt x
    clear he
    generalize x.toInt = n at *
    repeat' split
    all_goals first | rfl | (exfalso; omega)
theorem sf2_122 (x : Int32) : f2_122 x = if x.toInt ≤ 12271 ∨ (12289 ≤ x.toInt ∧ x.toInt ≤ 55295) ∨ (63744 ≤ x.toInt ∧ x.toInt ≤ 64975) ∨ (65008 ≤ x.toInt ∧ x.toInt ≤ 65533) ∨ 65536 ≤ x.toInt then 1 else 0 := by
  unfold f2_122
  have he : ∀ c : Int32, (x = c) = (x.toInt = c.toInt) := fun c => propext Int32.toInt_inj.symm
  simp only [own_nar1, own_nar0, own_10, own_00, ↓reduceIte, Int32.lt_iff_toInt_lt, he, own_i12272, own_i12288, sf2_136, sf2_172]
  all_goals
    have hl := Int32.le_toInt x
    have hh := Int32.toInt_lt x
    clear he
    generalize x.toInt = n at *
    repeat' split
    all_goals first | rfl | (exfalso; omega)
theorem sf2_108 (x : Int32) : f2_108 x = if x.toInt ≤ 8591 ∨ (11264 ≤ x.toInt ∧ x.toInt ≤ 12271) ∨ (12289 ≤ x.toInt ∧ x.toInt ≤ 55295) ∨ (63744 ≤ x.toInt ∧ x.toInt ≤ 64975) ∨ (65008 ≤ x.toInt ∧ x.toInt ≤ 65533) ∨ 65536 ≤ x.toInt then 1 else 0 := by
  unfold f2_108
  have he : ∀ c : Int32, (x = c) = (x.toInt = c.toInt) := fun c => propext Int32.toInt_inj.symm
  simp only [own_nar1, own_nar0, own_10, own_00, ↓reduceIte, Int32.lt_iff_toInt_lt, he, own_i11263, own_i8592, sf2_122, sf2_172]
  all_goals
    have hl := Int32.le_toInt x
    have hh := Int32.toInt_lt x
    clear he
    generalize x.toInt = n at *
    repeat' split
    all_goals first | rfl | (exfalso; omega)
theorem sf2_94 (x : Int32) : f2_94 x = if x.toInt ≤ 8205 ∨ (8304 ≤ x.toInt ∧ x.toInt ≤ 8591) ∨ (11264 ≤ x.toInt ∧ x.toInt ≤ 12271) ∨ (12289 ≤ x.toInt ∧ x.toInt ≤ 55295) ∨ (63744 ≤ x.toInt ∧ x.toInt ≤ 64975) ∨ (65008 ≤ x.toInt ∧ x.toInt ≤ 65533) ∨ 65536 ≤ x.toInt then 1 else 0 := by
  unfold f2_94
  have he : ∀ c : Int32, (x = c) = (x.toInt = c.toInt) := fun c => propext Int32.toInt_inj.symm
  simp only [own_nar1, own_nar0, own_10, own_00, ↓reduceIte, Int32.lt_iff_toInt_lt, he, own_i8206, own_i8303, sf2_108, sf2_172]
  all_goals
    have hl := Int32.le_toInt x
    have hh := Int32.toInt_lt x
    clear he
    generalize x.toInt = n at *
    repeat' split
    all_goals first | rfl | (exfalso; omega)
theorem sf2_73 (x : Int32) : f2_73 x = if x.toInt ≤ 893 ∨ (895 ≤ x.toInt ∧ x.toInt ≤ 8191) ∨ (8204 ≤ x.toInt ∧ x.toInt ≤ 8205) ∨ (8304 ≤ x.toInt ∧ x.toInt ≤ 8591) ∨ (11264 ≤ x.toInt ∧ x.toInt ≤ 12271) ∨ (12289 ≤ x.toInt ∧ x.toInt ≤ 55295) ∨ (63744 ≤ x.toInt ∧ x.toInt ≤ 64975) ∨ (65008 ≤ x.toInt ∧ x.toInt ≤ 65533) ∨ 65536 ≤ x.toInt then 1 else 0 := by
  unfold f2_73
  have he : ∀ c : Int32, (x = c) = (x.toInt = c.toInt) := fun c => propext Int32.toInt_inj.symm
  simp only [own_nar1, own_nar0, own_10, own_00, ↓reduceIte, Int32.lt_iff_toInt_lt, he, own_i8192, own_i8203, own_i894, sf2_172, sf2_94]
  all_goals
    have hl := Int32.le_toInt x
    have hh := Int32.toInt_lt x
    clear he
    generalize x.toInt = n at *
    repeat' split
    all_goals first | rfl | (exfalso; omega)
theorem sf2_45 (x : Int32) : f2_45 x = if x.toInt ≤ 214 ∨ (216 ≤ x.toInt ∧ x.toInt ≤ 246) ∨ (248 ≤ x.toInt ∧ x.toInt ≤ 767) ∨ (880 ≤ x.toInt ∧ x.toInt ≤ 893) ∨ (895 ≤ x.toInt ∧ x.toInt ≤ 8191) ∨ (8204 ≤ x.toInt ∧ x.toInt ≤ 8205) ∨ (8304 ≤ x.toInt ∧ x.toInt ≤ 8591) ∨ (11264 ≤ x.toInt ∧ x.toInt ≤ 12271) ∨ (12289 ≤ x.toInt ∧ x.toInt ≤ 55295) ∨ (63744 ≤ x.toInt ∧ x.toInt ≤ 64975) ∨ (65008 ≤ x.toInt ∧ x.toInt ≤ 65533) ∨ 65536 ≤ x.toInt then 1 else 0 := by
  unfold f2_45
  have he : ∀ c : Int32, (x = c) = (x.toInt = c.toInt) := fun c => propext Int32.toInt_inj.symm
  simp only [own_nar1, own_nar0, own_10, own_00, ↓reduceIte, Int32.lt_iff_toInt_lt, he, own_i215, own_i247, own_i768, own_i879, sf2_172, sf2_73]
  all_goals
    have hl := Int32.le_toInt x
    have hh := Int32.toInt_lt x
    clear he
    generalize x.toInt = n at *
    repeat' split
    all_goals first | rfl | (exfalso; omega)
theorem sf2_26 (x : Int32) : f2_26 x = if x.toInt ≤ 95 ∨ (97 ≤ x.toInt ∧ x.toInt ≤ 122) ∨ (192 ≤ x.toInt ∧ x.toInt ≤ 214) ∨ (216 ≤ x.toInt ∧ x.toInt ≤ 246) ∨ (248 ≤ x.toInt ∧ x.toInt ≤ 767) ∨ (880 ≤ x.toInt ∧ x.toInt ≤ 893) ∨ (895 ≤ x.toInt ∧ x.toInt ≤ 8191) ∨ (8204 ≤ x.toInt ∧ x.toInt ≤ 8205) ∨ (8304 ≤ x.toInt ∧ x.toInt ≤ 8591) ∨ (11264 ≤ x.toInt ∧ x.toInt ≤ 12271) ∨ (12289 ≤ x.toInt ∧ x.toInt ≤ 55295) ∨ (63744 ≤ x.toInt ∧ x.toInt ≤ 64975) ∨ (65008 ≤ x.toInt ∧ x.toInt ≤ 65533) ∨ 65536 ≤ x.toInt then 1 else 0 := by
  unfold f2_26
  have he : ∀ c : Int32, (x = c) = (x.toInt = c.toInt) := fun c => propext Int32.toInt_inj.symm
  simp only [own_nar1, own_nar0, own_10, own_00, ↓reduceIte, Int32.lt_iff_toInt_lt, he, own_i123, own_i191, own_i96, sf2_172, sf2_45]
  all_goals
    have hl := Int32.le_toInt x
    have hh := Int32.toInt_lt x
    clear he
    generalize x.toInt = n at *
    repeat' split
    all_goals first | rfl | (exfalso; omega)
theorem sf2_12 (x : Int32) : f2_12 x = if False then 1 else 0 := by
  unfold f2_12
  have he : ∀ c : Int32, (x = c) = (x.toInt = c.toInt) := fun c => propext Int32.toInt_inj.symm
  simp only [own_nar1, own_nar0, own_10, own_00, ↓reduceIte, Int32.lt_iff_toInt_lt, he, own_i0]
  all_goals
    have hl := Int32.le_toInt x
    have hh := Int32.toInt_lt x
    clear he
    generalize x.toInt = n at *
    repeat' split
    all_goals first | rfl | (exfalso; omega)
theorem sf2_0 (x : Int32) : f2_0 x = if (65 ≤ x.toInt ∧ x.toInt ≤ 90) ∨ x.toInt = 95 ∨ (97 ≤ x.toInt ∧ x.toInt ≤ 122) ∨ (192 ≤ x.toInt ∧ x.toInt ≤ 214) ∨ (216 ≤ x.toInt ∧ x.toInt ≤ 246) ∨ (248 ≤ x.toInt ∧ x.toInt ≤ 767) ∨ (880 ≤ x.toInt ∧ x.toInt ≤ 893) ∨ (895 ≤ x.toInt ∧ x.toInt ≤ 8191) ∨ (8204 ≤ x.toInt ∧ x.toInt ≤ 8205) ∨ (8304 ≤ x.toInt ∧ x.toInt ≤ 8591) ∨ (11264 ≤ x.toInt ∧ x.toInt ≤ 12271) ∨ (12289 ≤ x.toInt ∧ x.toInt ≤ 55295) ∨ (63744 ≤ x.toInt ∧ x.toInt ≤ 64975) ∨ (65008 ≤ x.toInt ∧ x.toInt ≤ 65533) ∨ (65536 ≤ x.toInt ∧ x.toInt ≤ 983039) then 1 else 0 := by
  unfold f2_0
  have he : ∀ c : Int32, (x = c) = (x.toInt = c.toInt) := fun c => propext Int32.toInt_inj.symm
  simp only [own_nar1, own_nar0, own_10, own_00, ↓reduceIte, Int32.lt_iff_toInt_lt, he, own_i65, own_i91, own_i94, own_i983039, sf2_12, sf2_172, sf2_26]
  all_goals
    have hl := Int32.le_toInt x
    have hh := Int32.toInt_lt x
    clear he
    generalize x.toInt = n at *
    repeat' split
    all_goals first | rfl | (exfalso; omega)
theorem own_eq (x : Int32) : f1_0 x = f2_0 x := by rw [sf1_0, sf2_0]
theorem pn_0 : plainName "com/example/axislint/axislint/schema/XmlNamesIsNameStartCharPinLaw" = true := by first | (simp [plainName, overriddenIn]; done) | decide +kernel
theorem ef_0 (m : MethodId) (p1 : Int32) (p2 : Int32) (p3 : Int32) (p4 : Int32) : entryFrame m #[(.int p1), (.int p2), (.int p3), (.int p4)] maxLocals = mkF m 0 #[.val (.int p1), .val (.int p2), .val (.int p3), .val (.int p4), .unset, .unset] [] := by first | (simp [entryFrame, mkF, argsToLocals, Value.category, maxLocals]; done) | rfl
theorem pd_0_0 : parseMethodDescriptor "(I)Z" = some ⟨[.int], some .boolean⟩ := by decide +kernel
def Q0 (n0 : Nat) (v : Option Value) (L : List Loc) : Prop := v = some (.int 1) ∧ Fr n0 L
set_option maxRecDepth 65536 in
set_option maxHeartbeats 40000000 in
theorem rm0 (l : Launch) (Z : State) (a0 : Array Value) (hw : ∀ d ∈ tables_1, d.before a0 Z = true) (ws : List Jvm.Cond) (p1 : Int32) (p2 : Int32) (p3 : Int32) (p4 : Int32) (h0 : Heap) (n0 : Nat) (Z0 : n0 ≤ h0.size) :
    MetFree l x (head1 (Jvm.Cond.code x code maxLocals ret :: ws) room_1) (fun a U => a = #[(.int p1), (.int p2), (.int p3), (.int p4)] ∧ Z.Warmed39 U.vm ∧ U.heap = h0) (fun _ _ _ _ _ => True) (fun _ U o U' => ∃ v L, o = .returned v ∧ Q0 n0 v L ∧ FrameEnd U o U' L room_1.cells room_1.slots) := by
  refine MetFree.of_bodySF (plainFor_of_name pn_0) hisR ?_
  intro p e s m args below meth c s₁ Bd hml0 hP hK
  obtain ⟨rfl, hZ, hh⟩ := hP
  have hx := Bd.exec
  have hby := Bd.bytes
  have hml : c.maxLocals = 6 := hml0
  have hown : s.vm.findClass "com/example/axislint/axislint/schema/XmlNamesIsNameStartCharPinLaw" = some m.cls := findClass_of_methodNamed Bd.named
  have hnm := (name_of_methodNamed Bd.named Bd.method).1
  have X0 : Stand p l e room_1 s m #[(.int p1), (.int p2), (.int p3), (.int p4)] below meth c s₁ [] 0 0 := Stand.of_body Bd
  have e0 : s₁.heap = h0 := by rw [← hh, Bd.state]; rfl
  have N0 := Fr.nil n0
  have pre0 : ∀ t, Steps p.tables e below (s₁.setTop (mkF m 0 #[.val (.int p1), .val (.int p2), .val (.int p3), .val (.int p4), .unset, .unset] [])) t → Steps p.tables e below (s₁.setTop (entryFrame m #[(.int p1), (.int p2), (.int p3), (.int p4)] maxLocals)) t := fun t k => castTop (ef_0 m p1 p2 p3 p4) k
  obtain ⟨T1, H1, cA1, X1, e1, E1, A1, st1⟩ := newP X0 hx hZ (aty := .int) (hw _ (List.mem_of_getElem? (i := 0) rfl)) e0 (g := (mkF m 2 #[.val (.int p1), .val (.int p2), .val (.int p3), .val (.int p4), .unset, .unset] [(.int (30 : Int32))])) rfl (hb hby at_2) rfl (by decide) (cap := 30) (by decide) (by decide) (by decide) (by decide)
  obtain ⟨b1, g1⟩ : ∃ z, z = h0.size := ⟨_, rfl⟩
  rw [← g1] at A1 st1
  have V1 : own_VA Z H1 b1 .int [(.int (0 : Int32)), (.int (0 : Int32)), (.int (0 : Int32)), (.int (0 : Int32)), (.int (0 : Int32)), (.int (0 : Int32)), (.int (0 : Int32)), (.int (0 : Int32)), (.int (0 : Int32)), (.int (0 : Int32)), (.int (0 : Int32)), (.int (0 : Int32)), (.int (0 : Int32)), (.int (0 : Int32)), (.int (0 : Int32)), (.int (0 : Int32)), (.int (0 : Int32)), (.int (0 : Int32)), (.int (0 : Int32)), (.int (0 : Int32)), (.int (0 : Int32)), (.int (0 : Int32)), (.int (0 : Int32)), (.int (0 : Int32)), (.int (0 : Int32)), (.int (0 : Int32)), (.int (0 : Int32)), (.int (0 : Int32)), (.int (0 : Int32)), (.int (0 : Int32))] := own_VA_new (ty := .int) A1 (k := 30) (by decide)
  have Z1 : n0 ≤ H1.size := Nat.le_trans Z0 E1.1
  have gb1 : n0 ≤ b1 := Nat.le_trans Z0 (Nat.le_of_eq g1.symm)
  obtain ⟨T2, H2, Ls2, X2, e2, V2', W2, FF2, st2⟩ := own_stI X1 hx hZ e1 V1 (n := 30) (k := 0) rfl (by decide) (by decide) (g := (mkF m 8 #[.val (.int p1), .val (.int p2), .val (.int p3), .val (.int p4), .unset, .unset] [(.int (65 : Int32)), (.int (0 : Int32)), (.ref b1), (.ref b1)])) rfl rfl (hb hby at_8)
  have V2 : own_VA Z H2 b1 .int [(.int (65 : Int32)), (.int (0 : Int32)), (.int (0 : Int32)), (.int (0 : Int32)), (.int (0 : Int32)), (.int (0 : Int32)), (.int (0 : Int32)), (.int (0 : Int32)), (.int (0 : Int32)), (.int (0 : Int32)), (.int (0 : Int32)), (.int (0 : Int32)), (.int (0 : Int32)), (.int (0 : Int32)), (.int (0 : Int32)), (.int (0 : Int32)), (.int (0 : Int32)), (.int (0 : Int32)), (.int (0 : Int32)), (.int (0 : Int32)), (.int (0 : Int32)), (.int (0 : Int32)), (.int (0 : Int32)), (.int (0 : Int32)), (.int (0 : Int32)), (.int (0 : Int32)), (.int (0 : Int32)), (.int (0 : Int32)), (.int (0 : Int32)), (.int (0 : Int32))] := V2'
  have N2 := FF2 _ N0 gb1
  have Z2 : n0 ≤ H2.size := Nat.le_trans Z1 (Nat.le_of_eq W2.size.symm)
  obtain ⟨T3, H3, Ls3, X3, e3, V3', W3, FF3, st3⟩ := own_stI X2 hx hZ e2 V2 (n := 30) (k := 1) rfl (by decide) (by decide) (g := (mkF m 13 #[.val (.int p1), .val (.int p2), .val (.int p3), .val (.int p4), .unset, .unset] [(.int (90 : Int32)), (.int (1 : Int32)), (.ref b1), (.ref b1)])) rfl rfl (hb hby at_13)
  have V3 : own_VA Z H3 b1 .int [(.int (65 : Int32)), (.int (90 : Int32)), (.int (0 : Int32)), (.int (0 : Int32)), (.int (0 : Int32)), (.int (0 : Int32)), (.int (0 : Int32)), (.int (0 : Int32)), (.int (0 : Int32)), (.int (0 : Int32)), (.int (0 : Int32)), (.int (0 : Int32)), (.int (0 : Int32)), (.int (0 : Int32)), (.int (0 : Int32)), (.int (0 : Int32)), (.int (0 : Int32)), (.int (0 : Int32)), (.int (0 : Int32)), (.int (0 : Int32)), (.int (0 : Int32)), (.int (0 : Int32)), (.int (0 : Int32)), (.int (0 : Int32)), (.int (0 : Int32)), (.int (0 : Int32)), (.int (0 : Int32)), (.int (0 : Int32)), (.int (0 : Int32)), (.int (0 : Int32))] := V3'
  have N3 := FF3 _ N2 gb1
  have Z3 : n0 ≤ H3.size := Nat.le_trans Z2 (Nat.le_of_eq W3.size.symm)
  obtain ⟨T4, H4, Ls4, X4, e4, V4', W4, FF4, st4⟩ := own_stI X3 hx hZ e3 V3 (n := 30) (k := 2) rfl (by decide) (by decide) (g := (mkF m 18 #[.val (.int p1), .val (.int p2), .val (.int p3), .val (.int p4), .unset, .unset] [(.int (95 : Int32)), (.int (2 : Int32)), (.ref b1), (.ref b1)])) rfl rfl (hb hby at_18)
  have V4 : own_VA Z H4 b1 .int [(.int (65 : Int32)), (.int (90 : Int32)), (.int (95 : Int32)), (.int (0 : Int32)), (.int (0 : Int32)), (.int (0 : Int32)), (.int (0 : Int32)), (.int (0 : Int32)), (.int (0 : Int32)), (.int (0 : Int32)), (.int (0 : Int32)), (.int (0 : Int32)), (.int (0 : Int32)), (.int (0 : Int32)), (.int (0 : Int32)), (.int (0 : Int32)), (.int (0 : Int32)), (.int (0 : Int32)), (.int (0 : Int32)), (.int (0 : Int32)), (.int (0 : Int32)), (.int (0 : Int32)), (.int (0 : Int32)), (.int (0 : Int32)), (.int (0 : Int32)), (.int (0 : Int32)), (.int (0 : Int32)), (.int (0 : Int32)), (.int (0 : Int32)), (.int (0 : Int32))] := V4'
  have N4 := FF4 _ N3 gb1
  have Z4 : n0 ≤ H4.size := Nat.le_trans Z3 (Nat.le_of_eq W4.size.symm)
  obtain ⟨T5, H5, Ls5, X5, e5, V5', W5, FF5, st5⟩ := own_stI X4 hx hZ e4 V4 (n := 30) (k := 3) rfl (by decide) (by decide) (g := (mkF m 23 #[.val (.int p1), .val (.int p2), .val (.int p3), .val (.int p4), .unset, .unset] [(.int (97 : Int32)), (.int (3 : Int32)), (.ref b1), (.ref b1)])) rfl rfl (hb hby at_23)
  have V5 : own_VA Z H5 b1 .int [(.int (65 : Int32)), (.int (90 : Int32)), (.int (95 : Int32)), (.int (97 : Int32)), (.int (0 : Int32)), (.int (0 : Int32)), (.int (0 : Int32)), (.int (0 : Int32)), (.int (0 : Int32)), (.int (0 : Int32)), (.int (0 : Int32)), (.int (0 : Int32)), (.int (0 : Int32)), (.int (0 : Int32)), (.int (0 : Int32)), (.int (0 : Int32)), (.int (0 : Int32)), (.int (0 : Int32)), (.int (0 : Int32)), (.int (0 : Int32)), (.int (0 : Int32)), (.int (0 : Int32)), (.int (0 : Int32)), (.int (0 : Int32)), (.int (0 : Int32)), (.int (0 : Int32)), (.int (0 : Int32)), (.int (0 : Int32)), (.int (0 : Int32)), (.int (0 : Int32))] := V5'
  have N5 := FF5 _ N4 gb1
  have Z5 : n0 ≤ H5.size := Nat.le_trans Z4 (Nat.le_of_eq W5.size.symm)
  obtain ⟨T6, H6, Ls6, X6, e6, V6', W6, FF6, st6⟩ := own_stI X5 hx hZ e5 V5 (n := 30) (k := 4) rfl (by decide) (by decide) (g := (mkF m 28 #[.val (.int p1), .val (.int p2), .val (.int p3), .val (.int p4), .unset, .unset] [(.int (122 : Int32)), (.int (4 : Int32)), (.ref b1), (.ref b1)])) rfl rfl (hb hby at_28)
  have V6 : own_VA Z H6 b1 .int [(.int (65 : Int32)), (.int (90 : Int32)), (.int (95 : Int32)), (.int (97 : Int32)), (.int (122 : Int32)), (.int (0 : Int32)), (.int (0 : Int32)), (.int (0 : Int32)), (.int (0 : Int32)), (.int (0 : Int32)), (.int (0 : Int32)), (.int (0 : Int32)), (.int (0 : Int32)), (.int (0 : Int32)), (.int (0 : Int32)), (.int (0 : Int32)), (.int (0 : Int32)), (.int (0 : Int32)), (.int (0 : Int32)), (.int (0 : Int32)), (.int (0 : Int32)), (.int (0 : Int32)), (.int (0 : Int32)), (.int (0 : Int32)), (.int (0 : Int32)), (.int (0 : Int32)), (.int (0 : Int32)), (.int (0 : Int32)), (.int (0 : Int32)), (.int (0 : Int32))] := V6'
  have N6 := FF6 _ N5 gb1
  have Z6 : n0 ≤ H6.size := Nat.le_trans Z5 (Nat.le_of_eq W6.size.symm)
  obtain ⟨T7, H7, Ls7, X7, e7, V7', W7, FF7, st7⟩ := own_stI X6 hx hZ e6 V6 (n := 30) (k := 5) rfl (by decide) (by decide) (g := (mkF m 34 #[.val (.int p1), .val (.int p2), .val (.int p3), .val (.int p4), .unset, .unset] [(.int (192 : Int32)), (.int (5 : Int32)), (.ref b1), (.ref b1)])) rfl rfl (hb hby at_34)
  have V7 : own_VA Z H7 b1 .int [(.int (65 : Int32)), (.int (90 : Int32)), (.int (95 : Int32)), (.int (97 : Int32)), (.int (122 : Int32)), (.int (192 : Int32)), (.int (0 : Int32)), (.int (0 : Int32)), (.int (0 : Int32)), (.int (0 : Int32)), (.int (0 : Int32)), (.int (0 : Int32)), (.int (0 : Int32)), (.int (0 : Int32)), (.int (0 : Int32)), (.int (0 : Int32)), (.int (0 : Int32)), (.int (0 : Int32)), (.int (0 : Int32)), (.int (0 : Int32)), (.int (0 : Int32)), (.int (0 : Int32)), (.int (0 : Int32)), (.int (0 : Int32)), (.int (0 : Int32)), (.int (0 : Int32)), (.int (0 : Int32)), (.int (0 : Int32)), (.int (0 : Int32)), (.int (0 : Int32))] := V7'
  have N7 := FF7 _ N6 gb1
  have Z7 : n0 ≤ H7.size := Nat.le_trans Z6 (Nat.le_of_eq W7.size.symm)
  obtain ⟨T8, H8, Ls8, X8, e8, V8', W8, FF8, st8⟩ := own_stI X7 hx hZ e7 V7 (n := 30) (k := 6) rfl (by decide) (by decide) (g := (mkF m 41 #[.val (.int p1), .val (.int p2), .val (.int p3), .val (.int p4), .unset, .unset] [(.int (214 : Int32)), (.int (6 : Int32)), (.ref b1), (.ref b1)])) rfl rfl (hb hby at_41)
  have V8 : own_VA Z H8 b1 .int [(.int (65 : Int32)), (.int (90 : Int32)), (.int (95 : Int32)), (.int (97 : Int32)), (.int (122 : Int32)), (.int (192 : Int32)), (.int (214 : Int32)), (.int (0 : Int32)), (.int (0 : Int32)), (.int (0 : Int32)), (.int (0 : Int32)), (.int (0 : Int32)), (.int (0 : Int32)), (.int (0 : Int32)), (.int (0 : Int32)), (.int (0 : Int32)), (.int (0 : Int32)), (.int (0 : Int32)), (.int (0 : Int32)), (.int (0 : Int32)), (.int (0 : Int32)), (.int (0 : Int32)), (.int (0 : Int32)), (.int (0 : Int32)), (.int (0 : Int32)), (.int (0 : Int32)), (.int (0 : Int32)), (.int (0 : Int32)), (.int (0 : Int32)), (.int (0 : Int32))] := V8'
  have N8 := FF8 _ N7 gb1
  have Z8 : n0 ≤ H8.size := Nat.le_trans Z7 (Nat.le_of_eq W8.size.symm)
  obtain ⟨T9, H9, Ls9, X9, e9, V9', W9, FF9, st9⟩ := own_stI X8 hx hZ e8 V8 (n := 30) (k := 7) rfl (by decide) (by decide) (g := (mkF m 48 #[.val (.int p1), .val (.int p2), .val (.int p3), .val (.int p4), .unset, .unset] [(.int (216 : Int32)), (.int (7 : Int32)), (.ref b1), (.ref b1)])) rfl rfl (hb hby at_48)
  have V9 : own_VA Z H9 b1 .int [(.int (65 : Int32)), (.int (90 : Int32)), (.int (95 : Int32)), (.int (97 : Int32)), (.int (122 : Int32)), (.int (192 : Int32)), (.int (214 : Int32)), (.int (216 : Int32)), (.int (0 : Int32)), (.int (0 : Int32)), (.int (0 : Int32)), (.int (0 : Int32)), (.int (0 : Int32)), (.int (0 : Int32)), (.int (0 : Int32)), (.int (0 : Int32)), (.int (0 : Int32)), (.int (0 : Int32)), (.int (0 : Int32)), (.int (0 : Int32)), (.int (0 : Int32)), (.int (0 : Int32)), (.int (0 : Int32)), (.int (0 : Int32)), (.int (0 : Int32)), (.int (0 : Int32)), (.int (0 : Int32)), (.int (0 : Int32)), (.int (0 : Int32)), (.int (0 : Int32))] := V9'
  have N9 := FF9 _ N8 gb1
  have Z9 : n0 ≤ H9.size := Nat.le_trans Z8 (Nat.le_of_eq W9.size.symm)
  obtain ⟨T10, H10, Ls10, X10, e10, V10', W10, FF10, st10⟩ := own_stI X9 hx hZ e9 V9 (n := 30) (k := 8) rfl (by decide) (by decide) (g := (mkF m 55 #[.val (.int p1), .val (.int p2), .val (.int p3), .val (.int p4), .unset, .unset] [(.int (246 : Int32)), (.int (8 : Int32)), (.ref b1), (.ref b1)])) rfl rfl (hb hby at_55)
  have V10 : own_VA Z H10 b1 .int [(.int (65 : Int32)), (.int (90 : Int32)), (.int (95 : Int32)), (.int (97 : Int32)), (.int (122 : Int32)), (.int (192 : Int32)), (.int (214 : Int32)), (.int (216 : Int32)), (.int (246 : Int32)), (.int (0 : Int32)), (.int (0 : Int32)), (.int (0 : Int32)), (.int (0 : Int32)), (.int (0 : Int32)), (.int (0 : Int32)), (.int (0 : Int32)), (.int (0 : Int32)), (.int (0 : Int32)), (.int (0 : Int32)), (.int (0 : Int32)), (.int (0 : Int32)), (.int (0 : Int32)), (.int (0 : Int32)), (.int (0 : Int32)), (.int (0 : Int32)), (.int (0 : Int32)), (.int (0 : Int32)), (.int (0 : Int32)), (.int (0 : Int32)), (.int (0 : Int32))] := V10'
  have N10 := FF10 _ N9 gb1
  have Z10 : n0 ≤ H10.size := Nat.le_trans Z9 (Nat.le_of_eq W10.size.symm)
  obtain ⟨T11, H11, Ls11, X11, e11, V11', W11, FF11, st11⟩ := own_stI X10 hx hZ e10 V10 (n := 30) (k := 9) rfl (by decide) (by decide) (g := (mkF m 62 #[.val (.int p1), .val (.int p2), .val (.int p3), .val (.int p4), .unset, .unset] [(.int (248 : Int32)), (.int (9 : Int32)), (.ref b1), (.ref b1)])) rfl rfl (hb hby at_62)
  have V11 : own_VA Z H11 b1 .int [(.int (65 : Int32)), (.int (90 : Int32)), (.int (95 : Int32)), (.int (97 : Int32)), (.int (122 : Int32)), (.int (192 : Int32)), (.int (214 : Int32)), (.int (216 : Int32)), (.int (246 : Int32)), (.int (248 : Int32)), (.int (0 : Int32)), (.int (0 : Int32)), (.int (0 : Int32)), (.int (0 : Int32)), (.int (0 : Int32)), (.int (0 : Int32)), (.int (0 : Int32)), (.int (0 : Int32)), (.int (0 : Int32)), (.int (0 : Int32)), (.int (0 : Int32)), (.int (0 : Int32)), (.int (0 : Int32)), (.int (0 : Int32)), (.int (0 : Int32)), (.int (0 : Int32)), (.int (0 : Int32)), (.int (0 : Int32)), (.int (0 : Int32)), (.int (0 : Int32))] := V11'
  have N11 := FF11 _ N10 gb1
  have Z11 : n0 ≤ H11.size := Nat.le_trans Z10 (Nat.le_of_eq W11.size.symm)
  obtain ⟨T12, H12, Ls12, X12, e12, V12', W12, FF12, st12⟩ := own_stI X11 hx hZ e11 V11 (n := 30) (k := 10) rfl (by decide) (by decide) (g := (mkF m 69 #[.val (.int p1), .val (.int p2), .val (.int p3), .val (.int p4), .unset, .unset] [(.int (767 : Int32)), (.int (10 : Int32)), (.ref b1), (.ref b1)])) rfl rfl (hb hby at_69)
  have V12 : own_VA Z H12 b1 .int [(.int (65 : Int32)), (.int (90 : Int32)), (.int (95 : Int32)), (.int (97 : Int32)), (.int (122 : Int32)), (.int (192 : Int32)), (.int (214 : Int32)), (.int (216 : Int32)), (.int (246 : Int32)), (.int (248 : Int32)), (.int (767 : Int32)), (.int (0 : Int32)), (.int (0 : Int32)), (.int (0 : Int32)), (.int (0 : Int32)), (.int (0 : Int32)), (.int (0 : Int32)), (.int (0 : Int32)), (.int (0 : Int32)), (.int (0 : Int32)), (.int (0 : Int32)), (.int (0 : Int32)), (.int (0 : Int32)), (.int (0 : Int32)), (.int (0 : Int32)), (.int (0 : Int32)), (.int (0 : Int32)), (.int (0 : Int32)), (.int (0 : Int32)), (.int (0 : Int32))] := V12'
  have N12 := FF12 _ N11 gb1
  have Z12 : n0 ≤ H12.size := Nat.le_trans Z11 (Nat.le_of_eq W12.size.symm)
  obtain ⟨T13, H13, Ls13, X13, e13, V13', W13, FF13, st13⟩ := own_stI X12 hx hZ e12 V12 (n := 30) (k := 11) rfl (by decide) (by decide) (g := (mkF m 76 #[.val (.int p1), .val (.int p2), .val (.int p3), .val (.int p4), .unset, .unset] [(.int (880 : Int32)), (.int (11 : Int32)), (.ref b1), (.ref b1)])) rfl rfl (hb hby at_76)
  have V13 : own_VA Z H13 b1 .int [(.int (65 : Int32)), (.int (90 : Int32)), (.int (95 : Int32)), (.int (97 : Int32)), (.int (122 : Int32)), (.int (192 : Int32)), (.int (214 : Int32)), (.int (216 : Int32)), (.int (246 : Int32)), (.int (248 : Int32)), (.int (767 : Int32)), (.int (880 : Int32)), (.int (0 : Int32)), (.int (0 : Int32)), (.int (0 : Int32)), (.int (0 : Int32)), (.int (0 : Int32)), (.int (0 : Int32)), (.int (0 : Int32)), (.int (0 : Int32)), (.int (0 : Int32)), (.int (0 : Int32)), (.int (0 : Int32)), (.int (0 : Int32)), (.int (0 : Int32)), (.int (0 : Int32)), (.int (0 : Int32)), (.int (0 : Int32)), (.int (0 : Int32)), (.int (0 : Int32))] := V13'
  have N13 := FF13 _ N12 gb1
  have Z13 : n0 ≤ H13.size := Nat.le_trans Z12 (Nat.le_of_eq W13.size.symm)
  obtain ⟨T14, H14, Ls14, X14, e14, V14', W14, FF14, st14⟩ := own_stI X13 hx hZ e13 V13 (n := 30) (k := 12) rfl (by decide) (by decide) (g := (mkF m 83 #[.val (.int p1), .val (.int p2), .val (.int p3), .val (.int p4), .unset, .unset] [(.int (893 : Int32)), (.int (12 : Int32)), (.ref b1), (.ref b1)])) rfl rfl (hb hby at_83)
  have V14 : own_VA Z H14 b1 .int [(.int (65 : Int32)), (.int (90 : Int32)), (.int (95 : Int32)), (.int (97 : Int32)), (.int (122 : Int32)), (.int (192 : Int32)), (.int (214 : Int32)), (.int (216 : Int32)), (.int (246 : Int32)), (.int (248 : Int32)), (.int (767 : Int32)), (.int (880 : Int32)), (.int (893 : Int32)), (.int (0 : Int32)), (.int (0 : Int32)), (.int (0 : Int32)), (.int (0 : Int32)), (.int (0 : Int32)), (.int (0 : Int32)), (.int (0 : Int32)), (.int (0 : Int32)), (.int (0 : Int32)), (.int (0 : Int32)), (.int (0 : Int32)), (.int (0 : Int32)), (.int (0 : Int32)), (.int (0 : Int32)), (.int (0 : Int32)), (.int (0 : Int32)), (.int (0 : Int32))] := V14'
  have N14 := FF14 _ N13 gb1
  have Z14 : n0 ≤ H14.size := Nat.le_trans Z13 (Nat.le_of_eq W14.size.symm)
  obtain ⟨T15, H15, Ls15, X15, e15, V15', W15, FF15, st15⟩ := own_stI X14 hx hZ e14 V14 (n := 30) (k := 13) rfl (by decide) (by decide) (g := (mkF m 90 #[.val (.int p1), .val (.int p2), .val (.int p3), .val (.int p4), .unset, .unset] [(.int (895 : Int32)), (.int (13 : Int32)), (.ref b1), (.ref b1)])) rfl rfl (hb hby at_90)
  have V15 : own_VA Z H15 b1 .int [(.int (65 : Int32)), (.int (90 : Int32)), (.int (95 : Int32)), (.int (97 : Int32)), (.int (122 : Int32)), (.int (192 : Int32)), (.int (214 : Int32)), (.int (216 : Int32)), (.int (246 : Int32)), (.int (248 : Int32)), (.int (767 : Int32)), (.int (880 : Int32)), (.int (893 : Int32)), (.int (895 : Int32)), (.int (0 : Int32)), (.int (0 : Int32)), (.int (0 : Int32)), (.int (0 : Int32)), (.int (0 : Int32)), (.int (0 : Int32)), (.int (0 : Int32)), (.int (0 : Int32)), (.int (0 : Int32)), (.int (0 : Int32)), (.int (0 : Int32)), (.int (0 : Int32)), (.int (0 : Int32)), (.int (0 : Int32)), (.int (0 : Int32)), (.int (0 : Int32))] := V15'
  have N15 := FF15 _ N14 gb1
  have Z15 : n0 ≤ H15.size := Nat.le_trans Z14 (Nat.le_of_eq W15.size.symm)
  obtain ⟨T16, H16, Ls16, X16, e16, V16', W16, FF16, st16⟩ := own_stI X15 hx hZ e15 V15 (n := 30) (k := 14) rfl (by decide) (by decide) (g := (mkF m 97 #[.val (.int p1), .val (.int p2), .val (.int p3), .val (.int p4), .unset, .unset] [(.int (8191 : Int32)), (.int (14 : Int32)), (.ref b1), (.ref b1)])) rfl rfl (hb hby at_97)
  have V16 : own_VA Z H16 b1 .int [(.int (65 : Int32)), (.int (90 : Int32)), (.int (95 : Int32)), (.int (97 : Int32)), (.int (122 : Int32)), (.int (192 : Int32)), (.int (214 : Int32)), (.int (216 : Int32)), (.int (246 : Int32)), (.int (248 : Int32)), (.int (767 : Int32)), (.int (880 : Int32)), (.int (893 : Int32)), (.int (895 : Int32)), (.int (8191 : Int32)), (.int (0 : Int32)), (.int (0 : Int32)), (.int (0 : Int32)), (.int (0 : Int32)), (.int (0 : Int32)), (.int (0 : Int32)), (.int (0 : Int32)), (.int (0 : Int32)), (.int (0 : Int32)), (.int (0 : Int32)), (.int (0 : Int32)), (.int (0 : Int32)), (.int (0 : Int32)), (.int (0 : Int32)), (.int (0 : Int32))] := V16'
  have N16 := FF16 _ N15 gb1
  have Z16 : n0 ≤ H16.size := Nat.le_trans Z15 (Nat.le_of_eq W16.size.symm)
  obtain ⟨T17, H17, Ls17, X17, e17, V17', W17, FF17, st17⟩ := own_stI X16 hx hZ e16 V16 (n := 30) (k := 15) rfl (by decide) (by decide) (g := (mkF m 104 #[.val (.int p1), .val (.int p2), .val (.int p3), .val (.int p4), .unset, .unset] [(.int (8204 : Int32)), (.int (15 : Int32)), (.ref b1), (.ref b1)])) rfl rfl (hb hby at_104)
  have V17 : own_VA Z H17 b1 .int [(.int (65 : Int32)), (.int (90 : Int32)), (.int (95 : Int32)), (.int (97 : Int32)), (.int (122 : Int32)), (.int (192 : Int32)), (.int (214 : Int32)), (.int (216 : Int32)), (.int (246 : Int32)), (.int (248 : Int32)), (.int (767 : Int32)), (.int (880 : Int32)), (.int (893 : Int32)), (.int (895 : Int32)), (.int (8191 : Int32)), (.int (8204 : Int32)), (.int (0 : Int32)), (.int (0 : Int32)), (.int (0 : Int32)), (.int (0 : Int32)), (.int (0 : Int32)), (.int (0 : Int32)), (.int (0 : Int32)), (.int (0 : Int32)), (.int (0 : Int32)), (.int (0 : Int32)), (.int (0 : Int32)), (.int (0 : Int32)), (.int (0 : Int32)), (.int (0 : Int32))] := V17'
  have N17 := FF17 _ N16 gb1
  have Z17 : n0 ≤ H17.size := Nat.le_trans Z16 (Nat.le_of_eq W17.size.symm)
  obtain ⟨T18, H18, Ls18, X18, e18, V18', W18, FF18, st18⟩ := own_stI X17 hx hZ e17 V17 (n := 30) (k := 16) rfl (by decide) (by decide) (g := (mkF m 111 #[.val (.int p1), .val (.int p2), .val (.int p3), .val (.int p4), .unset, .unset] [(.int (8205 : Int32)), (.int (16 : Int32)), (.ref b1), (.ref b1)])) rfl rfl (hb hby at_111)
  have V18 : own_VA Z H18 b1 .int [(.int (65 : Int32)), (.int (90 : Int32)), (.int (95 : Int32)), (.int (97 : Int32)), (.int (122 : Int32)), (.int (192 : Int32)), (.int (214 : Int32)), (.int (216 : Int32)), (.int (246 : Int32)), (.int (248 : Int32)), (.int (767 : Int32)), (.int (880 : Int32)), (.int (893 : Int32)), (.int (895 : Int32)), (.int (8191 : Int32)), (.int (8204 : Int32)), (.int (8205 : Int32)), (.int (0 : Int32)), (.int (0 : Int32)), (.int (0 : Int32)), (.int (0 : Int32)), (.int (0 : Int32)), (.int (0 : Int32)), (.int (0 : Int32)), (.int (0 : Int32)), (.int (0 : Int32)), (.int (0 : Int32)), (.int (0 : Int32)), (.int (0 : Int32)), (.int (0 : Int32))] := V18'
  have N18 := FF18 _ N17 gb1
  have Z18 : n0 ≤ H18.size := Nat.le_trans Z17 (Nat.le_of_eq W18.size.symm)
  obtain ⟨T19, H19, Ls19, X19, e19, V19', W19, FF19, st19⟩ := own_stI X18 hx hZ e18 V18 (n := 30) (k := 17) rfl (by decide) (by decide) (g := (mkF m 118 #[.val (.int p1), .val (.int p2), .val (.int p3), .val (.int p4), .unset, .unset] [(.int (8304 : Int32)), (.int (17 : Int32)), (.ref b1), (.ref b1)])) rfl rfl (hb hby at_118)
  have V19 : own_VA Z H19 b1 .int [(.int (65 : Int32)), (.int (90 : Int32)), (.int (95 : Int32)), (.int (97 : Int32)), (.int (122 : Int32)), (.int (192 : Int32)), (.int (214 : Int32)), (.int (216 : Int32)), (.int (246 : Int32)), (.int (248 : Int32)), (.int (767 : Int32)), (.int (880 : Int32)), (.int (893 : Int32)), (.int (895 : Int32)), (.int (8191 : Int32)), (.int (8204 : Int32)), (.int (8205 : Int32)), (.int (8304 : Int32)), (.int (0 : Int32)), (.int (0 : Int32)), (.int (0 : Int32)), (.int (0 : Int32)), (.int (0 : Int32)), (.int (0 : Int32)), (.int (0 : Int32)), (.int (0 : Int32)), (.int (0 : Int32)), (.int (0 : Int32)), (.int (0 : Int32)), (.int (0 : Int32))] := V19'
  have N19 := FF19 _ N18 gb1
  have Z19 : n0 ≤ H19.size := Nat.le_trans Z18 (Nat.le_of_eq W19.size.symm)
  obtain ⟨T20, H20, Ls20, X20, e20, V20', W20, FF20, st20⟩ := own_stI X19 hx hZ e19 V19 (n := 30) (k := 18) rfl (by decide) (by decide) (g := (mkF m 125 #[.val (.int p1), .val (.int p2), .val (.int p3), .val (.int p4), .unset, .unset] [(.int (8591 : Int32)), (.int (18 : Int32)), (.ref b1), (.ref b1)])) rfl rfl (hb hby at_125)
  have V20 : own_VA Z H20 b1 .int [(.int (65 : Int32)), (.int (90 : Int32)), (.int (95 : Int32)), (.int (97 : Int32)), (.int (122 : Int32)), (.int (192 : Int32)), (.int (214 : Int32)), (.int (216 : Int32)), (.int (246 : Int32)), (.int (248 : Int32)), (.int (767 : Int32)), (.int (880 : Int32)), (.int (893 : Int32)), (.int (895 : Int32)), (.int (8191 : Int32)), (.int (8204 : Int32)), (.int (8205 : Int32)), (.int (8304 : Int32)), (.int (8591 : Int32)), (.int (0 : Int32)), (.int (0 : Int32)), (.int (0 : Int32)), (.int (0 : Int32)), (.int (0 : Int32)), (.int (0 : Int32)), (.int (0 : Int32)), (.int (0 : Int32)), (.int (0 : Int32)), (.int (0 : Int32)), (.int (0 : Int32))] := V20'
  have N20 := FF20 _ N19 gb1
  have Z20 : n0 ≤ H20.size := Nat.le_trans Z19 (Nat.le_of_eq W20.size.symm)
  obtain ⟨T21, H21, Ls21, X21, e21, V21', W21, FF21, st21⟩ := own_stI X20 hx hZ e20 V20 (n := 30) (k := 19) rfl (by decide) (by decide) (g := (mkF m 132 #[.val (.int p1), .val (.int p2), .val (.int p3), .val (.int p4), .unset, .unset] [(.int (11264 : Int32)), (.int (19 : Int32)), (.ref b1), (.ref b1)])) rfl rfl (hb hby at_132)
  have V21 : own_VA Z H21 b1 .int [(.int (65 : Int32)), (.int (90 : Int32)), (.int (95 : Int32)), (.int (97 : Int32)), (.int (122 : Int32)), (.int (192 : Int32)), (.int (214 : Int32)), (.int (216 : Int32)), (.int (246 : Int32)), (.int (248 : Int32)), (.int (767 : Int32)), (.int (880 : Int32)), (.int (893 : Int32)), (.int (895 : Int32)), (.int (8191 : Int32)), (.int (8204 : Int32)), (.int (8205 : Int32)), (.int (8304 : Int32)), (.int (8591 : Int32)), (.int (11264 : Int32)), (.int (0 : Int32)), (.int (0 : Int32)), (.int (0 : Int32)), (.int (0 : Int32)), (.int (0 : Int32)), (.int (0 : Int32)), (.int (0 : Int32)), (.int (0 : Int32)), (.int (0 : Int32)), (.int (0 : Int32))] := V21'
  have N21 := FF21 _ N20 gb1
  have Z21 : n0 ≤ H21.size := Nat.le_trans Z20 (Nat.le_of_eq W21.size.symm)
  obtain ⟨T22, H22, Ls22, X22, e22, V22', W22, FF22, st22⟩ := own_stI X21 hx hZ e21 V21 (n := 30) (k := 20) rfl (by decide) (by decide) (g := (mkF m 139 #[.val (.int p1), .val (.int p2), .val (.int p3), .val (.int p4), .unset, .unset] [(.int (12271 : Int32)), (.int (20 : Int32)), (.ref b1), (.ref b1)])) rfl rfl (hb hby at_139)
  have V22 : own_VA Z H22 b1 .int [(.int (65 : Int32)), (.int (90 : Int32)), (.int (95 : Int32)), (.int (97 : Int32)), (.int (122 : Int32)), (.int (192 : Int32)), (.int (214 : Int32)), (.int (216 : Int32)), (.int (246 : Int32)), (.int (248 : Int32)), (.int (767 : Int32)), (.int (880 : Int32)), (.int (893 : Int32)), (.int (895 : Int32)), (.int (8191 : Int32)), (.int (8204 : Int32)), (.int (8205 : Int32)), (.int (8304 : Int32)), (.int (8591 : Int32)), (.int (11264 : Int32)), (.int (12271 : Int32)), (.int (0 : Int32)), (.int (0 : Int32)), (.int (0 : Int32)), (.int (0 : Int32)), (.int (0 : Int32)), (.int (0 : Int32)), (.int (0 : Int32)), (.int (0 : Int32)), (.int (0 : Int32))] := V22'
  have N22 := FF22 _ N21 gb1
  have Z22 : n0 ≤ H22.size := Nat.le_trans Z21 (Nat.le_of_eq W22.size.symm)
  obtain ⟨T23, H23, Ls23, X23, e23, V23', W23, FF23, st23⟩ := own_stI X22 hx hZ e22 V22 (n := 30) (k := 21) rfl (by decide) (by decide) (g := (mkF m 146 #[.val (.int p1), .val (.int p2), .val (.int p3), .val (.int p4), .unset, .unset] [(.int (12289 : Int32)), (.int (21 : Int32)), (.ref b1), (.ref b1)])) rfl rfl (hb hby at_146)
  have V23 : own_VA Z H23 b1 .int [(.int (65 : Int32)), (.int (90 : Int32)), (.int (95 : Int32)), (.int (97 : Int32)), (.int (122 : Int32)), (.int (192 : Int32)), (.int (214 : Int32)), (.int (216 : Int32)), (.int (246 : Int32)), (.int (248 : Int32)), (.int (767 : Int32)), (.int (880 : Int32)), (.int (893 : Int32)), (.int (895 : Int32)), (.int (8191 : Int32)), (.int (8204 : Int32)), (.int (8205 : Int32)), (.int (8304 : Int32)), (.int (8591 : Int32)), (.int (11264 : Int32)), (.int (12271 : Int32)), (.int (12289 : Int32)), (.int (0 : Int32)), (.int (0 : Int32)), (.int (0 : Int32)), (.int (0 : Int32)), (.int (0 : Int32)), (.int (0 : Int32)), (.int (0 : Int32)), (.int (0 : Int32))] := V23'
  have N23 := FF23 _ N22 gb1
  have Z23 : n0 ≤ H23.size := Nat.le_trans Z22 (Nat.le_of_eq W23.size.symm)
  obtain ⟨T24, H24, Ls24, X24, e24, V24', W24, FF24, st24⟩ := own_stI X23 hx hZ e23 V23 (n := 30) (k := 22) rfl (by decide) (by decide) (g := (mkF m 152 #[.val (.int p1), .val (.int p2), .val (.int p3), .val (.int p4), .unset, .unset] [(.int (55295 : Int32)), (.int (22 : Int32)), (.ref b1), (.ref b1)])) rfl rfl (hb hby at_152)
  have V24 : own_VA Z H24 b1 .int [(.int (65 : Int32)), (.int (90 : Int32)), (.int (95 : Int32)), (.int (97 : Int32)), (.int (122 : Int32)), (.int (192 : Int32)), (.int (214 : Int32)), (.int (216 : Int32)), (.int (246 : Int32)), (.int (248 : Int32)), (.int (767 : Int32)), (.int (880 : Int32)), (.int (893 : Int32)), (.int (895 : Int32)), (.int (8191 : Int32)), (.int (8204 : Int32)), (.int (8205 : Int32)), (.int (8304 : Int32)), (.int (8591 : Int32)), (.int (11264 : Int32)), (.int (12271 : Int32)), (.int (12289 : Int32)), (.int (55295 : Int32)), (.int (0 : Int32)), (.int (0 : Int32)), (.int (0 : Int32)), (.int (0 : Int32)), (.int (0 : Int32)), (.int (0 : Int32)), (.int (0 : Int32))] := V24'
  have N24 := FF24 _ N23 gb1
  have Z24 : n0 ≤ H24.size := Nat.le_trans Z23 (Nat.le_of_eq W24.size.symm)
  obtain ⟨T25, H25, Ls25, X25, e25, V25', W25, FF25, st25⟩ := own_stI X24 hx hZ e24 V24 (n := 30) (k := 23) rfl (by decide) (by decide) (g := (mkF m 158 #[.val (.int p1), .val (.int p2), .val (.int p3), .val (.int p4), .unset, .unset] [(.int (63744 : Int32)), (.int (23 : Int32)), (.ref b1), (.ref b1)])) rfl rfl (hb hby at_158)
  have V25 : own_VA Z H25 b1 .int [(.int (65 : Int32)), (.int (90 : Int32)), (.int (95 : Int32)), (.int (97 : Int32)), (.int (122 : Int32)), (.int (192 : Int32)), (.int (214 : Int32)), (.int (216 : Int32)), (.int (246 : Int32)), (.int (248 : Int32)), (.int (767 : Int32)), (.int (880 : Int32)), (.int (893 : Int32)), (.int (895 : Int32)), (.int (8191 : Int32)), (.int (8204 : Int32)), (.int (8205 : Int32)), (.int (8304 : Int32)), (.int (8591 : Int32)), (.int (11264 : Int32)), (.int (12271 : Int32)), (.int (12289 : Int32)), (.int (55295 : Int32)), (.int (63744 : Int32)), (.int (0 : Int32)), (.int (0 : Int32)), (.int (0 : Int32)), (.int (0 : Int32)), (.int (0 : Int32)), (.int (0 : Int32))] := V25'
  have N25 := FF25 _ N24 gb1
  have Z25 : n0 ≤ H25.size := Nat.le_trans Z24 (Nat.le_of_eq W25.size.symm)
  obtain ⟨T26, H26, Ls26, X26, e26, V26', W26, FF26, st26⟩ := own_stI X25 hx hZ e25 V25 (n := 30) (k := 24) rfl (by decide) (by decide) (g := (mkF m 164 #[.val (.int p1), .val (.int p2), .val (.int p3), .val (.int p4), .unset, .unset] [(.int (64975 : Int32)), (.int (24 : Int32)), (.ref b1), (.ref b1)])) rfl rfl (hb hby at_164)
  have V26 : own_VA Z H26 b1 .int [(.int (65 : Int32)), (.int (90 : Int32)), (.int (95 : Int32)), (.int (97 : Int32)), (.int (122 : Int32)), (.int (192 : Int32)), (.int (214 : Int32)), (.int (216 : Int32)), (.int (246 : Int32)), (.int (248 : Int32)), (.int (767 : Int32)), (.int (880 : Int32)), (.int (893 : Int32)), (.int (895 : Int32)), (.int (8191 : Int32)), (.int (8204 : Int32)), (.int (8205 : Int32)), (.int (8304 : Int32)), (.int (8591 : Int32)), (.int (11264 : Int32)), (.int (12271 : Int32)), (.int (12289 : Int32)), (.int (55295 : Int32)), (.int (63744 : Int32)), (.int (64975 : Int32)), (.int (0 : Int32)), (.int (0 : Int32)), (.int (0 : Int32)), (.int (0 : Int32)), (.int (0 : Int32))] := V26'
  have N26 := FF26 _ N25 gb1
  have Z26 : n0 ≤ H26.size := Nat.le_trans Z25 (Nat.le_of_eq W26.size.symm)
  obtain ⟨T27, H27, Ls27, X27, e27, V27', W27, FF27, st27⟩ := own_stI X26 hx hZ e26 V26 (n := 30) (k := 25) rfl (by decide) (by decide) (g := (mkF m 170 #[.val (.int p1), .val (.int p2), .val (.int p3), .val (.int p4), .unset, .unset] [(.int (65008 : Int32)), (.int (25 : Int32)), (.ref b1), (.ref b1)])) rfl rfl (hb hby at_170)
  have V27 : own_VA Z H27 b1 .int [(.int (65 : Int32)), (.int (90 : Int32)), (.int (95 : Int32)), (.int (97 : Int32)), (.int (122 : Int32)), (.int (192 : Int32)), (.int (214 : Int32)), (.int (216 : Int32)), (.int (246 : Int32)), (.int (248 : Int32)), (.int (767 : Int32)), (.int (880 : Int32)), (.int (893 : Int32)), (.int (895 : Int32)), (.int (8191 : Int32)), (.int (8204 : Int32)), (.int (8205 : Int32)), (.int (8304 : Int32)), (.int (8591 : Int32)), (.int (11264 : Int32)), (.int (12271 : Int32)), (.int (12289 : Int32)), (.int (55295 : Int32)), (.int (63744 : Int32)), (.int (64975 : Int32)), (.int (65008 : Int32)), (.int (0 : Int32)), (.int (0 : Int32)), (.int (0 : Int32)), (.int (0 : Int32))] := V27'
  have N27 := FF27 _ N26 gb1
  have Z27 : n0 ≤ H27.size := Nat.le_trans Z26 (Nat.le_of_eq W27.size.symm)
  obtain ⟨T28, H28, Ls28, X28, e28, V28', W28, FF28, st28⟩ := own_stI X27 hx hZ e27 V27 (n := 30) (k := 26) rfl (by decide) (by decide) (g := (mkF m 176 #[.val (.int p1), .val (.int p2), .val (.int p3), .val (.int p4), .unset, .unset] [(.int (65533 : Int32)), (.int (26 : Int32)), (.ref b1), (.ref b1)])) rfl rfl (hb hby at_176)
  have V28 : own_VA Z H28 b1 .int [(.int (65 : Int32)), (.int (90 : Int32)), (.int (95 : Int32)), (.int (97 : Int32)), (.int (122 : Int32)), (.int (192 : Int32)), (.int (214 : Int32)), (.int (216 : Int32)), (.int (246 : Int32)), (.int (248 : Int32)), (.int (767 : Int32)), (.int (880 : Int32)), (.int (893 : Int32)), (.int (895 : Int32)), (.int (8191 : Int32)), (.int (8204 : Int32)), (.int (8205 : Int32)), (.int (8304 : Int32)), (.int (8591 : Int32)), (.int (11264 : Int32)), (.int (12271 : Int32)), (.int (12289 : Int32)), (.int (55295 : Int32)), (.int (63744 : Int32)), (.int (64975 : Int32)), (.int (65008 : Int32)), (.int (65533 : Int32)), (.int (0 : Int32)), (.int (0 : Int32)), (.int (0 : Int32))] := V28'
  have N28 := FF28 _ N27 gb1
  have Z28 : n0 ≤ H28.size := Nat.le_trans Z27 (Nat.le_of_eq W28.size.symm)
  obtain ⟨T29, H29, Ls29, X29, e29, V29', W29, FF29, st29⟩ := own_stI X28 hx hZ e28 V28 (n := 30) (k := 27) rfl (by decide) (by decide) (g := (mkF m 182 #[.val (.int p1), .val (.int p2), .val (.int p3), .val (.int p4), .unset, .unset] [(.int (65536 : Int32)), (.int (27 : Int32)), (.ref b1), (.ref b1)])) rfl rfl (hb hby at_182)
  have V29 : own_VA Z H29 b1 .int [(.int (65 : Int32)), (.int (90 : Int32)), (.int (95 : Int32)), (.int (97 : Int32)), (.int (122 : Int32)), (.int (192 : Int32)), (.int (214 : Int32)), (.int (216 : Int32)), (.int (246 : Int32)), (.int (248 : Int32)), (.int (767 : Int32)), (.int (880 : Int32)), (.int (893 : Int32)), (.int (895 : Int32)), (.int (8191 : Int32)), (.int (8204 : Int32)), (.int (8205 : Int32)), (.int (8304 : Int32)), (.int (8591 : Int32)), (.int (11264 : Int32)), (.int (12271 : Int32)), (.int (12289 : Int32)), (.int (55295 : Int32)), (.int (63744 : Int32)), (.int (64975 : Int32)), (.int (65008 : Int32)), (.int (65533 : Int32)), (.int (65536 : Int32)), (.int (0 : Int32)), (.int (0 : Int32))] := V29'
  have N29 := FF29 _ N28 gb1
  have Z29 : n0 ≤ H29.size := Nat.le_trans Z28 (Nat.le_of_eq W29.size.symm)
  obtain ⟨T30, H30, Ls30, X30, e30, V30', W30, FF30, st30⟩ := own_stI X29 hx hZ e29 V29 (n := 30) (k := 28) rfl (by decide) (by decide) (g := (mkF m 188 #[.val (.int p1), .val (.int p2), .val (.int p3), .val (.int p4), .unset, .unset] [(.int (983039 : Int32)), (.int (28 : Int32)), (.ref b1), (.ref b1)])) rfl rfl (hb hby at_188)
  have V30 : own_VA Z H30 b1 .int [(.int (65 : Int32)), (.int (90 : Int32)), (.int (95 : Int32)), (.int (97 : Int32)), (.int (122 : Int32)), (.int (192 : Int32)), (.int (214 : Int32)), (.int (216 : Int32)), (.int (246 : Int32)), (.int (248 : Int32)), (.int (767 : Int32)), (.int (880 : Int32)), (.int (893 : Int32)), (.int (895 : Int32)), (.int (8191 : Int32)), (.int (8204 : Int32)), (.int (8205 : Int32)), (.int (8304 : Int32)), (.int (8591 : Int32)), (.int (11264 : Int32)), (.int (12271 : Int32)), (.int (12289 : Int32)), (.int (55295 : Int32)), (.int (63744 : Int32)), (.int (64975 : Int32)), (.int (65008 : Int32)), (.int (65533 : Int32)), (.int (65536 : Int32)), (.int (983039 : Int32)), (.int (0 : Int32))] := V30'
  have N30 := FF30 _ N29 gb1
  have Z30 : n0 ≤ H30.size := Nat.le_trans Z29 (Nat.le_of_eq W30.size.symm)
  obtain ⟨T31, H31, Ls31, X31, e31, V31', W31, FF31, st31⟩ := own_stI X30 hx hZ e30 V30 (n := 30) (k := 29) rfl (by decide) (by decide) (g := (mkF m 194 #[.val (.int p1), .val (.int p2), .val (.int p3), .val (.int p4), .unset, .unset] [(.int (58 : Int32)), (.int (29 : Int32)), (.ref b1), (.ref b1)])) rfl rfl (hb hby at_194)
  have V31 : own_VA Z H31 b1 .int [(.int (65 : Int32)), (.int (90 : Int32)), (.int (95 : Int32)), (.int (97 : Int32)), (.int (122 : Int32)), (.int (192 : Int32)), (.int (214 : Int32)), (.int (216 : Int32)), (.int (246 : Int32)), (.int (248 : Int32)), (.int (767 : Int32)), (.int (880 : Int32)), (.int (893 : Int32)), (.int (895 : Int32)), (.int (8191 : Int32)), (.int (8204 : Int32)), (.int (8205 : Int32)), (.int (8304 : Int32)), (.int (8591 : Int32)), (.int (11264 : Int32)), (.int (12271 : Int32)), (.int (12289 : Int32)), (.int (55295 : Int32)), (.int (63744 : Int32)), (.int (64975 : Int32)), (.int (65008 : Int32)), (.int (65533 : Int32)), (.int (65536 : Int32)), (.int (983039 : Int32)), (.int (58 : Int32))] := V31'
  have N31 := FF31 _ N30 gb1
  have Z31 : n0 ≤ H31.size := Nat.le_trans Z30 (Nat.le_of_eq W31.size.symm)
  have pre33 : ∀ t, Steps p.tables e below (T31.setTop (mkF m 203 #[.val (.int p1), .val (.int p2), .val (.int p3), .val (.int p4), .val (.ref b1), .val (.int p1)] [(.int (p2 &&& (1 : Int32)))])) t → Steps p.tables e below (s₁.setTop (entryFrame m #[(.int p1), (.int p2), (.int p3), (.int p4)] maxLocals)) t := by
    intro t k
    refine pre0 t ?_
    show Steps p.tables e below (s₁.setTop (mkF m 0 #[.val (.int p1), .val (.int p2), .val (.int p3), .val (.int p4), .unset, .unset] [])) _
    refine XS.bipush X0.here hx rfl (hb hby at_0) ?_
    show Steps p.tables e below (s₁.setTop (mkF m 2 #[.val (.int p1), .val (.int p2), .val (.int p3), .val (.int p4), .unset, .unset] [(.int (30 : Int32))])) _
    refine st1 _ ?_
    show Steps p.tables e below (T1.setTop (mkF m 4 #[.val (.int p1), .val (.int p2), .val (.int p3), .val (.int p4), .unset, .unset] [(.ref b1)])) _
    refine XS.dup X1.here hx rfl (hb hby at_4) rfl rfl ?_
    show Steps p.tables e below (T1.setTop (mkF m 5 #[.val (.int p1), .val (.int p2), .val (.int p3), .val (.int p4), .unset, .unset] [(.ref b1), (.ref b1)])) _
    refine XS.iconst X1.here hx rfl (hb hby at_5) ?_
    show Steps p.tables e below (T1.setTop (mkF m 6 #[.val (.int p1), .val (.int p2), .val (.int p3), .val (.int p4), .unset, .unset] [(.int (0 : Int32)), (.ref b1), (.ref b1)])) _
    refine XS.bipush X1.here hx rfl (hb hby at_6) ?_
    show Steps p.tables e below (T1.setTop (mkF m 8 #[.val (.int p1), .val (.int p2), .val (.int p3), .val (.int p4), .unset, .unset] [(.int (65 : Int32)), (.int (0 : Int32)), (.ref b1), (.ref b1)])) _
    refine st2 _ ?_
    show Steps p.tables e below (T2.setTop (mkF m 9 #[.val (.int p1), .val (.int p2), .val (.int p3), .val (.int p4), .unset, .unset] [(.ref b1)])) _
    refine XS.dup X2.here hx rfl (hb hby at_9) rfl rfl ?_
    show Steps p.tables e below (T2.setTop (mkF m 10 #[.val (.int p1), .val (.int p2), .val (.int p3), .val (.int p4), .unset, .unset] [(.ref b1), (.ref b1)])) _
    refine XS.iconst X2.here hx rfl (hb hby at_10) ?_
    show Steps p.tables e below (T2.setTop (mkF m 11 #[.val (.int p1), .val (.int p2), .val (.int p3), .val (.int p4), .unset, .unset] [(.int (1 : Int32)), (.ref b1), (.ref b1)])) _
    refine XS.bipush X2.here hx rfl (hb hby at_11) ?_
    show Steps p.tables e below (T2.setTop (mkF m 13 #[.val (.int p1), .val (.int p2), .val (.int p3), .val (.int p4), .unset, .unset] [(.int (90 : Int32)), (.int (1 : Int32)), (.ref b1), (.ref b1)])) _
    refine st3 _ ?_
    show Steps p.tables e below (T3.setTop (mkF m 14 #[.val (.int p1), .val (.int p2), .val (.int p3), .val (.int p4), .unset, .unset] [(.ref b1)])) _
    refine XS.dup X3.here hx rfl (hb hby at_14) rfl rfl ?_
    show Steps p.tables e below (T3.setTop (mkF m 15 #[.val (.int p1), .val (.int p2), .val (.int p3), .val (.int p4), .unset, .unset] [(.ref b1), (.ref b1)])) _
    refine XS.iconst X3.here hx rfl (hb hby at_15) ?_
    show Steps p.tables e below (T3.setTop (mkF m 16 #[.val (.int p1), .val (.int p2), .val (.int p3), .val (.int p4), .unset, .unset] [(.int (2 : Int32)), (.ref b1), (.ref b1)])) _
    refine XS.bipush X3.here hx rfl (hb hby at_16) ?_
    show Steps p.tables e below (T3.setTop (mkF m 18 #[.val (.int p1), .val (.int p2), .val (.int p3), .val (.int p4), .unset, .unset] [(.int (95 : Int32)), (.int (2 : Int32)), (.ref b1), (.ref b1)])) _
    refine st4 _ ?_
    show Steps p.tables e below (T4.setTop (mkF m 19 #[.val (.int p1), .val (.int p2), .val (.int p3), .val (.int p4), .unset, .unset] [(.ref b1)])) _
    refine XS.dup X4.here hx rfl (hb hby at_19) rfl rfl ?_
    show Steps p.tables e below (T4.setTop (mkF m 20 #[.val (.int p1), .val (.int p2), .val (.int p3), .val (.int p4), .unset, .unset] [(.ref b1), (.ref b1)])) _
    refine XS.iconst X4.here hx rfl (hb hby at_20) ?_
    show Steps p.tables e below (T4.setTop (mkF m 21 #[.val (.int p1), .val (.int p2), .val (.int p3), .val (.int p4), .unset, .unset] [(.int (3 : Int32)), (.ref b1), (.ref b1)])) _
    refine XS.bipush X4.here hx rfl (hb hby at_21) ?_
    show Steps p.tables e below (T4.setTop (mkF m 23 #[.val (.int p1), .val (.int p2), .val (.int p3), .val (.int p4), .unset, .unset] [(.int (97 : Int32)), (.int (3 : Int32)), (.ref b1), (.ref b1)])) _
    refine st5 _ ?_
    show Steps p.tables e below (T5.setTop (mkF m 24 #[.val (.int p1), .val (.int p2), .val (.int p3), .val (.int p4), .unset, .unset] [(.ref b1)])) _
    refine XS.dup X5.here hx rfl (hb hby at_24) rfl rfl ?_
    show Steps p.tables e below (T5.setTop (mkF m 25 #[.val (.int p1), .val (.int p2), .val (.int p3), .val (.int p4), .unset, .unset] [(.ref b1), (.ref b1)])) _
    refine XS.iconst X5.here hx rfl (hb hby at_25) ?_
    show Steps p.tables e below (T5.setTop (mkF m 26 #[.val (.int p1), .val (.int p2), .val (.int p3), .val (.int p4), .unset, .unset] [(.int (4 : Int32)), (.ref b1), (.ref b1)])) _
    refine XS.bipush X5.here hx rfl (hb hby at_26) ?_
    show Steps p.tables e below (T5.setTop (mkF m 28 #[.val (.int p1), .val (.int p2), .val (.int p3), .val (.int p4), .unset, .unset] [(.int (122 : Int32)), (.int (4 : Int32)), (.ref b1), (.ref b1)])) _
    refine st6 _ ?_
    show Steps p.tables e below (T6.setTop (mkF m 29 #[.val (.int p1), .val (.int p2), .val (.int p3), .val (.int p4), .unset, .unset] [(.ref b1)])) _
    refine XS.dup X6.here hx rfl (hb hby at_29) rfl rfl ?_
    show Steps p.tables e below (T6.setTop (mkF m 30 #[.val (.int p1), .val (.int p2), .val (.int p3), .val (.int p4), .unset, .unset] [(.ref b1), (.ref b1)])) _
    refine XS.iconst X6.here hx rfl (hb hby at_30) ?_
    show Steps p.tables e below (T6.setTop (mkF m 31 #[.val (.int p1), .val (.int p2), .val (.int p3), .val (.int p4), .unset, .unset] [(.int (5 : Int32)), (.ref b1), (.ref b1)])) _
    refine XS.sipush X6.here hx rfl (hb hby at_31) ?_
    show Steps p.tables e below (T6.setTop (mkF m 34 #[.val (.int p1), .val (.int p2), .val (.int p3), .val (.int p4), .unset, .unset] [(.int (192 : Int32)), (.int (5 : Int32)), (.ref b1), (.ref b1)])) _
    refine st7 _ ?_
    show Steps p.tables e below (T7.setTop (mkF m 35 #[.val (.int p1), .val (.int p2), .val (.int p3), .val (.int p4), .unset, .unset] [(.ref b1)])) _
    refine XS.dup X7.here hx rfl (hb hby at_35) rfl rfl ?_
    show Steps p.tables e below (T7.setTop (mkF m 36 #[.val (.int p1), .val (.int p2), .val (.int p3), .val (.int p4), .unset, .unset] [(.ref b1), (.ref b1)])) _
    refine XS.bipush X7.here hx rfl (hb hby at_36) ?_
    show Steps p.tables e below (T7.setTop (mkF m 38 #[.val (.int p1), .val (.int p2), .val (.int p3), .val (.int p4), .unset, .unset] [(.int (6 : Int32)), (.ref b1), (.ref b1)])) _
    refine XS.sipush X7.here hx rfl (hb hby at_38) ?_
    show Steps p.tables e below (T7.setTop (mkF m 41 #[.val (.int p1), .val (.int p2), .val (.int p3), .val (.int p4), .unset, .unset] [(.int (214 : Int32)), (.int (6 : Int32)), (.ref b1), (.ref b1)])) _
    refine st8 _ ?_
    show Steps p.tables e below (T8.setTop (mkF m 42 #[.val (.int p1), .val (.int p2), .val (.int p3), .val (.int p4), .unset, .unset] [(.ref b1)])) _
    refine XS.dup X8.here hx rfl (hb hby at_42) rfl rfl ?_
    show Steps p.tables e below (T8.setTop (mkF m 43 #[.val (.int p1), .val (.int p2), .val (.int p3), .val (.int p4), .unset, .unset] [(.ref b1), (.ref b1)])) _
    refine XS.bipush X8.here hx rfl (hb hby at_43) ?_
    show Steps p.tables e below (T8.setTop (mkF m 45 #[.val (.int p1), .val (.int p2), .val (.int p3), .val (.int p4), .unset, .unset] [(.int (7 : Int32)), (.ref b1), (.ref b1)])) _
    refine XS.sipush X8.here hx rfl (hb hby at_45) ?_
    show Steps p.tables e below (T8.setTop (mkF m 48 #[.val (.int p1), .val (.int p2), .val (.int p3), .val (.int p4), .unset, .unset] [(.int (216 : Int32)), (.int (7 : Int32)), (.ref b1), (.ref b1)])) _
    refine st9 _ ?_
    show Steps p.tables e below (T9.setTop (mkF m 49 #[.val (.int p1), .val (.int p2), .val (.int p3), .val (.int p4), .unset, .unset] [(.ref b1)])) _
    refine XS.dup X9.here hx rfl (hb hby at_49) rfl rfl ?_
    show Steps p.tables e below (T9.setTop (mkF m 50 #[.val (.int p1), .val (.int p2), .val (.int p3), .val (.int p4), .unset, .unset] [(.ref b1), (.ref b1)])) _
    refine XS.bipush X9.here hx rfl (hb hby at_50) ?_
    show Steps p.tables e below (T9.setTop (mkF m 52 #[.val (.int p1), .val (.int p2), .val (.int p3), .val (.int p4), .unset, .unset] [(.int (8 : Int32)), (.ref b1), (.ref b1)])) _
    refine XS.sipush X9.here hx rfl (hb hby at_52) ?_
    show Steps p.tables e below (T9.setTop (mkF m 55 #[.val (.int p1), .val (.int p2), .val (.int p3), .val (.int p4), .unset, .unset] [(.int (246 : Int32)), (.int (8 : Int32)), (.ref b1), (.ref b1)])) _
    refine st10 _ ?_
    show Steps p.tables e below (T10.setTop (mkF m 56 #[.val (.int p1), .val (.int p2), .val (.int p3), .val (.int p4), .unset, .unset] [(.ref b1)])) _
    refine XS.dup X10.here hx rfl (hb hby at_56) rfl rfl ?_
    show Steps p.tables e below (T10.setTop (mkF m 57 #[.val (.int p1), .val (.int p2), .val (.int p3), .val (.int p4), .unset, .unset] [(.ref b1), (.ref b1)])) _
    refine XS.bipush X10.here hx rfl (hb hby at_57) ?_
    show Steps p.tables e below (T10.setTop (mkF m 59 #[.val (.int p1), .val (.int p2), .val (.int p3), .val (.int p4), .unset, .unset] [(.int (9 : Int32)), (.ref b1), (.ref b1)])) _
    refine XS.sipush X10.here hx rfl (hb hby at_59) ?_
    show Steps p.tables e below (T10.setTop (mkF m 62 #[.val (.int p1), .val (.int p2), .val (.int p3), .val (.int p4), .unset, .unset] [(.int (248 : Int32)), (.int (9 : Int32)), (.ref b1), (.ref b1)])) _
    refine st11 _ ?_
    show Steps p.tables e below (T11.setTop (mkF m 63 #[.val (.int p1), .val (.int p2), .val (.int p3), .val (.int p4), .unset, .unset] [(.ref b1)])) _
    refine XS.dup X11.here hx rfl (hb hby at_63) rfl rfl ?_
    show Steps p.tables e below (T11.setTop (mkF m 64 #[.val (.int p1), .val (.int p2), .val (.int p3), .val (.int p4), .unset, .unset] [(.ref b1), (.ref b1)])) _
    refine XS.bipush X11.here hx rfl (hb hby at_64) ?_
    show Steps p.tables e below (T11.setTop (mkF m 66 #[.val (.int p1), .val (.int p2), .val (.int p3), .val (.int p4), .unset, .unset] [(.int (10 : Int32)), (.ref b1), (.ref b1)])) _
    refine XS.sipush X11.here hx rfl (hb hby at_66) ?_
    show Steps p.tables e below (T11.setTop (mkF m 69 #[.val (.int p1), .val (.int p2), .val (.int p3), .val (.int p4), .unset, .unset] [(.int (767 : Int32)), (.int (10 : Int32)), (.ref b1), (.ref b1)])) _
    refine st12 _ ?_
    show Steps p.tables e below (T12.setTop (mkF m 70 #[.val (.int p1), .val (.int p2), .val (.int p3), .val (.int p4), .unset, .unset] [(.ref b1)])) _
    refine XS.dup X12.here hx rfl (hb hby at_70) rfl rfl ?_
    show Steps p.tables e below (T12.setTop (mkF m 71 #[.val (.int p1), .val (.int p2), .val (.int p3), .val (.int p4), .unset, .unset] [(.ref b1), (.ref b1)])) _
    refine XS.bipush X12.here hx rfl (hb hby at_71) ?_
    show Steps p.tables e below (T12.setTop (mkF m 73 #[.val (.int p1), .val (.int p2), .val (.int p3), .val (.int p4), .unset, .unset] [(.int (11 : Int32)), (.ref b1), (.ref b1)])) _
    refine XS.sipush X12.here hx rfl (hb hby at_73) ?_
    show Steps p.tables e below (T12.setTop (mkF m 76 #[.val (.int p1), .val (.int p2), .val (.int p3), .val (.int p4), .unset, .unset] [(.int (880 : Int32)), (.int (11 : Int32)), (.ref b1), (.ref b1)])) _
    refine st13 _ ?_
    show Steps p.tables e below (T13.setTop (mkF m 77 #[.val (.int p1), .val (.int p2), .val (.int p3), .val (.int p4), .unset, .unset] [(.ref b1)])) _
    refine XS.dup X13.here hx rfl (hb hby at_77) rfl rfl ?_
    show Steps p.tables e below (T13.setTop (mkF m 78 #[.val (.int p1), .val (.int p2), .val (.int p3), .val (.int p4), .unset, .unset] [(.ref b1), (.ref b1)])) _
    refine XS.bipush X13.here hx rfl (hb hby at_78) ?_
    show Steps p.tables e below (T13.setTop (mkF m 80 #[.val (.int p1), .val (.int p2), .val (.int p3), .val (.int p4), .unset, .unset] [(.int (12 : Int32)), (.ref b1), (.ref b1)])) _
    refine XS.sipush X13.here hx rfl (hb hby at_80) ?_
    show Steps p.tables e below (T13.setTop (mkF m 83 #[.val (.int p1), .val (.int p2), .val (.int p3), .val (.int p4), .unset, .unset] [(.int (893 : Int32)), (.int (12 : Int32)), (.ref b1), (.ref b1)])) _
    refine st14 _ ?_
    show Steps p.tables e below (T14.setTop (mkF m 84 #[.val (.int p1), .val (.int p2), .val (.int p3), .val (.int p4), .unset, .unset] [(.ref b1)])) _
    refine XS.dup X14.here hx rfl (hb hby at_84) rfl rfl ?_
    show Steps p.tables e below (T14.setTop (mkF m 85 #[.val (.int p1), .val (.int p2), .val (.int p3), .val (.int p4), .unset, .unset] [(.ref b1), (.ref b1)])) _
    refine XS.bipush X14.here hx rfl (hb hby at_85) ?_
    show Steps p.tables e below (T14.setTop (mkF m 87 #[.val (.int p1), .val (.int p2), .val (.int p3), .val (.int p4), .unset, .unset] [(.int (13 : Int32)), (.ref b1), (.ref b1)])) _
    refine XS.sipush X14.here hx rfl (hb hby at_87) ?_
    show Steps p.tables e below (T14.setTop (mkF m 90 #[.val (.int p1), .val (.int p2), .val (.int p3), .val (.int p4), .unset, .unset] [(.int (895 : Int32)), (.int (13 : Int32)), (.ref b1), (.ref b1)])) _
    refine st15 _ ?_
    show Steps p.tables e below (T15.setTop (mkF m 91 #[.val (.int p1), .val (.int p2), .val (.int p3), .val (.int p4), .unset, .unset] [(.ref b1)])) _
    refine XS.dup X15.here hx rfl (hb hby at_91) rfl rfl ?_
    show Steps p.tables e below (T15.setTop (mkF m 92 #[.val (.int p1), .val (.int p2), .val (.int p3), .val (.int p4), .unset, .unset] [(.ref b1), (.ref b1)])) _
    refine XS.bipush X15.here hx rfl (hb hby at_92) ?_
    show Steps p.tables e below (T15.setTop (mkF m 94 #[.val (.int p1), .val (.int p2), .val (.int p3), .val (.int p4), .unset, .unset] [(.int (14 : Int32)), (.ref b1), (.ref b1)])) _
    refine XS.sipush X15.here hx rfl (hb hby at_94) ?_
    show Steps p.tables e below (T15.setTop (mkF m 97 #[.val (.int p1), .val (.int p2), .val (.int p3), .val (.int p4), .unset, .unset] [(.int (8191 : Int32)), (.int (14 : Int32)), (.ref b1), (.ref b1)])) _
    refine st16 _ ?_
    show Steps p.tables e below (T16.setTop (mkF m 98 #[.val (.int p1), .val (.int p2), .val (.int p3), .val (.int p4), .unset, .unset] [(.ref b1)])) _
    refine XS.dup X16.here hx rfl (hb hby at_98) rfl rfl ?_
    show Steps p.tables e below (T16.setTop (mkF m 99 #[.val (.int p1), .val (.int p2), .val (.int p3), .val (.int p4), .unset, .unset] [(.ref b1), (.ref b1)])) _
    refine XS.bipush X16.here hx rfl (hb hby at_99) ?_
    show Steps p.tables e below (T16.setTop (mkF m 101 #[.val (.int p1), .val (.int p2), .val (.int p3), .val (.int p4), .unset, .unset] [(.int (15 : Int32)), (.ref b1), (.ref b1)])) _
    refine XS.sipush X16.here hx rfl (hb hby at_101) ?_
    show Steps p.tables e below (T16.setTop (mkF m 104 #[.val (.int p1), .val (.int p2), .val (.int p3), .val (.int p4), .unset, .unset] [(.int (8204 : Int32)), (.int (15 : Int32)), (.ref b1), (.ref b1)])) _
    refine st17 _ ?_
    show Steps p.tables e below (T17.setTop (mkF m 105 #[.val (.int p1), .val (.int p2), .val (.int p3), .val (.int p4), .unset, .unset] [(.ref b1)])) _
    refine XS.dup X17.here hx rfl (hb hby at_105) rfl rfl ?_
    show Steps p.tables e below (T17.setTop (mkF m 106 #[.val (.int p1), .val (.int p2), .val (.int p3), .val (.int p4), .unset, .unset] [(.ref b1), (.ref b1)])) _
    refine XS.bipush X17.here hx rfl (hb hby at_106) ?_
    show Steps p.tables e below (T17.setTop (mkF m 108 #[.val (.int p1), .val (.int p2), .val (.int p3), .val (.int p4), .unset, .unset] [(.int (16 : Int32)), (.ref b1), (.ref b1)])) _
    refine XS.sipush X17.here hx rfl (hb hby at_108) ?_
    show Steps p.tables e below (T17.setTop (mkF m 111 #[.val (.int p1), .val (.int p2), .val (.int p3), .val (.int p4), .unset, .unset] [(.int (8205 : Int32)), (.int (16 : Int32)), (.ref b1), (.ref b1)])) _
    refine st18 _ ?_
    show Steps p.tables e below (T18.setTop (mkF m 112 #[.val (.int p1), .val (.int p2), .val (.int p3), .val (.int p4), .unset, .unset] [(.ref b1)])) _
    refine XS.dup X18.here hx rfl (hb hby at_112) rfl rfl ?_
    show Steps p.tables e below (T18.setTop (mkF m 113 #[.val (.int p1), .val (.int p2), .val (.int p3), .val (.int p4), .unset, .unset] [(.ref b1), (.ref b1)])) _
    refine XS.bipush X18.here hx rfl (hb hby at_113) ?_
    show Steps p.tables e below (T18.setTop (mkF m 115 #[.val (.int p1), .val (.int p2), .val (.int p3), .val (.int p4), .unset, .unset] [(.int (17 : Int32)), (.ref b1), (.ref b1)])) _
    refine XS.sipush X18.here hx rfl (hb hby at_115) ?_
    show Steps p.tables e below (T18.setTop (mkF m 118 #[.val (.int p1), .val (.int p2), .val (.int p3), .val (.int p4), .unset, .unset] [(.int (8304 : Int32)), (.int (17 : Int32)), (.ref b1), (.ref b1)])) _
    refine st19 _ ?_
    show Steps p.tables e below (T19.setTop (mkF m 119 #[.val (.int p1), .val (.int p2), .val (.int p3), .val (.int p4), .unset, .unset] [(.ref b1)])) _
    refine XS.dup X19.here hx rfl (hb hby at_119) rfl rfl ?_
    show Steps p.tables e below (T19.setTop (mkF m 120 #[.val (.int p1), .val (.int p2), .val (.int p3), .val (.int p4), .unset, .unset] [(.ref b1), (.ref b1)])) _
    refine XS.bipush X19.here hx rfl (hb hby at_120) ?_
    show Steps p.tables e below (T19.setTop (mkF m 122 #[.val (.int p1), .val (.int p2), .val (.int p3), .val (.int p4), .unset, .unset] [(.int (18 : Int32)), (.ref b1), (.ref b1)])) _
    refine XS.sipush X19.here hx rfl (hb hby at_122) ?_
    show Steps p.tables e below (T19.setTop (mkF m 125 #[.val (.int p1), .val (.int p2), .val (.int p3), .val (.int p4), .unset, .unset] [(.int (8591 : Int32)), (.int (18 : Int32)), (.ref b1), (.ref b1)])) _
    refine st20 _ ?_
    show Steps p.tables e below (T20.setTop (mkF m 126 #[.val (.int p1), .val (.int p2), .val (.int p3), .val (.int p4), .unset, .unset] [(.ref b1)])) _
    refine XS.dup X20.here hx rfl (hb hby at_126) rfl rfl ?_
    show Steps p.tables e below (T20.setTop (mkF m 127 #[.val (.int p1), .val (.int p2), .val (.int p3), .val (.int p4), .unset, .unset] [(.ref b1), (.ref b1)])) _
    refine XS.bipush X20.here hx rfl (hb hby at_127) ?_
    show Steps p.tables e below (T20.setTop (mkF m 129 #[.val (.int p1), .val (.int p2), .val (.int p3), .val (.int p4), .unset, .unset] [(.int (19 : Int32)), (.ref b1), (.ref b1)])) _
    refine XS.sipush X20.here hx rfl (hb hby at_129) ?_
    show Steps p.tables e below (T20.setTop (mkF m 132 #[.val (.int p1), .val (.int p2), .val (.int p3), .val (.int p4), .unset, .unset] [(.int (11264 : Int32)), (.int (19 : Int32)), (.ref b1), (.ref b1)])) _
    refine st21 _ ?_
    show Steps p.tables e below (T21.setTop (mkF m 133 #[.val (.int p1), .val (.int p2), .val (.int p3), .val (.int p4), .unset, .unset] [(.ref b1)])) _
    refine XS.dup X21.here hx rfl (hb hby at_133) rfl rfl ?_
    show Steps p.tables e below (T21.setTop (mkF m 134 #[.val (.int p1), .val (.int p2), .val (.int p3), .val (.int p4), .unset, .unset] [(.ref b1), (.ref b1)])) _
    refine XS.bipush X21.here hx rfl (hb hby at_134) ?_
    show Steps p.tables e below (T21.setTop (mkF m 136 #[.val (.int p1), .val (.int p2), .val (.int p3), .val (.int p4), .unset, .unset] [(.int (20 : Int32)), (.ref b1), (.ref b1)])) _
    refine XS.sipush X21.here hx rfl (hb hby at_136) ?_
    show Steps p.tables e below (T21.setTop (mkF m 139 #[.val (.int p1), .val (.int p2), .val (.int p3), .val (.int p4), .unset, .unset] [(.int (12271 : Int32)), (.int (20 : Int32)), (.ref b1), (.ref b1)])) _
    refine st22 _ ?_
    show Steps p.tables e below (T22.setTop (mkF m 140 #[.val (.int p1), .val (.int p2), .val (.int p3), .val (.int p4), .unset, .unset] [(.ref b1)])) _
    refine XS.dup X22.here hx rfl (hb hby at_140) rfl rfl ?_
    show Steps p.tables e below (T22.setTop (mkF m 141 #[.val (.int p1), .val (.int p2), .val (.int p3), .val (.int p4), .unset, .unset] [(.ref b1), (.ref b1)])) _
    refine XS.bipush X22.here hx rfl (hb hby at_141) ?_
    show Steps p.tables e below (T22.setTop (mkF m 143 #[.val (.int p1), .val (.int p2), .val (.int p3), .val (.int p4), .unset, .unset] [(.int (21 : Int32)), (.ref b1), (.ref b1)])) _
    refine XS.sipush X22.here hx rfl (hb hby at_143) ?_
    show Steps p.tables e below (T22.setTop (mkF m 146 #[.val (.int p1), .val (.int p2), .val (.int p3), .val (.int p4), .unset, .unset] [(.int (12289 : Int32)), (.int (21 : Int32)), (.ref b1), (.ref b1)])) _
    refine st23 _ ?_
    show Steps p.tables e below (T23.setTop (mkF m 147 #[.val (.int p1), .val (.int p2), .val (.int p3), .val (.int p4), .unset, .unset] [(.ref b1)])) _
    refine XS.dup X23.here hx rfl (hb hby at_147) rfl rfl ?_
    show Steps p.tables e below (T23.setTop (mkF m 148 #[.val (.int p1), .val (.int p2), .val (.int p3), .val (.int p4), .unset, .unset] [(.ref b1), (.ref b1)])) _
    refine XS.bipush X23.here hx rfl (hb hby at_148) ?_
    show Steps p.tables e below (T23.setTop (mkF m 150 #[.val (.int p1), .val (.int p2), .val (.int p3), .val (.int p4), .unset, .unset] [(.int (22 : Int32)), (.ref b1), (.ref b1)])) _
    refine X23.ldcInt hx hown (mvT hZ (hw _ (List.mem_of_getElem? (i := 1) rfl))) (g := (mkF m 150 #[.val (.int p1), .val (.int p2), .val (.int p3), .val (.int p4), .unset, .unset] [(.int (22 : Int32)), (.ref b1), (.ref b1)])) rfl (hb hby at_150) _ ?_
    show Steps p.tables e below (T23.setTop (mkF m 152 #[.val (.int p1), .val (.int p2), .val (.int p3), .val (.int p4), .unset, .unset] [(.int (55295 : Int32)), (.int (22 : Int32)), (.ref b1), (.ref b1)])) _
    refine st24 _ ?_
    show Steps p.tables e below (T24.setTop (mkF m 153 #[.val (.int p1), .val (.int p2), .val (.int p3), .val (.int p4), .unset, .unset] [(.ref b1)])) _
    refine XS.dup X24.here hx rfl (hb hby at_153) rfl rfl ?_
    show Steps p.tables e below (T24.setTop (mkF m 154 #[.val (.int p1), .val (.int p2), .val (.int p3), .val (.int p4), .unset, .unset] [(.ref b1), (.ref b1)])) _
    refine XS.bipush X24.here hx rfl (hb hby at_154) ?_
    show Steps p.tables e below (T24.setTop (mkF m 156 #[.val (.int p1), .val (.int p2), .val (.int p3), .val (.int p4), .unset, .unset] [(.int (23 : Int32)), (.ref b1), (.ref b1)])) _
    refine X24.ldcInt hx hown (mvT hZ (hw _ (List.mem_of_getElem? (i := 2) rfl))) (g := (mkF m 156 #[.val (.int p1), .val (.int p2), .val (.int p3), .val (.int p4), .unset, .unset] [(.int (23 : Int32)), (.ref b1), (.ref b1)])) rfl (hb hby at_156) _ ?_
    show Steps p.tables e below (T24.setTop (mkF m 158 #[.val (.int p1), .val (.int p2), .val (.int p3), .val (.int p4), .unset, .unset] [(.int (63744 : Int32)), (.int (23 : Int32)), (.ref b1), (.ref b1)])) _
    refine st25 _ ?_
    show Steps p.tables e below (T25.setTop (mkF m 159 #[.val (.int p1), .val (.int p2), .val (.int p3), .val (.int p4), .unset, .unset] [(.ref b1)])) _
    refine XS.dup X25.here hx rfl (hb hby at_159) rfl rfl ?_
    show Steps p.tables e below (T25.setTop (mkF m 160 #[.val (.int p1), .val (.int p2), .val (.int p3), .val (.int p4), .unset, .unset] [(.ref b1), (.ref b1)])) _
    refine XS.bipush X25.here hx rfl (hb hby at_160) ?_
    show Steps p.tables e below (T25.setTop (mkF m 162 #[.val (.int p1), .val (.int p2), .val (.int p3), .val (.int p4), .unset, .unset] [(.int (24 : Int32)), (.ref b1), (.ref b1)])) _
    refine X25.ldcInt hx hown (mvT hZ (hw _ (List.mem_of_getElem? (i := 3) rfl))) (g := (mkF m 162 #[.val (.int p1), .val (.int p2), .val (.int p3), .val (.int p4), .unset, .unset] [(.int (24 : Int32)), (.ref b1), (.ref b1)])) rfl (hb hby at_162) _ ?_
    show Steps p.tables e below (T25.setTop (mkF m 164 #[.val (.int p1), .val (.int p2), .val (.int p3), .val (.int p4), .unset, .unset] [(.int (64975 : Int32)), (.int (24 : Int32)), (.ref b1), (.ref b1)])) _
    refine st26 _ ?_
    show Steps p.tables e below (T26.setTop (mkF m 165 #[.val (.int p1), .val (.int p2), .val (.int p3), .val (.int p4), .unset, .unset] [(.ref b1)])) _
    refine XS.dup X26.here hx rfl (hb hby at_165) rfl rfl ?_
    show Steps p.tables e below (T26.setTop (mkF m 166 #[.val (.int p1), .val (.int p2), .val (.int p3), .val (.int p4), .unset, .unset] [(.ref b1), (.ref b1)])) _
    refine XS.bipush X26.here hx rfl (hb hby at_166) ?_
    show Steps p.tables e below (T26.setTop (mkF m 168 #[.val (.int p1), .val (.int p2), .val (.int p3), .val (.int p4), .unset, .unset] [(.int (25 : Int32)), (.ref b1), (.ref b1)])) _
    refine X26.ldcInt hx hown (mvT hZ (hw _ (List.mem_of_getElem? (i := 4) rfl))) (g := (mkF m 168 #[.val (.int p1), .val (.int p2), .val (.int p3), .val (.int p4), .unset, .unset] [(.int (25 : Int32)), (.ref b1), (.ref b1)])) rfl (hb hby at_168) _ ?_
    show Steps p.tables e below (T26.setTop (mkF m 170 #[.val (.int p1), .val (.int p2), .val (.int p3), .val (.int p4), .unset, .unset] [(.int (65008 : Int32)), (.int (25 : Int32)), (.ref b1), (.ref b1)])) _
    refine st27 _ ?_
    show Steps p.tables e below (T27.setTop (mkF m 171 #[.val (.int p1), .val (.int p2), .val (.int p3), .val (.int p4), .unset, .unset] [(.ref b1)])) _
    refine XS.dup X27.here hx rfl (hb hby at_171) rfl rfl ?_
    show Steps p.tables e below (T27.setTop (mkF m 172 #[.val (.int p1), .val (.int p2), .val (.int p3), .val (.int p4), .unset, .unset] [(.ref b1), (.ref b1)])) _
    refine XS.bipush X27.here hx rfl (hb hby at_172) ?_
    show Steps p.tables e below (T27.setTop (mkF m 174 #[.val (.int p1), .val (.int p2), .val (.int p3), .val (.int p4), .unset, .unset] [(.int (26 : Int32)), (.ref b1), (.ref b1)])) _
    refine X27.ldcInt hx hown (mvT hZ (hw _ (List.mem_of_getElem? (i := 5) rfl))) (g := (mkF m 174 #[.val (.int p1), .val (.int p2), .val (.int p3), .val (.int p4), .unset, .unset] [(.int (26 : Int32)), (.ref b1), (.ref b1)])) rfl (hb hby at_174) _ ?_
    show Steps p.tables e below (T27.setTop (mkF m 176 #[.val (.int p1), .val (.int p2), .val (.int p3), .val (.int p4), .unset, .unset] [(.int (65533 : Int32)), (.int (26 : Int32)), (.ref b1), (.ref b1)])) _
    refine st28 _ ?_
    show Steps p.tables e below (T28.setTop (mkF m 177 #[.val (.int p1), .val (.int p2), .val (.int p3), .val (.int p4), .unset, .unset] [(.ref b1)])) _
    refine XS.dup X28.here hx rfl (hb hby at_177) rfl rfl ?_
    show Steps p.tables e below (T28.setTop (mkF m 178 #[.val (.int p1), .val (.int p2), .val (.int p3), .val (.int p4), .unset, .unset] [(.ref b1), (.ref b1)])) _
    refine XS.bipush X28.here hx rfl (hb hby at_178) ?_
    show Steps p.tables e below (T28.setTop (mkF m 180 #[.val (.int p1), .val (.int p2), .val (.int p3), .val (.int p4), .unset, .unset] [(.int (27 : Int32)), (.ref b1), (.ref b1)])) _
    refine X28.ldcInt hx hown (mvT hZ (hw _ (List.mem_of_getElem? (i := 6) rfl))) (g := (mkF m 180 #[.val (.int p1), .val (.int p2), .val (.int p3), .val (.int p4), .unset, .unset] [(.int (27 : Int32)), (.ref b1), (.ref b1)])) rfl (hb hby at_180) _ ?_
    show Steps p.tables e below (T28.setTop (mkF m 182 #[.val (.int p1), .val (.int p2), .val (.int p3), .val (.int p4), .unset, .unset] [(.int (65536 : Int32)), (.int (27 : Int32)), (.ref b1), (.ref b1)])) _
    refine st29 _ ?_
    show Steps p.tables e below (T29.setTop (mkF m 183 #[.val (.int p1), .val (.int p2), .val (.int p3), .val (.int p4), .unset, .unset] [(.ref b1)])) _
    refine XS.dup X29.here hx rfl (hb hby at_183) rfl rfl ?_
    show Steps p.tables e below (T29.setTop (mkF m 184 #[.val (.int p1), .val (.int p2), .val (.int p3), .val (.int p4), .unset, .unset] [(.ref b1), (.ref b1)])) _
    refine XS.bipush X29.here hx rfl (hb hby at_184) ?_
    show Steps p.tables e below (T29.setTop (mkF m 186 #[.val (.int p1), .val (.int p2), .val (.int p3), .val (.int p4), .unset, .unset] [(.int (28 : Int32)), (.ref b1), (.ref b1)])) _
    refine X29.ldcInt hx hown (mvT hZ (hw _ (List.mem_of_getElem? (i := 7) rfl))) (g := (mkF m 186 #[.val (.int p1), .val (.int p2), .val (.int p3), .val (.int p4), .unset, .unset] [(.int (28 : Int32)), (.ref b1), (.ref b1)])) rfl (hb hby at_186) _ ?_
    show Steps p.tables e below (T29.setTop (mkF m 188 #[.val (.int p1), .val (.int p2), .val (.int p3), .val (.int p4), .unset, .unset] [(.int (983039 : Int32)), (.int (28 : Int32)), (.ref b1), (.ref b1)])) _
    refine st30 _ ?_
    show Steps p.tables e below (T30.setTop (mkF m 189 #[.val (.int p1), .val (.int p2), .val (.int p3), .val (.int p4), .unset, .unset] [(.ref b1)])) _
    refine XS.dup X30.here hx rfl (hb hby at_189) rfl rfl ?_
    show Steps p.tables e below (T30.setTop (mkF m 190 #[.val (.int p1), .val (.int p2), .val (.int p3), .val (.int p4), .unset, .unset] [(.ref b1), (.ref b1)])) _
    refine XS.bipush X30.here hx rfl (hb hby at_190) ?_
    show Steps p.tables e below (T30.setTop (mkF m 192 #[.val (.int p1), .val (.int p2), .val (.int p3), .val (.int p4), .unset, .unset] [(.int (29 : Int32)), (.ref b1), (.ref b1)])) _
    refine XS.bipush X30.here hx rfl (hb hby at_192) ?_
    show Steps p.tables e below (T30.setTop (mkF m 194 #[.val (.int p1), .val (.int p2), .val (.int p3), .val (.int p4), .unset, .unset] [(.int (58 : Int32)), (.int (29 : Int32)), (.ref b1), (.ref b1)])) _
    refine st31 _ ?_
    show Steps p.tables e below (T31.setTop (mkF m 195 #[.val (.int p1), .val (.int p2), .val (.int p3), .val (.int p4), .unset, .unset] [(.ref b1)])) _
    refine XS.astore X31.here hx rfl (hb hby at_195) rfl rfl (l' := #[.val (.int p1), .val (.int p2), .val (.int p3), .val (.int p4), .val (.ref b1), .unset]) rfl ?_
    show Steps p.tables e below (T31.setTop (mkF m 197 #[.val (.int p1), .val (.int p2), .val (.int p3), .val (.int p4), .val (.ref b1), .unset] [])) _
    refine XS.iloadN X31.here hx rfl (hb hby at_197) rfl ?_
    show Steps p.tables e below (T31.setTop (mkF m 198 #[.val (.int p1), .val (.int p2), .val (.int p3), .val (.int p4), .val (.ref b1), .unset] [(.int p1)])) _
    refine XS.istore X31.here hx rfl (hb hby at_198) rfl (l' := #[.val (.int p1), .val (.int p2), .val (.int p3), .val (.int p4), .val (.ref b1), .val (.int p1)]) rfl ?_
    show Steps p.tables e below (T31.setTop (mkF m 200 #[.val (.int p1), .val (.int p2), .val (.int p3), .val (.int p4), .val (.ref b1), .val (.int p1)] [])) _
    refine XS.iloadN X31.here hx rfl (hb hby at_200) rfl ?_
    show Steps p.tables e below (T31.setTop (mkF m 201 #[.val (.int p1), .val (.int p2), .val (.int p3), .val (.int p4), .val (.ref b1), .val (.int p1)] [(.int p2)])) _
    refine XS.iconst X31.here hx rfl (hb hby at_201) ?_
    show Steps p.tables e below (T31.setTop (mkF m 202 #[.val (.int p1), .val (.int p2), .val (.int p3), .val (.int p4), .val (.ref b1), .val (.int p1)] [(.int (1 : Int32)), (.int p2)])) _
    refine XS.iand X31.here hx rfl (hb hby at_202) rfl ?_
    show Steps p.tables e below (T31.setTop (mkF m 203 #[.val (.int p1), .val (.int p2), .val (.int p3), .val (.int p4), .val (.ref b1), .val (.int p1)] [(.int (p2 &&& (1 : Int32)))])) _
    exact k
  by_cases h203_32 : (p2 &&& (1 : Int32)) = (0 : Int32)
  · obtain ⟨_, _, ⟨T34, L34, k34, n34⟩, -, X34, ⟨Lc34, hQ34, l34, y34, z34⟩, st34⟩ := Jvm.LawKit.callS X31 hx (y := (⟨"com/example/axislint/axislint/schema/XmlNames", "isNameStartChar", "(I)Z"⟩ : MethodName)) hown (mvT hZ (hw _ (List.mem_of_getElem? (i := 9) rfl))) (mvT hZ (hw _ (List.mem_of_getElem? (i := 10) rfl))) (mvT hZ (hw _ (List.mem_of_getElem? (i := 11) rfl))) (mvT hZ (hw _ (List.mem_of_getElem? (i := 12) rfl))) (by decide) (backOf (W := 0) (rm1 l Z a0 hw [] p1 H31 n0) hZ (hw _ (List.mem_of_getElem? (i := 12) rfl)) (hw _ (List.mem_of_getElem? (i := 11) rfl)) (by decide) (by decide)) (g := (mkF m 229 #[.val (.int p1), .val (.int p2), .val (.int p3), .val (.int p4), .val (.ref b1), .val (.int p1)] [(.int p1)])) rfl (by rw [hml]; rfl) (argsL := [(.int p1)]) (rest := []) (lenOf pd_0_0 rfl) rfl (by show 2 * 0 + _ ≤ _; exact Nat.le_of_eq rfl) (hb hby at_229) (fun _ _ => ⟨rfl, e31, (by decide : 1 + 0 ≤ _), (by decide : 30 + 0 ≤ _)⟩)
    dsimp only [Pt.U, Pt.locs, Pt.cells, Pt.slots] at X34 l34 y34 z34 st34 hQ34
    subst l34 y34 z34
    obtain ⟨rfl, N34q, e34⟩ := hQ34
    have N34 := Fr.app N31 N34q
    obtain ⟨_, _, ⟨T35, L35, k35, n35⟩, -, X35, ⟨Lc35, hQ35, l35, y35, z35⟩, st35⟩ := Jvm.LawKit.callS X34 hx (y := (⟨"com/example/axislint/axislint/schema/XmlNamesIsNameStartCharPinLaw", "expected", "(I)Z"⟩ : MethodName)) hown (mvT hZ (hw _ (List.mem_of_getElem? (i := 13) rfl))) (mvT hZ (hw _ (List.mem_of_getElem? (i := 14) rfl))) (mvT hZ (hw _ (List.mem_of_getElem? (i := 15) rfl))) (mvT hZ (hw _ (List.mem_of_getElem? (i := 16) rfl))) (by decide) (backOf (W := 1) (rm2 l Z a0 hw [] p1 H31 n0) hZ (hw _ (List.mem_of_getElem? (i := 16) rfl)) (hw _ (List.mem_of_getElem? (i := 15) rfl)) (by decide) (by decide)) (g := (mkF m 234 #[.val (.int p1), .val (.int p2), .val (.int p3), .val (.int p4), .val (.ref b1), .val (.int p1)] [(.int p1), (.int (f1_0 p1))])) rfl (by rw [hml]; rfl) (argsL := [(.int p1)]) (rest := [(.int (f1_0 p1))]) (lenOf pd_0_0 rfl) rfl (by show 2 * 0 + _ ≤ _; exact Nat.le_of_eq rfl) (hb hby at_234) (fun _ _ => ⟨rfl, e34, (by decide : 1 + 0 ≤ _), (by decide : 30 + 0 ≤ _)⟩)
    dsimp only [Pt.U, Pt.locs, Pt.cells, Pt.slots] at X35 l35 y35 z35 st35 hQ35
    subst l35 y35 z35
    obtain ⟨rfl, N35q, e35⟩ := hQ35
    have N35 := Fr.app N34 N35q
    have h237_36 : (f1_0 p1) = (f2_0 p1) := own_eq _
    have pre37 : ∀ t, Steps p.tables e below (T35.setTop (mkF m 245 #[.val (.int p1), .val (.int p2), .val (.int p3), .val (.int p4), .val (.ref b1), .val (.int p1)] [(.int (1 : Int32))])) t → Steps p.tables e below (s₁.setTop (entryFrame m #[(.int p1), (.int p2), (.int p3), (.int p4)] maxLocals)) t := by
      intro t k
      refine pre33 t ?_
      refine XS.ifYes X31.here hx rfl (pc0 := 203) (pc' := 227) rfl (hb hby at_203) rfl ((if0 _ _).trans (teq h203_32).1) (by decide) (by decide) ?_
      show Steps p.tables e below (T31.setTop (mkF m 227 #[.val (.int p1), .val (.int p2), .val (.int p3), .val (.int p4), .val (.ref b1), .val (.int p1)] [])) _
      refine XS.iload X31.here hx rfl (hb hby at_227) rfl ?_
      show Steps p.tables e below (T31.setTop (mkF m 229 #[.val (.int p1), .val (.int p2), .val (.int p3), .val (.int p4), .val (.ref b1), .val (.int p1)] [(.int p1)])) _
      refine st34 _ ?_
      show Steps p.tables e below (T34.setTop (mkF m 232 #[.val (.int p1), .val (.int p2), .val (.int p3), .val (.int p4), .val (.ref b1), .val (.int p1)] [(.int (f1_0 p1))])) _
      refine XS.iload X34.here hx rfl (hb hby at_232) rfl ?_
      show Steps p.tables e below (T34.setTop (mkF m 234 #[.val (.int p1), .val (.int p2), .val (.int p3), .val (.int p4), .val (.ref b1), .val (.int p1)] [(.int p1), (.int (f1_0 p1))])) _
      refine st35 _ ?_
      show Steps p.tables e below (T35.setTop (mkF m 237 #[.val (.int p1), .val (.int p2), .val (.int p3), .val (.int p4), .val (.ref b1), .val (.int p1)] [(.int (f2_0 p1)), (.int (f1_0 p1))])) _
      refine XS.icmpNo X35.here hx rfl (hb hby at_237) rfl (teq h237_36).2 ?_
      show Steps p.tables e below (T35.setTop (mkF m 240 #[.val (.int p1), .val (.int p2), .val (.int p3), .val (.int p4), .val (.ref b1), .val (.int p1)] [])) _
      refine XS.iconst X35.here hx rfl (hb hby at_240) ?_
      show Steps p.tables e below (T35.setTop (mkF m 241 #[.val (.int p1), .val (.int p2), .val (.int p3), .val (.int p4), .val (.ref b1), .val (.int p1)] [(.int (1 : Int32))])) _
      refine XS.goto X35.here hx rfl (pc0 := 241) (pc' := 245) rfl (hb hby at_241) (by decide) (by decide) ?_
      show Steps p.tables e below (T35.setTop (mkF m 245 #[.val (.int p1), .val (.int p2), .val (.int p3), .val (.int p4), .val (.ref b1), .val (.int p1)] [(.int (1 : Int32))])) _
      exact k
    obtain ⟨fs, hr, hrun, hended, hW, hsame⟩ := X35.leave (v := some (.int (1 : Int32))) (fun h => by rw [Bd.returns] at h; cases h)
    refine ⟨_, _, pre37 _ ?_, hrun, hended, _, _, rfl, ?_, ⟨_, rfl⟩, hW, hsame.mono (by decide) (by decide)⟩
    · exact retN X35 hx (t := .boolean) Bd.returns (by simp) (hb hby at_245) hr
    · exact ⟨rfl, N35⟩
  · have hj38 : ¬ (((p3 &&& (2147483647 : Int32)) - ((p3 &&& (2147483647 : Int32)) / (30 : Int32)) * (30 : Int32)) < 0 ∨ 30 ≤ (((p3 &&& (2147483647 : Int32)) - ((p3 &&& (2147483647 : Int32)) / (30 : Int32)) * (30 : Int32))).toNatClampNeg) := own_remin (own_nn _) (by decide) (by decide)
    obtain ⟨w38, hv38⟩ := own_some (us := [(65 : Int32), (90 : Int32), (95 : Int32), (97 : Int32), (122 : Int32), (192 : Int32), (214 : Int32), (216 : Int32), (246 : Int32), (248 : Int32), (767 : Int32), (880 : Int32), (893 : Int32), (895 : Int32), (8191 : Int32), (8204 : Int32), (8205 : Int32), (8304 : Int32), (8591 : Int32), (11264 : Int32), (12271 : Int32), (12289 : Int32), (55295 : Int32), (63744 : Int32), (64975 : Int32), (65008 : Int32), (65533 : Int32), (65536 : Int32), (983039 : Int32), (58 : Int32)]) (vs := [(.int (65 : Int32)), (.int (90 : Int32)), (.int (95 : Int32)), (.int (97 : Int32)), (.int (122 : Int32)), (.int (192 : Int32)), (.int (214 : Int32)), (.int (216 : Int32)), (.int (246 : Int32)), (.int (248 : Int32)), (.int (767 : Int32)), (.int (880 : Int32)), (.int (893 : Int32)), (.int (895 : Int32)), (.int (8191 : Int32)), (.int (8204 : Int32)), (.int (8205 : Int32)), (.int (8304 : Int32)), (.int (8591 : Int32)), (.int (11264 : Int32)), (.int (12271 : Int32)), (.int (12289 : Int32)), (.int (55295 : Int32)), (.int (63744 : Int32)), (.int (64975 : Int32)), (.int (65008 : Int32)), (.int (65533 : Int32)), (.int (65536 : Int32)), (.int (983039 : Int32)), (.int (58 : Int32))]) rfl (n := 30) rfl (own_lt hj38)
    obtain ⟨_, _, ⟨T39, L39, k39, n39⟩, -, X39, ⟨Lc39, hQ39, l39, y39, z39⟩, st39⟩ := Jvm.LawKit.callS X31 hx (y := (⟨"com/example/axislint/axislint/schema/XmlNames", "isNameStartChar", "(I)Z"⟩ : MethodName)) hown (mvT hZ (hw _ (List.mem_of_getElem? (i := 9) rfl))) (mvT hZ (hw _ (List.mem_of_getElem? (i := 10) rfl))) (mvT hZ (hw _ (List.mem_of_getElem? (i := 11) rfl))) (mvT hZ (hw _ (List.mem_of_getElem? (i := 12) rfl))) (by decide) (backOf (W := 0) (rm1 l Z a0 hw [] ((w38 + ((p4 &&& (2147483647 : Int32)) - ((p4 &&& (2147483647 : Int32)) / (3 : Int32)) * (3 : Int32))) - (1 : Int32)) H31 n0) hZ (hw _ (List.mem_of_getElem? (i := 12) rfl)) (hw _ (List.mem_of_getElem? (i := 11) rfl)) (by decide) (by decide)) (g := (mkF m 229 #[.val (.int p1), .val (.int p2), .val (.int p3), .val (.int p4), .val (.ref b1), .val (.int ((w38 + ((p4 &&& (2147483647 : Int32)) - ((p4 &&& (2147483647 : Int32)) / (3 : Int32)) * (3 : Int32))) - (1 : Int32)))] [(.int ((w38 + ((p4 &&& (2147483647 : Int32)) - ((p4 &&& (2147483647 : Int32)) / (3 : Int32)) * (3 : Int32))) - (1 : Int32)))])) rfl (by rw [hml]; rfl) (argsL := [(.int ((w38 + ((p4 &&& (2147483647 : Int32)) - ((p4 &&& (2147483647 : Int32)) / (3 : Int32)) * (3 : Int32))) - (1 : Int32)))]) (rest := []) (lenOf pd_0_0 rfl) rfl (by show 2 * 0 + _ ≤ _; exact Nat.le_of_eq rfl) (hb hby at_229) (fun _ _ => ⟨rfl, e31, (by decide : 1 + 0 ≤ _), (by decide : 30 + 0 ≤ _)⟩)
    dsimp only [Pt.U, Pt.locs, Pt.cells, Pt.slots] at X39 l39 y39 z39 st39 hQ39
    subst l39 y39 z39
    obtain ⟨rfl, N39q, e39⟩ := hQ39
    have N39 := Fr.app N31 N39q
    obtain ⟨_, _, ⟨T40, L40, k40, n40⟩, -, X40, ⟨Lc40, hQ40, l40, y40, z40⟩, st40⟩ := Jvm.LawKit.callS X39 hx (y := (⟨"com/example/axislint/axislint/schema/XmlNamesIsNameStartCharPinLaw", "expected", "(I)Z"⟩ : MethodName)) hown (mvT hZ (hw _ (List.mem_of_getElem? (i := 13) rfl))) (mvT hZ (hw _ (List.mem_of_getElem? (i := 14) rfl))) (mvT hZ (hw _ (List.mem_of_getElem? (i := 15) rfl))) (mvT hZ (hw _ (List.mem_of_getElem? (i := 16) rfl))) (by decide) (backOf (W := 1) (rm2 l Z a0 hw [] ((w38 + ((p4 &&& (2147483647 : Int32)) - ((p4 &&& (2147483647 : Int32)) / (3 : Int32)) * (3 : Int32))) - (1 : Int32)) H31 n0) hZ (hw _ (List.mem_of_getElem? (i := 16) rfl)) (hw _ (List.mem_of_getElem? (i := 15) rfl)) (by decide) (by decide)) (g := (mkF m 234 #[.val (.int p1), .val (.int p2), .val (.int p3), .val (.int p4), .val (.ref b1), .val (.int ((w38 + ((p4 &&& (2147483647 : Int32)) - ((p4 &&& (2147483647 : Int32)) / (3 : Int32)) * (3 : Int32))) - (1 : Int32)))] [(.int ((w38 + ((p4 &&& (2147483647 : Int32)) - ((p4 &&& (2147483647 : Int32)) / (3 : Int32)) * (3 : Int32))) - (1 : Int32))), (.int (f1_0 ((w38 + ((p4 &&& (2147483647 : Int32)) - ((p4 &&& (2147483647 : Int32)) / (3 : Int32)) * (3 : Int32))) - (1 : Int32))))])) rfl (by rw [hml]; rfl) (argsL := [(.int ((w38 + ((p4 &&& (2147483647 : Int32)) - ((p4 &&& (2147483647 : Int32)) / (3 : Int32)) * (3 : Int32))) - (1 : Int32)))]) (rest := [(.int (f1_0 ((w38 + ((p4 &&& (2147483647 : Int32)) - ((p4 &&& (2147483647 : Int32)) / (3 : Int32)) * (3 : Int32))) - (1 : Int32))))]) (lenOf pd_0_0 rfl) rfl (by show 2 * 0 + _ ≤ _; exact Nat.le_of_eq rfl) (hb hby at_234) (fun _ _ => ⟨rfl, e39, (by decide : 1 + 0 ≤ _), (by decide : 30 + 0 ≤ _)⟩)
    dsimp only [Pt.U, Pt.locs, Pt.cells, Pt.slots] at X40 l40 y40 z40 st40 hQ40
    subst l40 y40 z40
    obtain ⟨rfl, N40q, e40⟩ := hQ40
    have N40 := Fr.app N39 N40q
    have h237_41 : (f1_0 ((w38 + ((p4 &&& (2147483647 : Int32)) - ((p4 &&& (2147483647 : Int32)) / (3 : Int32)) * (3 : Int32))) - (1 : Int32))) = (f2_0 ((w38 + ((p4 &&& (2147483647 : Int32)) - ((p4 &&& (2147483647 : Int32)) / (3 : Int32)) * (3 : Int32))) - (1 : Int32))) := own_eq _
    have pre42 : ∀ t, Steps p.tables e below (T40.setTop (mkF m 245 #[.val (.int p1), .val (.int p2), .val (.int p3), .val (.int p4), .val (.ref b1), .val (.int ((w38 + ((p4 &&& (2147483647 : Int32)) - ((p4 &&& (2147483647 : Int32)) / (3 : Int32)) * (3 : Int32))) - (1 : Int32)))] [(.int (1 : Int32))])) t → Steps p.tables e below (s₁.setTop (entryFrame m #[(.int p1), (.int p2), (.int p3), (.int p4)] maxLocals)) t := by
      intro t k
      refine pre33 t ?_
      refine XS.ifNo X31.here hx rfl (hb hby at_203) rfl ((if0 _ _).trans (feq h203_32).1) ?_
      show Steps p.tables e below (T31.setTop (mkF m 206 #[.val (.int p1), .val (.int p2), .val (.int p3), .val (.int p4), .val (.ref b1), .val (.int p1)] [])) _
      refine XS.aload X31.here hx rfl (hb hby at_206) rfl rfl ?_
      show Steps p.tables e below (T31.setTop (mkF m 208 #[.val (.int p1), .val (.int p2), .val (.int p3), .val (.int p4), .val (.ref b1), .val (.int p1)] [(.ref b1)])) _
      refine XS.iloadN X31.here hx rfl (hb hby at_208) rfl ?_
      show Steps p.tables e below (T31.setTop (mkF m 209 #[.val (.int p1), .val (.int p2), .val (.int p3), .val (.int p4), .val (.ref b1), .val (.int p1)] [(.int p3), (.ref b1)])) _
      refine X31.ldcInt hx hown (mvT hZ (hw _ (List.mem_of_getElem? (i := 8) rfl))) (g := (mkF m 209 #[.val (.int p1), .val (.int p2), .val (.int p3), .val (.int p4), .val (.ref b1), .val (.int p1)] [(.int p3), (.ref b1)])) rfl (hb hby at_209) _ ?_
      show Steps p.tables e below (T31.setTop (mkF m 211 #[.val (.int p1), .val (.int p2), .val (.int p3), .val (.int p4), .val (.ref b1), .val (.int p1)] [(.int (2147483647 : Int32)), (.int p3), (.ref b1)])) _
      refine XS.iand X31.here hx rfl (hb hby at_211) rfl ?_
      show Steps p.tables e below (T31.setTop (mkF m 212 #[.val (.int p1), .val (.int p2), .val (.int p3), .val (.int p4), .val (.ref b1), .val (.int p1)] [(.int (p3 &&& (2147483647 : Int32))), (.ref b1)])) _
      refine XS.bipush X31.here hx rfl (hb hby at_212) ?_
      show Steps p.tables e below (T31.setTop (mkF m 214 #[.val (.int p1), .val (.int p2), .val (.int p3), .val (.int p4), .val (.ref b1), .val (.int p1)] [(.int (30 : Int32)), (.int (p3 &&& (2147483647 : Int32))), (.ref b1)])) _
      refine XS.irem X31.here hx rfl (hb hby at_214) rfl (by decide) ?_
      show Steps p.tables e below (T31.setTop (mkF m 215 #[.val (.int p1), .val (.int p2), .val (.int p3), .val (.int p4), .val (.ref b1), .val (.int p1)] [(.int ((p3 &&& (2147483647 : Int32)) - ((p3 &&& (2147483647 : Int32)) / (30 : Int32)) * (30 : Int32))), (.ref b1)])) _
      refine own_ldI X31 hx hZ e31 V31 (n := 30) (v := (.int w38)) rfl hj38 hv38 (g := (mkF m 215 #[.val (.int p1), .val (.int p2), .val (.int p3), .val (.int p4), .val (.ref b1), .val (.int p1)] [(.int ((p3 &&& (2147483647 : Int32)) - ((p3 &&& (2147483647 : Int32)) / (30 : Int32)) * (30 : Int32))), (.ref b1)])) rfl rfl (hb hby at_215) _ ?_
      show Steps p.tables e below (T31.setTop (mkF m 216 #[.val (.int p1), .val (.int p2), .val (.int p3), .val (.int p4), .val (.ref b1), .val (.int p1)] [(.int w38)])) _
      refine XS.iloadN X31.here hx rfl (hb hby at_216) rfl ?_
      show Steps p.tables e below (T31.setTop (mkF m 217 #[.val (.int p1), .val (.int p2), .val (.int p3), .val (.int p4), .val (.ref b1), .val (.int p1)] [(.int p4), (.int w38)])) _
      refine X31.ldcInt hx hown (mvT hZ (hw _ (List.mem_of_getElem? (i := 8) rfl))) (g := (mkF m 217 #[.val (.int p1), .val (.int p2), .val (.int p3), .val (.int p4), .val (.ref b1), .val (.int p1)] [(.int p4), (.int w38)])) rfl (hb hby at_217) _ ?_
      show Steps p.tables e below (T31.setTop (mkF m 219 #[.val (.int p1), .val (.int p2), .val (.int p3), .val (.int p4), .val (.ref b1), .val (.int p1)] [(.int (2147483647 : Int32)), (.int p4), (.int w38)])) _
      refine XS.iand X31.here hx rfl (hb hby at_219) rfl ?_
      show Steps p.tables e below (T31.setTop (mkF m 220 #[.val (.int p1), .val (.int p2), .val (.int p3), .val (.int p4), .val (.ref b1), .val (.int p1)] [(.int (p4 &&& (2147483647 : Int32))), (.int w38)])) _
      refine XS.iconst X31.here hx rfl (hb hby at_220) ?_
      show Steps p.tables e below (T31.setTop (mkF m 221 #[.val (.int p1), .val (.int p2), .val (.int p3), .val (.int p4), .val (.ref b1), .val (.int p1)] [(.int (3 : Int32)), (.int (p4 &&& (2147483647 : Int32))), (.int w38)])) _
      refine XS.irem X31.here hx rfl (hb hby at_221) rfl (by decide) ?_
      show Steps p.tables e below (T31.setTop (mkF m 222 #[.val (.int p1), .val (.int p2), .val (.int p3), .val (.int p4), .val (.ref b1), .val (.int p1)] [(.int ((p4 &&& (2147483647 : Int32)) - ((p4 &&& (2147483647 : Int32)) / (3 : Int32)) * (3 : Int32))), (.int w38)])) _
      refine XS.iadd X31.here hx rfl (hb hby at_222) rfl ?_
      show Steps p.tables e below (T31.setTop (mkF m 223 #[.val (.int p1), .val (.int p2), .val (.int p3), .val (.int p4), .val (.ref b1), .val (.int p1)] [(.int (w38 + ((p4 &&& (2147483647 : Int32)) - ((p4 &&& (2147483647 : Int32)) / (3 : Int32)) * (3 : Int32))))])) _
      refine XS.iconst X31.here hx rfl (hb hby at_223) ?_
      show Steps p.tables e below (T31.setTop (mkF m 224 #[.val (.int p1), .val (.int p2), .val (.int p3), .val (.int p4), .val (.ref b1), .val (.int p1)] [(.int (1 : Int32)), (.int (w38 + ((p4 &&& (2147483647 : Int32)) - ((p4 &&& (2147483647 : Int32)) / (3 : Int32)) * (3 : Int32))))])) _
      refine XS.isub X31.here hx rfl (hb hby at_224) rfl ?_
      show Steps p.tables e below (T31.setTop (mkF m 225 #[.val (.int p1), .val (.int p2), .val (.int p3), .val (.int p4), .val (.ref b1), .val (.int p1)] [(.int ((w38 + ((p4 &&& (2147483647 : Int32)) - ((p4 &&& (2147483647 : Int32)) / (3 : Int32)) * (3 : Int32))) - (1 : Int32)))])) _
      refine XS.istore X31.here hx rfl (hb hby at_225) rfl (l' := #[.val (.int p1), .val (.int p2), .val (.int p3), .val (.int p4), .val (.ref b1), .val (.int ((w38 + ((p4 &&& (2147483647 : Int32)) - ((p4 &&& (2147483647 : Int32)) / (3 : Int32)) * (3 : Int32))) - (1 : Int32)))]) rfl ?_
      show Steps p.tables e below (T31.setTop (mkF m 227 #[.val (.int p1), .val (.int p2), .val (.int p3), .val (.int p4), .val (.ref b1), .val (.int ((w38 + ((p4 &&& (2147483647 : Int32)) - ((p4 &&& (2147483647 : Int32)) / (3 : Int32)) * (3 : Int32))) - (1 : Int32)))] [])) _
      refine XS.iload X31.here hx rfl (hb hby at_227) rfl ?_
      show Steps p.tables e below (T31.setTop (mkF m 229 #[.val (.int p1), .val (.int p2), .val (.int p3), .val (.int p4), .val (.ref b1), .val (.int ((w38 + ((p4 &&& (2147483647 : Int32)) - ((p4 &&& (2147483647 : Int32)) / (3 : Int32)) * (3 : Int32))) - (1 : Int32)))] [(.int ((w38 + ((p4 &&& (2147483647 : Int32)) - ((p4 &&& (2147483647 : Int32)) / (3 : Int32)) * (3 : Int32))) - (1 : Int32)))])) _
      refine st39 _ ?_
      show Steps p.tables e below (T39.setTop (mkF m 232 #[.val (.int p1), .val (.int p2), .val (.int p3), .val (.int p4), .val (.ref b1), .val (.int ((w38 + ((p4 &&& (2147483647 : Int32)) - ((p4 &&& (2147483647 : Int32)) / (3 : Int32)) * (3 : Int32))) - (1 : Int32)))] [(.int (f1_0 ((w38 + ((p4 &&& (2147483647 : Int32)) - ((p4 &&& (2147483647 : Int32)) / (3 : Int32)) * (3 : Int32))) - (1 : Int32))))])) _
      refine XS.iload X39.here hx rfl (hb hby at_232) rfl ?_
      show Steps p.tables e below (T39.setTop (mkF m 234 #[.val (.int p1), .val (.int p2), .val (.int p3), .val (.int p4), .val (.ref b1), .val (.int ((w38 + ((p4 &&& (2147483647 : Int32)) - ((p4 &&& (2147483647 : Int32)) / (3 : Int32)) * (3 : Int32))) - (1 : Int32)))] [(.int ((w38 + ((p4 &&& (2147483647 : Int32)) - ((p4 &&& (2147483647 : Int32)) / (3 : Int32)) * (3 : Int32))) - (1 : Int32))), (.int (f1_0 ((w38 + ((p4 &&& (2147483647 : Int32)) - ((p4 &&& (2147483647 : Int32)) / (3 : Int32)) * (3 : Int32))) - (1 : Int32))))])) _
      refine st40 _ ?_
      show Steps p.tables e below (T40.setTop (mkF m 237 #[.val (.int p1), .val (.int p2), .val (.int p3), .val (.int p4), .val (.ref b1), .val (.int ((w38 + ((p4 &&& (2147483647 : Int32)) - ((p4 &&& (2147483647 : Int32)) / (3 : Int32)) * (3 : Int32))) - (1 : Int32)))] [(.int (f2_0 ((w38 + ((p4 &&& (2147483647 : Int32)) - ((p4 &&& (2147483647 : Int32)) / (3 : Int32)) * (3 : Int32))) - (1 : Int32)))), (.int (f1_0 ((w38 + ((p4 &&& (2147483647 : Int32)) - ((p4 &&& (2147483647 : Int32)) / (3 : Int32)) * (3 : Int32))) - (1 : Int32))))])) _
      refine XS.icmpNo X40.here hx rfl (hb hby at_237) rfl (teq h237_41).2 ?_
      show Steps p.tables e below (T40.setTop (mkF m 240 #[.val (.int p1), .val (.int p2), .val (.int p3), .val (.int p4), .val (.ref b1), .val (.int ((w38 + ((p4 &&& (2147483647 : Int32)) - ((p4 &&& (2147483647 : Int32)) / (3 : Int32)) * (3 : Int32))) - (1 : Int32)))] [])) _
      refine XS.iconst X40.here hx rfl (hb hby at_240) ?_
      show Steps p.tables e below (T40.setTop (mkF m 241 #[.val (.int p1), .val (.int p2), .val (.int p3), .val (.int p4), .val (.ref b1), .val (.int ((w38 + ((p4 &&& (2147483647 : Int32)) - ((p4 &&& (2147483647 : Int32)) / (3 : Int32)) * (3 : Int32))) - (1 : Int32)))] [(.int (1 : Int32))])) _
      refine XS.goto X40.here hx rfl (pc0 := 241) (pc' := 245) rfl (hb hby at_241) (by decide) (by decide) ?_
      show Steps p.tables e below (T40.setTop (mkF m 245 #[.val (.int p1), .val (.int p2), .val (.int p3), .val (.int p4), .val (.ref b1), .val (.int ((w38 + ((p4 &&& (2147483647 : Int32)) - ((p4 &&& (2147483647 : Int32)) / (3 : Int32)) * (3 : Int32))) - (1 : Int32)))] [(.int (1 : Int32))])) _
      exact k
    obtain ⟨fs, hr, hrun, hended, hW, hsame⟩ := X40.leave (v := some (.int (1 : Int32))) (fun h => by rw [Bd.returns] at h; cases h)
    refine ⟨_, _, pre42 _ ?_, hrun, hended, _, _, rfl, ?_, ⟨_, rfl⟩, hW, hsame.mono (by decide) (by decide)⟩
    · exact retN X40 hx (t := .boolean) Bd.returns (by simp) (hb hby at_245) hr
    · exact ⟨rfl, N40⟩
set_option maxRecDepth 65536 in
set_option maxHeartbeats 40000000 in
theorem comes_1 {Post : Tables → Env → Array Value → State → Outcome → State → Prop} (hpost : ∀ tb e args s v u, (limb_1_1.after args s (.returned v) u = true ∧ limb_1_2.after args s (.returned v) u = true ∧ True) → FrameEnd s (.returned v) u (Jvm.fieldLocs frame_1_writes args s ++ Jvm.arrayLocs frame_1_arrays args s ++ Jvm.staticLocs frame_1_statics s) 16 128 → Post tb e args s (.returned v) u) :
    ArmFor flags0 classFile x code maxLocals ret World_1 tables_1 room_1 Calls_1 rest_1 Pre_1 Post := by
  intro l hfl _ _ p e ha hc hk s m args below hf hA hF happ hP
  obtain ⟨hcalls, hrest, hpre⟩ := hP
  obtain ⟨-, -, -, hnamed, -, -, -, hat⟩ := (Spec.applies_iff hf).mp happ
  obtain ⟨hg, hn⟩ := and_e (Cond.before_iff.mp (show (Jvm.Cond.and given_1 narrow_1).before args s = true from hpre))
  obtain ⟨hc0, hr1⟩ := and_e hg
  obtain ⟨ha0, hr2⟩ := and_e hr1
  obtain ⟨ha1, hr3⟩ := and_e hr2
  obtain ⟨ha2, hr4⟩ := and_e hr3
  obtain ⟨w0, w1, w2, w3, rfl⟩ : ∃ w0 w1 w2 w3 : Value, args = #[w0, w1, w2, w3] := by
    have hs : args.size = 4 := by simpa [Cond.value, given_1] using hc0
    obtain ⟨L⟩ := args
    match L, hs with
    | [w0, w1, w2, w3], _ => exact ⟨w0, w1, w2, w3, rfl⟩
  have hw := fun d (hd : d ∈ tables_1) => atoms_spec (ws := Jvm.Cond.code x code maxLocals ret :: tables_1) hat d (List.mem_cons_of_mem _ hd)
  have hfit : Fit s := fun {y c} hc i hi => by
    obtain ⟨ha, rfl⟩ := Array.getElem?_eq_some_iff.mp hc
    have q := List.all_eq_true.mp ((Array.all_eq_true_iff_forall_mem.mp hF) _ (Array.getElem_mem ha)) i (List.mem_range.mpr hi)
    simpa [Array.getElem?_eq_getElem hi] using q
  obtain ⟨i0, ei0⟩ := is_v ha0
  obtain rfl : w0 = (.int i0) := Option.some.inj ei0
  obtain ⟨i1, ei1⟩ := is_v ha1
  obtain rfl : w1 = (.int i1) := Option.some.inj ei1
  obtain ⟨i2, ei2⟩ := is_v ha2
  obtain rfl : w2 = (.int i2) := Option.some.inj ei2
  obtain ⟨i3, ei3⟩ := is_v hr4
  obtain rfl : w3 = (.int i3) := Option.some.inj ei3
  obtain ⟨n, o, h1, h2, h3, _, L, rfl, ⟨rfl, N⟩, hq⟩ := rm0 l s _ hw tables_1 i0 i1 i2 i3 s.heap s.heap.size (Nat.le_refl _) p e ha hc hk s m _ below hf ((Spec.applies_iff_loose hf).mp happ).1 ⟨rfl, State.Warmed39.refl s, rfl⟩ trivial
  refine ⟨n, _, h1, h2, h3, hpost _ _ _ _ _ _ ⟨Cond.after_iff.mpr rfl, Cond.after_iff.mpr (eq_i res_at (Term.int_eval (1)) rfl), trivial⟩ ⟨hq.1, hq.2.1, (hq.2.2.sift fun y hy => Or.inr (N y hy)).mono (by decide) (by decide)⟩⟩
theorem main_1_1 : Claimed_1_1 := comes_1 fun _ _ _ _ _ _ h hF => ⟨h.1, hF⟩
theorem main_1_2 : Claimed_1_2 := comes_1 fun _ _ _ _ _ _ h hF => ⟨h.2.1, hF⟩
end Jvm.Pilot.@@N@@
namespace Jvm.Pilot.@@N@@
open Jvm Jvm.ClassFile Sem Op Lib Jvm.Free Jvm.Stand Jvm.Pilot.@@N@@.Jvm.D
/-! MADE BY PROGRAM (witnessworld.py) out of the Statement's table words and the real class files: 9 classes; the members and pool entries that the words name. The judged class is class 1, her method 1. -/
namespace start1
open Jvm.ClassFile
def u (s : String) : CpInfo := .utf8 (stringToUtf16 s)
/-- a pool by its gaps: so many unusable entries, then the entry; so many at the end -/
def gap : Nat → List CpInfo → List CpInfo
  | 0, r => r
  | n + 1, r => .unusable :: gap n r
def poolList (es : List (Nat × CpInfo)) (last : Nat) : List CpInfo := es.foldr (fun e r => gap e.1 (e.2 :: r)) (gap last [])
def pool (es : List (Nat × CpInfo)) (last : Nat) : Array CpInfo := ⟨poolList es last⟩
def fileOf (pool : Array CpInfo) (this : Nat) (attrs : Array Attribute := #[]) (ms : Array MethodInfo := #[]) (fl : Nat := 33) (sup : Nat := 0) (ifs : Array Nat := #[]) (fds : Array FieldInfo := #[]) : ClassFile where
  minorVersion := 0
  majorVersion := 65
  constantPool := pool
  accessFlags := fl
  thisClass := this
  superClass := sup
  interfaces := ifs
  fields := fds
  methods := ms
  attributes := attrs
def plain (name : String) (sup : Option ClassId) : Class where
  name := name
  kind := .ordinary
  loader := none
  accessFlags := 33
  super := sup
  interfaces := #[]
  cf := none
  fields := #[]
  methods := #[]
  instanceTypes := #[]
  staticTypes := #[]
  resolved := #[]
  callSites := []
  init := .initialized
  statics := none
  mirror := none

def pool0 : Array CpInfo := pool [(5, u "<init>"), (0, u "()V"), (1, .class_ 10), (1, u "java/lang/Object")] 113

def k0m0 : Method := { name := "<init>", desc := "()V", sig := { parameters := [], returnType := none }, accessFlags := 1, code := none }
/-- java/lang/Object -/
def k0 : Class := { plain "java/lang/Object" none with
  accessFlags := 33
  interfaces := #[]
  cf := some (fileOf pool0 8 #[] #[{ accessFlags := 1, nameIndex := 5, descriptorIndex := 6, attributes := #[] }] 33 0 #[] #[])
  fields := #[]
  methods := #[k0m0]
  instanceTypes := #[]
  staticTypes := #[]
  resolved := Array.replicate 124 none
  statics := none }

def pool1 : Array CpInfo := pool [(2, .class_ 4), (1, u "java/lang/Object"), (0, u "<init>"), (0, u "()V"), (0, .integer 55295), (0, .integer 63744), (0, .integer 64975), (0, .integer 65008), (0, .integer 65533), (0, .integer 65536), (0, .integer 983039), (0, .integer 2147483647), (0, .methodref 16 17), (0, .class_ 18), (0, .nameAndType 19 20), (0, u "com/example/axislint/axislint/schema/XmlNames"), (0, u "isNameStartChar"), (0, u "(I)Z"), (0, .methodref 22 23), (0, .class_ 24), (0, .nameAndType 25 20), (0, u "com/example/axislint/axislint/schema/XmlNamesIsNameStartCharPinLaw"), (0, u "expected"), (0, .integer 55296), (0, .integer 63743), (0, .integer 64976), (0, .integer 65007), (0, .integer 65534), (0, .integer 65535), (2, u "law"), (0, u "(IIII)Z")] 5

def k1m0 : Method := { name := "<init>", desc := "()V", sig := { parameters := [], returnType := none }, accessFlags := 2, code := none }
def k1c1 : Code := { maxStack := 4, maxLocals := 6, code := code, exceptionTable := #[], attributes := #[] }
def k1m1 : Method := { name := "law", desc := "(IIII)Z", sig := { parameters := [.int, .int, .int, .int], returnType := some .boolean }, accessFlags := 9, code := some k1c1 }
def k1c2 : Code := { maxStack := 2, maxLocals := 2, code := method_3_code, exceptionTable := #[], attributes := #[] }
def k1m2 : Method := { name := "expected", desc := "(I)Z", sig := { parameters := [.int], returnType := some .boolean }, accessFlags := 10, code := some k1c2 }
/-- com/example/axislint/axislint/schema/XmlNamesIsNameStartCharPinLaw -/
def k1 : Class := { plain "com/example/axislint/axislint/schema/XmlNamesIsNameStartCharPinLaw" (some 0) with
  accessFlags := 49
  interfaces := #[]
  cf := some (fileOf pool1 22 #[] #[{ accessFlags := 2, nameIndex := 5, descriptorIndex := 6, attributes := #[] }, { accessFlags := 9, nameIndex := 34, descriptorIndex := 35, attributes := #[] }, { accessFlags := 10, nameIndex := 25, descriptorIndex := 20, attributes := #[] }] 49 2 #[] #[])
  fields := #[]
  methods := #[k1m0, k1m1, k1m2]
  instanceTypes := #[]
  staticTypes := #[]
  resolved := Array.replicate 41 none
  statics := none }

def pool2 : Array CpInfo := pool [(2, .class_ 4), (1, u "java/lang/Object"), (0, u "<init>"), (0, u "()V"), (5, u "(I)Z"), (36, .integer 55295), (1, .integer 65533), (0, .integer 65536), (3, .integer 63744), (0, .integer 64975), (0, .integer 65008), (0, .integer 983039), (1, .class_ 63), (1, u "com/example/axislint/axislint/schema/XmlNames"), (0, u "isNameStartChar")] 95

def k2m0 : Method := { name := "<init>", desc := "()V", sig := { parameters := [], returnType := none }, accessFlags := 2, code := none }
def k2c1 : Code := { maxStack := 2, maxLocals := 1, code := prog_94_method_4_code, exceptionTable := #[], attributes := #[] }
def k2m1 : Method := { name := "isNameStartChar", desc := "(I)Z", sig := { parameters := [.int], returnType := some .boolean }, accessFlags := 9, code := some k2c1 }
/-- com/example/axislint/axislint/schema/XmlNames -/
def k2 : Class := { plain "com/example/axislint/axislint/schema/XmlNames" (some 0) with
  accessFlags := 49
  interfaces := #[]
  cf := some (fileOf pool2 61 #[] #[{ accessFlags := 2, nameIndex := 5, descriptorIndex := 6, attributes := #[] }, { accessFlags := 9, nameIndex := 64, descriptorIndex := 12, attributes := #[] }] 49 2 #[] #[])
  fields := #[]
  methods := #[k2m0, k2m1]
  instanceTypes := #[]
  staticTypes := #[]
  resolved := Array.replicate 160 none
  statics := none }

def pool3 : Array CpInfo := pool [(1, u "java/lang/Cloneable"), (0, .class_ 1), (0, u "java/lang/Object"), (0, .class_ 3)] 3

/-- java/lang/Cloneable -/
def k3 : Class := { plain "java/lang/Cloneable" (some 0) with
  accessFlags := 1537
  interfaces := #[]
  cf := some (fileOf pool3 2 #[] #[] 1537 4 #[] #[])
  fields := #[]
  methods := #[]
  instanceTypes := #[]
  staticTypes := #[]
  resolved := Array.replicate 8 none
  statics := none }

def pool4 : Array CpInfo := pool [(1, u "java/io/Serializable"), (0, .class_ 1), (0, u "java/lang/Object"), (0, .class_ 3)] 3

/-- java/io/Serializable -/
def k4 : Class := { plain "java/io/Serializable" (some 0) with
  accessFlags := 1537
  interfaces := #[]
  cf := some (fileOf pool4 2 #[] #[] 1537 4 #[] #[])
  fields := #[]
  methods := #[]
  instanceTypes := #[]
  staticTypes := #[]
  resolved := Array.replicate 8 none
  statics := none }

/-- the primitive byte -/
def k5 : Class := { plain "byte" none with kind := .primitive 'B', accessFlags := 0x411 }
/-- [B -/
def k6 : Class := { plain "[B" (some 0) with kind := .array 5 .byte, interfaces := #[3, 4], accessFlags := 1041 }

/-- the primitive int -/
def k7 : Class := { plain "int" none with kind := .primitive 'I', accessFlags := 0x411 }
/-- [I -/
def k8 : Class := { plain "[I" (some 0) with kind := .array 7 .int, interfaces := #[3, 4], accessFlags := 1041 }

def heap : Heap := #[]
def classes : Array Class := #[k0, k1, k2, k3, k4, k5, k6, k7, k8]
def interned : List (Array UInt16 × Addr) := []
def slotsUsed : Nat := 0
def theMethod : MethodId := ⟨1, 1⟩
def args0 : Array Value := #[.int 5, .int 1, .int 7, .int 2]
def aboutOver (below : List Frame) : State where
  vm := { classes := classes, interned := interned.toArray }
  heap := heap
  slotsUsed := slotsUsed
  threads := #[{ frames := .invoking theMethod args0 :: below }]
def below0 : List Frame := [.native { method := ⟨0, 0⟩, args := #[] }]
def about1 : State := aboutOver below0
def p0 : Program := .bare "" "" ""
def e0 : Env := launch0.env 0 0 0
theorem w_frames : about1.frames = Frame.invoking theMethod args0 :: below0 := rfl
set_option maxRecDepth 65536 in
theorem w_args : argsFit about1.vm theMethod args0 = true := by decide +kernel
set_option maxRecDepth 65536 in
theorem w_heap : heapFits about1 = true := by decide +kernel
set_option maxRecDepth 65536 in
theorem w_runnable : about1.curStatus? = some .runnable := by decide +kernel
set_option maxRecDepth 65536 in
theorem w_alone : about1.alone = true := by decide +kernel
set_option maxRecDepth 65536 in
theorem w_named : about1.methodNamed? x = some theMethod := by decide +kernel
set_option maxRecDepth 65536 in
theorem w_hears : about1.hears theMethod below0 = true := by decide +kernel
set_option maxRecDepth 65536 in
theorem w_ripe : about1.ripe theMethod args0 below0 = true := by decide +kernel
theorem w_running : about1.status = .running := rfl
set_option maxRecDepth 65536 in
theorem w_room : about1.hasRoom e0.platform room_1 = true :=
  launch0.hasRoom_least _ room_1 (by decide +kernel) (by decide +kernel) (by decide +kernel) (by decide +kernel) (by decide +kernel) (by decide +kernel)
theorem allAtoms_all (ts : List Jvm.Cond) (a : Array Jvm.Value) (st : Jvm.State) : (allAtoms ts).before a st = ts.all (fun c => c.before a st) := by
  induction ts with
  | nil => rfl
  | cons c t ih =>
    show (Jvm.Cond.and c (allAtoms t)).before a st = _
    rw [Jvm.Cond.before_and, ih, List.all_cons]
def words1 : List Jvm.Cond := Jvm.Cond.code x code maxLocals ret :: tables_1
/-- a 'code' word, met by the world's own term for the bytes: nothing is compared byte by byte -/
theorem code_word {y : MethodName} {bytes : ByteArray} {mx : Nat} {rt : Option FieldType} {a : Array Value} {s : State} {m : MethodId} {meth : Method} {c : Code} (h1 : s.methodNamed? y = some m) (h2 : s.vm.method? m = some meth) (h3 : meth.code = some c) (h4 : c.code = bytes)
    (h5 : (c.maxLocals == mx && c.exceptionTable.isEmpty && decide (c.maxStack ≤ mostOperands) && decide (meth.sig.returnType = rt) && !meth.locks && decide (parseMethodDescriptor y.desc = some meth.sig)) = true) : (Jvm.Cond.code y bytes mx rt).before a s = true := by
  simp only [Bool.and_eq_true, beq_iff_eq, Bool.not_eq_true', decide_eq_true_eq] at h5
  obtain ⟨⟨⟨⟨⟨g1, g2⟩, g3⟩, g4⟩, g5⟩, g6⟩ := h5
  simp [Cond.before, Cond.holds, Cond.value, h1, h2, h3, h4, g1, g2, g3, g4, g5, g6]
def isCode : Jvm.Cond → Bool
  | .code _ _ _ _ => true
  | _ => false
theorem all_split {L : List Jvm.Cond} {P : Jvm.Cond → Bool} (h1 : L.all (fun c => isCode c || P c) = true) (h2 : ∀ c ∈ L.filter isCode, P c = true) : L.all P = true := by
  refine List.all_eq_true.mpr fun c hc => ?_
  have h := List.all_eq_true.mp h1 c hc
  rcases Bool.eq_false_or_eq_true (isCode c) with hi | hi
  · exact h2 c (List.mem_filter.mpr ⟨hc, hi⟩)
  · simpa [hi] using h
set_option maxRecDepth 65536 in
theorem w_c0 : (Jvm.Cond.code x code maxLocals ret).before args0 about1 = true := code_word (m := ⟨1, 1⟩) (meth := k1m1) (c := k1c1) (by decide +kernel) rfl rfl rfl (by decide +kernel)
set_option maxRecDepth 65536 in
theorem w_c1 : (Jvm.Cond.code ({ cls := "com/example/axislint/axislint/schema/XmlNames", name := "isNameStartChar", desc := "(I)Z" } : Jvm.MethodName) prog_94_method_4_code (1 : Nat) (Option.some Jvm.ClassFile.FieldType.boolean)).before args0 about1 = true := code_word (m := ⟨2, 1⟩) (meth := k2m1) (c := k2c1) (by decide +kernel) rfl rfl rfl (by decide +kernel)
set_option maxRecDepth 65536 in
theorem w_c2 : (Jvm.Cond.code ({ cls := "com/example/axislint/axislint/schema/XmlNamesIsNameStartCharPinLaw", name := "expected", desc := "(I)Z" } : Jvm.MethodName) method_3_code (2 : Nat) (Option.some Jvm.ClassFile.FieldType.boolean)).before args0 about1 = true := code_word (m := ⟨1, 2⟩) (meth := k1m2) (c := k1c2) (by decide +kernel) rfl rfl rfl (by decide +kernel)
def codes1 : List Jvm.Cond := [Jvm.Cond.code x code maxLocals ret, Jvm.Cond.code ({ cls := "com/example/axislint/axislint/schema/XmlNames", name := "isNameStartChar", desc := "(I)Z" } : Jvm.MethodName) prog_94_method_4_code (1 : Nat) (Option.some Jvm.ClassFile.FieldType.boolean), Jvm.Cond.code ({ cls := "com/example/axislint/axislint/schema/XmlNamesIsNameStartCharPinLaw", name := "expected", desc := "(I)Z" } : Jvm.MethodName) method_3_code (2 : Nat) (Option.some Jvm.ClassFile.FieldType.boolean)]
set_option maxRecDepth 65536 in
theorem codes_eq : words1.filter isCode = codes1 := rfl
theorem w_codes : ∀ c ∈ words1.filter isCode, c.before args0 about1 = true := by
  rw [codes_eq]
  intro c hc
  simp only [codes1, List.mem_cons, List.not_mem_nil, or_false] at hc
  rcases hc with rfl | rfl | rfl
  · exact w_c0
  · exact w_c1
  · exact w_c2
set_option maxRecDepth 65536 in
theorem w_t1 : (words1.take 24).all (fun c => isCode c || c.before args0 about1) = true := by decide +kernel
set_option maxRecDepth 65536 in
theorem w_t2 : (words1.drop 24).all (fun c => isCode c || c.before args0 about1) = true := by decide +kernel
theorem w_tables : (allAtoms (Jvm.Cond.code x code maxLocals ret :: tables_1)).before args0 about1 = true := by
  rw [allAtoms_all]
  show words1.all (fun c => c.before args0 about1) = true
  refine all_split ?_ w_codes
  rw [← List.take_append_drop 24 words1, List.all_append, w_t1, w_t2]
  rfl
set_option maxRecDepth 65536 in
theorem w_case : (Jvm.Cond.and given_1 narrow_1).before args0 about1 = true := by decide +kernel
theorem w_applies : (headSpec (Jvm.Cond.code x code maxLocals ret :: tables_1) room_1).applies x e0.platform about1 = true :=
  (Spec.applies_iff w_frames).mpr ⟨w_running, w_runnable, w_alone, w_named, w_hears, w_ripe, w_room, w_tables⟩
theorem atStart : AtStart classFile x code maxLocals ret World_1 tables_1 room_1 Calls_1 rest_1 Pre_1 launch0 p0 e0 about1 theMethod args0 below0 :=
  ⟨lists_1, trivial, launch0.admits_env _ _ _, launch0.least_env, fairChoices_fair.cas, fairChoices_fair.clock, w_frames, w_args, w_heap, w_applies, trivial, trivial, w_case⟩
end start1
theorem witness_1 : WitnessClaimed_1 := ⟨start1.p0, start1.e0, start1.about1, start1.theMethod, start1.args0, start1.below0, start1.atStart⟩
end Jvm.Pilot.@@N@@
