import JvmDerived
import JvmDerived.Pilot.@@N@@Statement
import JvmDerived.Pilot.@@N@@Code
set_option linter.unusedVariables false
set_option linter.unusedSimpArgs false
@@BLOCK:NumsL.lean.txt@@
namespace Jvm.RoadKit
open Sem ClassFile Op Lib Jvm.Stand Jvm.Free Jvm.LawKit
section New
variable {p : Program} {l : Launch} {e : Env} {R : Room} {s : State} {m : MethodId} {args : Array Value} {below : List Frame} {meth : Method} {c : Code} {T : State} {locs : List Loc} {cells slots : Nat}
theorem retI (X : Stand p l e R s m args below meth c T locs cells slots) (hx : p.tables.exec = Jvm.exec) {pc : Nat} {Ls : Array Slot} {z : Int32} {rest : List Value} (hret : meth.sig.returnType = some .int) (hd : decode c.code pc = .ok (.ireturn, 1)) {fs : List Frame}
    (hl : ∀ (f : JFrame) (acts : List Action), f.method = m → f.locked = none → f.entered = [] → (doReturn e (T.setTop f) acts (some (.int z))).1 = T.setFrames fs) : Steps p.tables e below (T.setTop (mkF m pc Ls (.int z :: rest))) (T.setFrames fs) := by
  have hm' : T.vm.method? m = some meth := X.method'
  have hn : narrow .int (.int z) = .int z := rfl
  show Steps p.tables e below (T.setTop { method := m, pc := pc, locals := Ls, stack := _ :: rest, locked := none }) _
  jvm_step X.here [X.here.top, hx, hd, hm', hret, hn]
  first | (intro acts; rw [hl _ acts rfl rfl rfl]) | rw [hl _ _ rfl rfl rfl]
  exact Steps.refl _
end New
end Jvm.RoadKit
namespace Jvm.Pilot.@@N@@
open Jvm Jvm.ClassFile Sem Op Lib Jvm.Free Jvm.Stand Jvm.LawKit Jvm.RoadKit Bundle Jvm.Pilot.@@N@@.Jvm.D
theorem d1_0 : decode prog_28_method_2_code 0 = .ok (.iconst 2, 1) := by decide +kernel
theorem d1_1 : decode prog_28_method_2_code 1 = .ok (.iload_n 0, 1) := by decide +kernel
theorem d1_2 : decode prog_28_method_2_code 2 = .ok (.imul, 1) := by decide +kernel
theorem d1_3 : decode prog_28_method_2_code 3 = .ok (.iload_n 1, 1) := by decide +kernel
theorem d1_4 : decode prog_28_method_2_code 4 = .ok (.ifCond .eq 7, 3) := by decide +kernel
theorem d1_7 : decode prog_28_method_2_code 7 = .ok (.iconst 1, 1) := by decide +kernel
theorem d1_8 : decode prog_28_method_2_code 8 = .ok (.goto 4, 3) := by decide +kernel
theorem d1_11 : decode prog_28_method_2_code 11 = .ok (.iconst 0, 1) := by decide +kernel
theorem d1_12 : decode prog_28_method_2_code 12 = .ok (.iadd, 1) := by decide +kernel
theorem d1_13 : decode prog_28_method_2_code 13 = .ok (.ireturn, 1) := by decide +kernel
theorem pn_1 : plainName "com/example/libsubsume/libsubsume/core/NormalForms" = true := by first | (simp [plainName, overriddenIn]; done) | decide +kernel
def f1_12 (x0 : Int32) (x1 : Int32) (y0 : Int32) (y1 : Int32) : Int32 := (y1 + y0)
theorem b1_12 {p : Program} {l : Launch} {e : Env} {R : Room} {s : State} {m : MethodId} {args : Array Value} {below : List Frame} {meth : Method} {c : Code} {T : State} {locs : List Loc} {cells slots : Nat} (X : Stand p l e R s m args below meth c T locs cells slots) (hx : p.tables.exec = Jvm.exec) (hby : c.code = prog_28_method_2_code) (hown : s.vm.findClass "com/example/libsubsume/libsubsume/core/NormalForms" = some m.cls) (hret : meth.sig.returnType = some .int) {fs : List Frame} {z : Int32} (hl : ∀ (f : JFrame) (acts : List Action), f.method = m → f.locked = none → f.entered = [] → (doReturn e (T.setTop f) acts (some (.int z))).1 = T.setFrames fs) (x0 : Int32) (x1 : Int32) (y0 : Int32) (y1 : Int32) (hz : f1_12 x0 x1 y0 y1 = z) :
    Steps p.tables e below (T.setTop (mkF m 12 #[.val (.int x0), .val (.int x1)] [(.int y0), (.int y1)])) (T.setFrames fs) := by
  unfold f1_12 at hz
  refine XS.iadd X.here hx rfl (hb hby d1_12) rfl ?_
  show Steps p.tables e below (T.setTop (mkF m 13 #[.val (.int x0), .val (.int x1)] [(.int (y1 + y0))])) _
  subst hz
  exact retI X hx hret (hb hby d1_13) hl
def f1_0 (x0 : Int32) (x1 : Int32) : Int32 := if x1 = (0 : Int32) then f1_12 x0 x1 (0 : Int32) ((2 : Int32) * x0) else f1_12 x0 x1 (1 : Int32) ((2 : Int32) * x0)
theorem b1_0 {p : Program} {l : Launch} {e : Env} {R : Room} {s : State} {m : MethodId} {args : Array Value} {below : List Frame} {meth : Method} {c : Code} {T : State} {locs : List Loc} {cells slots : Nat} (X : Stand p l e R s m args below meth c T locs cells slots) (hx : p.tables.exec = Jvm.exec) (hby : c.code = prog_28_method_2_code) (hown : s.vm.findClass "com/example/libsubsume/libsubsume/core/NormalForms" = some m.cls) (hret : meth.sig.returnType = some .int) {fs : List Frame} {z : Int32} (hl : ∀ (f : JFrame) (acts : List Action), f.method = m → f.locked = none → f.entered = [] → (doReturn e (T.setTop f) acts (some (.int z))).1 = T.setFrames fs) (x0 : Int32) (x1 : Int32) (hz : f1_0 x0 x1 = z) :
    Steps p.tables e below (T.setTop (mkF m 0 #[.val (.int x0), .val (.int x1)] [])) (T.setFrames fs) := by
  unfold f1_0 at hz
  refine XS.iconst X.here hx rfl (hb hby d1_0) ?_
  show Steps p.tables e below (T.setTop (mkF m 1 #[.val (.int x0), .val (.int x1)] [(.int (2 : Int32))])) _
  refine XS.iloadN X.here hx rfl (hb hby d1_1) rfl ?_
  show Steps p.tables e below (T.setTop (mkF m 2 #[.val (.int x0), .val (.int x1)] [(.int x0), (.int (2 : Int32))])) _
  refine XS.imul X.here hx rfl (hb hby d1_2) rfl ?_
  show Steps p.tables e below (T.setTop (mkF m 3 #[.val (.int x0), .val (.int x1)] [(.int ((2 : Int32) * x0))])) _
  refine XS.iloadN X.here hx rfl (hb hby d1_3) rfl ?_
  show Steps p.tables e below (T.setTop (mkF m 4 #[.val (.int x0), .val (.int x1)] [(.int x1), (.int ((2 : Int32) * x0))])) _
  by_cases h4 : x1 = (0 : Int32)
  · rw [if_pos h4] at hz
    refine XS.ifYes X.here hx rfl (pc0 := 4) (pc' := 11) rfl (hb hby d1_4) rfl ((if0 _ _).trans (teq h4).1) (by decide) (by decide) ?_
    show Steps p.tables e below (T.setTop (mkF m 11 #[.val (.int x0), .val (.int x1)] [(.int ((2 : Int32) * x0))])) _
    refine XS.iconst X.here hx rfl (hb hby d1_11) ?_
    show Steps p.tables e below (T.setTop (mkF m 12 #[.val (.int x0), .val (.int x1)] [(.int (0 : Int32)), (.int ((2 : Int32) * x0))])) _
    exact b1_12 X hx hby hown hret hl x0 x1 (0 : Int32) ((2 : Int32) * x0)  hz
  · rw [if_neg h4] at hz
    refine XS.ifNo X.here hx rfl (hb hby d1_4) rfl ((if0 _ _).trans (feq h4).1) ?_
    show Steps p.tables e below (T.setTop (mkF m 7 #[.val (.int x0), .val (.int x1)] [(.int ((2 : Int32) * x0))])) _
    refine XS.iconst X.here hx rfl (hb hby d1_7) ?_
    show Steps p.tables e below (T.setTop (mkF m 8 #[.val (.int x0), .val (.int x1)] [(.int (1 : Int32)), (.int ((2 : Int32) * x0))])) _
    refine XS.goto X.here hx rfl (pc0 := 8) (pc' := 12) rfl (hb hby d1_8) (by decide) (by decide) ?_
    show Steps p.tables e below (T.setTop (mkF m 12 #[.val (.int x0), .val (.int x1)] [(.int (1 : Int32)), (.int ((2 : Int32) * x0))])) _
    exact b1_12 X hx hby hown hret hl x0 x1 (1 : Int32) ((2 : Int32) * x0)  hz
theorem ef_1 (m : MethodId) (p1 : Int32) (p2 : Int32) : entryFrame m #[(.int p1), (.int p2)] 2 = mkF m 0 #[.val (.int p1), .val (.int p2)] [] := by first | (simp [entryFrame, mkF, argsToLocals, Value.category]; done) | rfl
def Q1 (p1 : Int32) (p2 : Int32) (h0 : Heap) (n0 : Nat) (v : Option Value) (h : Heap) (L : List Loc) : Prop := v = some (.int (f1_0 p1 p2)) ∧ Fr n0 L ∧ h = h0
set_option maxRecDepth 65536 in
set_option maxHeartbeats 40000000 in
theorem rm1 (l : Launch) (Z : State) (a0 : Array Value) (hw : ∀ d ∈ tables_1, d.before a0 Z = true) (ws : List Jvm.Cond) (p1 : Int32) (p2 : Int32) (h0 : Heap) (n0 : Nat) :
    MetFree l (⟨"com/example/libsubsume/libsubsume/core/NormalForms", "expression", "(IZ)I"⟩ : MethodName) (head1 (Jvm.Cond.code (⟨"com/example/libsubsume/libsubsume/core/NormalForms", "expression", "(IZ)I"⟩ : MethodName) prog_28_method_2_code 2 (some .int) :: ws) ({ frames := 0, cells := 0, slots := 0, locals := 0 } : Room)) (fun a U => a = #[(.int p1), (.int p2)] ∧ Z.Warmed39 U.vm ∧ U.heap = h0) (fun _ _ _ _ _ => True) (fun _ U o U' => ∃ v L, o = .returned v ∧ Q1 p1 p2 h0 n0 v U'.heap L ∧ FrameEnd U o U' L ({ frames := 0, cells := 0, slots := 0, locals := 0 } : Room).cells ({ frames := 0, cells := 0, slots := 0, locals := 0 } : Room).slots) := by
  refine MetFree.of_bodySF (plainFor_of_name pn_1) hisR ?_
  intro p e s m args below meth c s₁ Bd hml0 hP hK
  obtain ⟨rfl, hZ, hh⟩ := hP
  have hx := Bd.exec
  have hby := Bd.bytes
  have hml : c.maxLocals = 2 := hml0
  have hown : s.vm.findClass "com/example/libsubsume/libsubsume/core/NormalForms" = some m.cls := findClass_of_methodNamed Bd.named
  have hnm := (name_of_methodNamed Bd.named Bd.method).1
  have X0 : Stand p l e ({ frames := 0, cells := 0, slots := 0, locals := 0 } : Room) s m #[(.int p1), (.int p2)] below meth c s₁ [] 0 0 := Stand.of_body Bd
  have e0 : s₁.heap = h0 := by rw [← hh, Bd.state]; rfl
  have N0 := Fr.nil n0
  have pre0 : ∀ t, Steps p.tables e below (s₁.setTop (mkF m 0 #[.val (.int p1), .val (.int p2)] [])) t → Steps p.tables e below (s₁.setTop (entryFrame m #[(.int p1), (.int p2)] 2)) t := fun t k => castTop (ef_1 m p1 p2) k
  obtain ⟨fs, hr, hrun, hended, hW, hsame⟩ := X0.leave (v := some (.int (f1_0 p1 p2))) (fun h => by rw [Bd.returns] at h; cases h)
  refine ⟨_, _, pre0 _ ?_, hrun, hended, _, _, rfl, ?_, ⟨_, rfl⟩, hW, hsame.mono (by decide) (by decide)⟩
  · exact b1_0 X0 hx hby hown Bd.returns hr p1 p2 rfl
  · show Q1 p1 p2 h0 n0 _ s₁.heap _
    rw [e0]
    exact ⟨rfl, N0, rfl⟩
theorem d2_0 : decode prog_28_method_4_code 0 = .ok (.iload_n 0, 1) := by decide +kernel
theorem d2_1 : decode prog_28_method_4_code 1 = .ok (.iconst 2, 1) := by decide +kernel
theorem d2_2 : decode prog_28_method_4_code 2 = .ok (.idiv, 1) := by decide +kernel
theorem d2_3 : decode prog_28_method_4_code 3 = .ok (.ireturn, 1) := by decide +kernel
theorem pn_2 : plainName "com/example/libsubsume/libsubsume/core/NormalForms" = true := by first | (simp [plainName, overriddenIn]; done) | decide +kernel
def f2_0 (x0 : Int32) : Int32 := (x0 / (2 : Int32))
theorem b2_0 {p : Program} {l : Launch} {e : Env} {R : Room} {s : State} {m : MethodId} {args : Array Value} {below : List Frame} {meth : Method} {c : Code} {T : State} {locs : List Loc} {cells slots : Nat} (X : Stand p l e R s m args below meth c T locs cells slots) (hx : p.tables.exec = Jvm.exec) (hby : c.code = prog_28_method_4_code) (hown : s.vm.findClass "com/example/libsubsume/libsubsume/core/NormalForms" = some m.cls) (hret : meth.sig.returnType = some .int) {fs : List Frame} {z : Int32} (hl : ∀ (f : JFrame) (acts : List Action), f.method = m → f.locked = none → f.entered = [] → (doReturn e (T.setTop f) acts (some (.int z))).1 = T.setFrames fs) (x0 : Int32) (hz : f2_0 x0 = z) :
    Steps p.tables e below (T.setTop (mkF m 0 #[.val (.int x0)] [])) (T.setFrames fs) := by
  unfold f2_0 at hz
  refine XS.iloadN X.here hx rfl (hb hby d2_0) rfl ?_
  show Steps p.tables e below (T.setTop (mkF m 1 #[.val (.int x0)] [(.int x0)])) _
  refine XS.iconst X.here hx rfl (hb hby d2_1) ?_
  show Steps p.tables e below (T.setTop (mkF m 2 #[.val (.int x0)] [(.int (2 : Int32)), (.int x0)])) _
  refine XS.idiv X.here hx rfl (hb hby d2_2) rfl (by decide) ?_
  show Steps p.tables e below (T.setTop (mkF m 3 #[.val (.int x0)] [(.int (x0 / (2 : Int32)))])) _
  subst hz
  exact retI X hx hret (hb hby d2_3) hl
theorem ef_2 (m : MethodId) (p1 : Int32) : entryFrame m #[(.int p1)] 1 = mkF m 0 #[.val (.int p1)] [] := by first | (simp [entryFrame, mkF, argsToLocals, Value.category]; done) | rfl
def Q2 (p1 : Int32) (h0 : Heap) (n0 : Nat) (v : Option Value) (h : Heap) (L : List Loc) : Prop := v = some (.int (f2_0 p1)) ∧ Fr n0 L ∧ h = h0
set_option maxRecDepth 65536 in
set_option maxHeartbeats 40000000 in
theorem rm2 (l : Launch) (Z : State) (a0 : Array Value) (hw : ∀ d ∈ tables_1, d.before a0 Z = true) (ws : List Jvm.Cond) (p1 : Int32) (h0 : Heap) (n0 : Nat) :
    MetFree l (⟨"com/example/libsubsume/libsubsume/core/NormalForms", "property", "(I)I"⟩ : MethodName) (head1 (Jvm.Cond.code (⟨"com/example/libsubsume/libsubsume/core/NormalForms", "property", "(I)I"⟩ : MethodName) prog_28_method_4_code 1 (some .int) :: ws) ({ frames := 0, cells := 0, slots := 0, locals := 0 } : Room)) (fun a U => a = #[(.int p1)] ∧ Z.Warmed39 U.vm ∧ U.heap = h0) (fun _ _ _ _ _ => True) (fun _ U o U' => ∃ v L, o = .returned v ∧ Q2 p1 h0 n0 v U'.heap L ∧ FrameEnd U o U' L ({ frames := 0, cells := 0, slots := 0, locals := 0 } : Room).cells ({ frames := 0, cells := 0, slots := 0, locals := 0 } : Room).slots) := by
  refine MetFree.of_bodySF (plainFor_of_name pn_2) hisR ?_
  intro p e s m args below meth c s₁ Bd hml0 hP hK
  obtain ⟨rfl, hZ, hh⟩ := hP
  have hx := Bd.exec
  have hby := Bd.bytes
  have hml : c.maxLocals = 1 := hml0
  have hown : s.vm.findClass "com/example/libsubsume/libsubsume/core/NormalForms" = some m.cls := findClass_of_methodNamed Bd.named
  have hnm := (name_of_methodNamed Bd.named Bd.method).1
  have X0 : Stand p l e ({ frames := 0, cells := 0, slots := 0, locals := 0 } : Room) s m #[(.int p1)] below meth c s₁ [] 0 0 := Stand.of_body Bd
  have e0 : s₁.heap = h0 := by rw [← hh, Bd.state]; rfl
  have N0 := Fr.nil n0
  have pre0 : ∀ t, Steps p.tables e below (s₁.setTop (mkF m 0 #[.val (.int p1)] [])) t → Steps p.tables e below (s₁.setTop (entryFrame m #[(.int p1)] 1)) t := fun t k => castTop (ef_2 m p1) k
  obtain ⟨fs, hr, hrun, hended, hW, hsame⟩ := X0.leave (v := some (.int (f2_0 p1))) (fun h => by rw [Bd.returns] at h; cases h)
  refine ⟨_, _, pre0 _ ?_, hrun, hended, _, _, rfl, ?_, ⟨_, rfl⟩, hW, hsame.mono (by decide) (by decide)⟩
  · exact b2_0 X0 hx hby hown Bd.returns hr p1 rfl
  · show Q2 p1 h0 n0 _ s₁.heap _
    rw [e0]
    exact ⟨rfl, N0, rfl⟩
theorem d3_0 : decode prog_28_method_5_code 0 = .ok (.iload_n 0, 1) := by decide +kernel
theorem d3_1 : decode prog_28_method_5_code 1 = .ok (.iconst 2, 1) := by decide +kernel
theorem d3_2 : decode prog_28_method_5_code 2 = .ok (.irem, 1) := by decide +kernel
theorem d3_3 : decode prog_28_method_5_code 3 = .ok (.iconst 1, 1) := by decide +kernel
theorem d3_4 : decode prog_28_method_5_code 4 = .ok (.if_icmp .ne 7, 3) := by decide +kernel
theorem d3_7 : decode prog_28_method_5_code 7 = .ok (.iconst 1, 1) := by decide +kernel
theorem d3_8 : decode prog_28_method_5_code 8 = .ok (.goto 4, 3) := by decide +kernel
theorem d3_11 : decode prog_28_method_5_code 11 = .ok (.iconst 0, 1) := by decide +kernel
theorem d3_12 : decode prog_28_method_5_code 12 = .ok (.ireturn, 1) := by decide +kernel
theorem pn_3 : plainName "com/example/libsubsume/libsubsume/core/NormalForms" = true := by first | (simp [plainName, overriddenIn]; done) | decide +kernel
def f3_12 (x0 : Int32) (y0 : Int32) : Int32 := nar .boolean y0
theorem b3_12 {p : Program} {l : Launch} {e : Env} {R : Room} {s : State} {m : MethodId} {args : Array Value} {below : List Frame} {meth : Method} {c : Code} {T : State} {locs : List Loc} {cells slots : Nat} (X : Stand p l e R s m args below meth c T locs cells slots) (hx : p.tables.exec = Jvm.exec) (hby : c.code = prog_28_method_5_code) (hown : s.vm.findClass "com/example/libsubsume/libsubsume/core/NormalForms" = some m.cls) (hret : meth.sig.returnType = some .boolean) {fs : List Frame} {z : Int32} (hl : ∀ (f : JFrame) (acts : List Action), f.method = m → f.locked = none → f.entered = [] → (doReturn e (T.setTop f) acts (some (.int z))).1 = T.setFrames fs) (x0 : Int32) (y0 : Int32) (hz : f3_12 x0 y0 = z) :
    Steps p.tables e below (T.setTop (mkF m 12 #[.val (.int x0)] [(.int y0)])) (T.setFrames fs) := by
  unfold f3_12 at hz
  subst hz
  exact retN X hx hret (by simp) (hb hby d3_12) hl
def f3_0 (x0 : Int32) : Int32 := if (x0 - (x0 / (2 : Int32)) * (2 : Int32)) = (1 : Int32) then f3_12 x0 (1 : Int32) else f3_12 x0 (0 : Int32)
theorem b3_0 {p : Program} {l : Launch} {e : Env} {R : Room} {s : State} {m : MethodId} {args : Array Value} {below : List Frame} {meth : Method} {c : Code} {T : State} {locs : List Loc} {cells slots : Nat} (X : Stand p l e R s m args below meth c T locs cells slots) (hx : p.tables.exec = Jvm.exec) (hby : c.code = prog_28_method_5_code) (hown : s.vm.findClass "com/example/libsubsume/libsubsume/core/NormalForms" = some m.cls) (hret : meth.sig.returnType = some .boolean) {fs : List Frame} {z : Int32} (hl : ∀ (f : JFrame) (acts : List Action), f.method = m → f.locked = none → f.entered = [] → (doReturn e (T.setTop f) acts (some (.int z))).1 = T.setFrames fs) (x0 : Int32) (hz : f3_0 x0 = z) :
    Steps p.tables e below (T.setTop (mkF m 0 #[.val (.int x0)] [])) (T.setFrames fs) := by
  unfold f3_0 at hz
  refine XS.iloadN X.here hx rfl (hb hby d3_0) rfl ?_
  show Steps p.tables e below (T.setTop (mkF m 1 #[.val (.int x0)] [(.int x0)])) _
  refine XS.iconst X.here hx rfl (hb hby d3_1) ?_
  show Steps p.tables e below (T.setTop (mkF m 2 #[.val (.int x0)] [(.int (2 : Int32)), (.int x0)])) _
  refine XS.irem X.here hx rfl (hb hby d3_2) rfl (by decide) ?_
  show Steps p.tables e below (T.setTop (mkF m 3 #[.val (.int x0)] [(.int (x0 - (x0 / (2 : Int32)) * (2 : Int32)))])) _
  refine XS.iconst X.here hx rfl (hb hby d3_3) ?_
  show Steps p.tables e below (T.setTop (mkF m 4 #[.val (.int x0)] [(.int (1 : Int32)), (.int (x0 - (x0 / (2 : Int32)) * (2 : Int32)))])) _
  by_cases h4 : (x0 - (x0 / (2 : Int32)) * (2 : Int32)) = (1 : Int32)
  · rw [if_pos h4] at hz
    refine XS.icmpNo X.here hx rfl (hb hby d3_4) rfl (teq h4).2 ?_
    show Steps p.tables e below (T.setTop (mkF m 7 #[.val (.int x0)] [])) _
    refine XS.iconst X.here hx rfl (hb hby d3_7) ?_
    show Steps p.tables e below (T.setTop (mkF m 8 #[.val (.int x0)] [(.int (1 : Int32))])) _
    refine XS.goto X.here hx rfl (pc0 := 8) (pc' := 12) rfl (hb hby d3_8) (by decide) (by decide) ?_
    show Steps p.tables e below (T.setTop (mkF m 12 #[.val (.int x0)] [(.int (1 : Int32))])) _
    exact b3_12 X hx hby hown hret hl x0 (1 : Int32)  hz
  · rw [if_neg h4] at hz
    refine XS.icmpYes X.here hx rfl (pc0 := 4) (pc' := 11) rfl (hb hby d3_4) rfl (feq h4).2 (by decide) (by decide) ?_
    show Steps p.tables e below (T.setTop (mkF m 11 #[.val (.int x0)] [])) _
    refine XS.iconst X.here hx rfl (hb hby d3_11) ?_
    show Steps p.tables e below (T.setTop (mkF m 12 #[.val (.int x0)] [(.int (0 : Int32))])) _
    exact b3_12 X hx hby hown hret hl x0 (0 : Int32)  hz
theorem ef_3 (m : MethodId) (p1 : Int32) : entryFrame m #[(.int p1)] 1 = mkF m 0 #[.val (.int p1)] [] := by first | (simp [entryFrame, mkF, argsToLocals, Value.category]; done) | rfl
def Q3 (p1 : Int32) (h0 : Heap) (n0 : Nat) (v : Option Value) (h : Heap) (L : List Loc) : Prop := v = some (.int (f3_0 p1)) ∧ Fr n0 L ∧ h = h0
set_option maxRecDepth 65536 in
set_option maxHeartbeats 40000000 in
theorem rm3 (l : Launch) (Z : State) (a0 : Array Value) (hw : ∀ d ∈ tables_1, d.before a0 Z = true) (ws : List Jvm.Cond) (p1 : Int32) (h0 : Heap) (n0 : Nat) :
    MetFree l (⟨"com/example/libsubsume/libsubsume/core/NormalForms", "isInverse", "(I)Z"⟩ : MethodName) (head1 (Jvm.Cond.code (⟨"com/example/libsubsume/libsubsume/core/NormalForms", "isInverse", "(I)Z"⟩ : MethodName) prog_28_method_5_code 1 (some .boolean) :: ws) ({ frames := 0, cells := 0, slots := 0, locals := 0 } : Room)) (fun a U => a = #[(.int p1)] ∧ Z.Warmed39 U.vm ∧ U.heap = h0) (fun _ _ _ _ _ => True) (fun _ U o U' => ∃ v L, o = .returned v ∧ Q3 p1 h0 n0 v U'.heap L ∧ FrameEnd U o U' L ({ frames := 0, cells := 0, slots := 0, locals := 0 } : Room).cells ({ frames := 0, cells := 0, slots := 0, locals := 0 } : Room).slots) := by
  refine MetFree.of_bodySF (plainFor_of_name pn_3) hisR ?_
  intro p e s m args below meth c s₁ Bd hml0 hP hK
  obtain ⟨rfl, hZ, hh⟩ := hP
  have hx := Bd.exec
  have hby := Bd.bytes
  have hml : c.maxLocals = 1 := hml0
  have hown : s.vm.findClass "com/example/libsubsume/libsubsume/core/NormalForms" = some m.cls := findClass_of_methodNamed Bd.named
  have hnm := (name_of_methodNamed Bd.named Bd.method).1
  have X0 : Stand p l e ({ frames := 0, cells := 0, slots := 0, locals := 0 } : Room) s m #[(.int p1)] below meth c s₁ [] 0 0 := Stand.of_body Bd
  have e0 : s₁.heap = h0 := by rw [← hh, Bd.state]; rfl
  have N0 := Fr.nil n0
  have pre0 : ∀ t, Steps p.tables e below (s₁.setTop (mkF m 0 #[.val (.int p1)] [])) t → Steps p.tables e below (s₁.setTop (entryFrame m #[(.int p1)] 1)) t := fun t k => castTop (ef_3 m p1) k
  obtain ⟨fs, hr, hrun, hended, hW, hsame⟩ := X0.leave (v := some (.int (f3_0 p1))) (fun h => by rw [Bd.returns] at h; cases h)
  refine ⟨_, _, pre0 _ ?_, hrun, hended, _, _, rfl, ?_, ⟨_, rfl⟩, hW, hsame.mono (by decide) (by decide)⟩
  · exact b3_0 X0 hx hby hown Bd.returns hr p1 rfl
  · show Q3 p1 h0 n0 _ s₁.heap _
    rw [e0]
    exact ⟨rfl, N0, rfl⟩
theorem d4_0 : decode prog_28_method_3_code 0 = .ok (.iload_n 0, 1) := by decide +kernel
theorem d4_1 : decode prog_28_method_3_code 1 = .ok (.iconst 1, 1) := by decide +kernel
theorem d4_2 : decode prog_28_method_3_code 2 = .ok (.ixor, 1) := by decide +kernel
theorem d4_3 : decode prog_28_method_3_code 3 = .ok (.ireturn, 1) := by decide +kernel
theorem pn_4 : plainName "com/example/libsubsume/libsubsume/core/NormalForms" = true := by first | (simp [plainName, overriddenIn]; done) | decide +kernel
def f4_0 (x0 : Int32) : Int32 := (x0 ^^^ (1 : Int32))
theorem b4_0 {p : Program} {l : Launch} {e : Env} {R : Room} {s : State} {m : MethodId} {args : Array Value} {below : List Frame} {meth : Method} {c : Code} {T : State} {locs : List Loc} {cells slots : Nat} (X : Stand p l e R s m args below meth c T locs cells slots) (hx : p.tables.exec = Jvm.exec) (hby : c.code = prog_28_method_3_code) (hown : s.vm.findClass "com/example/libsubsume/libsubsume/core/NormalForms" = some m.cls) (hret : meth.sig.returnType = some .int) {fs : List Frame} {z : Int32} (hl : ∀ (f : JFrame) (acts : List Action), f.method = m → f.locked = none → f.entered = [] → (doReturn e (T.setTop f) acts (some (.int z))).1 = T.setFrames fs) (x0 : Int32) (hz : f4_0 x0 = z) :
    Steps p.tables e below (T.setTop (mkF m 0 #[.val (.int x0)] [])) (T.setFrames fs) := by
  unfold f4_0 at hz
  refine XS.iloadN X.here hx rfl (hb hby d4_0) rfl ?_
  show Steps p.tables e below (T.setTop (mkF m 1 #[.val (.int x0)] [(.int x0)])) _
  refine XS.iconst X.here hx rfl (hb hby d4_1) ?_
  show Steps p.tables e below (T.setTop (mkF m 2 #[.val (.int x0)] [(.int (1 : Int32)), (.int x0)])) _
  refine XT.ixor X.here hx rfl (hb hby d4_2) rfl ?_
  show Steps p.tables e below (T.setTop (mkF m 3 #[.val (.int x0)] [(.int (x0 ^^^ (1 : Int32)))])) _
  subst hz
  exact retI X hx hret (hb hby d4_3) hl
theorem ef_4 (m : MethodId) (p1 : Int32) : entryFrame m #[(.int p1)] 1 = mkF m 0 #[.val (.int p1)] [] := by first | (simp [entryFrame, mkF, argsToLocals, Value.category]; done) | rfl
def Q4 (p1 : Int32) (h0 : Heap) (n0 : Nat) (v : Option Value) (h : Heap) (L : List Loc) : Prop := v = some (.int (f4_0 p1)) ∧ Fr n0 L ∧ h = h0
set_option maxRecDepth 65536 in
set_option maxHeartbeats 40000000 in
theorem rm4 (l : Launch) (Z : State) (a0 : Array Value) (hw : ∀ d ∈ tables_1, d.before a0 Z = true) (ws : List Jvm.Cond) (p1 : Int32) (h0 : Heap) (n0 : Nat) :
    MetFree l (⟨"com/example/libsubsume/libsubsume/core/NormalForms", "inverse", "(I)I"⟩ : MethodName) (head1 (Jvm.Cond.code (⟨"com/example/libsubsume/libsubsume/core/NormalForms", "inverse", "(I)I"⟩ : MethodName) prog_28_method_3_code 1 (some .int) :: ws) ({ frames := 0, cells := 0, slots := 0, locals := 0 } : Room)) (fun a U => a = #[(.int p1)] ∧ Z.Warmed39 U.vm ∧ U.heap = h0) (fun _ _ _ _ _ => True) (fun _ U o U' => ∃ v L, o = .returned v ∧ Q4 p1 h0 n0 v U'.heap L ∧ FrameEnd U o U' L ({ frames := 0, cells := 0, slots := 0, locals := 0 } : Room).cells ({ frames := 0, cells := 0, slots := 0, locals := 0 } : Room).slots) := by
  refine MetFree.of_bodySF (plainFor_of_name pn_4) hisR ?_
  intro p e s m args below meth c s₁ Bd hml0 hP hK
  obtain ⟨rfl, hZ, hh⟩ := hP
  have hx := Bd.exec
  have hby := Bd.bytes
  have hml : c.maxLocals = 1 := hml0
  have hown : s.vm.findClass "com/example/libsubsume/libsubsume/core/NormalForms" = some m.cls := findClass_of_methodNamed Bd.named
  have hnm := (name_of_methodNamed Bd.named Bd.method).1
  have X0 : Stand p l e ({ frames := 0, cells := 0, slots := 0, locals := 0 } : Room) s m #[(.int p1)] below meth c s₁ [] 0 0 := Stand.of_body Bd
  have e0 : s₁.heap = h0 := by rw [← hh, Bd.state]; rfl
  have N0 := Fr.nil n0
  have pre0 : ∀ t, Steps p.tables e below (s₁.setTop (mkF m 0 #[.val (.int p1)] [])) t → Steps p.tables e below (s₁.setTop (entryFrame m #[(.int p1)] 1)) t := fun t k => castTop (ef_4 m p1) k
  obtain ⟨fs, hr, hrun, hended, hW, hsame⟩ := X0.leave (v := some (.int (f4_0 p1))) (fun h => by rw [Bd.returns] at h; cases h)
  refine ⟨_, _, pre0 _ ?_, hrun, hended, _, _, rfl, ?_, ⟨_, rfl⟩, hW, hsame.mono (by decide) (by decide)⟩
  · exact b4_0 X0 hx hby hown Bd.returns hr p1 rfl
  · show Q4 p1 h0 n0 _ s₁.heap _
    rw [e0]
    exact ⟨rfl, N0, rfl⟩
theorem own_nar (x : Int32) : nar .boolean x = x &&& 1 := rfl
theorem own_nar1 : nar .boolean (1 : Int32) = 1 := by decide
theorem own_nar0 : nar .boolean (0 : Int32) = 0 := by decide
theorem own_10 : ((1 : Int32) = 0) = False := by decide
theorem own_00 : ((0 : Int32) = 0) = True := by decide
theorem own_i1 : (1 : Int32).toInt = 1 := by decide
theorem own_i0 : (0 : Int32).toInt = 0 := by decide
theorem own_i2 : (2 : Int32).toInt = 2 := by decide
theorem own_q (p : Int32) : 0 ≤ (p &&& (1073741823 : Int32)).toInt ∧ (p &&& (1073741823 : Int32)).toInt < 2 ^ 30 := by
  rw [Jvm.Kit.i32_mask p 1073741823 (k := 30) (by decide) (by decide)]; omega
section
variable {q : Int32} (h : 0 ≤ q.toInt ∧ q.toInt < 2 ^ 30)
theorem own_2q : 0 ≤ q.toInt ∧ q.toInt < 2 ^ 30 → ((2 : Int32) * q).toInt = 2 * q.toInt := fun h => by
  rw [Jvm.Kit.i32_mul (by rw [own_i2]; omega) (by rw [own_i2]; omega), own_i2]
theorem own_e0 : f1_0 q 0 = 2 * q := by
  unfold f1_0 f1_12; rw [if_pos rfl]; simp
theorem own_e1 : f1_0 q 1 = 2 * q + 1 := by
  unfold f1_0 f1_12; rw [if_neg (by decide)]
theorem own_t0 : 0 ≤ q.toInt ∧ q.toInt < 2 ^ 30 → (f1_0 q 0).toInt = 2 * q.toInt := fun h => by rw [own_e0, own_2q h]
theorem own_t1 : 0 ≤ q.toInt ∧ q.toInt < 2 ^ 30 → (f1_0 q 1).toInt = 2 * q.toInt + 1 := fun h => by
  rw [own_e1, Jvm.Kit.i32_add (by rw [own_2q h, own_i1]; omega) (by rw [own_2q h, own_i1]; omega), own_2q h, own_i1]
theorem own_x0 : 0 ≤ q.toInt ∧ q.toInt < 2 ^ 30 → (2 * q) ^^^ 1 = 2 * q + 1 := fun h => by
  have hm : (2 * q) &&& 1 = 0 := by
    apply Int32.toInt_inj.mp
    rw [Jvm.Kit.i32_mask _ 1 (k := 1) (by decide) (by decide), own_2q h, own_i0]; omega
  generalize 2 * q = t at hm
  have hm' : t.toBitVec &&& (1 : BitVec 32) = (0 : BitVec 32) := congrArg Int32.toBitVec hm
  apply Int32.toBitVec_inj.mp
  show t.toBitVec ^^^ (1 : BitVec 32) = t.toBitVec + (1 : BitVec 32)
  rw [BitVec.add_eq_or_of_and_eq_zero _ _ hm']
  apply BitVec.eq_of_getLsbD_eq
  intro i hi
  have k := congrArg (fun b : BitVec 32 => b.getLsbD i) hm'
  simp only [BitVec.getLsbD_and, BitVec.getLsbD_zero] at k
  simp only [BitVec.getLsbD_xor, BitVec.getLsbD_or]
  cases h1 : ((1 : BitVec 32)).getLsbD i <;> simp_all
theorem own_f0 : 0 ≤ q.toInt ∧ q.toInt < 2 ^ 30 → f4_0 (f1_0 q 0) = f1_0 q 1 := fun h => by
  rw [own_e0, own_e1]; exact own_x0 h
theorem own_f1 : 0 ≤ q.toInt ∧ q.toInt < 2 ^ 30 → f4_0 (f1_0 q 1) = f1_0 q 0 := fun h => by
  rw [own_e0, own_e1, ← own_x0 h]; show ((2 * q) ^^^ 1) ^^^ 1 = 2 * q
  rw [Int32.xor_assoc, Int32.xor_self, Int32.xor_zero]
theorem own_p {e : Int32} (h1 : 0 ≤ e.toInt) (h2 : e.toInt / 2 = q.toInt) : f2_0 e = q := by
  apply Int32.toInt_inj.mp
  show (e / 2).toInt = _
  rw [Jvm.Kit.i32_div (by rw [own_i2]; omega), own_i2, Int.tdiv_eq_ediv_of_nonneg h1, h2]
theorem own_inv {e : Int32} (h : 0 ≤ e.toInt) : f3_0 e = if e.toInt % 2 = 1 then 1 else 0 := by
  have h1 : (e - (e / 2) * 2).toInt = e.toInt.tmod (2 : Int32).toInt := rem_toInt e 2
  rw [own_i2, Int.tmod_eq_emod_of_nonneg h] at h1
  unfold f3_0 f3_12
  have c : ((e - (e / 2) * 2) = 1) = (e.toInt % 2 = 1) := by rw [← h1]; rw [← Int32.toInt_inj, own_i1]
  simp only [c, own_nar1, own_nar0]
end
theorem own_lt0 {e : Int32} (h : 0 ≤ e.toInt) : ¬ e < 0 := by rw [Int32.lt_iff_toInt_lt, own_i0]; omega
-- as the law asks them; j = 1 | 0: inv
theorem own_A1 (p : Int32) : ¬ ((f1_0 (p &&& (1073741823 : Int32)) (1 : Int32)) < (0 : Int32)) := own_lt0 (by have := own_q p; rw [own_t1 this]; omega)
theorem own_A0 (p : Int32) : ¬ ((f1_0 (p &&& (1073741823 : Int32)) (0 : Int32)) < (0 : Int32)) := own_lt0 (by have := own_q p; rw [own_t0 this]; omega)
theorem own_B1 (p : Int32) : f2_0 (f1_0 (p &&& (1073741823 : Int32)) (1 : Int32)) = (p &&& (1073741823 : Int32)) := by
  have := own_q p
  exact own_p (by rw [own_t1 this]; omega) (by rw [own_t1 this]; omega)
theorem own_B0 (p : Int32) : f2_0 (f1_0 (p &&& (1073741823 : Int32)) (0 : Int32)) = (p &&& (1073741823 : Int32)) := by
  have := own_q p
  exact own_p (by rw [own_t0 this]; omega) (by rw [own_t0 this]; omega)
theorem own_C1 (p : Int32) : f3_0 (f1_0 (p &&& (1073741823 : Int32)) (1 : Int32)) = (1 : Int32) := by
  have := own_q p
  rw [own_inv (by rw [own_t1 this]; omega), own_t1 this, if_pos (by omega)]
theorem own_C0 (p : Int32) : f3_0 (f1_0 (p &&& (1073741823 : Int32)) (0 : Int32)) = (0 : Int32) := by
  have := own_q p
  rw [own_inv (by rw [own_t0 this]; omega), own_t0 this, if_neg (by omega)]
theorem own_D1 (p : Int32) : f4_0 (f1_0 (p &&& (1073741823 : Int32)) (1 : Int32)) = f1_0 (p &&& (1073741823 : Int32)) (0 : Int32) := own_f1 (own_q p)
theorem own_D0 (p : Int32) : f4_0 (f1_0 (p &&& (1073741823 : Int32)) (0 : Int32)) = f1_0 (p &&& (1073741823 : Int32)) (1 : Int32) := own_f0 (own_q p)
theorem own_E1 (p : Int32) : ¬ f1_0 (p &&& (1073741823 : Int32)) (1 : Int32) = f1_0 (p &&& (1073741823 : Int32)) (0 : Int32) := fun h => by
  have := own_q p
  have h := congrArg Int32.toInt h
  rw [own_t1 this, own_t0 this] at h; omega
theorem own_E0 (p : Int32) : ¬ f1_0 (p &&& (1073741823 : Int32)) (0 : Int32) = f1_0 (p &&& (1073741823 : Int32)) (1 : Int32) := fun h => own_E1 p h.symm
theorem pn_0 : plainName "com/example/libsubsume/libsubsume/core/NormalFormsExpressionPinLaw" = true := by first | (simp [plainName, overriddenIn]; done) | decide +kernel
theorem ef_0 (m : MethodId) (p1 : Int32) (p2 : Int32) : entryFrame m #[(.int p1), (.int p2)] maxLocals = mkF m 0 #[.val (.int p1), .val (.int p2), .unset, .unset, .unset, .unset] [] := by first | (simp [entryFrame, mkF, argsToLocals, Value.category, maxLocals]; done) | rfl
theorem pd_0_0 : parseMethodDescriptor "(IZ)I" = some ⟨[.int, .boolean], some .int⟩ := by decide +kernel
theorem pd_0_1 : parseMethodDescriptor "(I)I" = some ⟨[.int], some .int⟩ := by decide +kernel
theorem pd_0_2 : parseMethodDescriptor "(I)Z" = some ⟨[.int], some .boolean⟩ := by decide +kernel
def Q0 (n0 : Nat) (v : Option Value) (L : List Loc) : Prop := v = some (.int 1) ∧ Fr n0 L
set_option maxRecDepth 65536 in
set_option maxHeartbeats 40000000 in
theorem rm0 (l : Launch) (Z : State) (a0 : Array Value) (hw : ∀ d ∈ tables_1, d.before a0 Z = true) (ws : List Jvm.Cond) (p1 : Int32) (p2 : Int32) (h0 : Heap) (n0 : Nat) (Z0 : n0 ≤ h0.size) :
    MetFree l x (head1 (Jvm.Cond.code x code maxLocals ret :: ws) room_1) (fun a U => a = #[(.int p1), (.int p2)] ∧ Z.Warmed39 U.vm ∧ U.heap = h0) (fun _ _ _ _ _ => True) (fun _ U o U' => ∃ v L, o = .returned v ∧ Q0 n0 v L ∧ FrameEnd U o U' L room_1.cells room_1.slots) := by
  refine MetFree.of_bodySF (plainFor_of_name pn_0) hisR ?_
  intro p e s m args below meth c s₁ Bd hml0 hP hK
  obtain ⟨rfl, hZ, hh⟩ := hP
  have hx := Bd.exec
  have hby := Bd.bytes
  have hml : c.maxLocals = 6 := hml0
  have hown : s.vm.findClass "com/example/libsubsume/libsubsume/core/NormalFormsExpressionPinLaw" = some m.cls := findClass_of_methodNamed Bd.named
  have hnm := (name_of_methodNamed Bd.named Bd.method).1
  have X0 : Stand p l e room_1 s m #[(.int p1), (.int p2)] below meth c s₁ [] 0 0 := Stand.of_body Bd
  have e0 : s₁.heap = h0 := by rw [← hh, Bd.state]; rfl
  have N0 := Fr.nil n0
  have pre0 : ∀ t, Steps p.tables e below (s₁.setTop (mkF m 0 #[.val (.int p1), .val (.int p2), .unset, .unset, .unset, .unset] [])) t → Steps p.tables e below (s₁.setTop (entryFrame m #[(.int p1), (.int p2)] maxLocals)) t := fun t k => castTop (ef_0 m p1 p2) k
  have pre2 : ∀ t, Steps p.tables e below (s₁.setTop (mkF m 8 #[.val (.int p1), .val (.int p2), .val (.int (p1 &&& (1073741823 : Int32))), .unset, .unset, .unset] [(.int (p2 &&& (1 : Int32)))])) t → Steps p.tables e below (s₁.setTop (entryFrame m #[(.int p1), (.int p2)] maxLocals)) t := by
    intro t k
    refine pre0 t ?_
    show Steps p.tables e below (s₁.setTop (mkF m 0 #[.val (.int p1), .val (.int p2), .unset, .unset, .unset, .unset] [])) _
    refine XS.iloadN X0.here hx rfl (hb hby at_0) rfl ?_
    show Steps p.tables e below (s₁.setTop (mkF m 1 #[.val (.int p1), .val (.int p2), .unset, .unset, .unset, .unset] [(.int p1)])) _
    refine X0.ldcInt hx hown (mvT hZ (hw _ (List.mem_of_getElem? (i := 0) rfl))) (g := (mkF m 1 #[.val (.int p1), .val (.int p2), .unset, .unset, .unset, .unset] [(.int p1)])) rfl (hb hby at_1) _ ?_
    show Steps p.tables e below (s₁.setTop (mkF m 3 #[.val (.int p1), .val (.int p2), .unset, .unset, .unset, .unset] [(.int (1073741823 : Int32)), (.int p1)])) _
    refine XS.iand X0.here hx rfl (hb hby at_3) rfl ?_
    show Steps p.tables e below (s₁.setTop (mkF m 4 #[.val (.int p1), .val (.int p2), .unset, .unset, .unset, .unset] [(.int (p1 &&& (1073741823 : Int32)))])) _
    refine XS.istoreN X0.here hx rfl (hb hby at_4) rfl (l' := #[.val (.int p1), .val (.int p2), .val (.int (p1 &&& (1073741823 : Int32))), .unset, .unset, .unset]) rfl ?_
    show Steps p.tables e below (s₁.setTop (mkF m 5 #[.val (.int p1), .val (.int p2), .val (.int (p1 &&& (1073741823 : Int32))), .unset, .unset, .unset] [])) _
    refine XS.iloadN X0.here hx rfl (hb hby at_5) rfl ?_
    show Steps p.tables e below (s₁.setTop (mkF m 6 #[.val (.int p1), .val (.int p2), .val (.int (p1 &&& (1073741823 : Int32))), .unset, .unset, .unset] [(.int p2)])) _
    refine XS.iconst X0.here hx rfl (hb hby at_6) ?_
    show Steps p.tables e below (s₁.setTop (mkF m 7 #[.val (.int p1), .val (.int p2), .val (.int (p1 &&& (1073741823 : Int32))), .unset, .unset, .unset] [(.int (1 : Int32)), (.int p2)])) _
    refine XS.iand X0.here hx rfl (hb hby at_7) rfl ?_
    show Steps p.tables e below (s₁.setTop (mkF m 8 #[.val (.int p1), .val (.int p2), .val (.int (p1 &&& (1073741823 : Int32))), .unset, .unset, .unset] [(.int (p2 &&& (1 : Int32)))])) _
    exact k
  by_cases h8_1 : (p2 &&& (1 : Int32)) = (0 : Int32)
  · obtain ⟨_, _, ⟨T3, L3, k3, n3⟩, -, X3, ⟨Lc3, hQ3, l3, y3, z3⟩, st3⟩ := Jvm.LawKit.callS X0 hx (y := (⟨"com/example/libsubsume/libsubsume/core/NormalForms", "expression", "(IZ)I"⟩ : MethodName)) hown (mvT hZ (hw _ (List.mem_of_getElem? (i := 1) rfl))) (mvT hZ (hw _ (List.mem_of_getElem? (i := 2) rfl))) (mvT hZ (hw _ (List.mem_of_getElem? (i := 3) rfl))) (mvT hZ (hw _ (List.mem_of_getElem? (i := 4) rfl))) (by decide) (backOf (W := 0) (rm1 l Z a0 hw [] (p1 &&& (1073741823 : Int32)) (0 : Int32) h0 n0) hZ (hw _ (List.mem_of_getElem? (i := 4) rfl)) (hw _ (List.mem_of_getElem? (i := 3) rfl)) (by decide) (by decide)) (g := (mkF m 19 #[.val (.int p1), .val (.int p2), .val (.int (p1 &&& (1073741823 : Int32))), .val (.int (0 : Int32)), .unset, .unset] [(.int (0 : Int32)), (.int (p1 &&& (1073741823 : Int32)))])) rfl (by rw [hml]; rfl) (argsL := [(.int (p1 &&& (1073741823 : Int32))), (.int (0 : Int32))]) (rest := []) (lenOf pd_0_0 rfl) rfl (by show 2 * 0 + _ ≤ _; exact Nat.le_of_eq rfl) (hb hby at_19) (fun _ _ => ⟨rfl, e0, (by decide : 0 + 0 ≤ _), (by decide : 0 + 0 ≤ _)⟩)
    dsimp only [Pt.U, Pt.locs, Pt.cells, Pt.slots] at X3 l3 y3 z3 st3 hQ3
    subst l3 y3 z3
    obtain ⟨rfl, N3q, e3⟩ := hQ3
    have N3 := Fr.app N0 N3q
    have h26_4 : (0 : Int32) = (0 : Int32) := by decide
    obtain ⟨_, _, ⟨T5, L5, k5, n5⟩, -, X5, ⟨Lc5, hQ5, l5, y5, z5⟩, st5⟩ := Jvm.LawKit.callS X3 hx (y := (⟨"com/example/libsubsume/libsubsume/core/NormalForms", "expression", "(IZ)I"⟩ : MethodName)) hown (mvT hZ (hw _ (List.mem_of_getElem? (i := 1) rfl))) (mvT hZ (hw _ (List.mem_of_getElem? (i := 2) rfl))) (mvT hZ (hw _ (List.mem_of_getElem? (i := 3) rfl))) (mvT hZ (hw _ (List.mem_of_getElem? (i := 4) rfl))) (by decide) (backOf (W := 0) (rm1 l Z a0 hw [] (p1 &&& (1073741823 : Int32)) (1 : Int32) h0 n0) hZ (hw _ (List.mem_of_getElem? (i := 4) rfl)) (hw _ (List.mem_of_getElem? (i := 3) rfl)) (by decide) (by decide)) (g := (mkF m 34 #[.val (.int p1), .val (.int p2), .val (.int (p1 &&& (1073741823 : Int32))), .val (.int (0 : Int32)), .val (.int (f1_0 (p1 &&& (1073741823 : Int32)) (0 : Int32))), .unset] [(.int (1 : Int32)), (.int (p1 &&& (1073741823 : Int32)))])) rfl (by rw [hml]; rfl) (argsL := [(.int (p1 &&& (1073741823 : Int32))), (.int (1 : Int32))]) (rest := []) (lenOf pd_0_0 rfl) rfl (by show 2 * 0 + _ ≤ _; exact Nat.le_of_eq rfl) (hb hby at_34) (fun _ _ => ⟨rfl, e3, (by decide : 0 + 0 ≤ _), (by decide : 0 + 0 ≤ _)⟩)
    dsimp only [Pt.U, Pt.locs, Pt.cells, Pt.slots] at X5 l5 y5 z5 st5 hQ5
    subst l5 y5 z5
    obtain ⟨rfl, N5q, e5⟩ := hQ5
    have N5 := Fr.app N3 N5q
    have h41_6 : ¬ ((f1_0 (p1 &&& (1073741823 : Int32)) (0 : Int32)) < (0 : Int32)) := own_A0 _
    obtain ⟨_, _, ⟨T7, L7, k7, n7⟩, -, X7, ⟨Lc7, hQ7, l7, y7, z7⟩, st7⟩ := Jvm.LawKit.callS X5 hx (y := (⟨"com/example/libsubsume/libsubsume/core/NormalForms", "property", "(I)I"⟩ : MethodName)) hown (mvT hZ (hw _ (List.mem_of_getElem? (i := 5) rfl))) (mvT hZ (hw _ (List.mem_of_getElem? (i := 6) rfl))) (mvT hZ (hw _ (List.mem_of_getElem? (i := 3) rfl))) (mvT hZ (hw _ (List.mem_of_getElem? (i := 7) rfl))) (by decide) (backOf (W := 0) (rm2 l Z a0 hw [] (f1_0 (p1 &&& (1073741823 : Int32)) (0 : Int32)) h0 n0) hZ (hw _ (List.mem_of_getElem? (i := 7) rfl)) (hw _ (List.mem_of_getElem? (i := 3) rfl)) (by decide) (by decide)) (g := (mkF m 46 #[.val (.int p1), .val (.int p2), .val (.int (p1 &&& (1073741823 : Int32))), .val (.int (0 : Int32)), .val (.int (f1_0 (p1 &&& (1073741823 : Int32)) (0 : Int32))), .val (.int (f1_0 (p1 &&& (1073741823 : Int32)) (1 : Int32)))] [(.int (f1_0 (p1 &&& (1073741823 : Int32)) (0 : Int32)))])) rfl (by rw [hml]; rfl) (argsL := [(.int (f1_0 (p1 &&& (1073741823 : Int32)) (0 : Int32)))]) (rest := []) (lenOf pd_0_1 rfl) rfl (by show 2 * 0 + _ ≤ _; exact Nat.le_of_eq rfl) (hb hby at_46) (fun _ _ => ⟨rfl, e5, (by decide : 0 + 0 ≤ _), (by decide : 0 + 0 ≤ _)⟩)
    dsimp only [Pt.U, Pt.locs, Pt.cells, Pt.slots] at X7 l7 y7 z7 st7 hQ7
    subst l7 y7 z7
    obtain ⟨rfl, N7q, e7⟩ := hQ7
    have N7 := Fr.app N5 N7q
    have h50_8 : (f2_0 (f1_0 (p1 &&& (1073741823 : Int32)) (0 : Int32))) = (p1 &&& (1073741823 : Int32)) := own_B0 _
    obtain ⟨_, _, ⟨T9, L9, k9, n9⟩, -, X9, ⟨Lc9, hQ9, l9, y9, z9⟩, st9⟩ := Jvm.LawKit.callS X7 hx (y := (⟨"com/example/libsubsume/libsubsume/core/NormalForms", "isInverse", "(I)Z"⟩ : MethodName)) hown (mvT hZ (hw _ (List.mem_of_getElem? (i := 8) rfl))) (mvT hZ (hw _ (List.mem_of_getElem? (i := 9) rfl))) (mvT hZ (hw _ (List.mem_of_getElem? (i := 3) rfl))) (mvT hZ (hw _ (List.mem_of_getElem? (i := 10) rfl))) (by decide) (backOf (W := 0) (rm3 l Z a0 hw [] (f1_0 (p1 &&& (1073741823 : Int32)) (0 : Int32)) h0 n0) hZ (hw _ (List.mem_of_getElem? (i := 10) rfl)) (hw _ (List.mem_of_getElem? (i := 3) rfl)) (by decide) (by decide)) (g := (mkF m 55 #[.val (.int p1), .val (.int p2), .val (.int (p1 &&& (1073741823 : Int32))), .val (.int (0 : Int32)), .val (.int (f1_0 (p1 &&& (1073741823 : Int32)) (0 : Int32))), .val (.int (f1_0 (p1 &&& (1073741823 : Int32)) (1 : Int32)))] [(.int (f1_0 (p1 &&& (1073741823 : Int32)) (0 : Int32)))])) rfl (by rw [hml]; rfl) (argsL := [(.int (f1_0 (p1 &&& (1073741823 : Int32)) (0 : Int32)))]) (rest := []) (lenOf pd_0_2 rfl) rfl (by show 2 * 0 + _ ≤ _; exact Nat.le_of_eq rfl) (hb hby at_55) (fun _ _ => ⟨rfl, e7, (by decide : 0 + 0 ≤ _), (by decide : 0 + 0 ≤ _)⟩)
    dsimp only [Pt.U, Pt.locs, Pt.cells, Pt.slots] at X9 l9 y9 z9 st9 hQ9
    subst l9 y9 z9
    obtain ⟨rfl, N9q, e9⟩ := hQ9
    have N9 := Fr.app N7 N9q
    have h59_10 : (f3_0 (f1_0 (p1 &&& (1073741823 : Int32)) (0 : Int32))) = (0 : Int32) := own_C0 _
    obtain ⟨_, _, ⟨T11, L11, k11, n11⟩, -, X11, ⟨Lc11, hQ11, l11, y11, z11⟩, st11⟩ := Jvm.LawKit.callS X9 hx (y := (⟨"com/example/libsubsume/libsubsume/core/NormalForms", "inverse", "(I)I"⟩ : MethodName)) hown (mvT hZ (hw _ (List.mem_of_getElem? (i := 11) rfl))) (mvT hZ (hw _ (List.mem_of_getElem? (i := 12) rfl))) (mvT hZ (hw _ (List.mem_of_getElem? (i := 3) rfl))) (mvT hZ (hw _ (List.mem_of_getElem? (i := 13) rfl))) (by decide) (backOf (W := 0) (rm4 l Z a0 hw [] (f1_0 (p1 &&& (1073741823 : Int32)) (0 : Int32)) h0 n0) hZ (hw _ (List.mem_of_getElem? (i := 13) rfl)) (hw _ (List.mem_of_getElem? (i := 3) rfl)) (by decide) (by decide)) (g := (mkF m 64 #[.val (.int p1), .val (.int p2), .val (.int (p1 &&& (1073741823 : Int32))), .val (.int (0 : Int32)), .val (.int (f1_0 (p1 &&& (1073741823 : Int32)) (0 : Int32))), .val (.int (f1_0 (p1 &&& (1073741823 : Int32)) (1 : Int32)))] [(.int (f1_0 (p1 &&& (1073741823 : Int32)) (0 : Int32)))])) rfl (by rw [hml]; rfl) (argsL := [(.int (f1_0 (p1 &&& (1073741823 : Int32)) (0 : Int32)))]) (rest := []) (lenOf pd_0_1 rfl) rfl (by show 2 * 0 + _ ≤ _; exact Nat.le_of_eq rfl) (hb hby at_64) (fun _ _ => ⟨rfl, e9, (by decide : 0 + 0 ≤ _), (by decide : 0 + 0 ≤ _)⟩)
    dsimp only [Pt.U, Pt.locs, Pt.cells, Pt.slots] at X11 l11 y11 z11 st11 hQ11
    subst l11 y11 z11
    obtain ⟨rfl, N11q, e11⟩ := hQ11
    have N11 := Fr.app N9 N11q
    have h69_12 : (f4_0 (f1_0 (p1 &&& (1073741823 : Int32)) (0 : Int32))) = (f1_0 (p1 &&& (1073741823 : Int32)) (1 : Int32)) := own_D0 _
    have h76_13 : ¬ ((f1_0 (p1 &&& (1073741823 : Int32)) (0 : Int32)) = (f1_0 (p1 &&& (1073741823 : Int32)) (1 : Int32))) := own_E0 _
    have pre14 : ∀ t, Steps p.tables e below (T11.setTop (mkF m 84 #[.val (.int p1), .val (.int p2), .val (.int (p1 &&& (1073741823 : Int32))), .val (.int (0 : Int32)), .val (.int (f1_0 (p1 &&& (1073741823 : Int32)) (0 : Int32))), .val (.int (f1_0 (p1 &&& (1073741823 : Int32)) (1 : Int32)))] [(.int (1 : Int32))])) t → Steps p.tables e below (s₁.setTop (entryFrame m #[(.int p1), (.int p2)] maxLocals)) t := by
      intro t k
      refine pre2 t ?_
      refine XS.ifYes X0.here hx rfl (pc0 := 8) (pc' := 15) rfl (hb hby at_8) rfl ((if0 _ _).trans (teq h8_1).1) (by decide) (by decide) ?_
      show Steps p.tables e below (s₁.setTop (mkF m 15 #[.val (.int p1), .val (.int p2), .val (.int (p1 &&& (1073741823 : Int32))), .unset, .unset, .unset] [])) _
      refine XS.iconst X0.here hx rfl (hb hby at_15) ?_
      show Steps p.tables e below (s₁.setTop (mkF m 16 #[.val (.int p1), .val (.int p2), .val (.int (p1 &&& (1073741823 : Int32))), .unset, .unset, .unset] [(.int (0 : Int32))])) _
      refine XS.istoreN X0.here hx rfl (hb hby at_16) rfl (l' := #[.val (.int p1), .val (.int p2), .val (.int (p1 &&& (1073741823 : Int32))), .val (.int (0 : Int32)), .unset, .unset]) rfl ?_
      show Steps p.tables e below (s₁.setTop (mkF m 17 #[.val (.int p1), .val (.int p2), .val (.int (p1 &&& (1073741823 : Int32))), .val (.int (0 : Int32)), .unset, .unset] [])) _
      refine XS.iloadN X0.here hx rfl (hb hby at_17) rfl ?_
      show Steps p.tables e below (s₁.setTop (mkF m 18 #[.val (.int p1), .val (.int p2), .val (.int (p1 &&& (1073741823 : Int32))), .val (.int (0 : Int32)), .unset, .unset] [(.int (p1 &&& (1073741823 : Int32)))])) _
      refine XS.iloadN X0.here hx rfl (hb hby at_18) rfl ?_
      show Steps p.tables e below (s₁.setTop (mkF m 19 #[.val (.int p1), .val (.int p2), .val (.int (p1 &&& (1073741823 : Int32))), .val (.int (0 : Int32)), .unset, .unset] [(.int (0 : Int32)), (.int (p1 &&& (1073741823 : Int32)))])) _
      refine st3 _ ?_
      show Steps p.tables e below (T3.setTop (mkF m 22 #[.val (.int p1), .val (.int p2), .val (.int (p1 &&& (1073741823 : Int32))), .val (.int (0 : Int32)), .unset, .unset] [(.int (f1_0 (p1 &&& (1073741823 : Int32)) (0 : Int32)))])) _
      refine XS.istore X3.here hx rfl (hb hby at_22) rfl (l' := #[.val (.int p1), .val (.int p2), .val (.int (p1 &&& (1073741823 : Int32))), .val (.int (0 : Int32)), .val (.int (f1_0 (p1 &&& (1073741823 : Int32)) (0 : Int32))), .unset]) rfl ?_
      show Steps p.tables e below (T3.setTop (mkF m 24 #[.val (.int p1), .val (.int p2), .val (.int (p1 &&& (1073741823 : Int32))), .val (.int (0 : Int32)), .val (.int (f1_0 (p1 &&& (1073741823 : Int32)) (0 : Int32))), .unset] [])) _
      refine XS.iloadN X3.here hx rfl (hb hby at_24) rfl ?_
      show Steps p.tables e below (T3.setTop (mkF m 25 #[.val (.int p1), .val (.int p2), .val (.int (p1 &&& (1073741823 : Int32))), .val (.int (0 : Int32)), .val (.int (f1_0 (p1 &&& (1073741823 : Int32)) (0 : Int32))), .unset] [(.int (p1 &&& (1073741823 : Int32)))])) _
      refine XS.iloadN X3.here hx rfl (hb hby at_25) rfl ?_
      show Steps p.tables e below (T3.setTop (mkF m 26 #[.val (.int p1), .val (.int p2), .val (.int (p1 &&& (1073741823 : Int32))), .val (.int (0 : Int32)), .val (.int (f1_0 (p1 &&& (1073741823 : Int32)) (0 : Int32))), .unset] [(.int (0 : Int32)), (.int (p1 &&& (1073741823 : Int32)))])) _
      refine XS.ifNo X3.here hx rfl (hb hby at_26) rfl ((if0 _ _).trans (teq h26_4).2) ?_
      show Steps p.tables e below (T3.setTop (mkF m 29 #[.val (.int p1), .val (.int p2), .val (.int (p1 &&& (1073741823 : Int32))), .val (.int (0 : Int32)), .val (.int (f1_0 (p1 &&& (1073741823 : Int32)) (0 : Int32))), .unset] [(.int (p1 &&& (1073741823 : Int32)))])) _
      refine XS.iconst X3.here hx rfl (hb hby at_29) ?_
      show Steps p.tables e below (T3.setTop (mkF m 30 #[.val (.int p1), .val (.int p2), .val (.int (p1 &&& (1073741823 : Int32))), .val (.int (0 : Int32)), .val (.int (f1_0 (p1 &&& (1073741823 : Int32)) (0 : Int32))), .unset] [(.int (1 : Int32)), (.int (p1 &&& (1073741823 : Int32)))])) _
      refine XS.goto X3.here hx rfl (pc0 := 30) (pc' := 34) rfl (hb hby at_30) (by decide) (by decide) ?_
      show Steps p.tables e below (T3.setTop (mkF m 34 #[.val (.int p1), .val (.int p2), .val (.int (p1 &&& (1073741823 : Int32))), .val (.int (0 : Int32)), .val (.int (f1_0 (p1 &&& (1073741823 : Int32)) (0 : Int32))), .unset] [(.int (1 : Int32)), (.int (p1 &&& (1073741823 : Int32)))])) _
      refine st5 _ ?_
      show Steps p.tables e below (T5.setTop (mkF m 37 #[.val (.int p1), .val (.int p2), .val (.int (p1 &&& (1073741823 : Int32))), .val (.int (0 : Int32)), .val (.int (f1_0 (p1 &&& (1073741823 : Int32)) (0 : Int32))), .unset] [(.int (f1_0 (p1 &&& (1073741823 : Int32)) (1 : Int32)))])) _
      refine XS.istore X5.here hx rfl (hb hby at_37) rfl (l' := #[.val (.int p1), .val (.int p2), .val (.int (p1 &&& (1073741823 : Int32))), .val (.int (0 : Int32)), .val (.int (f1_0 (p1 &&& (1073741823 : Int32)) (0 : Int32))), .val (.int (f1_0 (p1 &&& (1073741823 : Int32)) (1 : Int32)))]) rfl ?_
      show Steps p.tables e below (T5.setTop (mkF m 39 #[.val (.int p1), .val (.int p2), .val (.int (p1 &&& (1073741823 : Int32))), .val (.int (0 : Int32)), .val (.int (f1_0 (p1 &&& (1073741823 : Int32)) (0 : Int32))), .val (.int (f1_0 (p1 &&& (1073741823 : Int32)) (1 : Int32)))] [])) _
      refine XS.iload X5.here hx rfl (hb hby at_39) rfl ?_
      show Steps p.tables e below (T5.setTop (mkF m 41 #[.val (.int p1), .val (.int p2), .val (.int (p1 &&& (1073741823 : Int32))), .val (.int (0 : Int32)), .val (.int (f1_0 (p1 &&& (1073741823 : Int32)) (0 : Int32))), .val (.int (f1_0 (p1 &&& (1073741823 : Int32)) (1 : Int32)))] [(.int (f1_0 (p1 &&& (1073741823 : Int32)) (0 : Int32)))])) _
      refine XS.ifNo X5.here hx rfl (hb hby at_41) rfl ((if0 _ _).trans (flt h41_6).1) ?_
      show Steps p.tables e below (T5.setTop (mkF m 44 #[.val (.int p1), .val (.int p2), .val (.int (p1 &&& (1073741823 : Int32))), .val (.int (0 : Int32)), .val (.int (f1_0 (p1 &&& (1073741823 : Int32)) (0 : Int32))), .val (.int (f1_0 (p1 &&& (1073741823 : Int32)) (1 : Int32)))] [])) _
      refine XS.iload X5.here hx rfl (hb hby at_44) rfl ?_
      show Steps p.tables e below (T5.setTop (mkF m 46 #[.val (.int p1), .val (.int p2), .val (.int (p1 &&& (1073741823 : Int32))), .val (.int (0 : Int32)), .val (.int (f1_0 (p1 &&& (1073741823 : Int32)) (0 : Int32))), .val (.int (f1_0 (p1 &&& (1073741823 : Int32)) (1 : Int32)))] [(.int (f1_0 (p1 &&& (1073741823 : Int32)) (0 : Int32)))])) _
      refine st7 _ ?_
      show Steps p.tables e below (T7.setTop (mkF m 49 #[.val (.int p1), .val (.int p2), .val (.int (p1 &&& (1073741823 : Int32))), .val (.int (0 : Int32)), .val (.int (f1_0 (p1 &&& (1073741823 : Int32)) (0 : Int32))), .val (.int (f1_0 (p1 &&& (1073741823 : Int32)) (1 : Int32)))] [(.int (f2_0 (f1_0 (p1 &&& (1073741823 : Int32)) (0 : Int32))))])) _
      refine XS.iloadN X7.here hx rfl (hb hby at_49) rfl ?_
      show Steps p.tables e below (T7.setTop (mkF m 50 #[.val (.int p1), .val (.int p2), .val (.int (p1 &&& (1073741823 : Int32))), .val (.int (0 : Int32)), .val (.int (f1_0 (p1 &&& (1073741823 : Int32)) (0 : Int32))), .val (.int (f1_0 (p1 &&& (1073741823 : Int32)) (1 : Int32)))] [(.int (p1 &&& (1073741823 : Int32))), (.int (f2_0 (f1_0 (p1 &&& (1073741823 : Int32)) (0 : Int32))))])) _
      refine XS.icmpNo X7.here hx rfl (hb hby at_50) rfl (teq h50_8).2 ?_
      show Steps p.tables e below (T7.setTop (mkF m 53 #[.val (.int p1), .val (.int p2), .val (.int (p1 &&& (1073741823 : Int32))), .val (.int (0 : Int32)), .val (.int (f1_0 (p1 &&& (1073741823 : Int32)) (0 : Int32))), .val (.int (f1_0 (p1 &&& (1073741823 : Int32)) (1 : Int32)))] [])) _
      refine XS.iload X7.here hx rfl (hb hby at_53) rfl ?_
      show Steps p.tables e below (T7.setTop (mkF m 55 #[.val (.int p1), .val (.int p2), .val (.int (p1 &&& (1073741823 : Int32))), .val (.int (0 : Int32)), .val (.int (f1_0 (p1 &&& (1073741823 : Int32)) (0 : Int32))), .val (.int (f1_0 (p1 &&& (1073741823 : Int32)) (1 : Int32)))] [(.int (f1_0 (p1 &&& (1073741823 : Int32)) (0 : Int32)))])) _
      refine st9 _ ?_
      show Steps p.tables e below (T9.setTop (mkF m 58 #[.val (.int p1), .val (.int p2), .val (.int (p1 &&& (1073741823 : Int32))), .val (.int (0 : Int32)), .val (.int (f1_0 (p1 &&& (1073741823 : Int32)) (0 : Int32))), .val (.int (f1_0 (p1 &&& (1073741823 : Int32)) (1 : Int32)))] [(.int (f3_0 (f1_0 (p1 &&& (1073741823 : Int32)) (0 : Int32))))])) _
      refine XS.iloadN X9.here hx rfl (hb hby at_58) rfl ?_
      show Steps p.tables e below (T9.setTop (mkF m 59 #[.val (.int p1), .val (.int p2), .val (.int (p1 &&& (1073741823 : Int32))), .val (.int (0 : Int32)), .val (.int (f1_0 (p1 &&& (1073741823 : Int32)) (0 : Int32))), .val (.int (f1_0 (p1 &&& (1073741823 : Int32)) (1 : Int32)))] [(.int (0 : Int32)), (.int (f3_0 (f1_0 (p1 &&& (1073741823 : Int32)) (0 : Int32))))])) _
      refine XS.icmpNo X9.here hx rfl (hb hby at_59) rfl (teq h59_10).2 ?_
      show Steps p.tables e below (T9.setTop (mkF m 62 #[.val (.int p1), .val (.int p2), .val (.int (p1 &&& (1073741823 : Int32))), .val (.int (0 : Int32)), .val (.int (f1_0 (p1 &&& (1073741823 : Int32)) (0 : Int32))), .val (.int (f1_0 (p1 &&& (1073741823 : Int32)) (1 : Int32)))] [])) _
      refine XS.iload X9.here hx rfl (hb hby at_62) rfl ?_
      show Steps p.tables e below (T9.setTop (mkF m 64 #[.val (.int p1), .val (.int p2), .val (.int (p1 &&& (1073741823 : Int32))), .val (.int (0 : Int32)), .val (.int (f1_0 (p1 &&& (1073741823 : Int32)) (0 : Int32))), .val (.int (f1_0 (p1 &&& (1073741823 : Int32)) (1 : Int32)))] [(.int (f1_0 (p1 &&& (1073741823 : Int32)) (0 : Int32)))])) _
      refine st11 _ ?_
      show Steps p.tables e below (T11.setTop (mkF m 67 #[.val (.int p1), .val (.int p2), .val (.int (p1 &&& (1073741823 : Int32))), .val (.int (0 : Int32)), .val (.int (f1_0 (p1 &&& (1073741823 : Int32)) (0 : Int32))), .val (.int (f1_0 (p1 &&& (1073741823 : Int32)) (1 : Int32)))] [(.int (f4_0 (f1_0 (p1 &&& (1073741823 : Int32)) (0 : Int32))))])) _
      refine XS.iload X11.here hx rfl (hb hby at_67) rfl ?_
      show Steps p.tables e below (T11.setTop (mkF m 69 #[.val (.int p1), .val (.int p2), .val (.int (p1 &&& (1073741823 : Int32))), .val (.int (0 : Int32)), .val (.int (f1_0 (p1 &&& (1073741823 : Int32)) (0 : Int32))), .val (.int (f1_0 (p1 &&& (1073741823 : Int32)) (1 : Int32)))] [(.int (f1_0 (p1 &&& (1073741823 : Int32)) (1 : Int32))), (.int (f4_0 (f1_0 (p1 &&& (1073741823 : Int32)) (0 : Int32))))])) _
      refine XS.icmpNo X11.here hx rfl (hb hby at_69) rfl (teq h69_12).2 ?_
      show Steps p.tables e below (T11.setTop (mkF m 72 #[.val (.int p1), .val (.int p2), .val (.int (p1 &&& (1073741823 : Int32))), .val (.int (0 : Int32)), .val (.int (f1_0 (p1 &&& (1073741823 : Int32)) (0 : Int32))), .val (.int (f1_0 (p1 &&& (1073741823 : Int32)) (1 : Int32)))] [])) _
      refine XS.iload X11.here hx rfl (hb hby at_72) rfl ?_
      show Steps p.tables e below (T11.setTop (mkF m 74 #[.val (.int p1), .val (.int p2), .val (.int (p1 &&& (1073741823 : Int32))), .val (.int (0 : Int32)), .val (.int (f1_0 (p1 &&& (1073741823 : Int32)) (0 : Int32))), .val (.int (f1_0 (p1 &&& (1073741823 : Int32)) (1 : Int32)))] [(.int (f1_0 (p1 &&& (1073741823 : Int32)) (0 : Int32)))])) _
      refine XS.iload X11.here hx rfl (hb hby at_74) rfl ?_
      show Steps p.tables e below (T11.setTop (mkF m 76 #[.val (.int p1), .val (.int p2), .val (.int (p1 &&& (1073741823 : Int32))), .val (.int (0 : Int32)), .val (.int (f1_0 (p1 &&& (1073741823 : Int32)) (0 : Int32))), .val (.int (f1_0 (p1 &&& (1073741823 : Int32)) (1 : Int32)))] [(.int (f1_0 (p1 &&& (1073741823 : Int32)) (1 : Int32))), (.int (f1_0 (p1 &&& (1073741823 : Int32)) (0 : Int32)))])) _
      refine XS.icmpNo X11.here hx rfl (hb hby at_76) rfl (feq h76_13).1 ?_
      show Steps p.tables e below (T11.setTop (mkF m 79 #[.val (.int p1), .val (.int p2), .val (.int (p1 &&& (1073741823 : Int32))), .val (.int (0 : Int32)), .val (.int (f1_0 (p1 &&& (1073741823 : Int32)) (0 : Int32))), .val (.int (f1_0 (p1 &&& (1073741823 : Int32)) (1 : Int32)))] [])) _
      refine XS.iconst X11.here hx rfl (hb hby at_79) ?_
      show Steps p.tables e below (T11.setTop (mkF m 80 #[.val (.int p1), .val (.int p2), .val (.int (p1 &&& (1073741823 : Int32))), .val (.int (0 : Int32)), .val (.int (f1_0 (p1 &&& (1073741823 : Int32)) (0 : Int32))), .val (.int (f1_0 (p1 &&& (1073741823 : Int32)) (1 : Int32)))] [(.int (1 : Int32))])) _
      refine XS.goto X11.here hx rfl (pc0 := 80) (pc' := 84) rfl (hb hby at_80) (by decide) (by decide) ?_
      show Steps p.tables e below (T11.setTop (mkF m 84 #[.val (.int p1), .val (.int p2), .val (.int (p1 &&& (1073741823 : Int32))), .val (.int (0 : Int32)), .val (.int (f1_0 (p1 &&& (1073741823 : Int32)) (0 : Int32))), .val (.int (f1_0 (p1 &&& (1073741823 : Int32)) (1 : Int32)))] [(.int (1 : Int32))])) _
      exact k
    obtain ⟨fs, hr, hrun, hended, hW, hsame⟩ := X11.leave (v := some (.int (1 : Int32))) (fun h => by rw [Bd.returns] at h; cases h)
    refine ⟨_, _, pre14 _ ?_, hrun, hended, _, _, rfl, ?_, ⟨_, rfl⟩, hW, hsame.mono (by decide) (by decide)⟩
    · exact retN X11 hx (t := .boolean) Bd.returns (by simp) (hb hby at_84) hr
    · exact ⟨rfl, N11⟩
  · obtain ⟨_, _, ⟨T15, L15, k15, n15⟩, -, X15, ⟨Lc15, hQ15, l15, y15, z15⟩, st15⟩ := Jvm.LawKit.callS X0 hx (y := (⟨"com/example/libsubsume/libsubsume/core/NormalForms", "expression", "(IZ)I"⟩ : MethodName)) hown (mvT hZ (hw _ (List.mem_of_getElem? (i := 1) rfl))) (mvT hZ (hw _ (List.mem_of_getElem? (i := 2) rfl))) (mvT hZ (hw _ (List.mem_of_getElem? (i := 3) rfl))) (mvT hZ (hw _ (List.mem_of_getElem? (i := 4) rfl))) (by decide) (backOf (W := 0) (rm1 l Z a0 hw [] (p1 &&& (1073741823 : Int32)) (1 : Int32) h0 n0) hZ (hw _ (List.mem_of_getElem? (i := 4) rfl)) (hw _ (List.mem_of_getElem? (i := 3) rfl)) (by decide) (by decide)) (g := (mkF m 19 #[.val (.int p1), .val (.int p2), .val (.int (p1 &&& (1073741823 : Int32))), .val (.int (1 : Int32)), .unset, .unset] [(.int (1 : Int32)), (.int (p1 &&& (1073741823 : Int32)))])) rfl (by rw [hml]; rfl) (argsL := [(.int (p1 &&& (1073741823 : Int32))), (.int (1 : Int32))]) (rest := []) (lenOf pd_0_0 rfl) rfl (by show 2 * 0 + _ ≤ _; exact Nat.le_of_eq rfl) (hb hby at_19) (fun _ _ => ⟨rfl, e0, (by decide : 0 + 0 ≤ _), (by decide : 0 + 0 ≤ _)⟩)
    dsimp only [Pt.U, Pt.locs, Pt.cells, Pt.slots] at X15 l15 y15 z15 st15 hQ15
    subst l15 y15 z15
    obtain ⟨rfl, N15q, e15⟩ := hQ15
    have N15 := Fr.app N0 N15q
    have h26_16 : ¬ ((1 : Int32) = (0 : Int32)) := by decide
    obtain ⟨_, _, ⟨T17, L17, k17, n17⟩, -, X17, ⟨Lc17, hQ17, l17, y17, z17⟩, st17⟩ := Jvm.LawKit.callS X15 hx (y := (⟨"com/example/libsubsume/libsubsume/core/NormalForms", "expression", "(IZ)I"⟩ : MethodName)) hown (mvT hZ (hw _ (List.mem_of_getElem? (i := 1) rfl))) (mvT hZ (hw _ (List.mem_of_getElem? (i := 2) rfl))) (mvT hZ (hw _ (List.mem_of_getElem? (i := 3) rfl))) (mvT hZ (hw _ (List.mem_of_getElem? (i := 4) rfl))) (by decide) (backOf (W := 0) (rm1 l Z a0 hw [] (p1 &&& (1073741823 : Int32)) (0 : Int32) h0 n0) hZ (hw _ (List.mem_of_getElem? (i := 4) rfl)) (hw _ (List.mem_of_getElem? (i := 3) rfl)) (by decide) (by decide)) (g := (mkF m 34 #[.val (.int p1), .val (.int p2), .val (.int (p1 &&& (1073741823 : Int32))), .val (.int (1 : Int32)), .val (.int (f1_0 (p1 &&& (1073741823 : Int32)) (1 : Int32))), .unset] [(.int (0 : Int32)), (.int (p1 &&& (1073741823 : Int32)))])) rfl (by rw [hml]; rfl) (argsL := [(.int (p1 &&& (1073741823 : Int32))), (.int (0 : Int32))]) (rest := []) (lenOf pd_0_0 rfl) rfl (by show 2 * 0 + _ ≤ _; exact Nat.le_of_eq rfl) (hb hby at_34) (fun _ _ => ⟨rfl, e15, (by decide : 0 + 0 ≤ _), (by decide : 0 + 0 ≤ _)⟩)
    dsimp only [Pt.U, Pt.locs, Pt.cells, Pt.slots] at X17 l17 y17 z17 st17 hQ17
    subst l17 y17 z17
    obtain ⟨rfl, N17q, e17⟩ := hQ17
    have N17 := Fr.app N15 N17q
    have h41_18 : ¬ ((f1_0 (p1 &&& (1073741823 : Int32)) (1 : Int32)) < (0 : Int32)) := own_A1 _
    obtain ⟨_, _, ⟨T19, L19, k19, n19⟩, -, X19, ⟨Lc19, hQ19, l19, y19, z19⟩, st19⟩ := Jvm.LawKit.callS X17 hx (y := (⟨"com/example/libsubsume/libsubsume/core/NormalForms", "property", "(I)I"⟩ : MethodName)) hown (mvT hZ (hw _ (List.mem_of_getElem? (i := 5) rfl))) (mvT hZ (hw _ (List.mem_of_getElem? (i := 6) rfl))) (mvT hZ (hw _ (List.mem_of_getElem? (i := 3) rfl))) (mvT hZ (hw _ (List.mem_of_getElem? (i := 7) rfl))) (by decide) (backOf (W := 0) (rm2 l Z a0 hw [] (f1_0 (p1 &&& (1073741823 : Int32)) (1 : Int32)) h0 n0) hZ (hw _ (List.mem_of_getElem? (i := 7) rfl)) (hw _ (List.mem_of_getElem? (i := 3) rfl)) (by decide) (by decide)) (g := (mkF m 46 #[.val (.int p1), .val (.int p2), .val (.int (p1 &&& (1073741823 : Int32))), .val (.int (1 : Int32)), .val (.int (f1_0 (p1 &&& (1073741823 : Int32)) (1 : Int32))), .val (.int (f1_0 (p1 &&& (1073741823 : Int32)) (0 : Int32)))] [(.int (f1_0 (p1 &&& (1073741823 : Int32)) (1 : Int32)))])) rfl (by rw [hml]; rfl) (argsL := [(.int (f1_0 (p1 &&& (1073741823 : Int32)) (1 : Int32)))]) (rest := []) (lenOf pd_0_1 rfl) rfl (by show 2 * 0 + _ ≤ _; exact Nat.le_of_eq rfl) (hb hby at_46) (fun _ _ => ⟨rfl, e17, (by decide : 0 + 0 ≤ _), (by decide : 0 + 0 ≤ _)⟩)
    dsimp only [Pt.U, Pt.locs, Pt.cells, Pt.slots] at X19 l19 y19 z19 st19 hQ19
    subst l19 y19 z19
    obtain ⟨rfl, N19q, e19⟩ := hQ19
    have N19 := Fr.app N17 N19q
    have h50_20 : (f2_0 (f1_0 (p1 &&& (1073741823 : Int32)) (1 : Int32))) = (p1 &&& (1073741823 : Int32)) := own_B1 _
    obtain ⟨_, _, ⟨T21, L21, k21, n21⟩, -, X21, ⟨Lc21, hQ21, l21, y21, z21⟩, st21⟩ := Jvm.LawKit.callS X19 hx (y := (⟨"com/example/libsubsume/libsubsume/core/NormalForms", "isInverse", "(I)Z"⟩ : MethodName)) hown (mvT hZ (hw _ (List.mem_of_getElem? (i := 8) rfl))) (mvT hZ (hw _ (List.mem_of_getElem? (i := 9) rfl))) (mvT hZ (hw _ (List.mem_of_getElem? (i := 3) rfl))) (mvT hZ (hw _ (List.mem_of_getElem? (i := 10) rfl))) (by decide) (backOf (W := 0) (rm3 l Z a0 hw [] (f1_0 (p1 &&& (1073741823 : Int32)) (1 : Int32)) h0 n0) hZ (hw _ (List.mem_of_getElem? (i := 10) rfl)) (hw _ (List.mem_of_getElem? (i := 3) rfl)) (by decide) (by decide)) (g := (mkF m 55 #[.val (.int p1), .val (.int p2), .val (.int (p1 &&& (1073741823 : Int32))), .val (.int (1 : Int32)), .val (.int (f1_0 (p1 &&& (1073741823 : Int32)) (1 : Int32))), .val (.int (f1_0 (p1 &&& (1073741823 : Int32)) (0 : Int32)))] [(.int (f1_0 (p1 &&& (1073741823 : Int32)) (1 : Int32)))])) rfl (by rw [hml]; rfl) (argsL := [(.int (f1_0 (p1 &&& (1073741823 : Int32)) (1 : Int32)))]) (rest := []) (lenOf pd_0_2 rfl) rfl (by show 2 * 0 + _ ≤ _; exact Nat.le_of_eq rfl) (hb hby at_55) (fun _ _ => ⟨rfl, e19, (by decide : 0 + 0 ≤ _), (by decide : 0 + 0 ≤ _)⟩)
    dsimp only [Pt.U, Pt.locs, Pt.cells, Pt.slots] at X21 l21 y21 z21 st21 hQ21
    subst l21 y21 z21
    obtain ⟨rfl, N21q, e21⟩ := hQ21
    have N21 := Fr.app N19 N21q
    have h59_22 : (f3_0 (f1_0 (p1 &&& (1073741823 : Int32)) (1 : Int32))) = (1 : Int32) := own_C1 _
    obtain ⟨_, _, ⟨T23, L23, k23, n23⟩, -, X23, ⟨Lc23, hQ23, l23, y23, z23⟩, st23⟩ := Jvm.LawKit.callS X21 hx (y := (⟨"com/example/libsubsume/libsubsume/core/NormalForms", "inverse", "(I)I"⟩ : MethodName)) hown (mvT hZ (hw _ (List.mem_of_getElem? (i := 11) rfl))) (mvT hZ (hw _ (List.mem_of_getElem? (i := 12) rfl))) (mvT hZ (hw _ (List.mem_of_getElem? (i := 3) rfl))) (mvT hZ (hw _ (List.mem_of_getElem? (i := 13) rfl))) (by decide) (backOf (W := 0) (rm4 l Z a0 hw [] (f1_0 (p1 &&& (1073741823 : Int32)) (1 : Int32)) h0 n0) hZ (hw _ (List.mem_of_getElem? (i := 13) rfl)) (hw _ (List.mem_of_getElem? (i := 3) rfl)) (by decide) (by decide)) (g := (mkF m 64 #[.val (.int p1), .val (.int p2), .val (.int (p1 &&& (1073741823 : Int32))), .val (.int (1 : Int32)), .val (.int (f1_0 (p1 &&& (1073741823 : Int32)) (1 : Int32))), .val (.int (f1_0 (p1 &&& (1073741823 : Int32)) (0 : Int32)))] [(.int (f1_0 (p1 &&& (1073741823 : Int32)) (1 : Int32)))])) rfl (by rw [hml]; rfl) (argsL := [(.int (f1_0 (p1 &&& (1073741823 : Int32)) (1 : Int32)))]) (rest := []) (lenOf pd_0_1 rfl) rfl (by show 2 * 0 + _ ≤ _; exact Nat.le_of_eq rfl) (hb hby at_64) (fun _ _ => ⟨rfl, e21, (by decide : 0 + 0 ≤ _), (by decide : 0 + 0 ≤ _)⟩)
    dsimp only [Pt.U, Pt.locs, Pt.cells, Pt.slots] at X23 l23 y23 z23 st23 hQ23
    subst l23 y23 z23
    obtain ⟨rfl, N23q, e23⟩ := hQ23
    have N23 := Fr.app N21 N23q
    have h69_24 : (f4_0 (f1_0 (p1 &&& (1073741823 : Int32)) (1 : Int32))) = (f1_0 (p1 &&& (1073741823 : Int32)) (0 : Int32)) := own_D1 _
    have h76_25 : ¬ ((f1_0 (p1 &&& (1073741823 : Int32)) (1 : Int32)) = (f1_0 (p1 &&& (1073741823 : Int32)) (0 : Int32))) := own_E1 _
    have pre26 : ∀ t, Steps p.tables e below (T23.setTop (mkF m 84 #[.val (.int p1), .val (.int p2), .val (.int (p1 &&& (1073741823 : Int32))), .val (.int (1 : Int32)), .val (.int (f1_0 (p1 &&& (1073741823 : Int32)) (1 : Int32))), .val (.int (f1_0 (p1 &&& (1073741823 : Int32)) (0 : Int32)))] [(.int (1 : Int32))])) t → Steps p.tables e below (s₁.setTop (entryFrame m #[(.int p1), (.int p2)] maxLocals)) t := by
      intro t k
      refine pre2 t ?_
      refine XS.ifNo X0.here hx rfl (hb hby at_8) rfl ((if0 _ _).trans (feq h8_1).1) ?_
      show Steps p.tables e below (s₁.setTop (mkF m 11 #[.val (.int p1), .val (.int p2), .val (.int (p1 &&& (1073741823 : Int32))), .unset, .unset, .unset] [])) _
      refine XS.iconst X0.here hx rfl (hb hby at_11) ?_
      show Steps p.tables e below (s₁.setTop (mkF m 12 #[.val (.int p1), .val (.int p2), .val (.int (p1 &&& (1073741823 : Int32))), .unset, .unset, .unset] [(.int (1 : Int32))])) _
      refine XS.goto X0.here hx rfl (pc0 := 12) (pc' := 16) rfl (hb hby at_12) (by decide) (by decide) ?_
      show Steps p.tables e below (s₁.setTop (mkF m 16 #[.val (.int p1), .val (.int p2), .val (.int (p1 &&& (1073741823 : Int32))), .unset, .unset, .unset] [(.int (1 : Int32))])) _
      refine XS.istoreN X0.here hx rfl (hb hby at_16) rfl (l' := #[.val (.int p1), .val (.int p2), .val (.int (p1 &&& (1073741823 : Int32))), .val (.int (1 : Int32)), .unset, .unset]) rfl ?_
      show Steps p.tables e below (s₁.setTop (mkF m 17 #[.val (.int p1), .val (.int p2), .val (.int (p1 &&& (1073741823 : Int32))), .val (.int (1 : Int32)), .unset, .unset] [])) _
      refine XS.iloadN X0.here hx rfl (hb hby at_17) rfl ?_
      show Steps p.tables e below (s₁.setTop (mkF m 18 #[.val (.int p1), .val (.int p2), .val (.int (p1 &&& (1073741823 : Int32))), .val (.int (1 : Int32)), .unset, .unset] [(.int (p1 &&& (1073741823 : Int32)))])) _
      refine XS.iloadN X0.here hx rfl (hb hby at_18) rfl ?_
      show Steps p.tables e below (s₁.setTop (mkF m 19 #[.val (.int p1), .val (.int p2), .val (.int (p1 &&& (1073741823 : Int32))), .val (.int (1 : Int32)), .unset, .unset] [(.int (1 : Int32)), (.int (p1 &&& (1073741823 : Int32)))])) _
      refine st15 _ ?_
      show Steps p.tables e below (T15.setTop (mkF m 22 #[.val (.int p1), .val (.int p2), .val (.int (p1 &&& (1073741823 : Int32))), .val (.int (1 : Int32)), .unset, .unset] [(.int (f1_0 (p1 &&& (1073741823 : Int32)) (1 : Int32)))])) _
      refine XS.istore X15.here hx rfl (hb hby at_22) rfl (l' := #[.val (.int p1), .val (.int p2), .val (.int (p1 &&& (1073741823 : Int32))), .val (.int (1 : Int32)), .val (.int (f1_0 (p1 &&& (1073741823 : Int32)) (1 : Int32))), .unset]) rfl ?_
      show Steps p.tables e below (T15.setTop (mkF m 24 #[.val (.int p1), .val (.int p2), .val (.int (p1 &&& (1073741823 : Int32))), .val (.int (1 : Int32)), .val (.int (f1_0 (p1 &&& (1073741823 : Int32)) (1 : Int32))), .unset] [])) _
      refine XS.iloadN X15.here hx rfl (hb hby at_24) rfl ?_
      show Steps p.tables e below (T15.setTop (mkF m 25 #[.val (.int p1), .val (.int p2), .val (.int (p1 &&& (1073741823 : Int32))), .val (.int (1 : Int32)), .val (.int (f1_0 (p1 &&& (1073741823 : Int32)) (1 : Int32))), .unset] [(.int (p1 &&& (1073741823 : Int32)))])) _
      refine XS.iloadN X15.here hx rfl (hb hby at_25) rfl ?_
      show Steps p.tables e below (T15.setTop (mkF m 26 #[.val (.int p1), .val (.int p2), .val (.int (p1 &&& (1073741823 : Int32))), .val (.int (1 : Int32)), .val (.int (f1_0 (p1 &&& (1073741823 : Int32)) (1 : Int32))), .unset] [(.int (1 : Int32)), (.int (p1 &&& (1073741823 : Int32)))])) _
      refine XS.ifYes X15.here hx rfl (pc0 := 26) (pc' := 33) rfl (hb hby at_26) rfl ((if0 _ _).trans (feq h26_16).2) (by decide) (by decide) ?_
      show Steps p.tables e below (T15.setTop (mkF m 33 #[.val (.int p1), .val (.int p2), .val (.int (p1 &&& (1073741823 : Int32))), .val (.int (1 : Int32)), .val (.int (f1_0 (p1 &&& (1073741823 : Int32)) (1 : Int32))), .unset] [(.int (p1 &&& (1073741823 : Int32)))])) _
      refine XS.iconst X15.here hx rfl (hb hby at_33) ?_
      show Steps p.tables e below (T15.setTop (mkF m 34 #[.val (.int p1), .val (.int p2), .val (.int (p1 &&& (1073741823 : Int32))), .val (.int (1 : Int32)), .val (.int (f1_0 (p1 &&& (1073741823 : Int32)) (1 : Int32))), .unset] [(.int (0 : Int32)), (.int (p1 &&& (1073741823 : Int32)))])) _
      refine st17 _ ?_
      show Steps p.tables e below (T17.setTop (mkF m 37 #[.val (.int p1), .val (.int p2), .val (.int (p1 &&& (1073741823 : Int32))), .val (.int (1 : Int32)), .val (.int (f1_0 (p1 &&& (1073741823 : Int32)) (1 : Int32))), .unset] [(.int (f1_0 (p1 &&& (1073741823 : Int32)) (0 : Int32)))])) _
      refine XS.istore X17.here hx rfl (hb hby at_37) rfl (l' := #[.val (.int p1), .val (.int p2), .val (.int (p1 &&& (1073741823 : Int32))), .val (.int (1 : Int32)), .val (.int (f1_0 (p1 &&& (1073741823 : Int32)) (1 : Int32))), .val (.int (f1_0 (p1 &&& (1073741823 : Int32)) (0 : Int32)))]) rfl ?_
      show Steps p.tables e below (T17.setTop (mkF m 39 #[.val (.int p1), .val (.int p2), .val (.int (p1 &&& (1073741823 : Int32))), .val (.int (1 : Int32)), .val (.int (f1_0 (p1 &&& (1073741823 : Int32)) (1 : Int32))), .val (.int (f1_0 (p1 &&& (1073741823 : Int32)) (0 : Int32)))] [])) _
      refine XS.iload X17.here hx rfl (hb hby at_39) rfl ?_
      show Steps p.tables e below (T17.setTop (mkF m 41 #[.val (.int p1), .val (.int p2), .val (.int (p1 &&& (1073741823 : Int32))), .val (.int (1 : Int32)), .val (.int (f1_0 (p1 &&& (1073741823 : Int32)) (1 : Int32))), .val (.int (f1_0 (p1 &&& (1073741823 : Int32)) (0 : Int32)))] [(.int (f1_0 (p1 &&& (1073741823 : Int32)) (1 : Int32)))])) _
      refine XS.ifNo X17.here hx rfl (hb hby at_41) rfl ((if0 _ _).trans (flt h41_18).1) ?_
      show Steps p.tables e below (T17.setTop (mkF m 44 #[.val (.int p1), .val (.int p2), .val (.int (p1 &&& (1073741823 : Int32))), .val (.int (1 : Int32)), .val (.int (f1_0 (p1 &&& (1073741823 : Int32)) (1 : Int32))), .val (.int (f1_0 (p1 &&& (1073741823 : Int32)) (0 : Int32)))] [])) _
      refine XS.iload X17.here hx rfl (hb hby at_44) rfl ?_
      show Steps p.tables e below (T17.setTop (mkF m 46 #[.val (.int p1), .val (.int p2), .val (.int (p1 &&& (1073741823 : Int32))), .val (.int (1 : Int32)), .val (.int (f1_0 (p1 &&& (1073741823 : Int32)) (1 : Int32))), .val (.int (f1_0 (p1 &&& (1073741823 : Int32)) (0 : Int32)))] [(.int (f1_0 (p1 &&& (1073741823 : Int32)) (1 : Int32)))])) _
      refine st19 _ ?_
      show Steps p.tables e below (T19.setTop (mkF m 49 #[.val (.int p1), .val (.int p2), .val (.int (p1 &&& (1073741823 : Int32))), .val (.int (1 : Int32)), .val (.int (f1_0 (p1 &&& (1073741823 : Int32)) (1 : Int32))), .val (.int (f1_0 (p1 &&& (1073741823 : Int32)) (0 : Int32)))] [(.int (f2_0 (f1_0 (p1 &&& (1073741823 : Int32)) (1 : Int32))))])) _
      refine XS.iloadN X19.here hx rfl (hb hby at_49) rfl ?_
      show Steps p.tables e below (T19.setTop (mkF m 50 #[.val (.int p1), .val (.int p2), .val (.int (p1 &&& (1073741823 : Int32))), .val (.int (1 : Int32)), .val (.int (f1_0 (p1 &&& (1073741823 : Int32)) (1 : Int32))), .val (.int (f1_0 (p1 &&& (1073741823 : Int32)) (0 : Int32)))] [(.int (p1 &&& (1073741823 : Int32))), (.int (f2_0 (f1_0 (p1 &&& (1073741823 : Int32)) (1 : Int32))))])) _
      refine XS.icmpNo X19.here hx rfl (hb hby at_50) rfl (teq h50_20).2 ?_
      show Steps p.tables e below (T19.setTop (mkF m 53 #[.val (.int p1), .val (.int p2), .val (.int (p1 &&& (1073741823 : Int32))), .val (.int (1 : Int32)), .val (.int (f1_0 (p1 &&& (1073741823 : Int32)) (1 : Int32))), .val (.int (f1_0 (p1 &&& (1073741823 : Int32)) (0 : Int32)))] [])) _
      refine XS.iload X19.here hx rfl (hb hby at_53) rfl ?_
      show Steps p.tables e below (T19.setTop (mkF m 55 #[.val (.int p1), .val (.int p2), .val (.int (p1 &&& (1073741823 : Int32))), .val (.int (1 : Int32)), .val (.int (f1_0 (p1 &&& (1073741823 : Int32)) (1 : Int32))), .val (.int (f1_0 (p1 &&& (1073741823 : Int32)) (0 : Int32)))] [(.int (f1_0 (p1 &&& (1073741823 : Int32)) (1 : Int32)))])) _
      refine st21 _ ?_
      show Steps p.tables e below (T21.setTop (mkF m 58 #[.val (.int p1), .val (.int p2), .val (.int (p1 &&& (1073741823 : Int32))), .val (.int (1 : Int32)), .val (.int (f1_0 (p1 &&& (1073741823 : Int32)) (1 : Int32))), .val (.int (f1_0 (p1 &&& (1073741823 : Int32)) (0 : Int32)))] [(.int (f3_0 (f1_0 (p1 &&& (1073741823 : Int32)) (1 : Int32))))])) _
      refine XS.iloadN X21.here hx rfl (hb hby at_58) rfl ?_
      show Steps p.tables e below (T21.setTop (mkF m 59 #[.val (.int p1), .val (.int p2), .val (.int (p1 &&& (1073741823 : Int32))), .val (.int (1 : Int32)), .val (.int (f1_0 (p1 &&& (1073741823 : Int32)) (1 : Int32))), .val (.int (f1_0 (p1 &&& (1073741823 : Int32)) (0 : Int32)))] [(.int (1 : Int32)), (.int (f3_0 (f1_0 (p1 &&& (1073741823 : Int32)) (1 : Int32))))])) _
      refine XS.icmpNo X21.here hx rfl (hb hby at_59) rfl (teq h59_22).2 ?_
      show Steps p.tables e below (T21.setTop (mkF m 62 #[.val (.int p1), .val (.int p2), .val (.int (p1 &&& (1073741823 : Int32))), .val (.int (1 : Int32)), .val (.int (f1_0 (p1 &&& (1073741823 : Int32)) (1 : Int32))), .val (.int (f1_0 (p1 &&& (1073741823 : Int32)) (0 : Int32)))] [])) _
      refine XS.iload X21.here hx rfl (hb hby at_62) rfl ?_
      show Steps p.tables e below (T21.setTop (mkF m 64 #[.val (.int p1), .val (.int p2), .val (.int (p1 &&& (1073741823 : Int32))), .val (.int (1 : Int32)), .val (.int (f1_0 (p1 &&& (1073741823 : Int32)) (1 : Int32))), .val (.int (f1_0 (p1 &&& (1073741823 : Int32)) (0 : Int32)))] [(.int (f1_0 (p1 &&& (1073741823 : Int32)) (1 : Int32)))])) _
      refine st23 _ ?_
      show Steps p.tables e below (T23.setTop (mkF m 67 #[.val (.int p1), .val (.int p2), .val (.int (p1 &&& (1073741823 : Int32))), .val (.int (1 : Int32)), .val (.int (f1_0 (p1 &&& (1073741823 : Int32)) (1 : Int32))), .val (.int (f1_0 (p1 &&& (1073741823 : Int32)) (0 : Int32)))] [(.int (f4_0 (f1_0 (p1 &&& (1073741823 : Int32)) (1 : Int32))))])) _
      refine XS.iload X23.here hx rfl (hb hby at_67) rfl ?_
      show Steps p.tables e below (T23.setTop (mkF m 69 #[.val (.int p1), .val (.int p2), .val (.int (p1 &&& (1073741823 : Int32))), .val (.int (1 : Int32)), .val (.int (f1_0 (p1 &&& (1073741823 : Int32)) (1 : Int32))), .val (.int (f1_0 (p1 &&& (1073741823 : Int32)) (0 : Int32)))] [(.int (f1_0 (p1 &&& (1073741823 : Int32)) (0 : Int32))), (.int (f4_0 (f1_0 (p1 &&& (1073741823 : Int32)) (1 : Int32))))])) _
      refine XS.icmpNo X23.here hx rfl (hb hby at_69) rfl (teq h69_24).2 ?_
      show Steps p.tables e below (T23.setTop (mkF m 72 #[.val (.int p1), .val (.int p2), .val (.int (p1 &&& (1073741823 : Int32))), .val (.int (1 : Int32)), .val (.int (f1_0 (p1 &&& (1073741823 : Int32)) (1 : Int32))), .val (.int (f1_0 (p1 &&& (1073741823 : Int32)) (0 : Int32)))] [])) _
      refine XS.iload X23.here hx rfl (hb hby at_72) rfl ?_
      show Steps p.tables e below (T23.setTop (mkF m 74 #[.val (.int p1), .val (.int p2), .val (.int (p1 &&& (1073741823 : Int32))), .val (.int (1 : Int32)), .val (.int (f1_0 (p1 &&& (1073741823 : Int32)) (1 : Int32))), .val (.int (f1_0 (p1 &&& (1073741823 : Int32)) (0 : Int32)))] [(.int (f1_0 (p1 &&& (1073741823 : Int32)) (1 : Int32)))])) _
      refine XS.iload X23.here hx rfl (hb hby at_74) rfl ?_
      show Steps p.tables e below (T23.setTop (mkF m 76 #[.val (.int p1), .val (.int p2), .val (.int (p1 &&& (1073741823 : Int32))), .val (.int (1 : Int32)), .val (.int (f1_0 (p1 &&& (1073741823 : Int32)) (1 : Int32))), .val (.int (f1_0 (p1 &&& (1073741823 : Int32)) (0 : Int32)))] [(.int (f1_0 (p1 &&& (1073741823 : Int32)) (0 : Int32))), (.int (f1_0 (p1 &&& (1073741823 : Int32)) (1 : Int32)))])) _
      refine XS.icmpNo X23.here hx rfl (hb hby at_76) rfl (feq h76_25).1 ?_
      show Steps p.tables e below (T23.setTop (mkF m 79 #[.val (.int p1), .val (.int p2), .val (.int (p1 &&& (1073741823 : Int32))), .val (.int (1 : Int32)), .val (.int (f1_0 (p1 &&& (1073741823 : Int32)) (1 : Int32))), .val (.int (f1_0 (p1 &&& (1073741823 : Int32)) (0 : Int32)))] [])) _
      refine XS.iconst X23.here hx rfl (hb hby at_79) ?_
      show Steps p.tables e below (T23.setTop (mkF m 80 #[.val (.int p1), .val (.int p2), .val (.int (p1 &&& (1073741823 : Int32))), .val (.int (1 : Int32)), .val (.int (f1_0 (p1 &&& (1073741823 : Int32)) (1 : Int32))), .val (.int (f1_0 (p1 &&& (1073741823 : Int32)) (0 : Int32)))] [(.int (1 : Int32))])) _
      refine XS.goto X23.here hx rfl (pc0 := 80) (pc' := 84) rfl (hb hby at_80) (by decide) (by decide) ?_
      show Steps p.tables e below (T23.setTop (mkF m 84 #[.val (.int p1), .val (.int p2), .val (.int (p1 &&& (1073741823 : Int32))), .val (.int (1 : Int32)), .val (.int (f1_0 (p1 &&& (1073741823 : Int32)) (1 : Int32))), .val (.int (f1_0 (p1 &&& (1073741823 : Int32)) (0 : Int32)))] [(.int (1 : Int32))])) _
      exact k
    obtain ⟨fs, hr, hrun, hended, hW, hsame⟩ := X23.leave (v := some (.int (1 : Int32))) (fun h => by rw [Bd.returns] at h; cases h)
    refine ⟨_, _, pre26 _ ?_, hrun, hended, _, _, rfl, ?_, ⟨_, rfl⟩, hW, hsame.mono (by decide) (by decide)⟩
    · exact retN X23 hx (t := .boolean) Bd.returns (by simp) (hb hby at_84) hr
    · exact ⟨rfl, N23⟩
set_option maxRecDepth 65536 in
set_option maxHeartbeats 40000000 in
theorem comes_1 {Post : Tables → Env → Array Value → State → Outcome → State → Prop} (hpost : ∀ tb e args s v u, (limb_1_1.after args s (.returned v) u = true ∧ limb_1_2.after args s (.returned v) u = true ∧ True) → FrameEnd s (.returned v) u (Jvm.fieldLocs frame_1_writes args s ++ Jvm.arrayLocs frame_1_arrays args s ++ Jvm.staticLocs frame_1_statics s) 0 0 → Post tb e args s (.returned v) u) :
    ArmFor flags0 classFile x code maxLocals ret World_1 tables_1 room_1 Calls_1 rest_1 Pre_1 Post := by
  intro l hfl _ _ p e ha hc hk s m args below hf hA hF happ hP
  obtain ⟨hcalls, hrest, hpre⟩ := hP
  obtain ⟨-, -, -, hnamed, -, -, -, hat⟩ := (Spec.applies_iff hf).mp happ
  obtain ⟨hg, hn⟩ := and_e (Cond.before_iff.mp (show (Jvm.Cond.and given_1 narrow_1).before args s = true from hpre))
  obtain ⟨hc0, hr1⟩ := and_e hg
  obtain ⟨ha0, hr2⟩ := and_e hr1
  obtain ⟨w0, w1, rfl⟩ : ∃ w0 w1 : Value, args = #[w0, w1] := by
    have hs : args.size = 2 := by simpa [Cond.value, given_1] using hc0
    obtain ⟨L⟩ := args
    match L, hs with
    | [w0, w1], _ => exact ⟨w0, w1, rfl⟩
  have hw := fun d (hd : d ∈ tables_1) => atoms_spec (ws := Jvm.Cond.code x code maxLocals ret :: tables_1) hat d (List.mem_cons_of_mem _ hd)
  have hfit : Fit s := fun {y c} hc i hi => by
    obtain ⟨ha, rfl⟩ := Array.getElem?_eq_some_iff.mp hc
    have q := List.all_eq_true.mp ((Array.all_eq_true_iff_forall_mem.mp hF) _ (Array.getElem_mem ha)) i (List.mem_range.mpr hi)
    simpa [Array.getElem?_eq_getElem hi] using q
  obtain ⟨i0, ei0⟩ := is_v ha0
  obtain rfl : w0 = (.int i0) := Option.some.inj ei0
  obtain ⟨i1, ei1⟩ := is_v hr2
  obtain rfl : w1 = (.int i1) := Option.some.inj ei1
  obtain ⟨n, o, h1, h2, h3, _, L, rfl, ⟨rfl, N⟩, hq⟩ := rm0 l s _ hw tables_1 i0 i1 s.heap s.heap.size (Nat.le_refl _) p e ha hc hk s m _ below hf ((Spec.applies_iff_loose hf).mp happ).1 ⟨rfl, State.Warmed39.refl s, rfl⟩ trivial
  refine ⟨n, _, h1, h2, h3, hpost _ _ _ _ _ _ ⟨Cond.after_iff.mpr rfl, Cond.after_iff.mpr (eq_i res_at (Term.int_eval (1)) rfl), trivial⟩ ⟨hq.1, hq.2.1, (hq.2.2.sift fun y hy => Or.inr (N y hy)).mono (by decide) (by decide)⟩⟩
theorem main_1_1 : Claimed_1_1 := comes_1 fun _ _ _ _ _ _ h hF => ⟨h.1, hF⟩
theorem main_1_2 : Claimed_1_2 := comes_1 fun _ _ _ _ _ _ h hF => ⟨h.2.1, hF⟩
end Jvm.Pilot.@@N@@
namespace Jvm.Pilot.@@N@@
open Jvm Jvm.ClassFile Sem Op Lib Jvm.Free Jvm.Stand Jvm.Pilot.@@N@@.Jvm.D
/-! MADE BY PROGRAM (witnessworld.py) out of the Statement's table words and the real class files: 10 classes; the members and pool entries that the words name. The judged class is class 1, her method 1. -/
namespace start1
open Jvm.ClassFile
def u (s : String) : CpInfo := .utf8 (stringToUtf16 s)
/-- a pool by its gaps: so many unusable entries, then the entry; so many at the end -/
def gap : Nat → List CpInfo → List CpInfo
  | 0, r => r
  | n + 1, r => .unusable :: gap n r
def poolList (es : List (Nat × CpInfo)) (last : Nat) : List CpInfo := es.foldr (fun e r => gap e.1 (e.2 :: r)) (gap last [])
def pool (es : List (Nat × CpInfo)) (last : Nat) : Array CpInfo := ⟨poolList es last⟩
def fileOf (pool : Array CpInfo) (this : Nat) (attrs : Array Attribute := #[]) (ms : Array MethodInfo := #[]) (fl : Nat := 33) (sup : Nat := 0) (ifs : Array Nat := #[]) (fds : Array FieldInfo := #[]) : ClassFile where
  minorVersion := 0
  majorVersion := 65
  constantPool := pool
  accessFlags := fl
  thisClass := this
  superClass := sup
  interfaces := ifs
  fields := fds
  methods := ms
  attributes := attrs
def plain (name : String) (sup : Option ClassId) : Class where
  name := name
  kind := .ordinary
  loader := none
  accessFlags := 33
  super := sup
  interfaces := #[]
  cf := none
  fields := #[]
  methods := #[]
  instanceTypes := #[]
  staticTypes := #[]
  resolved := #[]
  callSites := []
  init := .initialized
  statics := none
  mirror := none

def pool0 : Array CpInfo := pool [(5, u "<init>"), (0, u "()V"), (1, .class_ 10), (1, u "java/lang/Object")] 113

def k0m0 : Method := { name := "<init>", desc := "()V", sig := { parameters := [], returnType := none }, accessFlags := 1, code := none }
/-- java/lang/Object -/
def k0 : Class := { plain "java/lang/Object" none with
  accessFlags := 33
  interfaces := #[]
  cf := some (fileOf pool0 8 #[] #[{ accessFlags := 1, nameIndex := 5, descriptorIndex := 6, attributes := #[] }] 33 0 #[] #[])
  fields := #[]
  methods := #[k0m0]
  instanceTypes := #[]
  staticTypes := #[]
  resolved := Array.replicate 124 none
  statics := none }

def pool1 : Array CpInfo := pool [(2, .class_ 4), (1, u "java/lang/Object"), (0, u "<init>"), (0, u "()V"), (0, .integer 1073741823), (0, .methodref 9 10), (0, .class_ 11), (0, .nameAndType 12 13), (0, u "com/example/libsubsume/libsubsume/core/NormalForms"), (0, u "expression"), (0, u "(IZ)I"), (0, .methodref 9 15), (0, .nameAndType 16 17), (0, u "property"), (0, u "(I)I"), (0, .methodref 9 19), (0, .nameAndType 20 21), (0, u "isInverse"), (0, u "(I)Z"), (0, .methodref 9 23), (0, .nameAndType 24 17), (0, u "inverse"), (0, .class_ 26), (0, u "com/example/libsubsume/libsubsume/core/NormalFormsExpressionPinLaw"), (2, u "law"), (0, u "(II)Z")] 3

def k1m0 : Method := { name := "<init>", desc := "()V", sig := { parameters := [], returnType := none }, accessFlags := 1, code := none }
def k1c1 : Code := { maxStack := 2, maxLocals := 6, code := code, exceptionTable := #[], attributes := #[] }
def k1m1 : Method := { name := "law", desc := "(II)Z", sig := { parameters := [.int, .int], returnType := some .boolean }, accessFlags := 9, code := some k1c1 }
/-- com/example/libsubsume/libsubsume/core/NormalFormsExpressionPinLaw -/
def k1 : Class := { plain "com/example/libsubsume/libsubsume/core/NormalFormsExpressionPinLaw" (some 0) with
  accessFlags := 49
  interfaces := #[]
  cf := some (fileOf pool1 25 #[] #[{ accessFlags := 1, nameIndex := 5, descriptorIndex := 6, attributes := #[] }, { accessFlags := 9, nameIndex := 29, descriptorIndex := 30, attributes := #[] }] 49 2 #[] #[])
  fields := #[]
  methods := #[k1m0, k1m1]
  instanceTypes := #[]
  staticTypes := #[]
  resolved := Array.replicate 34 none
  statics := none }

def pool2 : Array CpInfo := pool [(2, .class_ 4), (1, u "java/lang/Object"), (0, u "<init>"), (0, u "()V"), (0, .class_ 8), (0, u "java/lang/Record")] 13

def k2m0 : Method := { name := "<init>", desc := "()V", sig := { parameters := [], returnType := none }, accessFlags := 4, code := none }
/-- java/lang/Record -/
def k2 : Class := { plain "java/lang/Record" (some 0) with
  accessFlags := 1057
  interfaces := #[]
  cf := some (fileOf pool2 7 #[] #[{ accessFlags := 4, nameIndex := 5, descriptorIndex := 6, attributes := #[] }] 1057 2 #[] #[])
  fields := #[]
  methods := #[k2m0]
  instanceTypes := #[]
  staticTypes := #[]
  resolved := Array.replicate 22 none
  statics := none }

def pool3 : Array CpInfo := pool [(2, .class_ 4), (1, u "java/lang/Record"), (9, .class_ 16), (1, u "com/example/libsubsume/libsubsume/core/NormalForms"), (0, u "classNames"), (0, u "Ljava/util/List;"), (2, u "disjunctions"), (2, u "atLeast"), (2, u "atMost"), (2, u "universals"), (2, u "superProperties"), (18, u "TOP"), (0, u "I"), (2, u "BOTTOM"), (6, u "expression"), (0, u "(IZ)I"), (1, u "inverse"), (0, u "(I)I"), (0, u "property"), (0, u "isInverse"), (0, u "(I)Z"), (12, .class_ 84), (0, u "com/example/libsubsume/libsubsume/core/NormalForms$NumberRestriction"), (0, .class_ 86), (0, u "com/example/libsubsume/libsubsume/core/NormalForms$Restriction"), (0, .class_ 88), (0, u "com/example/libsubsume/libsubsume/core/NormalForms$Disjunction")] 26

def k3c0 : Code := { maxStack := 2, maxLocals := 2, code := prog_28_method_2_code, exceptionTable := #[], attributes := #[] }
def k3m0 : Method := { name := "expression", desc := "(IZ)I", sig := { parameters := [.int, .boolean], returnType := some .int }, accessFlags := 8, code := some k3c0 }
def k3c1 : Code := { maxStack := 2, maxLocals := 1, code := prog_28_method_3_code, exceptionTable := #[], attributes := #[] }
def k3m1 : Method := { name := "inverse", desc := "(I)I", sig := { parameters := [.int], returnType := some .int }, accessFlags := 8, code := some k3c1 }
def k3c2 : Code := { maxStack := 2, maxLocals := 1, code := prog_28_method_4_code, exceptionTable := #[], attributes := #[] }
def k3m2 : Method := { name := "property", desc := "(I)I", sig := { parameters := [.int], returnType := some .int }, accessFlags := 8, code := some k3c2 }
def k3c3 : Code := { maxStack := 2, maxLocals := 1, code := prog_28_method_5_code, exceptionTable := #[], attributes := #[] }
def k3m3 : Method := { name := "isInverse", desc := "(I)Z", sig := { parameters := [.int], returnType := some .boolean }, accessFlags := 8, code := some k3c3 }
/-- com/example/libsubsume/libsubsume/core/NormalForms -/
def k3 : Class := { plain "com/example/libsubsume/libsubsume/core/NormalForms" (some 2) with
  accessFlags := 48
  interfaces := #[]
  cf := some (fileOf pool3 14 #[.nestMembers #[83, 85, 87]] #[{ accessFlags := 8, nameIndex := 63, descriptorIndex := 64, attributes := #[] }, { accessFlags := 8, nameIndex := 66, descriptorIndex := 67, attributes := #[] }, { accessFlags := 8, nameIndex := 68, descriptorIndex := 67, attributes := #[] }, { accessFlags := 8, nameIndex := 69, descriptorIndex := 70, attributes := #[] }] 48 2 #[] #[{ accessFlags := 18, nameIndex := 17, descriptorIndex := 18, attributes := #[] }, { accessFlags := 18, nameIndex := 21, descriptorIndex := 18, attributes := #[] }, { accessFlags := 18, nameIndex := 24, descriptorIndex := 18, attributes := #[] }, { accessFlags := 18, nameIndex := 27, descriptorIndex := 18, attributes := #[] }, { accessFlags := 18, nameIndex := 30, descriptorIndex := 18, attributes := #[] }, { accessFlags := 18, nameIndex := 33, descriptorIndex := 18, attributes := #[] }, { accessFlags := 24, nameIndex := 52, descriptorIndex := 53, attributes := #[] }, { accessFlags := 24, nameIndex := 56, descriptorIndex := 53, attributes := #[] }])
  fields := #[{ name := "classNames", type := (.object "java/util/List"), accessFlags := 18, slot := 0, constantValue := 0 }, { name := "disjunctions", type := (.object "java/util/List"), accessFlags := 18, slot := 1, constantValue := 0 }, { name := "atLeast", type := (.object "java/util/List"), accessFlags := 18, slot := 2, constantValue := 0 }, { name := "atMost", type := (.object "java/util/List"), accessFlags := 18, slot := 3, constantValue := 0 }, { name := "universals", type := (.object "java/util/List"), accessFlags := 18, slot := 4, constantValue := 0 }, { name := "superProperties", type := (.object "java/util/List"), accessFlags := 18, slot := 5, constantValue := 0 }, { name := "TOP", type := .int, accessFlags := 24, slot := 0, constantValue := 0 }, { name := "BOTTOM", type := .int, accessFlags := 24, slot := 1, constantValue := 0 }]
  methods := #[k3m0, k3m1, k3m2, k3m3]
  instanceTypes := #[(.object "java/util/List"), (.object "java/util/List"), (.object "java/util/List"), (.object "java/util/List"), (.object "java/util/List"), (.object "java/util/List")]
  staticTypes := #[.int, .int]
  resolved := Array.replicate 115 none
  statics := none }

def pool4 : Array CpInfo := pool [(1, u "java/lang/Cloneable"), (0, .class_ 1), (0, u "java/lang/Object"), (0, .class_ 3)] 3

/-- java/lang/Cloneable -/
def k4 : Class := { plain "java/lang/Cloneable" (some 0) with
  accessFlags := 1537
  interfaces := #[]
  cf := some (fileOf pool4 2 #[] #[] 1537 4 #[] #[])
  fields := #[]
  methods := #[]
  instanceTypes := #[]
  staticTypes := #[]
  resolved := Array.replicate 8 none
  statics := none }

def pool5 : Array CpInfo := pool [(1, u "java/io/Serializable"), (0, .class_ 1), (0, u "java/lang/Object"), (0, .class_ 3)] 3

/-- java/io/Serializable -/
def k5 : Class := { plain "java/io/Serializable" (some 0) with
  accessFlags := 1537
  interfaces := #[]
  cf := some (fileOf pool5 2 #[] #[] 1537 4 #[] #[])
  fields := #[]
  methods := #[]
  instanceTypes := #[]
  staticTypes := #[]
  resolved := Array.replicate 8 none
  statics := none }

/-- the primitive byte -/
def k6 : Class := { plain "byte" none with kind := .primitive 'B', accessFlags := 0x411 }
/-- [B -/
def k7 : Class := { plain "[B" (some 0) with kind := .array 6 .byte, interfaces := #[4, 5], accessFlags := 1041 }

/-- the primitive int -/
def k8 : Class := { plain "int" none with kind := .primitive 'I', accessFlags := 0x411 }
/-- [I -/
def k9 : Class := { plain "[I" (some 0) with kind := .array 8 .int, interfaces := #[4, 5], accessFlags := 1041 }

def heap : Heap := #[]
def classes : Array Class := #[k0, k1, k2, k3, k4, k5, k6, k7, k8, k9]
def interned : List (Array UInt16 × Addr) := []
def slotsUsed : Nat := 0
def theMethod : MethodId := ⟨1, 1⟩
def args0 : Array Value := #[.int 5, .int 3]
def aboutOver (below : List Frame) : State where
  vm := { classes := classes, interned := interned.toArray }
  heap := heap
  slotsUsed := slotsUsed
  threads := #[{ frames := .invoking theMethod args0 :: below }]
def below0 : List Frame := [.native { method := ⟨0, 0⟩, args := #[] }]
def about1 : State := aboutOver below0
def p0 : Program := .bare "" "" ""
def e0 : Env := launch0.env 0 0 0
theorem w_frames : about1.frames = Frame.invoking theMethod args0 :: below0 := rfl
set_option maxRecDepth 65536 in
theorem w_args : argsFit about1.vm theMethod args0 = true := by decide +kernel
set_option maxRecDepth 65536 in
theorem w_heap : heapFits about1 = true := by decide +kernel
set_option maxRecDepth 65536 in
theorem w_runnable : about1.curStatus? = some .runnable := by decide +kernel
set_option maxRecDepth 65536 in
theorem w_alone : about1.alone = true := by decide +kernel
set_option maxRecDepth 65536 in
theorem w_named : about1.methodNamed? x = some theMethod := by decide +kernel
set_option maxRecDepth 65536 in
theorem w_hears : about1.hears theMethod below0 = true := by decide +kernel
set_option maxRecDepth 65536 in
theorem w_ripe : about1.ripe theMethod args0 below0 = true := by decide +kernel
theorem w_running : about1.status = .running := rfl
set_option maxRecDepth 65536 in
theorem w_room : about1.hasRoom e0.platform room_1 = true :=
  launch0.hasRoom_least _ room_1 (by decide +kernel) (by decide +kernel) (by decide +kernel) (by decide +kernel) (by decide +kernel) (by decide +kernel)
theorem allAtoms_all (ts : List Jvm.Cond) (a : Array Jvm.Value) (st : Jvm.State) : (allAtoms ts).before a st = ts.all (fun c => c.before a st) := by
  induction ts with
  | nil => rfl
  | cons c t ih =>
    show (Jvm.Cond.and c (allAtoms t)).before a st = _
    rw [Jvm.Cond.before_and, ih, List.all_cons]
def words1 : List Jvm.Cond := Jvm.Cond.code x code maxLocals ret :: tables_1
/-- a 'code' word, met by the world's own term for the bytes: nothing is compared byte by byte -/
theorem code_word {y : MethodName} {bytes : ByteArray} {mx : Nat} {rt : Option FieldType} {a : Array Value} {s : State} {m : MethodId} {meth : Method} {c : Code} (h1 : s.methodNamed? y = some m) (h2 : s.vm.method? m = some meth) (h3 : meth.code = some c) (h4 : c.code = bytes)
    (h5 : (c.maxLocals == mx && c.exceptionTable.isEmpty && decide (c.maxStack ≤ mostOperands) && decide (meth.sig.returnType = rt) && !meth.locks && decide (parseMethodDescriptor y.desc = some meth.sig)) = true) : (Jvm.Cond.code y bytes mx rt).before a s = true := by
  simp only [Bool.and_eq_true, beq_iff_eq, Bool.not_eq_true', decide_eq_true_eq] at h5
  obtain ⟨⟨⟨⟨⟨g1, g2⟩, g3⟩, g4⟩, g5⟩, g6⟩ := h5
  simp [Cond.before, Cond.holds, Cond.value, h1, h2, h3, h4, g1, g2, g3, g4, g5, g6]
def isCode : Jvm.Cond → Bool
  | .code _ _ _ _ => true
  | _ => false
theorem all_split {L : List Jvm.Cond} {P : Jvm.Cond → Bool} (h1 : L.all (fun c => isCode c || P c) = true) (h2 : ∀ c ∈ L.filter isCode, P c = true) : L.all P = true := by
  refine List.all_eq_true.mpr fun c hc => ?_
  have h := List.all_eq_true.mp h1 c hc
  rcases Bool.eq_false_or_eq_true (isCode c) with hi | hi
  · exact h2 c (List.mem_filter.mpr ⟨hc, hi⟩)
  · simpa [hi] using h
set_option maxRecDepth 65536 in
theorem w_c0 : (Jvm.Cond.code x code maxLocals ret).before args0 about1 = true := code_word (m := ⟨1, 1⟩) (meth := k1m1) (c := k1c1) (by decide +kernel) rfl rfl rfl (by decide +kernel)
set_option maxRecDepth 65536 in
theorem w_c1 : (Jvm.Cond.code ({ cls := "com/example/libsubsume/libsubsume/core/NormalForms", name := "expression", desc := "(IZ)I" } : Jvm.MethodName) prog_28_method_2_code (2 : Nat) (Option.some Jvm.ClassFile.FieldType.int)).before args0 about1 = true := code_word (m := ⟨3, 0⟩) (meth := k3m0) (c := k3c0) (by decide +kernel) rfl rfl rfl (by decide +kernel)
set_option maxRecDepth 65536 in
theorem w_c2 : (Jvm.Cond.code ({ cls := "com/example/libsubsume/libsubsume/core/NormalForms", name := "property", desc := "(I)I" } : Jvm.MethodName) prog_28_method_4_code (1 : Nat) (Option.some Jvm.ClassFile.FieldType.int)).before args0 about1 = true := code_word (m := ⟨3, 2⟩) (meth := k3m2) (c := k3c2) (by decide +kernel) rfl rfl rfl (by decide +kernel)
set_option maxRecDepth 65536 in
theorem w_c3 : (Jvm.Cond.code ({ cls := "com/example/libsubsume/libsubsume/core/NormalForms", name := "isInverse", desc := "(I)Z" } : Jvm.MethodName) prog_28_method_5_code (1 : Nat) (Option.some Jvm.ClassFile.FieldType.boolean)).before args0 about1 = true := code_word (m := ⟨3, 3⟩) (meth := k3m3) (c := k3c3) (by decide +kernel) rfl rfl rfl (by decide +kernel)
set_option maxRecDepth 65536 in
theorem w_c4 : (Jvm.Cond.code ({ cls := "com/example/libsubsume/libsubsume/core/NormalForms", name := "inverse", desc := "(I)I" } : Jvm.MethodName) prog_28_method_3_code (1 : Nat) (Option.some Jvm.ClassFile.FieldType.int)).before args0 about1 = true := code_word (m := ⟨3, 1⟩) (meth := k3m1) (c := k3c1) (by decide +kernel) rfl rfl rfl (by decide +kernel)
def codes1 : List Jvm.Cond := [Jvm.Cond.code x code maxLocals ret, Jvm.Cond.code ({ cls := "com/example/libsubsume/libsubsume/core/NormalForms", name := "expression", desc := "(IZ)I" } : Jvm.MethodName) prog_28_method_2_code (2 : Nat) (Option.some Jvm.ClassFile.FieldType.int), Jvm.Cond.code ({ cls := "com/example/libsubsume/libsubsume/core/NormalForms", name := "property", desc := "(I)I" } : Jvm.MethodName) prog_28_method_4_code (1 : Nat) (Option.some Jvm.ClassFile.FieldType.int), Jvm.Cond.code ({ cls := "com/example/libsubsume/libsubsume/core/NormalForms", name := "isInverse", desc := "(I)Z" } : Jvm.MethodName) prog_28_method_5_code (1 : Nat) (Option.some Jvm.ClassFile.FieldType.boolean), Jvm.Cond.code ({ cls := "com/example/libsubsume/libsubsume/core/NormalForms", name := "inverse", desc := "(I)I" } : Jvm.MethodName) prog_28_method_3_code (1 : Nat) (Option.some Jvm.ClassFile.FieldType.int)]
set_option maxRecDepth 65536 in
theorem codes_eq : words1.filter isCode = codes1 := rfl
theorem w_codes : ∀ c ∈ words1.filter isCode, c.before args0 about1 = true := by
  rw [codes_eq]
  intro c hc
  simp only [codes1, List.mem_cons, List.not_mem_nil, or_false] at hc
  rcases hc with rfl | rfl | rfl | rfl | rfl
  · exact w_c0
  · exact w_c1
  · exact w_c2
  · exact w_c3
  · exact w_c4
set_option maxRecDepth 65536 in
theorem w_t1 : words1.all (fun c => isCode c || c.before args0 about1) = true := by decide +kernel
theorem w_tables : (allAtoms (Jvm.Cond.code x code maxLocals ret :: tables_1)).before args0 about1 = true := by
  rw [allAtoms_all]
  show words1.all (fun c => c.before args0 about1) = true
  refine all_split ?_ w_codes
  rw [w_t1]
set_option maxRecDepth 65536 in
theorem w_case : (Jvm.Cond.and given_1 narrow_1).before args0 about1 = true := by decide +kernel
theorem w_applies : (headSpec (Jvm.Cond.code x code maxLocals ret :: tables_1) room_1).applies x e0.platform about1 = true :=
  (Spec.applies_iff w_frames).mpr ⟨w_running, w_runnable, w_alone, w_named, w_hears, w_ripe, w_room, w_tables⟩
theorem atStart : AtStart classFile x code maxLocals ret World_1 tables_1 room_1 Calls_1 rest_1 Pre_1 launch0 p0 e0 about1 theMethod args0 below0 :=
  ⟨lists_1, trivial, launch0.admits_env _ _ _, launch0.least_env, fairChoices_fair.cas, fairChoices_fair.clock, w_frames, w_args, w_heap, w_applies, trivial, trivial, w_case⟩
end start1
theorem witness_1 : WitnessClaimed_1 := ⟨start1.p0, start1.e0, start1.about1, start1.theMethod, start1.args0, start1.below0, start1.atStart⟩
end Jvm.Pilot.@@N@@
