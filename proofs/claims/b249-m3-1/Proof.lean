import JvmDerived
import JvmDerived.Pilot.@@N@@Statement
import JvmDerived.Pilot.@@N@@Code
set_option linter.unusedVariables false
set_option linter.unusedSimpArgs false
@@BLOCK:NumsL.lean.txt@@
namespace Jvm.RoadKit
open Sem ClassFile Op Lib Jvm.Stand Jvm.Free Jvm.LawKit
section New
variable {p : Program} {l : Launch} {e : Env} {R : Room} {s : State} {m : MethodId} {args : Array Value} {below : List Frame} {meth : Method} {c : Code} {T : State} {locs : List Loc} {cells slots : Nat}
theorem retI (X : Stand p l e R s m args below meth c T locs cells slots) (hx : p.tables.exec = Jvm.exec) {pc : Nat} {Ls : Array Slot} {z : Int32} {rest : List Value} (hret : meth.sig.returnType = some .int) (hd : decode c.code pc = .ok (.ireturn, 1)) {fs : List Frame}
    (hl : ∀ (f : JFrame) (acts : List Action), f.method = m → f.locked = none → f.entered = [] → (doReturn e (T.setTop f) acts (some (.int z))).1 = T.setFrames fs) : Steps p.tables e below (T.setTop (mkF m pc Ls (.int z :: rest))) (T.setFrames fs) := by
  have hm' : T.vm.method? m = some meth := X.method'
  have hn : narrow .int (.int z) = .int z := rfl
  show Steps p.tables e below (T.setTop { method := m, pc := pc, locals := Ls, stack := _ :: rest, locked := none }) _
  jvm_step X.here [X.here.top, hx, hd, hm', hret, hn]
  first | (intro acts; rw [hl _ acts rfl rfl rfl]) | rw [hl _ _ rfl rfl rfl]
  exact Steps.refl _
end New
end Jvm.RoadKit
namespace Jvm.Pilot.@@N@@
open Jvm Jvm.ClassFile Sem Op Lib Jvm.Free Jvm.Stand Jvm.LawKit Jvm.RoadKit Bundle Jvm.Pilot.@@N@@.Jvm.D
theorem d1_0 : decode method_2_code 0 = .ok (.iload_n 1, 1) := by decide +kernel
theorem d1_1 : decode method_2_code 1 = .ok (.ldc 7, 2) := by decide +kernel
theorem d1_3 : decode method_2_code 3 = .ok (.iand, 1) := by decide +kernel
theorem d1_4 : decode method_2_code 4 = .ok (.i2c, 1) := by decide +kernel
theorem d1_5 : decode method_2_code 5 = .ok (.istore_n 2, 1) := by decide +kernel
theorem d1_6 : decode method_2_code 6 = .ok (.iload_n 0, 1) := by decide +kernel
theorem d1_7 : decode method_2_code 7 = .ok (.bipush 7, 2) := by decide +kernel
theorem d1_9 : decode method_2_code 9 = .ok (.iand, 1) := by decide +kernel
theorem d1_10 : decode method_2_code 10 = .ok (.istore_n 3, 1) := by decide +kernel
theorem d1_11 : decode method_2_code 11 = .ok (.iload_n 3, 1) := by decide +kernel
theorem d1_12 : decode method_2_code 12 = .ok (.ifCond .ne 6, 3) := by decide +kernel
theorem d1_15 : decode method_2_code 15 = .ok (.bipush 32, 2) := by decide +kernel
theorem d1_17 : decode method_2_code 17 = .ok (.ireturn, 1) := by decide +kernel
theorem d1_18 : decode method_2_code 18 = .ok (.iload_n 3, 1) := by decide +kernel
theorem d1_19 : decode method_2_code 19 = .ok (.iconst 1, 1) := by decide +kernel
theorem d1_20 : decode method_2_code 20 = .ok (.if_icmp .ne 6, 3) := by decide +kernel
theorem d1_23 : decode method_2_code 23 = .ok (.bipush 9, 2) := by decide +kernel
theorem d1_25 : decode method_2_code 25 = .ok (.ireturn, 1) := by decide +kernel
theorem d1_26 : decode method_2_code 26 = .ok (.iload_n 3, 1) := by decide +kernel
theorem d1_27 : decode method_2_code 27 = .ok (.iconst 2, 1) := by decide +kernel
theorem d1_28 : decode method_2_code 28 = .ok (.if_icmp .ne 6, 3) := by decide +kernel
theorem d1_31 : decode method_2_code 31 = .ok (.bipush 13, 2) := by decide +kernel
theorem d1_33 : decode method_2_code 33 = .ok (.ireturn, 1) := by decide +kernel
theorem d1_34 : decode method_2_code 34 = .ok (.iload_n 3, 1) := by decide +kernel
theorem d1_35 : decode method_2_code 35 = .ok (.iconst 3, 1) := by decide +kernel
theorem d1_36 : decode method_2_code 36 = .ok (.if_icmp .ne 6, 3) := by decide +kernel
theorem d1_39 : decode method_2_code 39 = .ok (.bipush 10, 2) := by decide +kernel
theorem d1_41 : decode method_2_code 41 = .ok (.ireturn, 1) := by decide +kernel
theorem d1_42 : decode method_2_code 42 = .ok (.iload_n 3, 1) := by decide +kernel
theorem d1_43 : decode method_2_code 43 = .ok (.iconst 4, 1) := by decide +kernel
theorem d1_44 : decode method_2_code 44 = .ok (.if_icmp .ne 6, 3) := by decide +kernel
theorem d1_47 : decode method_2_code 47 = .ok (.bipush 11, 2) := by decide +kernel
theorem d1_49 : decode method_2_code 49 = .ok (.ireturn, 1) := by decide +kernel
theorem d1_50 : decode method_2_code 50 = .ok (.iload_n 3, 1) := by decide +kernel
theorem d1_51 : decode method_2_code 51 = .ok (.iconst 5, 1) := by decide +kernel
theorem d1_52 : decode method_2_code 52 = .ok (.if_icmp .ne 6, 3) := by decide +kernel
theorem d1_55 : decode method_2_code 55 = .ok (.bipush 12, 2) := by decide +kernel
theorem d1_57 : decode method_2_code 57 = .ok (.ireturn, 1) := by decide +kernel
theorem d1_58 : decode method_2_code 58 = .ok (.iload_n 2, 1) := by decide +kernel
theorem d1_59 : decode method_2_code 59 = .ok (.ireturn, 1) := by decide +kernel
theorem pn_1 : plainName "com/example/rumblecourt/rumblecourt/server/ProtocolIsSpacePinLaw" = true := by first | (simp [plainName, overriddenIn]; done) | decide +kernel
def f1_0 (x0 : Int32) (x1 : Int32) : Int32 := if (x0 &&& (7 : Int32)) = (0 : Int32) then nar .char (32 : Int32) else (if (x0 &&& (7 : Int32)) = (1 : Int32) then nar .char (9 : Int32) else (if (x0 &&& (7 : Int32)) = (2 : Int32) then nar .char (13 : Int32) else (if (x0 &&& (7 : Int32)) = (3 : Int32) then nar .char (10 : Int32) else (if (x0 &&& (7 : Int32)) = (4 : Int32) then nar .char (11 : Int32) else (if (x0 &&& (7 : Int32)) = (5 : Int32) then nar .char (12 : Int32) else nar .char (((x1 &&& (65535 : Int32))).toUInt32.toUInt16.toUInt32.toInt32))))))
theorem b1_0 {p : Program} {l : Launch} {e : Env} {R : Room} {s : State} {m : MethodId} {args : Array Value} {below : List Frame} {meth : Method} {c : Code} {T : State} {locs : List Loc} {cells slots : Nat} (X : Stand p l e R s m args below meth c T locs cells slots) (hx : p.tables.exec = Jvm.exec) (hby : c.code = method_2_code) (hown : s.vm.findClass "com/example/rumblecourt/rumblecourt/server/ProtocolIsSpacePinLaw" = some m.cls) (hret : meth.sig.returnType = some .char) {fs : List Frame} {z : Int32} (hl : ∀ (f : JFrame) (acts : List Action), f.method = m → f.locked = none → f.entered = [] → (doReturn e (T.setTop f) acts (some (.int z))).1 = T.setFrames fs) (k7 : (Jvm.Cond.constant "com/example/rumblecourt/rumblecourt/server/ProtocolIsSpacePinLaw" 7 (65535 : Int32)).before args s = true) (x0 : Int32) (x1 : Int32) (hz : f1_0 x0 x1 = z) :
    Steps p.tables e below (T.setTop (mkF m 0 #[.val (.int x0), .val (.int x1), .unset, .unset] [])) (T.setFrames fs) := by
  unfold f1_0 at hz
  refine XS.iloadN X.here hx rfl (hb hby d1_0) rfl ?_
  show Steps p.tables e below (T.setTop (mkF m 1 #[.val (.int x0), .val (.int x1), .unset, .unset] [(.int x1)])) _
  refine X.ldcInt hx hown k7 (g := (mkF m 1 #[.val (.int x0), .val (.int x1), .unset, .unset] [(.int x1)])) rfl (hb hby d1_1) _ ?_
  show Steps p.tables e below (T.setTop (mkF m 3 #[.val (.int x0), .val (.int x1), .unset, .unset] [(.int (65535 : Int32)), (.int x1)])) _
  refine XS.iand X.here hx rfl (hb hby d1_3) rfl ?_
  show Steps p.tables e below (T.setTop (mkF m 4 #[.val (.int x0), .val (.int x1), .unset, .unset] [(.int (x1 &&& (65535 : Int32)))])) _
  refine XT.i2c X.here hx rfl (hb hby d1_4) rfl ?_
  show Steps p.tables e below (T.setTop (mkF m 5 #[.val (.int x0), .val (.int x1), .unset, .unset] [(.int (((x1 &&& (65535 : Int32))).toUInt32.toUInt16.toUInt32.toInt32))])) _
  refine XS.istoreN X.here hx rfl (hb hby d1_5) rfl (l' := #[.val (.int x0), .val (.int x1), .val (.int (((x1 &&& (65535 : Int32))).toUInt32.toUInt16.toUInt32.toInt32)), .unset]) rfl ?_
  show Steps p.tables e below (T.setTop (mkF m 6 #[.val (.int x0), .val (.int x1), .val (.int (((x1 &&& (65535 : Int32))).toUInt32.toUInt16.toUInt32.toInt32)), .unset] [])) _
  refine XS.iloadN X.here hx rfl (hb hby d1_6) rfl ?_
  show Steps p.tables e below (T.setTop (mkF m 7 #[.val (.int x0), .val (.int x1), .val (.int (((x1 &&& (65535 : Int32))).toUInt32.toUInt16.toUInt32.toInt32)), .unset] [(.int x0)])) _
  refine XS.bipush X.here hx rfl (hb hby d1_7) ?_
  show Steps p.tables e below (T.setTop (mkF m 9 #[.val (.int x0), .val (.int x1), .val (.int (((x1 &&& (65535 : Int32))).toUInt32.toUInt16.toUInt32.toInt32)), .unset] [(.int (7 : Int32)), (.int x0)])) _
  refine XS.iand X.here hx rfl (hb hby d1_9) rfl ?_
  show Steps p.tables e below (T.setTop (mkF m 10 #[.val (.int x0), .val (.int x1), .val (.int (((x1 &&& (65535 : Int32))).toUInt32.toUInt16.toUInt32.toInt32)), .unset] [(.int (x0 &&& (7 : Int32)))])) _
  refine XS.istoreN X.here hx rfl (hb hby d1_10) rfl (l' := #[.val (.int x0), .val (.int x1), .val (.int (((x1 &&& (65535 : Int32))).toUInt32.toUInt16.toUInt32.toInt32)), .val (.int (x0 &&& (7 : Int32)))]) rfl ?_
  show Steps p.tables e below (T.setTop (mkF m 11 #[.val (.int x0), .val (.int x1), .val (.int (((x1 &&& (65535 : Int32))).toUInt32.toUInt16.toUInt32.toInt32)), .val (.int (x0 &&& (7 : Int32)))] [])) _
  refine XS.iloadN X.here hx rfl (hb hby d1_11) rfl ?_
  show Steps p.tables e below (T.setTop (mkF m 12 #[.val (.int x0), .val (.int x1), .val (.int (((x1 &&& (65535 : Int32))).toUInt32.toUInt16.toUInt32.toInt32)), .val (.int (x0 &&& (7 : Int32)))] [(.int (x0 &&& (7 : Int32)))])) _
  by_cases h12 : (x0 &&& (7 : Int32)) = (0 : Int32)
  · rw [if_pos h12] at hz
    refine XS.ifNo X.here hx rfl (hb hby d1_12) rfl ((if0 _ _).trans (teq h12).2) ?_
    show Steps p.tables e below (T.setTop (mkF m 15 #[.val (.int x0), .val (.int x1), .val (.int (((x1 &&& (65535 : Int32))).toUInt32.toUInt16.toUInt32.toInt32)), .val (.int (x0 &&& (7 : Int32)))] [])) _
    refine XS.bipush X.here hx rfl (hb hby d1_15) ?_
    show Steps p.tables e below (T.setTop (mkF m 17 #[.val (.int x0), .val (.int x1), .val (.int (((x1 &&& (65535 : Int32))).toUInt32.toUInt16.toUInt32.toInt32)), .val (.int (x0 &&& (7 : Int32)))] [(.int (32 : Int32))])) _
    subst hz
    exact retN X hx hret (by simp) (hb hby d1_17) hl
  · rw [if_neg h12] at hz
    refine XS.ifYes X.here hx rfl (pc0 := 12) (pc' := 18) rfl (hb hby d1_12) rfl ((if0 _ _).trans (feq h12).2) (by decide) (by decide) ?_
    show Steps p.tables e below (T.setTop (mkF m 18 #[.val (.int x0), .val (.int x1), .val (.int (((x1 &&& (65535 : Int32))).toUInt32.toUInt16.toUInt32.toInt32)), .val (.int (x0 &&& (7 : Int32)))] [])) _
    refine XS.iloadN X.here hx rfl (hb hby d1_18) rfl ?_
    show Steps p.tables e below (T.setTop (mkF m 19 #[.val (.int x0), .val (.int x1), .val (.int (((x1 &&& (65535 : Int32))).toUInt32.toUInt16.toUInt32.toInt32)), .val (.int (x0 &&& (7 : Int32)))] [(.int (x0 &&& (7 : Int32)))])) _
    refine XS.iconst X.here hx rfl (hb hby d1_19) ?_
    show Steps p.tables e below (T.setTop (mkF m 20 #[.val (.int x0), .val (.int x1), .val (.int (((x1 &&& (65535 : Int32))).toUInt32.toUInt16.toUInt32.toInt32)), .val (.int (x0 &&& (7 : Int32)))] [(.int (1 : Int32)), (.int (x0 &&& (7 : Int32)))])) _
    by_cases h20 : (x0 &&& (7 : Int32)) = (1 : Int32)
    · rw [if_pos h20] at hz
      refine XS.icmpNo X.here hx rfl (hb hby d1_20) rfl (teq h20).2 ?_
      show Steps p.tables e below (T.setTop (mkF m 23 #[.val (.int x0), .val (.int x1), .val (.int (((x1 &&& (65535 : Int32))).toUInt32.toUInt16.toUInt32.toInt32)), .val (.int (x0 &&& (7 : Int32)))] [])) _
      refine XS.bipush X.here hx rfl (hb hby d1_23) ?_
      show Steps p.tables e below (T.setTop (mkF m 25 #[.val (.int x0), .val (.int x1), .val (.int (((x1 &&& (65535 : Int32))).toUInt32.toUInt16.toUInt32.toInt32)), .val (.int (x0 &&& (7 : Int32)))] [(.int (9 : Int32))])) _
      subst hz
      exact retN X hx hret (by simp) (hb hby d1_25) hl
    · rw [if_neg h20] at hz
      refine XS.icmpYes X.here hx rfl (pc0 := 20) (pc' := 26) rfl (hb hby d1_20) rfl (feq h20).2 (by decide) (by decide) ?_
      show Steps p.tables e below (T.setTop (mkF m 26 #[.val (.int x0), .val (.int x1), .val (.int (((x1 &&& (65535 : Int32))).toUInt32.toUInt16.toUInt32.toInt32)), .val (.int (x0 &&& (7 : Int32)))] [])) _
      refine XS.iloadN X.here hx rfl (hb hby d1_26) rfl ?_
      show Steps p.tables e below (T.setTop (mkF m 27 #[.val (.int x0), .val (.int x1), .val (.int (((x1 &&& (65535 : Int32))).toUInt32.toUInt16.toUInt32.toInt32)), .val (.int (x0 &&& (7 : Int32)))] [(.int (x0 &&& (7 : Int32)))])) _
      refine XS.iconst X.here hx rfl (hb hby d1_27) ?_
      show Steps p.tables e below (T.setTop (mkF m 28 #[.val (.int x0), .val (.int x1), .val (.int (((x1 &&& (65535 : Int32))).toUInt32.toUInt16.toUInt32.toInt32)), .val (.int (x0 &&& (7 : Int32)))] [(.int (2 : Int32)), (.int (x0 &&& (7 : Int32)))])) _
      by_cases h28 : (x0 &&& (7 : Int32)) = (2 : Int32)
      · rw [if_pos h28] at hz
        refine XS.icmpNo X.here hx rfl (hb hby d1_28) rfl (teq h28).2 ?_
        show Steps p.tables e below (T.setTop (mkF m 31 #[.val (.int x0), .val (.int x1), .val (.int (((x1 &&& (65535 : Int32))).toUInt32.toUInt16.toUInt32.toInt32)), .val (.int (x0 &&& (7 : Int32)))] [])) _
        refine XS.bipush X.here hx rfl (hb hby d1_31) ?_
        show Steps p.tables e below (T.setTop (mkF m 33 #[.val (.int x0), .val (.int x1), .val (.int (((x1 &&& (65535 : Int32))).toUInt32.toUInt16.toUInt32.toInt32)), .val (.int (x0 &&& (7 : Int32)))] [(.int (13 : Int32))])) _
        subst hz
        exact retN X hx hret (by simp) (hb hby d1_33) hl
      · rw [if_neg h28] at hz
        refine XS.icmpYes X.here hx rfl (pc0 := 28) (pc' := 34) rfl (hb hby d1_28) rfl (feq h28).2 (by decide) (by decide) ?_
        show Steps p.tables e below (T.setTop (mkF m 34 #[.val (.int x0), .val (.int x1), .val (.int (((x1 &&& (65535 : Int32))).toUInt32.toUInt16.toUInt32.toInt32)), .val (.int (x0 &&& (7 : Int32)))] [])) _
        refine XS.iloadN X.here hx rfl (hb hby d1_34) rfl ?_
        show Steps p.tables e below (T.setTop (mkF m 35 #[.val (.int x0), .val (.int x1), .val (.int (((x1 &&& (65535 : Int32))).toUInt32.toUInt16.toUInt32.toInt32)), .val (.int (x0 &&& (7 : Int32)))] [(.int (x0 &&& (7 : Int32)))])) _
        refine XS.iconst X.here hx rfl (hb hby d1_35) ?_
        show Steps p.tables e below (T.setTop (mkF m 36 #[.val (.int x0), .val (.int x1), .val (.int (((x1 &&& (65535 : Int32))).toUInt32.toUInt16.toUInt32.toInt32)), .val (.int (x0 &&& (7 : Int32)))] [(.int (3 : Int32)), (.int (x0 &&& (7 : Int32)))])) _
        by_cases h36 : (x0 &&& (7 : Int32)) = (3 : Int32)
        · rw [if_pos h36] at hz
          refine XS.icmpNo X.here hx rfl (hb hby d1_36) rfl (teq h36).2 ?_
          show Steps p.tables e below (T.setTop (mkF m 39 #[.val (.int x0), .val (.int x1), .val (.int (((x1 &&& (65535 : Int32))).toUInt32.toUInt16.toUInt32.toInt32)), .val (.int (x0 &&& (7 : Int32)))] [])) _
          refine XS.bipush X.here hx rfl (hb hby d1_39) ?_
          show Steps p.tables e below (T.setTop (mkF m 41 #[.val (.int x0), .val (.int x1), .val (.int (((x1 &&& (65535 : Int32))).toUInt32.toUInt16.toUInt32.toInt32)), .val (.int (x0 &&& (7 : Int32)))] [(.int (10 : Int32))])) _
          subst hz
          exact retN X hx hret (by simp) (hb hby d1_41) hl
        · rw [if_neg h36] at hz
          refine XS.icmpYes X.here hx rfl (pc0 := 36) (pc' := 42) rfl (hb hby d1_36) rfl (feq h36).2 (by decide) (by decide) ?_
          show Steps p.tables e below (T.setTop (mkF m 42 #[.val (.int x0), .val (.int x1), .val (.int (((x1 &&& (65535 : Int32))).toUInt32.toUInt16.toUInt32.toInt32)), .val (.int (x0 &&& (7 : Int32)))] [])) _
          refine XS.iloadN X.here hx rfl (hb hby d1_42) rfl ?_
          show Steps p.tables e below (T.setTop (mkF m 43 #[.val (.int x0), .val (.int x1), .val (.int (((x1 &&& (65535 : Int32))).toUInt32.toUInt16.toUInt32.toInt32)), .val (.int (x0 &&& (7 : Int32)))] [(.int (x0 &&& (7 : Int32)))])) _
          refine XS.iconst X.here hx rfl (hb hby d1_43) ?_
          show Steps p.tables e below (T.setTop (mkF m 44 #[.val (.int x0), .val (.int x1), .val (.int (((x1 &&& (65535 : Int32))).toUInt32.toUInt16.toUInt32.toInt32)), .val (.int (x0 &&& (7 : Int32)))] [(.int (4 : Int32)), (.int (x0 &&& (7 : Int32)))])) _
          by_cases h44 : (x0 &&& (7 : Int32)) = (4 : Int32)
          · rw [if_pos h44] at hz
            refine XS.icmpNo X.here hx rfl (hb hby d1_44) rfl (teq h44).2 ?_
            show Steps p.tables e below (T.setTop (mkF m 47 #[.val (.int x0), .val (.int x1), .val (.int (((x1 &&& (65535 : Int32))).toUInt32.toUInt16.toUInt32.toInt32)), .val (.int (x0 &&& (7 : Int32)))] [])) _
            refine XS.bipush X.here hx rfl (hb hby d1_47) ?_
            show Steps p.tables e below (T.setTop (mkF m 49 #[.val (.int x0), .val (.int x1), .val (.int (((x1 &&& (65535 : Int32))).toUInt32.toUInt16.toUInt32.toInt32)), .val (.int (x0 &&& (7 : Int32)))] [(.int (11 : Int32))])) _
            subst hz
            exact retN X hx hret (by simp) (hb hby d1_49) hl
          · rw [if_neg h44] at hz
            refine XS.icmpYes X.here hx rfl (pc0 := 44) (pc' := 50) rfl (hb hby d1_44) rfl (feq h44).2 (by decide) (by decide) ?_
            show Steps p.tables e below (T.setTop (mkF m 50 #[.val (.int x0), .val (.int x1), .val (.int (((x1 &&& (65535 : Int32))).toUInt32.toUInt16.toUInt32.toInt32)), .val (.int (x0 &&& (7 : Int32)))] [])) _
            refine XS.iloadN X.here hx rfl (hb hby d1_50) rfl ?_
            show Steps p.tables e below (T.setTop (mkF m 51 #[.val (.int x0), .val (.int x1), .val (.int (((x1 &&& (65535 : Int32))).toUInt32.toUInt16.toUInt32.toInt32)), .val (.int (x0 &&& (7 : Int32)))] [(.int (x0 &&& (7 : Int32)))])) _
            refine XS.iconst X.here hx rfl (hb hby d1_51) ?_
            show Steps p.tables e below (T.setTop (mkF m 52 #[.val (.int x0), .val (.int x1), .val (.int (((x1 &&& (65535 : Int32))).toUInt32.toUInt16.toUInt32.toInt32)), .val (.int (x0 &&& (7 : Int32)))] [(.int (5 : Int32)), (.int (x0 &&& (7 : Int32)))])) _
            by_cases h52 : (x0 &&& (7 : Int32)) = (5 : Int32)
            · rw [if_pos h52] at hz
              refine XS.icmpNo X.here hx rfl (hb hby d1_52) rfl (teq h52).2 ?_
              show Steps p.tables e below (T.setTop (mkF m 55 #[.val (.int x0), .val (.int x1), .val (.int (((x1 &&& (65535 : Int32))).toUInt32.toUInt16.toUInt32.toInt32)), .val (.int (x0 &&& (7 : Int32)))] [])) _
              refine XS.bipush X.here hx rfl (hb hby d1_55) ?_
              show Steps p.tables e below (T.setTop (mkF m 57 #[.val (.int x0), .val (.int x1), .val (.int (((x1 &&& (65535 : Int32))).toUInt32.toUInt16.toUInt32.toInt32)), .val (.int (x0 &&& (7 : Int32)))] [(.int (12 : Int32))])) _
              subst hz
              exact retN X hx hret (by simp) (hb hby d1_57) hl
            · rw [if_neg h52] at hz
              refine XS.icmpYes X.here hx rfl (pc0 := 52) (pc' := 58) rfl (hb hby d1_52) rfl (feq h52).2 (by decide) (by decide) ?_
              show Steps p.tables e below (T.setTop (mkF m 58 #[.val (.int x0), .val (.int x1), .val (.int (((x1 &&& (65535 : Int32))).toUInt32.toUInt16.toUInt32.toInt32)), .val (.int (x0 &&& (7 : Int32)))] [])) _
              refine XS.iloadN X.here hx rfl (hb hby d1_58) rfl ?_
              show Steps p.tables e below (T.setTop (mkF m 59 #[.val (.int x0), .val (.int x1), .val (.int (((x1 &&& (65535 : Int32))).toUInt32.toUInt16.toUInt32.toInt32)), .val (.int (x0 &&& (7 : Int32)))] [(.int (((x1 &&& (65535 : Int32))).toUInt32.toUInt16.toUInt32.toInt32))])) _
              subst hz
              exact retN X hx hret (by simp) (hb hby d1_59) hl
theorem ef_1 (m : MethodId) (p1 : Int32) (p2 : Int32) : entryFrame m #[(.int p1), (.int p2)] 4 = mkF m 0 #[.val (.int p1), .val (.int p2), .unset, .unset] [] := by first | (simp [entryFrame, mkF, argsToLocals, Value.category]; done) | rfl
def Q1 (p1 : Int32) (p2 : Int32) (h0 : Heap) (n0 : Nat) (v : Option Value) (h : Heap) (L : List Loc) : Prop := v = some (.int (f1_0 p1 p2)) ∧ Fr n0 L ∧ h = h0
set_option maxRecDepth 65536 in
set_option maxHeartbeats 40000000 in
theorem rm1 (l : Launch) (Z : State) (a0 : Array Value) (hw : ∀ d ∈ tables_1, d.before a0 Z = true) (ws : List Jvm.Cond) (p1 : Int32) (p2 : Int32) (h0 : Heap) (n0 : Nat) :
    MetFree l (⟨"com/example/rumblecourt/rumblecourt/server/ProtocolIsSpacePinLaw", "pick", "(II)C"⟩ : MethodName) (head1 (Jvm.Cond.code (⟨"com/example/rumblecourt/rumblecourt/server/ProtocolIsSpacePinLaw", "pick", "(II)C"⟩ : MethodName) method_2_code 4 (some .char) :: ws) ({ frames := 0, cells := 0, slots := 0, locals := 0 } : Room)) (fun a U => a = #[(.int p1), (.int p2)] ∧ Z.Warmed39 U.vm ∧ U.heap = h0) (fun _ _ _ _ _ => True) (fun _ U o U' => ∃ v L, o = .returned v ∧ Q1 p1 p2 h0 n0 v U'.heap L ∧ FrameEnd U o U' L ({ frames := 0, cells := 0, slots := 0, locals := 0 } : Room).cells ({ frames := 0, cells := 0, slots := 0, locals := 0 } : Room).slots) := by
  refine MetFree.of_bodySF (plainFor_of_name pn_1) hisR ?_
  intro p e s m args below meth c s₁ Bd hml0 hP hK
  obtain ⟨rfl, hZ, hh⟩ := hP
  have hx := Bd.exec
  have hby := Bd.bytes
  have hml : c.maxLocals = 4 := hml0
  have hown : s.vm.findClass "com/example/rumblecourt/rumblecourt/server/ProtocolIsSpacePinLaw" = some m.cls := findClass_of_methodNamed Bd.named
  have hnm := (name_of_methodNamed Bd.named Bd.method).1
  have X0 : Stand p l e ({ frames := 0, cells := 0, slots := 0, locals := 0 } : Room) s m #[(.int p1), (.int p2)] below meth c s₁ [] 0 0 := Stand.of_body Bd
  have e0 : s₁.heap = h0 := by rw [← hh, Bd.state]; rfl
  have N0 := Fr.nil n0
  have pre0 : ∀ t, Steps p.tables e below (s₁.setTop (mkF m 0 #[.val (.int p1), .val (.int p2), .unset, .unset] [])) t → Steps p.tables e below (s₁.setTop (entryFrame m #[(.int p1), (.int p2)] 4)) t := fun t k => castTop (ef_1 m p1 p2) k
  obtain ⟨fs, hr, hrun, hended, hW, hsame⟩ := X0.leave (v := some (.int (f1_0 p1 p2))) (fun h => by rw [Bd.returns] at h; cases h)
  refine ⟨_, _, pre0 _ ?_, hrun, hended, _, _, rfl, ?_, ⟨_, rfl⟩, hW, hsame.mono (by decide) (by decide)⟩
  · exact b1_0 X0 hx hby hown Bd.returns hr (mvT hZ (hw _ (List.mem_of_getElem? (i := 4) rfl))) p1 p2 rfl
  · show Q1 p1 p2 h0 n0 _ s₁.heap _
    rw [e0]
    exact ⟨rfl, N0, rfl⟩
theorem d2_0 : decode prog_58_method_3_code 0 = .ok (.iload_n 0, 1) := by decide +kernel
theorem d2_1 : decode prog_58_method_3_code 1 = .ok (.bipush 32, 2) := by decide +kernel
theorem d2_3 : decode prog_58_method_3_code 3 = .ok (.if_icmp .eq 15, 3) := by decide +kernel
theorem d2_6 : decode prog_58_method_3_code 6 = .ok (.iload_n 0, 1) := by decide +kernel
theorem d2_7 : decode prog_58_method_3_code 7 = .ok (.bipush 9, 2) := by decide +kernel
theorem d2_9 : decode prog_58_method_3_code 9 = .ok (.if_icmp .eq 9, 3) := by decide +kernel
theorem d2_12 : decode prog_58_method_3_code 12 = .ok (.iload_n 0, 1) := by decide +kernel
theorem d2_13 : decode prog_58_method_3_code 13 = .ok (.bipush 13, 2) := by decide +kernel
theorem d2_15 : decode prog_58_method_3_code 15 = .ok (.if_icmp .ne 7, 3) := by decide +kernel
theorem d2_18 : decode prog_58_method_3_code 18 = .ok (.iconst 1, 1) := by decide +kernel
theorem d2_19 : decode prog_58_method_3_code 19 = .ok (.goto 4, 3) := by decide +kernel
theorem d2_22 : decode prog_58_method_3_code 22 = .ok (.iconst 0, 1) := by decide +kernel
theorem d2_23 : decode prog_58_method_3_code 23 = .ok (.ireturn, 1) := by decide +kernel
theorem pn_2 : plainName "com/example/rumblecourt/rumblecourt/server/Protocol" = true := by first | (simp [plainName, overriddenIn]; done) | decide +kernel
def f2_23 (x0 : Int32) (y0 : Int32) : Int32 := nar .boolean y0
theorem b2_23 {p : Program} {l : Launch} {e : Env} {R : Room} {s : State} {m : MethodId} {args : Array Value} {below : List Frame} {meth : Method} {c : Code} {T : State} {locs : List Loc} {cells slots : Nat} (X : Stand p l e R s m args below meth c T locs cells slots) (hx : p.tables.exec = Jvm.exec) (hby : c.code = prog_58_method_3_code) (hown : s.vm.findClass "com/example/rumblecourt/rumblecourt/server/Protocol" = some m.cls) (hret : meth.sig.returnType = some .boolean) {fs : List Frame} {z : Int32} (hl : ∀ (f : JFrame) (acts : List Action), f.method = m → f.locked = none → f.entered = [] → (doReturn e (T.setTop f) acts (some (.int z))).1 = T.setFrames fs) (x0 : Int32) (y0 : Int32) (hz : f2_23 x0 y0 = z) :
    Steps p.tables e below (T.setTop (mkF m 23 #[.val (.int x0)] [(.int y0)])) (T.setFrames fs) := by
  unfold f2_23 at hz
  subst hz
  exact retN X hx hret (by simp) (hb hby d2_23) hl
def f2_18 (x0 : Int32) : Int32 := f2_23 x0 (1 : Int32)
theorem b2_18 {p : Program} {l : Launch} {e : Env} {R : Room} {s : State} {m : MethodId} {args : Array Value} {below : List Frame} {meth : Method} {c : Code} {T : State} {locs : List Loc} {cells slots : Nat} (X : Stand p l e R s m args below meth c T locs cells slots) (hx : p.tables.exec = Jvm.exec) (hby : c.code = prog_58_method_3_code) (hown : s.vm.findClass "com/example/rumblecourt/rumblecourt/server/Protocol" = some m.cls) (hret : meth.sig.returnType = some .boolean) {fs : List Frame} {z : Int32} (hl : ∀ (f : JFrame) (acts : List Action), f.method = m → f.locked = none → f.entered = [] → (doReturn e (T.setTop f) acts (some (.int z))).1 = T.setFrames fs) (x0 : Int32) (hz : f2_18 x0 = z) :
    Steps p.tables e below (T.setTop (mkF m 18 #[.val (.int x0)] [])) (T.setFrames fs) := by
  unfold f2_18 at hz
  refine XS.iconst X.here hx rfl (hb hby d2_18) ?_
  show Steps p.tables e below (T.setTop (mkF m 19 #[.val (.int x0)] [(.int (1 : Int32))])) _
  refine XS.goto X.here hx rfl (pc0 := 19) (pc' := 23) rfl (hb hby d2_19) (by decide) (by decide) ?_
  show Steps p.tables e below (T.setTop (mkF m 23 #[.val (.int x0)] [(.int (1 : Int32))])) _
  exact b2_23 X hx hby hown hret hl x0 (1 : Int32)  hz
def f2_0 (x0 : Int32) : Int32 := if x0 = (32 : Int32) then f2_18 x0 else (if x0 = (9 : Int32) then f2_18 x0 else (if x0 = (13 : Int32) then f2_18 x0 else f2_23 x0 (0 : Int32)))
theorem b2_0 {p : Program} {l : Launch} {e : Env} {R : Room} {s : State} {m : MethodId} {args : Array Value} {below : List Frame} {meth : Method} {c : Code} {T : State} {locs : List Loc} {cells slots : Nat} (X : Stand p l e R s m args below meth c T locs cells slots) (hx : p.tables.exec = Jvm.exec) (hby : c.code = prog_58_method_3_code) (hown : s.vm.findClass "com/example/rumblecourt/rumblecourt/server/Protocol" = some m.cls) (hret : meth.sig.returnType = some .boolean) {fs : List Frame} {z : Int32} (hl : ∀ (f : JFrame) (acts : List Action), f.method = m → f.locked = none → f.entered = [] → (doReturn e (T.setTop f) acts (some (.int z))).1 = T.setFrames fs) (x0 : Int32) (hz : f2_0 x0 = z) :
    Steps p.tables e below (T.setTop (mkF m 0 #[.val (.int x0)] [])) (T.setFrames fs) := by
  unfold f2_0 at hz
  refine XS.iloadN X.here hx rfl (hb hby d2_0) rfl ?_
  show Steps p.tables e below (T.setTop (mkF m 1 #[.val (.int x0)] [(.int x0)])) _
  refine XS.bipush X.here hx rfl (hb hby d2_1) ?_
  show Steps p.tables e below (T.setTop (mkF m 3 #[.val (.int x0)] [(.int (32 : Int32)), (.int x0)])) _
  by_cases h3 : x0 = (32 : Int32)
  · rw [if_pos h3] at hz
    refine XS.icmpYes X.here hx rfl (pc0 := 3) (pc' := 18) rfl (hb hby d2_3) rfl (teq h3).1 (by decide) (by decide) ?_
    show Steps p.tables e below (T.setTop (mkF m 18 #[.val (.int x0)] [])) _
    exact b2_18 X hx hby hown hret hl x0  hz
  · rw [if_neg h3] at hz
    refine XS.icmpNo X.here hx rfl (hb hby d2_3) rfl (feq h3).1 ?_
    show Steps p.tables e below (T.setTop (mkF m 6 #[.val (.int x0)] [])) _
    refine XS.iloadN X.here hx rfl (hb hby d2_6) rfl ?_
    show Steps p.tables e below (T.setTop (mkF m 7 #[.val (.int x0)] [(.int x0)])) _
    refine XS.bipush X.here hx rfl (hb hby d2_7) ?_
    show Steps p.tables e below (T.setTop (mkF m 9 #[.val (.int x0)] [(.int (9 : Int32)), (.int x0)])) _
    by_cases h9 : x0 = (9 : Int32)
    · rw [if_pos h9] at hz
      refine XS.icmpYes X.here hx rfl (pc0 := 9) (pc' := 18) rfl (hb hby d2_9) rfl (teq h9).1 (by decide) (by decide) ?_
      show Steps p.tables e below (T.setTop (mkF m 18 #[.val (.int x0)] [])) _
      exact b2_18 X hx hby hown hret hl x0  hz
    · rw [if_neg h9] at hz
      refine XS.icmpNo X.here hx rfl (hb hby d2_9) rfl (feq h9).1 ?_
      show Steps p.tables e below (T.setTop (mkF m 12 #[.val (.int x0)] [])) _
      refine XS.iloadN X.here hx rfl (hb hby d2_12) rfl ?_
      show Steps p.tables e below (T.setTop (mkF m 13 #[.val (.int x0)] [(.int x0)])) _
      refine XS.bipush X.here hx rfl (hb hby d2_13) ?_
      show Steps p.tables e below (T.setTop (mkF m 15 #[.val (.int x0)] [(.int (13 : Int32)), (.int x0)])) _
      by_cases h15 : x0 = (13 : Int32)
      · rw [if_pos h15] at hz
        refine XS.icmpNo X.here hx rfl (hb hby d2_15) rfl (teq h15).2 ?_
        show Steps p.tables e below (T.setTop (mkF m 18 #[.val (.int x0)] [])) _
        exact b2_18 X hx hby hown hret hl x0  hz
      · rw [if_neg h15] at hz
        refine XS.icmpYes X.here hx rfl (pc0 := 15) (pc' := 22) rfl (hb hby d2_15) rfl (feq h15).2 (by decide) (by decide) ?_
        show Steps p.tables e below (T.setTop (mkF m 22 #[.val (.int x0)] [])) _
        refine XS.iconst X.here hx rfl (hb hby d2_22) ?_
        show Steps p.tables e below (T.setTop (mkF m 23 #[.val (.int x0)] [(.int (0 : Int32))])) _
        exact b2_23 X hx hby hown hret hl x0 (0 : Int32)  hz
theorem ef_2 (m : MethodId) (p1 : Int32) : entryFrame m #[(.int p1)] 1 = mkF m 0 #[.val (.int p1)] [] := by first | (simp [entryFrame, mkF, argsToLocals, Value.category]; done) | rfl
def Q2 (p1 : Int32) (h0 : Heap) (n0 : Nat) (v : Option Value) (h : Heap) (L : List Loc) : Prop := v = some (.int (f2_0 p1)) ∧ Fr n0 L ∧ h = h0
set_option maxRecDepth 65536 in
set_option maxHeartbeats 40000000 in
theorem rm2 (l : Launch) (Z : State) (a0 : Array Value) (hw : ∀ d ∈ tables_1, d.before a0 Z = true) (ws : List Jvm.Cond) (p1 : Int32) (h0 : Heap) (n0 : Nat) :
    MetFree l (⟨"com/example/rumblecourt/rumblecourt/server/Protocol", "isSpace", "(C)Z"⟩ : MethodName) (head1 (Jvm.Cond.code (⟨"com/example/rumblecourt/rumblecourt/server/Protocol", "isSpace", "(C)Z"⟩ : MethodName) prog_58_method_3_code 1 (some .boolean) :: ws) ({ frames := 0, cells := 0, slots := 0, locals := 0 } : Room)) (fun a U => a = #[(.int p1)] ∧ Z.Warmed39 U.vm ∧ U.heap = h0) (fun _ _ _ _ _ => True) (fun _ U o U' => ∃ v L, o = .returned v ∧ Q2 p1 h0 n0 v U'.heap L ∧ FrameEnd U o U' L ({ frames := 0, cells := 0, slots := 0, locals := 0 } : Room).cells ({ frames := 0, cells := 0, slots := 0, locals := 0 } : Room).slots) := by
  refine MetFree.of_bodySF (plainFor_of_name pn_2) hisR ?_
  intro p e s m args below meth c s₁ Bd hml0 hP hK
  obtain ⟨rfl, hZ, hh⟩ := hP
  have hx := Bd.exec
  have hby := Bd.bytes
  have hml : c.maxLocals = 1 := hml0
  have hown : s.vm.findClass "com/example/rumblecourt/rumblecourt/server/Protocol" = some m.cls := findClass_of_methodNamed Bd.named
  have hnm := (name_of_methodNamed Bd.named Bd.method).1
  have X0 : Stand p l e ({ frames := 0, cells := 0, slots := 0, locals := 0 } : Room) s m #[(.int p1)] below meth c s₁ [] 0 0 := Stand.of_body Bd
  have e0 : s₁.heap = h0 := by rw [← hh, Bd.state]; rfl
  have N0 := Fr.nil n0
  have pre0 : ∀ t, Steps p.tables e below (s₁.setTop (mkF m 0 #[.val (.int p1)] [])) t → Steps p.tables e below (s₁.setTop (entryFrame m #[(.int p1)] 1)) t := fun t k => castTop (ef_2 m p1) k
  obtain ⟨fs, hr, hrun, hended, hW, hsame⟩ := X0.leave (v := some (.int (f2_0 p1))) (fun h => by rw [Bd.returns] at h; cases h)
  refine ⟨_, _, pre0 _ ?_, hrun, hended, _, _, rfl, ?_, ⟨_, rfl⟩, hW, hsame.mono (by decide) (by decide)⟩
  · exact b2_0 X0 hx hby hown Bd.returns hr p1 rfl
  · show Q2 p1 h0 n0 _ s₁.heap _
    rw [e0]
    exact ⟨rfl, N0, rfl⟩
theorem own_nar (x : Int32) : nar .boolean x = x &&& 1 := rfl
theorem own_nar1 : nar .boolean (1 : Int32) = 1 := by decide
theorem own_nar0 : nar .boolean (0 : Int32) = 0 := by decide
theorem own_10 : ((1 : Int32) = 0) = False := by decide
theorem own_00 : ((0 : Int32) = 0) = True := by decide
theorem own_i0 : (0 : Int32).toInt = 0 := by decide
theorem own_i1 : (1 : Int32).toInt = 1 := by decide
theorem own_i9 : (9 : Int32).toInt = 9 := by decide
theorem own_i13 : (13 : Int32).toInt = 13 := by decide
theorem own_i32 : (32 : Int32).toInt = 32 := by decide
theorem sf2_18 (x : Int32) : f2_18 x = if True then 1 else 0 := by
  unfold f2_18
  have he : ∀ c : Int32, (x = c) = (x.toInt = c.toInt) := fun c => propext Int32.toInt_inj.symm
  simp only [own_nar1, own_nar0, own_10, own_00, ↓reduceIte, Int32.lt_iff_toInt_lt, he, own_i1, f2_23]
  all_goals
    have hl := Int32.le_toInt x
    have hh := Int32.toInt_lt x
    clear he
    generalize x.toInt = n at *
    repeat' split
    all_goals first | rfl | (exfalso; omega)
theorem sf2_0 (x : Int32) : f2_0 x = if x.toInt = 9 ∨ x.toInt = 13 ∨ x.toInt = 32 then 1 else 0 := by
  unfold f2_0
  have he : ∀ c : Int32, (x = c) = (x.toInt = c.toInt) := fun c => propext Int32.toInt_inj.symm
  simp only [own_nar1, own_nar0, own_10, own_00, ↓reduceIte, Int32.lt_iff_toInt_lt, he, own_i0, own_i13, own_i32, own_i9, sf2_18, f2_23]
  all_goals
    have hl := Int32.le_toInt x
    have hh := Int32.toInt_lt x
    clear he
    generalize x.toInt = n at *
    repeat' split
    all_goals first | rfl | (exfalso; omega)
theorem own_char (z : Int32) : 0 ≤ (nar .char z).toInt := by
  have h : (decide ((0 : Int32) ≤ nar .char z) && decide (nar .char z ≤ 65535)) = true := fits_nar_char z
  have h2 : (0 : Int32) ≤ nar .char z := by
    rw [Bool.and_eq_true, decide_eq_true_eq] at h
    exact h.1
  rw [Int32.le_iff_toInt_le, own_i0] at h2
  exact h2
theorem own_pick (s x : Int32) : 0 ≤ (f1_0 s x).toInt := by
  unfold f1_0
  repeat' split
  all_goals exact own_char _
set_option maxRecDepth 65536 in
theorem own_64 : ∀ k : Fin 64, (XT.cmpL (((1 : Int64) <<< ((Int32.ofNat k.val).toInt64 &&& 63)) &&& (4294976000 : Int64)) (0 : Int64) = (0 : Int32)) ↔ f2_0 (Int32.ofNat k.val) = (0 : Int32) := by decide +kernel
theorem own_lo (c : Int32) (h0 : 0 ≤ c.toInt) (h : c < (64 : Int32)) : (XT.cmpL (((1 : Int64) <<< ((c).toInt64 &&& 63)) &&& (4294976000 : Int64)) (0 : Int64) = (0 : Int32)) ↔ f2_0 c = (0 : Int32) := by
  have h64 : (64 : Int32).toInt = 64 := by decide
  rw [Int32.lt_iff_toInt_lt, h64] at h
  have e : c = Int32.ofNat c.toInt.toNat := by
    apply Int32.toInt_inj.mp
    rw [Int32.toInt_ofNat_small (by omega)]; omega
  have k := own_64 ⟨c.toInt.toNat, by omega⟩
  simp only [← e] at k
  exact k
theorem own_bit (c : Int32) : f2_0 c = 0 ∨ f2_0 c = 1 := by
  rw [sf2_0]; split
  · exact Or.inr rfl
  · exact Or.inl rfl
theorem own_hi (c : Int32) (h : ¬ c < (64 : Int32)) : f2_0 c = (0 : Int32) := by
  have h64 : (64 : Int32).toInt = 64 := by decide
  rw [Int32.lt_iff_toInt_lt, h64] at h
  rw [sf2_0, if_neg (by omega)]
theorem own_r0 (s x : Int32) (h : f1_0 s x < (64 : Int32)) (hz : XT.cmpL (((1 : Int64) <<< (((f1_0 s x)).toInt64 &&& 63)) &&& (4294976000 : Int64)) (0 : Int64) = (0 : Int32)) : f2_0 (f1_0 s x) = (0 : Int32) := (own_lo _ (own_pick s x) h).mp hz
theorem own_r1 (s x : Int32) (h : f1_0 s x < (64 : Int32)) (hz : ¬ XT.cmpL (((1 : Int64) <<< (((f1_0 s x)).toInt64 &&& 63)) &&& (4294976000 : Int64)) (0 : Int64) = (0 : Int32)) : f2_0 (f1_0 s x) = (1 : Int32) := (own_bit _).resolve_left fun q => hz ((own_lo _ (own_pick s x) h).mpr q)
theorem pn_0 : plainName "com/example/rumblecourt/rumblecourt/server/ProtocolIsSpacePinLaw" = true := by first | (simp [plainName, overriddenIn]; done) | decide +kernel
theorem ef_0 (m : MethodId) (p1 : Int32) (p2 : Int32) : entryFrame m #[(.int p1), (.int p2)] maxLocals = mkF m 0 #[.val (.int p1), .val (.int p2), .unset, .unset, .unset, .unset] [] := by first | (simp [entryFrame, mkF, argsToLocals, Value.category, maxLocals]; done) | rfl
theorem pd_0_0 : parseMethodDescriptor "(II)C" = some ⟨[.int, .int], some .char⟩ := by decide +kernel
theorem pd_0_1 : parseMethodDescriptor "(C)Z" = some ⟨[.char], some .boolean⟩ := by decide +kernel
def Q0 (n0 : Nat) (v : Option Value) (L : List Loc) : Prop := v = some (.int 1) ∧ Fr n0 L
set_option maxRecDepth 65536 in
set_option maxHeartbeats 40000000 in
theorem rm0 (l : Launch) (Z : State) (a0 : Array Value) (hw : ∀ d ∈ tables_1, d.before a0 Z = true) (ws : List Jvm.Cond) (p1 : Int32) (p2 : Int32) (h0 : Heap) (n0 : Nat) (Z0 : n0 ≤ h0.size) :
    MetFree l x (head1 (Jvm.Cond.code x code maxLocals ret :: ws) room_1) (fun a U => a = #[(.int p1), (.int p2)] ∧ Z.Warmed39 U.vm ∧ U.heap = h0) (fun _ _ _ _ _ => True) (fun _ U o U' => ∃ v L, o = .returned v ∧ Q0 n0 v L ∧ FrameEnd U o U' L room_1.cells room_1.slots) := by
  refine MetFree.of_bodySF (plainFor_of_name pn_0) hisR ?_
  intro p e s m args below meth c s₁ Bd hml0 hP hK
  obtain ⟨rfl, hZ, hh⟩ := hP
  have hx := Bd.exec
  have hby := Bd.bytes
  have hml : c.maxLocals = 6 := hml0
  have hown : s.vm.findClass "com/example/rumblecourt/rumblecourt/server/ProtocolIsSpacePinLaw" = some m.cls := findClass_of_methodNamed Bd.named
  have hnm := (name_of_methodNamed Bd.named Bd.method).1
  have X0 : Stand p l e room_1 s m #[(.int p1), (.int p2)] below meth c s₁ [] 0 0 := Stand.of_body Bd
  have e0 : s₁.heap = h0 := by rw [← hh, Bd.state]; rfl
  have N0 := Fr.nil n0
  have pre0 : ∀ t, Steps p.tables e below (s₁.setTop (mkF m 0 #[.val (.int p1), .val (.int p2), .unset, .unset, .unset, .unset] [])) t → Steps p.tables e below (s₁.setTop (entryFrame m #[(.int p1), (.int p2)] maxLocals)) t := fun t k => castTop (ef_0 m p1 p2) k
  obtain ⟨_, _, ⟨T1, L1, k1, n1⟩, -, X1, ⟨Lc1, hQ1, l1, y1, z1⟩, st1⟩ := Jvm.LawKit.callS X0 hx (y := (⟨"com/example/rumblecourt/rumblecourt/server/ProtocolIsSpacePinLaw", "pick", "(II)C"⟩ : MethodName)) hown (mvT hZ (hw _ (List.mem_of_getElem? (i := 0) rfl))) (mvT hZ (hw _ (List.mem_of_getElem? (i := 1) rfl))) (mvT hZ (hw _ (List.mem_of_getElem? (i := 2) rfl))) (mvT hZ (hw _ (List.mem_of_getElem? (i := 3) rfl))) (by decide) (backOf (W := 0) (rm1 l Z a0 hw [] p1 p2 h0 n0) hZ (hw _ (List.mem_of_getElem? (i := 3) rfl)) (hw _ (List.mem_of_getElem? (i := 2) rfl)) (by decide) (by decide)) (g := (mkF m 2 #[.val (.int p1), .val (.int p2), .unset, .unset, .unset, .unset] [(.int p2), (.int p1)])) rfl (by rw [hml]; rfl) (argsL := [(.int p1), (.int p2)]) (rest := []) (lenOf pd_0_0 rfl) rfl (by show 2 * 0 + _ ≤ _; exact Nat.le_of_eq rfl) (hb hby at_2) (fun _ _ => ⟨rfl, e0, (by decide : 0 + 0 ≤ _), (by decide : 0 + 0 ≤ _)⟩)
  dsimp only [Pt.U, Pt.locs, Pt.cells, Pt.slots] at X1 l1 y1 z1 st1 hQ1
  subst l1 y1 z1
  obtain ⟨rfl, N1q, e1⟩ := hQ1
  have N1 := Fr.app N0 N1q
  have pre3 : ∀ t, Steps p.tables e below (T1.setTop (mkF m 13 #[.val (.int p1), .val (.int p2), .val (.int (f1_0 p1 p2)), .val (.long (4294976000 : Int64)), .second, .unset] [(.int (64 : Int32)), (.int (f1_0 p1 p2))])) t → Steps p.tables e below (s₁.setTop (entryFrame m #[(.int p1), (.int p2)] maxLocals)) t := by
    intro t k
    refine pre0 t ?_
    show Steps p.tables e below (s₁.setTop (mkF m 0 #[.val (.int p1), .val (.int p2), .unset, .unset, .unset, .unset] [])) _
    refine XS.iloadN X0.here hx rfl (hb hby at_0) rfl ?_
    show Steps p.tables e below (s₁.setTop (mkF m 1 #[.val (.int p1), .val (.int p2), .unset, .unset, .unset, .unset] [(.int p1)])) _
    refine XS.iloadN X0.here hx rfl (hb hby at_1) rfl ?_
    show Steps p.tables e below (s₁.setTop (mkF m 2 #[.val (.int p1), .val (.int p2), .unset, .unset, .unset, .unset] [(.int p2), (.int p1)])) _
    refine st1 _ ?_
    show Steps p.tables e below (T1.setTop (mkF m 5 #[.val (.int p1), .val (.int p2), .unset, .unset, .unset, .unset] [(.int (f1_0 p1 p2))])) _
    refine XS.istoreN X1.here hx rfl (hb hby at_5) rfl (l' := #[.val (.int p1), .val (.int p2), .val (.int (f1_0 p1 p2)), .unset, .unset, .unset]) rfl ?_
    show Steps p.tables e below (T1.setTop (mkF m 6 #[.val (.int p1), .val (.int p2), .val (.int (f1_0 p1 p2)), .unset, .unset, .unset] [])) _
    refine X1.ldc2Long hx hown (mvT hZ (hw _ (List.mem_of_getElem? (i := 5) rfl))) (g := (mkF m 6 #[.val (.int p1), .val (.int p2), .val (.int (f1_0 p1 p2)), .unset, .unset, .unset] [])) rfl (hb hby at_6) _ ?_
    show Steps p.tables e below (T1.setTop (mkF m 9 #[.val (.int p1), .val (.int p2), .val (.int (f1_0 p1 p2)), .unset, .unset, .unset] [(.long (4294976000 : Int64))])) _
    refine XT.lstoreN X1.here hx rfl (hb hby at_9) rfl (l' := #[.val (.int p1), .val (.int p2), .val (.int (f1_0 p1 p2)), .val (.long (4294976000 : Int64)), .second, .unset]) rfl ?_
    show Steps p.tables e below (T1.setTop (mkF m 10 #[.val (.int p1), .val (.int p2), .val (.int (f1_0 p1 p2)), .val (.long (4294976000 : Int64)), .second, .unset] [])) _
    refine XS.iloadN X1.here hx rfl (hb hby at_10) rfl ?_
    show Steps p.tables e below (T1.setTop (mkF m 11 #[.val (.int p1), .val (.int p2), .val (.int (f1_0 p1 p2)), .val (.long (4294976000 : Int64)), .second, .unset] [(.int (f1_0 p1 p2))])) _
    refine XS.bipush X1.here hx rfl (hb hby at_11) ?_
    show Steps p.tables e below (T1.setTop (mkF m 13 #[.val (.int p1), .val (.int p2), .val (.int (f1_0 p1 p2)), .val (.long (4294976000 : Int64)), .second, .unset] [(.int (64 : Int32)), (.int (f1_0 p1 p2))])) _
    exact k
  by_cases h13_2 : (f1_0 p1 p2) < (64 : Int32)
  · have pre5 : ∀ t, Steps p.tables e below (T1.setTop (mkF m 23 #[.val (.int p1), .val (.int p2), .val (.int (f1_0 p1 p2)), .val (.long (4294976000 : Int64)), .second, .unset] [(.int (XT.cmpL (((1 : Int64) <<< (((f1_0 p1 p2)).toInt64 &&& 63)) &&& (4294976000 : Int64)) (0 : Int64)))])) t → Steps p.tables e below (s₁.setTop (entryFrame m #[(.int p1), (.int p2)] maxLocals)) t := by
      intro t k
      refine pre3 t ?_
      refine XS.icmpNo X1.here hx rfl (hb hby at_13) rfl (tlt h13_2).2.1 ?_
      show Steps p.tables e below (T1.setTop (mkF m 16 #[.val (.int p1), .val (.int p2), .val (.int (f1_0 p1 p2)), .val (.long (4294976000 : Int64)), .second, .unset] [])) _
      refine XT.lconst X1.here hx rfl (hb hby at_16) ?_
      show Steps p.tables e below (T1.setTop (mkF m 17 #[.val (.int p1), .val (.int p2), .val (.int (f1_0 p1 p2)), .val (.long (4294976000 : Int64)), .second, .unset] [(.long (1 : Int64))])) _
      refine XS.iloadN X1.here hx rfl (hb hby at_17) rfl ?_
      show Steps p.tables e below (T1.setTop (mkF m 18 #[.val (.int p1), .val (.int p2), .val (.int (f1_0 p1 p2)), .val (.long (4294976000 : Int64)), .second, .unset] [(.int (f1_0 p1 p2)), (.long (1 : Int64))])) _
      refine XT.lshl X1.here hx rfl (hb hby at_18) rfl ?_
      show Steps p.tables e below (T1.setTop (mkF m 19 #[.val (.int p1), .val (.int p2), .val (.int (f1_0 p1 p2)), .val (.long (4294976000 : Int64)), .second, .unset] [(.long ((1 : Int64) <<< (((f1_0 p1 p2)).toInt64 &&& 63)))])) _
      refine XT.lloadN X1.here hx rfl (hb hby at_19) rfl ?_
      show Steps p.tables e below (T1.setTop (mkF m 20 #[.val (.int p1), .val (.int p2), .val (.int (f1_0 p1 p2)), .val (.long (4294976000 : Int64)), .second, .unset] [(.long (4294976000 : Int64)), (.long ((1 : Int64) <<< (((f1_0 p1 p2)).toInt64 &&& 63)))])) _
      refine XT.land X1.here hx rfl (hb hby at_20) rfl ?_
      show Steps p.tables e below (T1.setTop (mkF m 21 #[.val (.int p1), .val (.int p2), .val (.int (f1_0 p1 p2)), .val (.long (4294976000 : Int64)), .second, .unset] [(.long (((1 : Int64) <<< (((f1_0 p1 p2)).toInt64 &&& 63)) &&& (4294976000 : Int64)))])) _
      refine XT.lconst X1.here hx rfl (hb hby at_21) ?_
      show Steps p.tables e below (T1.setTop (mkF m 22 #[.val (.int p1), .val (.int p2), .val (.int (f1_0 p1 p2)), .val (.long (4294976000 : Int64)), .second, .unset] [(.long (0 : Int64)), (.long (((1 : Int64) <<< (((f1_0 p1 p2)).toInt64 &&& 63)) &&& (4294976000 : Int64)))])) _
      refine XT.lcmp X1.here hx rfl (hb hby at_22) rfl ?_
      show Steps p.tables e below (T1.setTop (mkF m 23 #[.val (.int p1), .val (.int p2), .val (.int (f1_0 p1 p2)), .val (.long (4294976000 : Int64)), .second, .unset] [(.int (XT.cmpL (((1 : Int64) <<< (((f1_0 p1 p2)).toInt64 &&& 63)) &&& (4294976000 : Int64)) (0 : Int64)))])) _
      exact k
    by_cases h23_4 : (XT.cmpL (((1 : Int64) <<< (((f1_0 p1 p2)).toInt64 &&& 63)) &&& (4294976000 : Int64)) (0 : Int64)) = (0 : Int32)
    · obtain ⟨_, _, ⟨T6, L6, k6, n6⟩, -, X6, ⟨Lc6, hQ6, l6, y6, z6⟩, st6⟩ := Jvm.LawKit.callS X1 hx (y := (⟨"com/example/rumblecourt/rumblecourt/server/Protocol", "isSpace", "(C)Z"⟩ : MethodName)) hown (mvT hZ (hw _ (List.mem_of_getElem? (i := 6) rfl))) (mvT hZ (hw _ (List.mem_of_getElem? (i := 7) rfl))) (mvT hZ (hw _ (List.mem_of_getElem? (i := 8) rfl))) (mvT hZ (hw _ (List.mem_of_getElem? (i := 9) rfl))) (by decide) (backOf (W := 0) (rm2 l Z a0 hw [] (f1_0 p1 p2) h0 n0) hZ (hw _ (List.mem_of_getElem? (i := 9) rfl)) (hw _ (List.mem_of_getElem? (i := 8) rfl)) (by decide) (by decide)) (g := (mkF m 34 #[.val (.int p1), .val (.int p2), .val (.int (f1_0 p1 p2)), .val (.long (4294976000 : Int64)), .second, .val (.int (0 : Int32))] [(.int (f1_0 p1 p2))])) rfl (by rw [hml]; rfl) (argsL := [(.int (f1_0 p1 p2))]) (rest := []) (lenOf pd_0_1 rfl) rfl (by show 2 * 0 + _ ≤ _; exact Nat.le_of_eq rfl) (hb hby at_34) (fun _ _ => ⟨rfl, e1, (by decide : 0 + 0 ≤ _), (by decide : 0 + 0 ≤ _)⟩)
      dsimp only [Pt.U, Pt.locs, Pt.cells, Pt.slots] at X6 l6 y6 z6 st6 hQ6
      subst l6 y6 z6
      obtain ⟨rfl, N6q, e6⟩ := hQ6
      have N6 := Fr.app N1 N6q
      have h39_7 : (f2_0 (f1_0 p1 p2)) = (0 : Int32) := own_r0 _ _ h13_2 h23_4
      have pre8 : ∀ t, Steps p.tables e below (T6.setTop (mkF m 47 #[.val (.int p1), .val (.int p2), .val (.int (f1_0 p1 p2)), .val (.long (4294976000 : Int64)), .second, .val (.int (0 : Int32))] [(.int (1 : Int32))])) t → Steps p.tables e below (s₁.setTop (entryFrame m #[(.int p1), (.int p2)] maxLocals)) t := by
        intro t k
        refine pre5 t ?_
        refine XS.ifYes X1.here hx rfl (pc0 := 23) (pc' := 30) rfl (hb hby at_23) rfl ((if0 _ _).trans (teq h23_4).1) (by decide) (by decide) ?_
        show Steps p.tables e below (T1.setTop (mkF m 30 #[.val (.int p1), .val (.int p2), .val (.int (f1_0 p1 p2)), .val (.long (4294976000 : Int64)), .second, .unset] [])) _
        refine XS.iconst X1.here hx rfl (hb hby at_30) ?_
        show Steps p.tables e below (T1.setTop (mkF m 31 #[.val (.int p1), .val (.int p2), .val (.int (f1_0 p1 p2)), .val (.long (4294976000 : Int64)), .second, .unset] [(.int (0 : Int32))])) _
        refine XS.istore X1.here hx rfl (hb hby at_31) rfl (l' := #[.val (.int p1), .val (.int p2), .val (.int (f1_0 p1 p2)), .val (.long (4294976000 : Int64)), .second, .val (.int (0 : Int32))]) rfl ?_
        show Steps p.tables e below (T1.setTop (mkF m 33 #[.val (.int p1), .val (.int p2), .val (.int (f1_0 p1 p2)), .val (.long (4294976000 : Int64)), .second, .val (.int (0 : Int32))] [])) _
        refine XS.iloadN X1.here hx rfl (hb hby at_33) rfl ?_
        show Steps p.tables e below (T1.setTop (mkF m 34 #[.val (.int p1), .val (.int p2), .val (.int (f1_0 p1 p2)), .val (.long (4294976000 : Int64)), .second, .val (.int (0 : Int32))] [(.int (f1_0 p1 p2))])) _
        refine st6 _ ?_
        show Steps p.tables e below (T6.setTop (mkF m 37 #[.val (.int p1), .val (.int p2), .val (.int (f1_0 p1 p2)), .val (.long (4294976000 : Int64)), .second, .val (.int (0 : Int32))] [(.int (f2_0 (f1_0 p1 p2)))])) _
        refine XS.iload X6.here hx rfl (hb hby at_37) rfl ?_
        show Steps p.tables e below (T6.setTop (mkF m 39 #[.val (.int p1), .val (.int p2), .val (.int (f1_0 p1 p2)), .val (.long (4294976000 : Int64)), .second, .val (.int (0 : Int32))] [(.int (0 : Int32)), (.int (f2_0 (f1_0 p1 p2)))])) _
        refine XS.icmpNo X6.here hx rfl (hb hby at_39) rfl (teq h39_7).2 ?_
        show Steps p.tables e below (T6.setTop (mkF m 42 #[.val (.int p1), .val (.int p2), .val (.int (f1_0 p1 p2)), .val (.long (4294976000 : Int64)), .second, .val (.int (0 : Int32))] [])) _
        refine XS.iconst X6.here hx rfl (hb hby at_42) ?_
        show Steps p.tables e below (T6.setTop (mkF m 43 #[.val (.int p1), .val (.int p2), .val (.int (f1_0 p1 p2)), .val (.long (4294976000 : Int64)), .second, .val (.int (0 : Int32))] [(.int (1 : Int32))])) _
        refine XS.goto X6.here hx rfl (pc0 := 43) (pc' := 47) rfl (hb hby at_43) (by decide) (by decide) ?_
        show Steps p.tables e below (T6.setTop (mkF m 47 #[.val (.int p1), .val (.int p2), .val (.int (f1_0 p1 p2)), .val (.long (4294976000 : Int64)), .second, .val (.int (0 : Int32))] [(.int (1 : Int32))])) _
        exact k
      obtain ⟨fs, hr, hrun, hended, hW, hsame⟩ := X6.leave (v := some (.int (1 : Int32))) (fun h => by rw [Bd.returns] at h; cases h)
      refine ⟨_, _, pre8 _ ?_, hrun, hended, _, _, rfl, ?_, ⟨_, rfl⟩, hW, hsame.mono (by decide) (by decide)⟩
      · exact retN X6 hx (t := .boolean) Bd.returns (by simp) (hb hby at_47) hr
      · exact ⟨rfl, N6⟩
    · obtain ⟨_, _, ⟨T9, L9, k9, n9⟩, -, X9, ⟨Lc9, hQ9, l9, y9, z9⟩, st9⟩ := Jvm.LawKit.callS X1 hx (y := (⟨"com/example/rumblecourt/rumblecourt/server/Protocol", "isSpace", "(C)Z"⟩ : MethodName)) hown (mvT hZ (hw _ (List.mem_of_getElem? (i := 6) rfl))) (mvT hZ (hw _ (List.mem_of_getElem? (i := 7) rfl))) (mvT hZ (hw _ (List.mem_of_getElem? (i := 8) rfl))) (mvT hZ (hw _ (List.mem_of_getElem? (i := 9) rfl))) (by decide) (backOf (W := 0) (rm2 l Z a0 hw [] (f1_0 p1 p2) h0 n0) hZ (hw _ (List.mem_of_getElem? (i := 9) rfl)) (hw _ (List.mem_of_getElem? (i := 8) rfl)) (by decide) (by decide)) (g := (mkF m 34 #[.val (.int p1), .val (.int p2), .val (.int (f1_0 p1 p2)), .val (.long (4294976000 : Int64)), .second, .val (.int (1 : Int32))] [(.int (f1_0 p1 p2))])) rfl (by rw [hml]; rfl) (argsL := [(.int (f1_0 p1 p2))]) (rest := []) (lenOf pd_0_1 rfl) rfl (by show 2 * 0 + _ ≤ _; exact Nat.le_of_eq rfl) (hb hby at_34) (fun _ _ => ⟨rfl, e1, (by decide : 0 + 0 ≤ _), (by decide : 0 + 0 ≤ _)⟩)
      dsimp only [Pt.U, Pt.locs, Pt.cells, Pt.slots] at X9 l9 y9 z9 st9 hQ9
      subst l9 y9 z9
      obtain ⟨rfl, N9q, e9⟩ := hQ9
      have N9 := Fr.app N1 N9q
      have h39_10 : (f2_0 (f1_0 p1 p2)) = (1 : Int32) := own_r1 _ _ h13_2 h23_4
      have pre11 : ∀ t, Steps p.tables e below (T9.setTop (mkF m 47 #[.val (.int p1), .val (.int p2), .val (.int (f1_0 p1 p2)), .val (.long (4294976000 : Int64)), .second, .val (.int (1 : Int32))] [(.int (1 : Int32))])) t → Steps p.tables e below (s₁.setTop (entryFrame m #[(.int p1), (.int p2)] maxLocals)) t := by
        intro t k
        refine pre5 t ?_
        refine XS.ifNo X1.here hx rfl (hb hby at_23) rfl ((if0 _ _).trans (feq h23_4).1) ?_
        show Steps p.tables e below (T1.setTop (mkF m 26 #[.val (.int p1), .val (.int p2), .val (.int (f1_0 p1 p2)), .val (.long (4294976000 : Int64)), .second, .unset] [])) _
        refine XS.iconst X1.here hx rfl (hb hby at_26) ?_
        show Steps p.tables e below (T1.setTop (mkF m 27 #[.val (.int p1), .val (.int p2), .val (.int (f1_0 p1 p2)), .val (.long (4294976000 : Int64)), .second, .unset] [(.int (1 : Int32))])) _
        refine XS.goto X1.here hx rfl (pc0 := 27) (pc' := 31) rfl (hb hby at_27) (by decide) (by decide) ?_
        show Steps p.tables e below (T1.setTop (mkF m 31 #[.val (.int p1), .val (.int p2), .val (.int (f1_0 p1 p2)), .val (.long (4294976000 : Int64)), .second, .unset] [(.int (1 : Int32))])) _
        refine XS.istore X1.here hx rfl (hb hby at_31) rfl (l' := #[.val (.int p1), .val (.int p2), .val (.int (f1_0 p1 p2)), .val (.long (4294976000 : Int64)), .second, .val (.int (1 : Int32))]) rfl ?_
        show Steps p.tables e below (T1.setTop (mkF m 33 #[.val (.int p1), .val (.int p2), .val (.int (f1_0 p1 p2)), .val (.long (4294976000 : Int64)), .second, .val (.int (1 : Int32))] [])) _
        refine XS.iloadN X1.here hx rfl (hb hby at_33) rfl ?_
        show Steps p.tables e below (T1.setTop (mkF m 34 #[.val (.int p1), .val (.int p2), .val (.int (f1_0 p1 p2)), .val (.long (4294976000 : Int64)), .second, .val (.int (1 : Int32))] [(.int (f1_0 p1 p2))])) _
        refine st9 _ ?_
        show Steps p.tables e below (T9.setTop (mkF m 37 #[.val (.int p1), .val (.int p2), .val (.int (f1_0 p1 p2)), .val (.long (4294976000 : Int64)), .second, .val (.int (1 : Int32))] [(.int (f2_0 (f1_0 p1 p2)))])) _
        refine XS.iload X9.here hx rfl (hb hby at_37) rfl ?_
        show Steps p.tables e below (T9.setTop (mkF m 39 #[.val (.int p1), .val (.int p2), .val (.int (f1_0 p1 p2)), .val (.long (4294976000 : Int64)), .second, .val (.int (1 : Int32))] [(.int (1 : Int32)), (.int (f2_0 (f1_0 p1 p2)))])) _
        refine XS.icmpNo X9.here hx rfl (hb hby at_39) rfl (teq h39_10).2 ?_
        show Steps p.tables e below (T9.setTop (mkF m 42 #[.val (.int p1), .val (.int p2), .val (.int (f1_0 p1 p2)), .val (.long (4294976000 : Int64)), .second, .val (.int (1 : Int32))] [])) _
        refine XS.iconst X9.here hx rfl (hb hby at_42) ?_
        show Steps p.tables e below (T9.setTop (mkF m 43 #[.val (.int p1), .val (.int p2), .val (.int (f1_0 p1 p2)), .val (.long (4294976000 : Int64)), .second, .val (.int (1 : Int32))] [(.int (1 : Int32))])) _
        refine XS.goto X9.here hx rfl (pc0 := 43) (pc' := 47) rfl (hb hby at_43) (by decide) (by decide) ?_
        show Steps p.tables e below (T9.setTop (mkF m 47 #[.val (.int p1), .val (.int p2), .val (.int (f1_0 p1 p2)), .val (.long (4294976000 : Int64)), .second, .val (.int (1 : Int32))] [(.int (1 : Int32))])) _
        exact k
      obtain ⟨fs, hr, hrun, hended, hW, hsame⟩ := X9.leave (v := some (.int (1 : Int32))) (fun h => by rw [Bd.returns] at h; cases h)
      refine ⟨_, _, pre11 _ ?_, hrun, hended, _, _, rfl, ?_, ⟨_, rfl⟩, hW, hsame.mono (by decide) (by decide)⟩
      · exact retN X9 hx (t := .boolean) Bd.returns (by simp) (hb hby at_47) hr
      · exact ⟨rfl, N9⟩
  · obtain ⟨_, _, ⟨T12, L12, k12, n12⟩, -, X12, ⟨Lc12, hQ12, l12, y12, z12⟩, st12⟩ := Jvm.LawKit.callS X1 hx (y := (⟨"com/example/rumblecourt/rumblecourt/server/Protocol", "isSpace", "(C)Z"⟩ : MethodName)) hown (mvT hZ (hw _ (List.mem_of_getElem? (i := 6) rfl))) (mvT hZ (hw _ (List.mem_of_getElem? (i := 7) rfl))) (mvT hZ (hw _ (List.mem_of_getElem? (i := 8) rfl))) (mvT hZ (hw _ (List.mem_of_getElem? (i := 9) rfl))) (by decide) (backOf (W := 0) (rm2 l Z a0 hw [] (f1_0 p1 p2) h0 n0) hZ (hw _ (List.mem_of_getElem? (i := 9) rfl)) (hw _ (List.mem_of_getElem? (i := 8) rfl)) (by decide) (by decide)) (g := (mkF m 34 #[.val (.int p1), .val (.int p2), .val (.int (f1_0 p1 p2)), .val (.long (4294976000 : Int64)), .second, .val (.int (0 : Int32))] [(.int (f1_0 p1 p2))])) rfl (by rw [hml]; rfl) (argsL := [(.int (f1_0 p1 p2))]) (rest := []) (lenOf pd_0_1 rfl) rfl (by show 2 * 0 + _ ≤ _; exact Nat.le_of_eq rfl) (hb hby at_34) (fun _ _ => ⟨rfl, e1, (by decide : 0 + 0 ≤ _), (by decide : 0 + 0 ≤ _)⟩)
    dsimp only [Pt.U, Pt.locs, Pt.cells, Pt.slots] at X12 l12 y12 z12 st12 hQ12
    subst l12 y12 z12
    obtain ⟨rfl, N12q, e12⟩ := hQ12
    have N12 := Fr.app N1 N12q
    have h39_13 : (f2_0 (f1_0 p1 p2)) = (0 : Int32) := own_hi _ h13_2
    have pre14 : ∀ t, Steps p.tables e below (T12.setTop (mkF m 47 #[.val (.int p1), .val (.int p2), .val (.int (f1_0 p1 p2)), .val (.long (4294976000 : Int64)), .second, .val (.int (0 : Int32))] [(.int (1 : Int32))])) t → Steps p.tables e below (s₁.setTop (entryFrame m #[(.int p1), (.int p2)] maxLocals)) t := by
      intro t k
      refine pre3 t ?_
      refine XS.icmpYes X1.here hx rfl (pc0 := 13) (pc' := 30) rfl (hb hby at_13) rfl (flt h13_2).2.1 (by decide) (by decide) ?_
      show Steps p.tables e below (T1.setTop (mkF m 30 #[.val (.int p1), .val (.int p2), .val (.int (f1_0 p1 p2)), .val (.long (4294976000 : Int64)), .second, .unset] [])) _
      refine XS.iconst X1.here hx rfl (hb hby at_30) ?_
      show Steps p.tables e below (T1.setTop (mkF m 31 #[.val (.int p1), .val (.int p2), .val (.int (f1_0 p1 p2)), .val (.long (4294976000 : Int64)), .second, .unset] [(.int (0 : Int32))])) _
      refine XS.istore X1.here hx rfl (hb hby at_31) rfl (l' := #[.val (.int p1), .val (.int p2), .val (.int (f1_0 p1 p2)), .val (.long (4294976000 : Int64)), .second, .val (.int (0 : Int32))]) rfl ?_
      show Steps p.tables e below (T1.setTop (mkF m 33 #[.val (.int p1), .val (.int p2), .val (.int (f1_0 p1 p2)), .val (.long (4294976000 : Int64)), .second, .val (.int (0 : Int32))] [])) _
      refine XS.iloadN X1.here hx rfl (hb hby at_33) rfl ?_
      show Steps p.tables e below (T1.setTop (mkF m 34 #[.val (.int p1), .val (.int p2), .val (.int (f1_0 p1 p2)), .val (.long (4294976000 : Int64)), .second, .val (.int (0 : Int32))] [(.int (f1_0 p1 p2))])) _
      refine st12 _ ?_
      show Steps p.tables e below (T12.setTop (mkF m 37 #[.val (.int p1), .val (.int p2), .val (.int (f1_0 p1 p2)), .val (.long (4294976000 : Int64)), .second, .val (.int (0 : Int32))] [(.int (f2_0 (f1_0 p1 p2)))])) _
      refine XS.iload X12.here hx rfl (hb hby at_37) rfl ?_
      show Steps p.tables e below (T12.setTop (mkF m 39 #[.val (.int p1), .val (.int p2), .val (.int (f1_0 p1 p2)), .val (.long (4294976000 : Int64)), .second, .val (.int (0 : Int32))] [(.int (0 : Int32)), (.int (f2_0 (f1_0 p1 p2)))])) _
      refine XS.icmpNo X12.here hx rfl (hb hby at_39) rfl (teq h39_13).2 ?_
      show Steps p.tables e below (T12.setTop (mkF m 42 #[.val (.int p1), .val (.int p2), .val (.int (f1_0 p1 p2)), .val (.long (4294976000 : Int64)), .second, .val (.int (0 : Int32))] [])) _
      refine XS.iconst X12.here hx rfl (hb hby at_42) ?_
      show Steps p.tables e below (T12.setTop (mkF m 43 #[.val (.int p1), .val (.int p2), .val (.int (f1_0 p1 p2)), .val (.long (4294976000 : Int64)), .second, .val (.int (0 : Int32))] [(.int (1 : Int32))])) _
      refine XS.goto X12.here hx rfl (pc0 := 43) (pc' := 47) rfl (hb hby at_43) (by decide) (by decide) ?_
      show Steps p.tables e below (T12.setTop (mkF m 47 #[.val (.int p1), .val (.int p2), .val (.int (f1_0 p1 p2)), .val (.long (4294976000 : Int64)), .second, .val (.int (0 : Int32))] [(.int (1 : Int32))])) _
      exact k
    obtain ⟨fs, hr, hrun, hended, hW, hsame⟩ := X12.leave (v := some (.int (1 : Int32))) (fun h => by rw [Bd.returns] at h; cases h)
    refine ⟨_, _, pre14 _ ?_, hrun, hended, _, _, rfl, ?_, ⟨_, rfl⟩, hW, hsame.mono (by decide) (by decide)⟩
    · exact retN X12 hx (t := .boolean) Bd.returns (by simp) (hb hby at_47) hr
    · exact ⟨rfl, N12⟩
set_option maxRecDepth 65536 in
set_option maxHeartbeats 40000000 in
theorem comes_1 {Post : Tables → Env → Array Value → State → Outcome → State → Prop} (hpost : ∀ tb e args s v u, (limb_1_1.after args s (.returned v) u = true ∧ limb_1_2.after args s (.returned v) u = true ∧ True) → FrameEnd s (.returned v) u (Jvm.fieldLocs frame_1_writes args s ++ Jvm.arrayLocs frame_1_arrays args s ++ Jvm.staticLocs frame_1_statics s) 0 0 → Post tb e args s (.returned v) u) :
    ArmFor flags0 classFile x code maxLocals ret World_1 tables_1 room_1 Calls_1 rest_1 Pre_1 Post := by
  intro l hfl _ _ p e ha hc hk s m args below hf hA hF happ hP
  obtain ⟨hcalls, hrest, hpre⟩ := hP
  obtain ⟨-, -, -, hnamed, -, -, -, hat⟩ := (Spec.applies_iff hf).mp happ
  obtain ⟨hg, hn⟩ := and_e (Cond.before_iff.mp (show (Jvm.Cond.and given_1 narrow_1).before args s = true from hpre))
  obtain ⟨hc0, hr1⟩ := and_e hg
  obtain ⟨ha0, hr2⟩ := and_e hr1
  obtain ⟨w0, w1, rfl⟩ : ∃ w0 w1 : Value, args = #[w0, w1] := by
    have hs : args.size = 2 := by simpa [Cond.value, given_1] using hc0
    obtain ⟨L⟩ := args
    match L, hs with
    | [w0, w1], _ => exact ⟨w0, w1, rfl⟩
  have hw := fun d (hd : d ∈ tables_1) => atoms_spec (ws := Jvm.Cond.code x code maxLocals ret :: tables_1) hat d (List.mem_cons_of_mem _ hd)
  have hfit : Fit s := fun {y c} hc i hi => by
    obtain ⟨ha, rfl⟩ := Array.getElem?_eq_some_iff.mp hc
    have q := List.all_eq_true.mp ((Array.all_eq_true_iff_forall_mem.mp hF) _ (Array.getElem_mem ha)) i (List.mem_range.mpr hi)
    simpa [Array.getElem?_eq_getElem hi] using q
  obtain ⟨i0, ei0⟩ := is_v ha0
  obtain rfl : w0 = (.int i0) := Option.some.inj ei0
  obtain ⟨i1, ei1⟩ := is_v hr2
  obtain rfl : w1 = (.int i1) := Option.some.inj ei1
  obtain ⟨n, o, h1, h2, h3, _, L, rfl, ⟨rfl, N⟩, hq⟩ := rm0 l s _ hw tables_1 i0 i1 s.heap s.heap.size (Nat.le_refl _) p e ha hc hk s m _ below hf ((Spec.applies_iff_loose hf).mp happ).1 ⟨rfl, State.Warmed39.refl s, rfl⟩ trivial
  refine ⟨n, _, h1, h2, h3, hpost _ _ _ _ _ _ ⟨Cond.after_iff.mpr rfl, Cond.after_iff.mpr (eq_i res_at (Term.int_eval (1)) rfl), trivial⟩ ⟨hq.1, hq.2.1, (hq.2.2.sift fun y hy => Or.inr (N y hy)).mono (by decide) (by decide)⟩⟩
theorem main_1_1 : Claimed_1_1 := comes_1 fun _ _ _ _ _ _ h hF => ⟨h.1, hF⟩
theorem main_1_2 : Claimed_1_2 := comes_1 fun _ _ _ _ _ _ h hF => ⟨h.2.1, hF⟩
end Jvm.Pilot.@@N@@
namespace Jvm.Pilot.@@N@@
open Jvm Jvm.ClassFile Sem Op Lib Jvm.Free Jvm.Stand Jvm.Pilot.@@N@@.Jvm.D
/-! MADE BY PROGRAM (witnessworld.py) out of the Statement's table words and the real class files: 7 classes; the members and pool entries that the words name. The judged class is class 1, her method 2. -/
namespace start1
open Jvm.ClassFile
def u (s : String) : CpInfo := .utf8 (stringToUtf16 s)
/-- a pool by its gaps: so many unusable entries, then the entry; so many at the end -/
def gap : Nat → List CpInfo → List CpInfo
  | 0, r => r
  | n + 1, r => .unusable :: gap n r
def poolList (es : List (Nat × CpInfo)) (last : Nat) : List CpInfo := es.foldr (fun e r => gap e.1 (e.2 :: r)) (gap last [])
def pool (es : List (Nat × CpInfo)) (last : Nat) : Array CpInfo := ⟨poolList es last⟩
def fileOf (pool : Array CpInfo) (this : Nat) (attrs : Array Attribute := #[]) (ms : Array MethodInfo := #[]) (fl : Nat := 33) (sup : Nat := 0) (ifs : Array Nat := #[]) (fds : Array FieldInfo := #[]) : ClassFile where
  minorVersion := 0
  majorVersion := 65
  constantPool := pool
  accessFlags := fl
  thisClass := this
  superClass := sup
  interfaces := ifs
  fields := fds
  methods := ms
  attributes := attrs
def plain (name : String) (sup : Option ClassId) : Class where
  name := name
  kind := .ordinary
  loader := none
  accessFlags := 33
  super := sup
  interfaces := #[]
  cf := none
  fields := #[]
  methods := #[]
  instanceTypes := #[]
  staticTypes := #[]
  resolved := #[]
  callSites := []
  init := .initialized
  statics := none
  mirror := none

def pool0 : Array CpInfo := pool [(5, u "<init>"), (0, u "()V"), (1, .class_ 10), (1, u "java/lang/Object")] 113

def k0m0 : Method := { name := "<init>", desc := "()V", sig := { parameters := [], returnType := none }, accessFlags := 1, code := none }
/-- java/lang/Object -/
def k0 : Class := { plain "java/lang/Object" none with
  accessFlags := 33
  interfaces := #[]
  cf := some (fileOf pool0 8 #[] #[{ accessFlags := 1, nameIndex := 5, descriptorIndex := 6, attributes := #[] }] 33 0 #[] #[])
  fields := #[]
  methods := #[k0m0]
  instanceTypes := #[]
  staticTypes := #[]
  resolved := Array.replicate 124 none
  statics := none }

def pool1 : Array CpInfo := pool [(2, .class_ 4), (1, u "java/lang/Object"), (0, u "<init>"), (0, u "()V"), (0, .integer 65535), (0, .methodref 9 10), (0, .class_ 11), (0, .nameAndType 12 13), (0, u "com/example/rumblecourt/rumblecourt/server/ProtocolIsSpacePinLaw"), (0, u "pick"), (0, u "(II)C"), (0, .long 4294976000), (1, .methodref 17 18), (0, .class_ 19), (0, .nameAndType 20 21), (0, u "com/example/rumblecourt/rumblecourt/server/Protocol"), (0, u "isSpace"), (0, u "(C)Z"), (3, u "law"), (0, u "(II)Z")] 2

def k1m0 : Method := { name := "<init>", desc := "()V", sig := { parameters := [], returnType := none }, accessFlags := 1, code := none }
def k1c1 : Code := { maxStack := 2, maxLocals := 4, code := method_2_code, exceptionTable := #[], attributes := #[] }
def k1m1 : Method := { name := "pick", desc := "(II)C", sig := { parameters := [.int, .int], returnType := some .char }, accessFlags := 10, code := some k1c1 }
def k1c2 : Code := { maxStack := 4, maxLocals := 6, code := code, exceptionTable := #[], attributes := #[] }
def k1m2 : Method := { name := "law", desc := "(II)Z", sig := { parameters := [.int, .int], returnType := some .boolean }, accessFlags := 9, code := some k1c2 }
/-- com/example/rumblecourt/rumblecourt/server/ProtocolIsSpacePinLaw -/
def k1 : Class := { plain "com/example/rumblecourt/rumblecourt/server/ProtocolIsSpacePinLaw" (some 0) with
  accessFlags := 49
  interfaces := #[]
  cf := some (fileOf pool1 9 #[] #[{ accessFlags := 1, nameIndex := 5, descriptorIndex := 6, attributes := #[] }, { accessFlags := 10, nameIndex := 12, descriptorIndex := 13, attributes := #[] }, { accessFlags := 9, nameIndex := 25, descriptorIndex := 26, attributes := #[] }] 49 2 #[] #[])
  fields := #[]
  methods := #[k1m0, k1m1, k1m2]
  instanceTypes := #[]
  staticTypes := #[]
  resolved := Array.replicate 29 none
  statics := none }

def pool2 : Array CpInfo := pool [(2, .class_ 4), (1, u "java/lang/Object"), (0, u "<init>"), (0, u "()V"), (14, .class_ 23), (1, u "com/example/rumblecourt/rumblecourt/server/Protocol"), (0, u "isSpace"), (0, u "(C)Z"), (28, u "INTEGER"), (0, u "Ljava/util/regex/Pattern;"), (14, u "NUMBER"), (21, u "PLACES"), (0, u "I")] 19

def k2m0 : Method := { name := "<init>", desc := "()V", sig := { parameters := [], returnType := none }, accessFlags := 2, code := none }
def k2c1 : Code := { maxStack := 2, maxLocals := 1, code := prog_58_method_3_code, exceptionTable := #[], attributes := #[] }
def k2m1 : Method := { name := "isSpace", desc := "(C)Z", sig := { parameters := [.char], returnType := some .boolean }, accessFlags := 8, code := some k2c1 }
/-- com/example/rumblecourt/rumblecourt/server/Protocol -/
def k2 : Class := { plain "com/example/rumblecourt/rumblecourt/server/Protocol" (some 0) with
  accessFlags := 49
  interfaces := #[]
  cf := some (fileOf pool2 21 #[] #[{ accessFlags := 2, nameIndex := 5, descriptorIndex := 6, attributes := #[] }, { accessFlags := 8, nameIndex := 24, descriptorIndex := 25, attributes := #[] }] 49 2 #[] #[{ accessFlags := 26, nameIndex := 92, descriptorIndex := 93, attributes := #[] }, { accessFlags := 26, nameIndex := 54, descriptorIndex := 55, attributes := #[] }, { accessFlags := 26, nameIndex := 70, descriptorIndex := 55, attributes := #[] }])
  fields := #[{ name := "PLACES", type := .int, accessFlags := 26, slot := 0, constantValue := 0 }, { name := "INTEGER", type := (.object "java/util/regex/Pattern"), accessFlags := 26, slot := 1, constantValue := 0 }, { name := "NUMBER", type := (.object "java/util/regex/Pattern"), accessFlags := 26, slot := 2, constantValue := 0 }]
  methods := #[k2m0, k2m1]
  instanceTypes := #[]
  staticTypes := #[.int, (.object "java/util/regex/Pattern"), (.object "java/util/regex/Pattern")]
  resolved := Array.replicate 113 none
  statics := none }

def pool3 : Array CpInfo := pool [(1, u "java/lang/Cloneable"), (0, .class_ 1), (0, u "java/lang/Object"), (0, .class_ 3)] 3

/-- java/lang/Cloneable -/
def k3 : Class := { plain "java/lang/Cloneable" (some 0) with
  accessFlags := 1537
  interfaces := #[]
  cf := some (fileOf pool3 2 #[] #[] 1537 4 #[] #[])
  fields := #[]
  methods := #[]
  instanceTypes := #[]
  staticTypes := #[]
  resolved := Array.replicate 8 none
  statics := none }

def pool4 : Array CpInfo := pool [(1, u "java/io/Serializable"), (0, .class_ 1), (0, u "java/lang/Object"), (0, .class_ 3)] 3

/-- java/io/Serializable -/
def k4 : Class := { plain "java/io/Serializable" (some 0) with
  accessFlags := 1537
  interfaces := #[]
  cf := some (fileOf pool4 2 #[] #[] 1537 4 #[] #[])
  fields := #[]
  methods := #[]
  instanceTypes := #[]
  staticTypes := #[]
  resolved := Array.replicate 8 none
  statics := none }

/-- the primitive byte -/
def k5 : Class := { plain "byte" none with kind := .primitive 'B', accessFlags := 0x411 }
/-- [B -/
def k6 : Class := { plain "[B" (some 0) with kind := .array 5 .byte, interfaces := #[3, 4], accessFlags := 1041 }

def heap : Heap := #[]
def classes : Array Class := #[k0, k1, k2, k3, k4, k5, k6]
def interned : List (Array UInt16 × Addr) := []
def slotsUsed : Nat := 0
def theMethod : MethodId := ⟨1, 2⟩
def args0 : Array Value := #[.int 5, .int 3]
def aboutOver (below : List Frame) : State where
  vm := { classes := classes, interned := interned.toArray }
  heap := heap
  slotsUsed := slotsUsed
  threads := #[{ frames := .invoking theMethod args0 :: below }]
def below0 : List Frame := [.native { method := ⟨0, 0⟩, args := #[] }]
def about1 : State := aboutOver below0
def p0 : Program := .bare "" "" ""
def e0 : Env := launch0.env 0 0 0
theorem w_frames : about1.frames = Frame.invoking theMethod args0 :: below0 := rfl
set_option maxRecDepth 65536 in
theorem w_args : argsFit about1.vm theMethod args0 = true := by decide +kernel
set_option maxRecDepth 65536 in
theorem w_heap : heapFits about1 = true := by decide +kernel
set_option maxRecDepth 65536 in
theorem w_runnable : about1.curStatus? = some .runnable := by decide +kernel
set_option maxRecDepth 65536 in
theorem w_alone : about1.alone = true := by decide +kernel
set_option maxRecDepth 65536 in
theorem w_named : about1.methodNamed? x = some theMethod := by decide +kernel
set_option maxRecDepth 65536 in
theorem w_hears : about1.hears theMethod below0 = true := by decide +kernel
set_option maxRecDepth 65536 in
theorem w_ripe : about1.ripe theMethod args0 below0 = true := by decide +kernel
theorem w_running : about1.status = .running := rfl
set_option maxRecDepth 65536 in
theorem w_room : about1.hasRoom e0.platform room_1 = true :=
  launch0.hasRoom_least _ room_1 (by decide +kernel) (by decide +kernel) (by decide +kernel) (by decide +kernel) (by decide +kernel) (by decide +kernel)
theorem allAtoms_all (ts : List Jvm.Cond) (a : Array Jvm.Value) (st : Jvm.State) : (allAtoms ts).before a st = ts.all (fun c => c.before a st) := by
  induction ts with
  | nil => rfl
  | cons c t ih =>
    show (Jvm.Cond.and c (allAtoms t)).before a st = _
    rw [Jvm.Cond.before_and, ih, List.all_cons]
def words1 : List Jvm.Cond := Jvm.Cond.code x code maxLocals ret :: tables_1
/-- a 'code' word, met by the world's own term for the bytes: nothing is compared byte by byte -/
theorem code_word {y : MethodName} {bytes : ByteArray} {mx : Nat} {rt : Option FieldType} {a : Array Value} {s : State} {m : MethodId} {meth : Method} {c : Code} (h1 : s.methodNamed? y = some m) (h2 : s.vm.method? m = some meth) (h3 : meth.code = some c) (h4 : c.code = bytes)
    (h5 : (c.maxLocals == mx && c.exceptionTable.isEmpty && decide (c.maxStack ≤ mostOperands) && decide (meth.sig.returnType = rt) && !meth.locks && decide (parseMethodDescriptor y.desc = some meth.sig)) = true) : (Jvm.Cond.code y bytes mx rt).before a s = true := by
  simp only [Bool.and_eq_true, beq_iff_eq, Bool.not_eq_true', decide_eq_true_eq] at h5
  obtain ⟨⟨⟨⟨⟨g1, g2⟩, g3⟩, g4⟩, g5⟩, g6⟩ := h5
  simp [Cond.before, Cond.holds, Cond.value, h1, h2, h3, h4, g1, g2, g3, g4, g5, g6]
def isCode : Jvm.Cond → Bool
  | .code _ _ _ _ => true
  | _ => false
theorem all_split {L : List Jvm.Cond} {P : Jvm.Cond → Bool} (h1 : L.all (fun c => isCode c || P c) = true) (h2 : ∀ c ∈ L.filter isCode, P c = true) : L.all P = true := by
  refine List.all_eq_true.mpr fun c hc => ?_
  have h := List.all_eq_true.mp h1 c hc
  rcases Bool.eq_false_or_eq_true (isCode c) with hi | hi
  · exact h2 c (List.mem_filter.mpr ⟨hc, hi⟩)
  · simpa [hi] using h
set_option maxRecDepth 65536 in
theorem w_c0 : (Jvm.Cond.code x code maxLocals ret).before args0 about1 = true := code_word (m := ⟨1, 2⟩) (meth := k1m2) (c := k1c2) (by decide +kernel) rfl rfl rfl (by decide +kernel)
set_option maxRecDepth 65536 in
theorem w_c1 : (Jvm.Cond.code ({ cls := "com/example/rumblecourt/rumblecourt/server/ProtocolIsSpacePinLaw", name := "pick", desc := "(II)C" } : Jvm.MethodName) method_2_code (4 : Nat) (Option.some Jvm.ClassFile.FieldType.char)).before args0 about1 = true := code_word (m := ⟨1, 1⟩) (meth := k1m1) (c := k1c1) (by decide +kernel) rfl rfl rfl (by decide +kernel)
set_option maxRecDepth 65536 in
theorem w_c2 : (Jvm.Cond.code ({ cls := "com/example/rumblecourt/rumblecourt/server/Protocol", name := "isSpace", desc := "(C)Z" } : Jvm.MethodName) prog_58_method_3_code (1 : Nat) (Option.some Jvm.ClassFile.FieldType.boolean)).before args0 about1 = true := code_word (m := ⟨2, 1⟩) (meth := k2m1) (c := k2c1) (by decide +kernel) rfl rfl rfl (by decide +kernel)
def codes1 : List Jvm.Cond := [Jvm.Cond.code x code maxLocals ret, Jvm.Cond.code ({ cls := "com/example/rumblecourt/rumblecourt/server/ProtocolIsSpacePinLaw", name := "pick", desc := "(II)C" } : Jvm.MethodName) method_2_code (4 : Nat) (Option.some Jvm.ClassFile.FieldType.char), Jvm.Cond.code ({ cls := "com/example/rumblecourt/rumblecourt/server/Protocol", name := "isSpace", desc := "(C)Z" } : Jvm.MethodName) prog_58_method_3_code (1 : Nat) (Option.some Jvm.ClassFile.FieldType.boolean)]
set_option maxRecDepth 65536 in
theorem codes_eq : words1.filter isCode = codes1 := rfl
theorem w_codes : ∀ c ∈ words1.filter isCode, c.before args0 about1 = true := by
  rw [codes_eq]
  intro c hc
  simp only [codes1, List.mem_cons, List.not_mem_nil, or_false] at hc
  rcases hc with rfl | rfl | rfl
  · exact w_c0
  · exact w_c1
  · exact w_c2
set_option maxRecDepth 65536 in
theorem w_t1 : words1.all (fun c => isCode c || c.before args0 about1) = true := by decide +kernel
theorem w_tables : (allAtoms (Jvm.Cond.code x code maxLocals ret :: tables_1)).before args0 about1 = true := by
  rw [allAtoms_all]
  show words1.all (fun c => c.before args0 about1) = true
  refine all_split ?_ w_codes
  rw [w_t1]
set_option maxRecDepth 65536 in
theorem w_case : (Jvm.Cond.and given_1 narrow_1).before args0 about1 = true := by decide +kernel
theorem w_applies : (headSpec (Jvm.Cond.code x code maxLocals ret :: tables_1) room_1).applies x e0.platform about1 = true :=
  (Spec.applies_iff w_frames).mpr ⟨w_running, w_runnable, w_alone, w_named, w_hears, w_ripe, w_room, w_tables⟩
theorem atStart : AtStart classFile x code maxLocals ret World_1 tables_1 room_1 Calls_1 rest_1 Pre_1 launch0 p0 e0 about1 theMethod args0 below0 :=
  ⟨lists_1, trivial, launch0.admits_env _ _ _, launch0.least_env, fairChoices_fair.cas, fairChoices_fair.clock, w_frames, w_args, w_heap, w_applies, trivial, trivial, w_case⟩
end start1
theorem witness_1 : WitnessClaimed_1 := ⟨start1.p0, start1.e0, start1.about1, start1.theMethod, start1.args0, start1.below0, start1.atStart⟩
end Jvm.Pilot.@@N@@
