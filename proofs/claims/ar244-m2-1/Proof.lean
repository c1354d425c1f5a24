import JvmDerived
import JvmDerived.Pilot.@@N@@Statement
import JvmDerived.Pilot.@@N@@Code
set_option linter.unusedVariables false
set_option linter.unusedSimpArgs false
namespace Jvm.RoadKit
open Sem ClassFile Op Lib Jvm.Stand Jvm.Free Jvm.LawKit
section New
variable {p : Program} {l : Launch} {e : Env} {R : Room} {s : State} {m : MethodId} {args : Array Value} {below : List Frame} {meth : Method} {c : Code} {T : State} {locs : List Loc} {cells slots : Nat}
theorem retI (X : Stand p l e R s m args below meth c T locs cells slots) (hx : p.tables.exec = Jvm.exec) {pc : Nat} {Ls : Array Slot} {z : Int32} {rest : List Value} (hret : meth.sig.returnType = some .int) (hd : decode c.code pc = .ok (.ireturn, 1)) {fs : List Frame}
    (hl : ∀ (f : JFrame) (acts : List Action), f.method = m → f.locked = none → f.entered = [] → (doReturn e (T.setTop f) acts (some (.int z))).1 = T.setFrames fs) : Steps p.tables e below (T.setTop (mkF m pc Ls (.int z :: rest))) (T.setFrames fs) := by
  have hm' : T.vm.method? m = some meth := X.method'
  have hn : narrow .int (.int z) = .int z := rfl
  show Steps p.tables e below (T.setTop { method := m, pc := pc, locals := Ls, stack := _ :: rest, locked := none }) _
  jvm_step X.here [X.here.top, hx, hd, hm', hret, hn]
  first | (intro acts; rw [hl _ acts rfl rfl rfl]) | rw [hl _ _ rfl rfl rfl]
  exact Steps.refl _
end New
end Jvm.RoadKit
namespace Jvm.Pilot.@@N@@
open Jvm Jvm.ClassFile Sem Op Lib Jvm.Free Jvm.Stand Jvm.LawKit Jvm.RoadKit Bundle Jvm.Pilot.@@N@@.Jvm.D
def own_Q (r : Option Value) (n0 : Nat) (h0 : Heap) (v : Option Value) (h : Heap) (L : List Loc) : Prop := v = r ∧ Fr n0 L ∧ h = h0
theorem d2_73 : decode jdk_33_method_47_code 73 = .ok (.iload_n 1, 1) := by decide +kernel
theorem d2_74 : decode jdk_33_method_47_code 74 = .ok (.iload_n 0, 1) := by decide +kernel
theorem d2_75 : decode jdk_33_method_47_code 75 = .ok (.iconst 1, 1) := by decide +kernel
theorem d2_76 : decode jdk_33_method_47_code 76 = .ok (.iushr, 1) := by decide +kernel
theorem d2_77 : decode jdk_33_method_47_code 77 = .ok (.isub, 1) := by decide +kernel
theorem d2_78 : decode jdk_33_method_47_code 78 = .ok (.ireturn, 1) := by decide +kernel
def own_n73_F (x : Int32) (n : Int32) : Int32 := (n - ((x.toUInt32 >>> ((1 : Int32) &&& 31).toUInt32).toInt32))
set_option maxRecDepth 65536 in
set_option maxHeartbeats 40000000 in
theorem own_n73 {p : Program} {l : Launch} {e : Env} {R : Room} {s : State} {m : MethodId} {args : Array Value} {below : List Frame} {meth : Method} {c : Code} {T0 : State} {locs : List Loc} {cells slots : Nat} {Z : State} {a0 : Array Value} (X : Stand p l e R s m args below meth c T0 locs cells slots) (hx : p.tables.exec = Jvm.exec) (hZ : Z.Warmed39 s.vm) (hw : ∀ d ∈ tables_1, d.before a0 Z = true) (hby : c.code = jdk_33_method_47_code) (hown : s.vm.findClass "java/lang/Integer" = some m.cls) (hret : meth.sig.returnType = some .int) (x : Int32) (n : Int32) {fs : List Frame}
    (hr : ∀ (f : JFrame) (acts : List Action), f.method = m → f.locked = none → f.entered = [] → (doReturn e (T0.setTop f) acts (some (.int (own_n73_F x n)))).1 = T0.setFrames fs) :
    Steps p.tables e below (T0.setTop (mkF m 73 #[.val (.int x), .val (.int n)] [])) (T0.setFrames fs) := by
  show Steps p.tables e below (T0.setTop (mkF m 73 #[.val (.int x), .val (.int n)] [])) _
  refine XS.iloadN X.here hx rfl (hb hby d2_73) rfl ?_
  show Steps p.tables e below (T0.setTop (mkF m 74 #[.val (.int x), .val (.int n)] [(.int n)])) _
  refine XS.iloadN X.here hx rfl (hb hby d2_74) rfl ?_
  show Steps p.tables e below (T0.setTop (mkF m 75 #[.val (.int x), .val (.int n)] [(.int x), (.int n)])) _
  refine XS.iconst X.here hx rfl (hb hby d2_75) ?_
  show Steps p.tables e below (T0.setTop (mkF m 76 #[.val (.int x), .val (.int n)] [(.int (1 : Int32)), (.int x), (.int n)])) _
  refine XS.iushr X.here hx rfl (hb hby d2_76) rfl ?_
  show Steps p.tables e below (T0.setTop (mkF m 77 #[.val (.int x), .val (.int n)] [(.int ((x.toUInt32 >>> ((1 : Int32) &&& 31).toUInt32).toInt32)), (.int n)])) _
  refine XS.isub X.here hx rfl (hb hby d2_77) rfl ?_
  show Steps p.tables e below (T0.setTop (mkF m 78 #[.val (.int x), .val (.int n)] [(.int (n - ((x.toUInt32 >>> ((1 : Int32) &&& 31).toUInt32).toInt32)))])) _
  have hF : own_n73_F x n = (n - ((x.toUInt32 >>> ((1 : Int32) &&& 31).toUInt32).toInt32)) := rfl
  rw [hF] at hr
  exact retI X hx hret (hb hby d2_78) hr
theorem d2_61 : decode jdk_33_method_47_code 61 = .ok (.iload_n 0, 1) := by decide +kernel
theorem d2_62 : decode jdk_33_method_47_code 62 = .ok (.iconst 4, 1) := by decide +kernel
theorem d2_63 : decode jdk_33_method_47_code 63 = .ok (.if_icmp .lt 10, 3) := by decide +kernel
theorem d2_66 : decode jdk_33_method_47_code 66 = .ok (.iinc 1 (-2), 3) := by decide +kernel
theorem d2_69 : decode jdk_33_method_47_code 69 = .ok (.iload_n 0, 1) := by decide +kernel
theorem d2_70 : decode jdk_33_method_47_code 70 = .ok (.iconst 2, 1) := by decide +kernel
theorem d2_71 : decode jdk_33_method_47_code 71 = .ok (.iushr, 1) := by decide +kernel
theorem d2_72 : decode jdk_33_method_47_code 72 = .ok (.istore_n 0, 1) := by decide +kernel
def own_n61_F (x : Int32) (n : Int32) : Int32 := (if x < (4 : Int32) then (own_n73_F x n) else (own_n73_F ((x.toUInt32 >>> ((2 : Int32) &&& 31).toUInt32).toInt32) (n + (-2 : Int32))))
set_option maxRecDepth 65536 in
set_option maxHeartbeats 40000000 in
theorem own_n61 {p : Program} {l : Launch} {e : Env} {R : Room} {s : State} {m : MethodId} {args : Array Value} {below : List Frame} {meth : Method} {c : Code} {T0 : State} {locs : List Loc} {cells slots : Nat} {Z : State} {a0 : Array Value} (X : Stand p l e R s m args below meth c T0 locs cells slots) (hx : p.tables.exec = Jvm.exec) (hZ : Z.Warmed39 s.vm) (hw : ∀ d ∈ tables_1, d.before a0 Z = true) (hby : c.code = jdk_33_method_47_code) (hown : s.vm.findClass "java/lang/Integer" = some m.cls) (hret : meth.sig.returnType = some .int) (x : Int32) (n : Int32) {fs : List Frame}
    (hr : ∀ (f : JFrame) (acts : List Action), f.method = m → f.locked = none → f.entered = [] → (doReturn e (T0.setTop f) acts (some (.int (own_n61_F x n)))).1 = T0.setFrames fs) :
    Steps p.tables e below (T0.setTop (mkF m 61 #[.val (.int x), .val (.int n)] [])) (T0.setFrames fs) := by
  show Steps p.tables e below (T0.setTop (mkF m 61 #[.val (.int x), .val (.int n)] [])) _
  refine XS.iloadN X.here hx rfl (hb hby d2_61) rfl ?_
  show Steps p.tables e below (T0.setTop (mkF m 62 #[.val (.int x), .val (.int n)] [(.int x)])) _
  refine XS.iconst X.here hx rfl (hb hby d2_62) ?_
  show Steps p.tables e below (T0.setTop (mkF m 63 #[.val (.int x), .val (.int n)] [(.int (4 : Int32)), (.int x)])) _
  by_cases hc63_1 : x < (4 : Int32)
  · refine XS.icmpYes X.here hx rfl (pc0 := 63) (pc' := 73) rfl (hb hby d2_63) rfl (tlt hc63_1).1 (by decide) (by decide) ?_
    have hF : own_n61_F x n = (own_n73_F x n) := by unfold own_n61_F; simp only [if_pos hc63_1]
    rw [hF] at hr
    exact own_n73 X hx hZ hw hby hown hret x n hr
  · refine XS.icmpNo X.here hx rfl (hb hby d2_63) rfl (flt hc63_1).1 ?_
    show Steps p.tables e below (T0.setTop (mkF m 66 #[.val (.int x), .val (.int n)] [])) _
    refine XS.iinc X.here hx rfl (hb hby d2_66) rfl (l' := #[.val (.int x), .val (.int (n + (-2 : Int32)))]) rfl ?_
    show Steps p.tables e below (T0.setTop (mkF m 69 #[.val (.int x), .val (.int (n + (-2 : Int32)))] [])) _
    refine XS.iloadN X.here hx rfl (hb hby d2_69) rfl ?_
    show Steps p.tables e below (T0.setTop (mkF m 70 #[.val (.int x), .val (.int (n + (-2 : Int32)))] [(.int x)])) _
    refine XS.iconst X.here hx rfl (hb hby d2_70) ?_
    show Steps p.tables e below (T0.setTop (mkF m 71 #[.val (.int x), .val (.int (n + (-2 : Int32)))] [(.int (2 : Int32)), (.int x)])) _
    refine XS.iushr X.here hx rfl (hb hby d2_71) rfl ?_
    show Steps p.tables e below (T0.setTop (mkF m 72 #[.val (.int x), .val (.int (n + (-2 : Int32)))] [(.int ((x.toUInt32 >>> ((2 : Int32) &&& 31).toUInt32).toInt32))])) _
    refine XS.istoreN X.here hx rfl (hb hby d2_72) rfl (l' := #[.val (.int ((x.toUInt32 >>> ((2 : Int32) &&& 31).toUInt32).toInt32)), .val (.int (n + (-2 : Int32)))]) rfl ?_
    have hF : own_n61_F x n = (own_n73_F ((x.toUInt32 >>> ((2 : Int32) &&& 31).toUInt32).toInt32) (n + (-2 : Int32))) := by unfold own_n61_F; simp only [if_neg hc63_1]
    rw [hF] at hr
    exact own_n73 X hx hZ hw hby hown hret ((x.toUInt32 >>> ((2 : Int32) &&& 31).toUInt32).toInt32) (n + (-2 : Int32)) hr
theorem d2_48 : decode jdk_33_method_47_code 48 = .ok (.iload_n 0, 1) := by decide +kernel
theorem d2_49 : decode jdk_33_method_47_code 49 = .ok (.bipush 16, 2) := by decide +kernel
theorem d2_51 : decode jdk_33_method_47_code 51 = .ok (.if_icmp .lt 10, 3) := by decide +kernel
theorem d2_54 : decode jdk_33_method_47_code 54 = .ok (.iinc 1 (-4), 3) := by decide +kernel
theorem d2_57 : decode jdk_33_method_47_code 57 = .ok (.iload_n 0, 1) := by decide +kernel
theorem d2_58 : decode jdk_33_method_47_code 58 = .ok (.iconst 4, 1) := by decide +kernel
theorem d2_59 : decode jdk_33_method_47_code 59 = .ok (.iushr, 1) := by decide +kernel
theorem d2_60 : decode jdk_33_method_47_code 60 = .ok (.istore_n 0, 1) := by decide +kernel
def own_n48_F (x : Int32) (n : Int32) : Int32 := (if x < (16 : Int32) then (own_n61_F x n) else (own_n61_F ((x.toUInt32 >>> ((4 : Int32) &&& 31).toUInt32).toInt32) (n + (-4 : Int32))))
set_option maxRecDepth 65536 in
set_option maxHeartbeats 40000000 in
theorem own_n48 {p : Program} {l : Launch} {e : Env} {R : Room} {s : State} {m : MethodId} {args : Array Value} {below : List Frame} {meth : Method} {c : Code} {T0 : State} {locs : List Loc} {cells slots : Nat} {Z : State} {a0 : Array Value} (X : Stand p l e R s m args below meth c T0 locs cells slots) (hx : p.tables.exec = Jvm.exec) (hZ : Z.Warmed39 s.vm) (hw : ∀ d ∈ tables_1, d.before a0 Z = true) (hby : c.code = jdk_33_method_47_code) (hown : s.vm.findClass "java/lang/Integer" = some m.cls) (hret : meth.sig.returnType = some .int) (x : Int32) (n : Int32) {fs : List Frame}
    (hr : ∀ (f : JFrame) (acts : List Action), f.method = m → f.locked = none → f.entered = [] → (doReturn e (T0.setTop f) acts (some (.int (own_n48_F x n)))).1 = T0.setFrames fs) :
    Steps p.tables e below (T0.setTop (mkF m 48 #[.val (.int x), .val (.int n)] [])) (T0.setFrames fs) := by
  show Steps p.tables e below (T0.setTop (mkF m 48 #[.val (.int x), .val (.int n)] [])) _
  refine XS.iloadN X.here hx rfl (hb hby d2_48) rfl ?_
  show Steps p.tables e below (T0.setTop (mkF m 49 #[.val (.int x), .val (.int n)] [(.int x)])) _
  refine XS.bipush X.here hx rfl (hb hby d2_49) ?_
  show Steps p.tables e below (T0.setTop (mkF m 51 #[.val (.int x), .val (.int n)] [(.int (16 : Int32)), (.int x)])) _
  by_cases hc51_1 : x < (16 : Int32)
  · refine XS.icmpYes X.here hx rfl (pc0 := 51) (pc' := 61) rfl (hb hby d2_51) rfl (tlt hc51_1).1 (by decide) (by decide) ?_
    have hF : own_n48_F x n = (own_n61_F x n) := by unfold own_n48_F; simp only [if_pos hc51_1]
    rw [hF] at hr
    exact own_n61 X hx hZ hw hby hown hret x n hr
  · refine XS.icmpNo X.here hx rfl (hb hby d2_51) rfl (flt hc51_1).1 ?_
    show Steps p.tables e below (T0.setTop (mkF m 54 #[.val (.int x), .val (.int n)] [])) _
    refine XS.iinc X.here hx rfl (hb hby d2_54) rfl (l' := #[.val (.int x), .val (.int (n + (-4 : Int32)))]) rfl ?_
    show Steps p.tables e below (T0.setTop (mkF m 57 #[.val (.int x), .val (.int (n + (-4 : Int32)))] [])) _
    refine XS.iloadN X.here hx rfl (hb hby d2_57) rfl ?_
    show Steps p.tables e below (T0.setTop (mkF m 58 #[.val (.int x), .val (.int (n + (-4 : Int32)))] [(.int x)])) _
    refine XS.iconst X.here hx rfl (hb hby d2_58) ?_
    show Steps p.tables e below (T0.setTop (mkF m 59 #[.val (.int x), .val (.int (n + (-4 : Int32)))] [(.int (4 : Int32)), (.int x)])) _
    refine XS.iushr X.here hx rfl (hb hby d2_59) rfl ?_
    show Steps p.tables e below (T0.setTop (mkF m 60 #[.val (.int x), .val (.int (n + (-4 : Int32)))] [(.int ((x.toUInt32 >>> ((4 : Int32) &&& 31).toUInt32).toInt32))])) _
    refine XS.istoreN X.here hx rfl (hb hby d2_60) rfl (l' := #[.val (.int ((x.toUInt32 >>> ((4 : Int32) &&& 31).toUInt32).toInt32)), .val (.int (n + (-4 : Int32)))]) rfl ?_
    have hF : own_n48_F x n = (own_n61_F ((x.toUInt32 >>> ((4 : Int32) &&& 31).toUInt32).toInt32) (n + (-4 : Int32))) := by unfold own_n48_F; simp only [if_neg hc51_1]
    rw [hF] at hr
    exact own_n61 X hx hZ hw hby hown hret ((x.toUInt32 >>> ((4 : Int32) &&& 31).toUInt32).toInt32) (n + (-4 : Int32)) hr
theorem d2_33 : decode jdk_33_method_47_code 33 = .ok (.iload_n 0, 1) := by decide +kernel
theorem d2_34 : decode jdk_33_method_47_code 34 = .ok (.sipush 256, 3) := by decide +kernel
theorem d2_37 : decode jdk_33_method_47_code 37 = .ok (.if_icmp .lt 11, 3) := by decide +kernel
theorem d2_40 : decode jdk_33_method_47_code 40 = .ok (.iinc 1 (-8), 3) := by decide +kernel
theorem d2_43 : decode jdk_33_method_47_code 43 = .ok (.iload_n 0, 1) := by decide +kernel
theorem d2_44 : decode jdk_33_method_47_code 44 = .ok (.bipush 8, 2) := by decide +kernel
theorem d2_46 : decode jdk_33_method_47_code 46 = .ok (.iushr, 1) := by decide +kernel
theorem d2_47 : decode jdk_33_method_47_code 47 = .ok (.istore_n 0, 1) := by decide +kernel
def own_n33_F (x : Int32) (n : Int32) : Int32 := (if x < (256 : Int32) then (own_n48_F x n) else (own_n48_F ((x.toUInt32 >>> ((8 : Int32) &&& 31).toUInt32).toInt32) (n + (-8 : Int32))))
set_option maxRecDepth 65536 in
set_option maxHeartbeats 40000000 in
theorem own_n33 {p : Program} {l : Launch} {e : Env} {R : Room} {s : State} {m : MethodId} {args : Array Value} {below : List Frame} {meth : Method} {c : Code} {T0 : State} {locs : List Loc} {cells slots : Nat} {Z : State} {a0 : Array Value} (X : Stand p l e R s m args below meth c T0 locs cells slots) (hx : p.tables.exec = Jvm.exec) (hZ : Z.Warmed39 s.vm) (hw : ∀ d ∈ tables_1, d.before a0 Z = true) (hby : c.code = jdk_33_method_47_code) (hown : s.vm.findClass "java/lang/Integer" = some m.cls) (hret : meth.sig.returnType = some .int) (x : Int32) (n : Int32) {fs : List Frame}
    (hr : ∀ (f : JFrame) (acts : List Action), f.method = m → f.locked = none → f.entered = [] → (doReturn e (T0.setTop f) acts (some (.int (own_n33_F x n)))).1 = T0.setFrames fs) :
    Steps p.tables e below (T0.setTop (mkF m 33 #[.val (.int x), .val (.int n)] [])) (T0.setFrames fs) := by
  show Steps p.tables e below (T0.setTop (mkF m 33 #[.val (.int x), .val (.int n)] [])) _
  refine XS.iloadN X.here hx rfl (hb hby d2_33) rfl ?_
  show Steps p.tables e below (T0.setTop (mkF m 34 #[.val (.int x), .val (.int n)] [(.int x)])) _
  refine XS.sipush X.here hx rfl (hb hby d2_34) ?_
  show Steps p.tables e below (T0.setTop (mkF m 37 #[.val (.int x), .val (.int n)] [(.int (256 : Int32)), (.int x)])) _
  by_cases hc37_1 : x < (256 : Int32)
  · refine XS.icmpYes X.here hx rfl (pc0 := 37) (pc' := 48) rfl (hb hby d2_37) rfl (tlt hc37_1).1 (by decide) (by decide) ?_
    have hF : own_n33_F x n = (own_n48_F x n) := by unfold own_n33_F; simp only [if_pos hc37_1]
    rw [hF] at hr
    exact own_n48 X hx hZ hw hby hown hret x n hr
  · refine XS.icmpNo X.here hx rfl (hb hby d2_37) rfl (flt hc37_1).1 ?_
    show Steps p.tables e below (T0.setTop (mkF m 40 #[.val (.int x), .val (.int n)] [])) _
    refine XS.iinc X.here hx rfl (hb hby d2_40) rfl (l' := #[.val (.int x), .val (.int (n + (-8 : Int32)))]) rfl ?_
    show Steps p.tables e below (T0.setTop (mkF m 43 #[.val (.int x), .val (.int (n + (-8 : Int32)))] [])) _
    refine XS.iloadN X.here hx rfl (hb hby d2_43) rfl ?_
    show Steps p.tables e below (T0.setTop (mkF m 44 #[.val (.int x), .val (.int (n + (-8 : Int32)))] [(.int x)])) _
    refine XS.bipush X.here hx rfl (hb hby d2_44) ?_
    show Steps p.tables e below (T0.setTop (mkF m 46 #[.val (.int x), .val (.int (n + (-8 : Int32)))] [(.int (8 : Int32)), (.int x)])) _
    refine XS.iushr X.here hx rfl (hb hby d2_46) rfl ?_
    show Steps p.tables e below (T0.setTop (mkF m 47 #[.val (.int x), .val (.int (n + (-8 : Int32)))] [(.int ((x.toUInt32 >>> ((8 : Int32) &&& 31).toUInt32).toInt32))])) _
    refine XS.istoreN X.here hx rfl (hb hby d2_47) rfl (l' := #[.val (.int ((x.toUInt32 >>> ((8 : Int32) &&& 31).toUInt32).toInt32)), .val (.int (n + (-8 : Int32)))]) rfl ?_
    have hF : own_n33_F x n = (own_n48_F ((x.toUInt32 >>> ((8 : Int32) &&& 31).toUInt32).toInt32) (n + (-8 : Int32))) := by unfold own_n33_F; simp only [if_neg hc37_1]
    rw [hF] at hr
    exact own_n48 X hx hZ hw hby hown hret ((x.toUInt32 >>> ((8 : Int32) &&& 31).toUInt32).toInt32) (n + (-8 : Int32)) hr
theorem d2_0 : decode jdk_33_method_47_code 0 = .ok (.iload_n 0, 1) := by decide +kernel
theorem d2_1 : decode jdk_33_method_47_code 1 = .ok (.ifCond .gt 14, 3) := by decide +kernel
theorem d2_15 : decode jdk_33_method_47_code 15 = .ok (.bipush 31, 2) := by decide +kernel
theorem d2_17 : decode jdk_33_method_47_code 17 = .ok (.istore_n 1, 1) := by decide +kernel
theorem d2_18 : decode jdk_33_method_47_code 18 = .ok (.iload_n 0, 1) := by decide +kernel
theorem d2_19 : decode jdk_33_method_47_code 19 = .ok (.ldc_w 264, 3) := by decide +kernel
theorem d2_22 : decode jdk_33_method_47_code 22 = .ok (.if_icmp .lt 11, 3) := by decide +kernel
theorem d2_25 : decode jdk_33_method_47_code 25 = .ok (.iinc 1 (-16), 3) := by decide +kernel
theorem d2_28 : decode jdk_33_method_47_code 28 = .ok (.iload_n 0, 1) := by decide +kernel
theorem d2_29 : decode jdk_33_method_47_code 29 = .ok (.bipush 16, 2) := by decide +kernel
theorem d2_31 : decode jdk_33_method_47_code 31 = .ok (.iushr, 1) := by decide +kernel
theorem d2_32 : decode jdk_33_method_47_code 32 = .ok (.istore_n 0, 1) := by decide +kernel
theorem d2_4 : decode jdk_33_method_47_code 4 = .ok (.iload_n 0, 1) := by decide +kernel
theorem d2_5 : decode jdk_33_method_47_code 5 = .ok (.ifCond .ne 8, 3) := by decide +kernel
theorem d2_8 : decode jdk_33_method_47_code 8 = .ok (.bipush 32, 2) := by decide +kernel
theorem d2_10 : decode jdk_33_method_47_code 10 = .ok (.goto 4, 3) := by decide +kernel
theorem d2_14 : decode jdk_33_method_47_code 14 = .ok (.ireturn, 1) := by decide +kernel
theorem d2_13 : decode jdk_33_method_47_code 13 = .ok (.iconst 0, 1) := by decide +kernel
def own_n0_F (x : Int32) : Int32 := (if (0 : Int32) < x then (if x < (65536 : Int32) then (own_n33_F x (31 : Int32)) else (own_n33_F ((x.toUInt32 >>> ((16 : Int32) &&& 31).toUInt32).toInt32) ((31 : Int32) + (-16 : Int32)))) else (if x = (0 : Int32) then (32 : Int32) else (0 : Int32)))
set_option maxRecDepth 65536 in
set_option maxHeartbeats 40000000 in
theorem own_n0 {p : Program} {l : Launch} {e : Env} {R : Room} {s : State} {m : MethodId} {args : Array Value} {below : List Frame} {meth : Method} {c : Code} {T0 : State} {locs : List Loc} {cells slots : Nat} {Z : State} {a0 : Array Value} (X : Stand p l e R s m args below meth c T0 locs cells slots) (hx : p.tables.exec = Jvm.exec) (hZ : Z.Warmed39 s.vm) (hw : ∀ d ∈ tables_1, d.before a0 Z = true) (hby : c.code = jdk_33_method_47_code) (hown : s.vm.findClass "java/lang/Integer" = some m.cls) (hret : meth.sig.returnType = some .int) (x : Int32) {fs : List Frame}
    (hr : ∀ (f : JFrame) (acts : List Action), f.method = m → f.locked = none → f.entered = [] → (doReturn e (T0.setTop f) acts (some (.int (own_n0_F x)))).1 = T0.setFrames fs) :
    Steps p.tables e below (T0.setTop (mkF m 0 #[.val (.int x), .unset] [])) (T0.setFrames fs) := by
  show Steps p.tables e below (T0.setTop (mkF m 0 #[.val (.int x), .unset] [])) _
  refine XS.iloadN X.here hx rfl (hb hby d2_0) rfl ?_
  show Steps p.tables e below (T0.setTop (mkF m 1 #[.val (.int x), .unset] [(.int x)])) _
  by_cases hc1_1 : (0 : Int32) < x
  · refine XS.ifYes X.here hx rfl (pc0 := 1) (pc' := 15) rfl (hb hby d2_1) rfl ((if0 _ _).trans (tlt hc1_1).2.2.1) (by decide) (by decide) ?_
    show Steps p.tables e below (T0.setTop (mkF m 15 #[.val (.int x), .unset] [])) _
    refine XS.bipush X.here hx rfl (hb hby d2_15) ?_
    show Steps p.tables e below (T0.setTop (mkF m 17 #[.val (.int x), .unset] [(.int (31 : Int32))])) _
    refine XS.istoreN X.here hx rfl (hb hby d2_17) rfl (l' := #[.val (.int x), .val (.int (31 : Int32))]) rfl ?_
    show Steps p.tables e below (T0.setTop (mkF m 18 #[.val (.int x), .val (.int (31 : Int32))] [])) _
    refine XS.iloadN X.here hx rfl (hb hby d2_18) rfl ?_
    show Steps p.tables e below (T0.setTop (mkF m 19 #[.val (.int x), .val (.int (31 : Int32))] [(.int x)])) _
    refine X.ldcwInt hx hown (mvT hZ (hw _ (List.mem_of_getElem? (i := 10) rfl))) (g := (mkF m 19 #[.val (.int x), .val (.int (31 : Int32))] [(.int x)])) rfl (hb hby d2_19) _ ?_
    show Steps p.tables e below (T0.setTop (mkF m 22 #[.val (.int x), .val (.int (31 : Int32))] [(.int (65536 : Int32)), (.int x)])) _
    by_cases hc22_2 : x < (65536 : Int32)
    · refine XS.icmpYes X.here hx rfl (pc0 := 22) (pc' := 33) rfl (hb hby d2_22) rfl (tlt hc22_2).1 (by decide) (by decide) ?_
      have hF : own_n0_F x = (own_n33_F x (31 : Int32)) := by unfold own_n0_F; simp only [if_pos hc1_1, if_pos hc22_2]
      rw [hF] at hr
      exact own_n33 X hx hZ hw hby hown hret x (31 : Int32) hr
    · refine XS.icmpNo X.here hx rfl (hb hby d2_22) rfl (flt hc22_2).1 ?_
      show Steps p.tables e below (T0.setTop (mkF m 25 #[.val (.int x), .val (.int (31 : Int32))] [])) _
      refine XS.iinc X.here hx rfl (hb hby d2_25) rfl (l' := #[.val (.int x), .val (.int ((31 : Int32) + (-16 : Int32)))]) rfl ?_
      show Steps p.tables e below (T0.setTop (mkF m 28 #[.val (.int x), .val (.int ((31 : Int32) + (-16 : Int32)))] [])) _
      refine XS.iloadN X.here hx rfl (hb hby d2_28) rfl ?_
      show Steps p.tables e below (T0.setTop (mkF m 29 #[.val (.int x), .val (.int ((31 : Int32) + (-16 : Int32)))] [(.int x)])) _
      refine XS.bipush X.here hx rfl (hb hby d2_29) ?_
      show Steps p.tables e below (T0.setTop (mkF m 31 #[.val (.int x), .val (.int ((31 : Int32) + (-16 : Int32)))] [(.int (16 : Int32)), (.int x)])) _
      refine XS.iushr X.here hx rfl (hb hby d2_31) rfl ?_
      show Steps p.tables e below (T0.setTop (mkF m 32 #[.val (.int x), .val (.int ((31 : Int32) + (-16 : Int32)))] [(.int ((x.toUInt32 >>> ((16 : Int32) &&& 31).toUInt32).toInt32))])) _
      refine XS.istoreN X.here hx rfl (hb hby d2_32) rfl (l' := #[.val (.int ((x.toUInt32 >>> ((16 : Int32) &&& 31).toUInt32).toInt32)), .val (.int ((31 : Int32) + (-16 : Int32)))]) rfl ?_
      have hF : own_n0_F x = (own_n33_F ((x.toUInt32 >>> ((16 : Int32) &&& 31).toUInt32).toInt32) ((31 : Int32) + (-16 : Int32))) := by unfold own_n0_F; simp only [if_pos hc1_1, if_neg hc22_2]
      rw [hF] at hr
      exact own_n33 X hx hZ hw hby hown hret ((x.toUInt32 >>> ((16 : Int32) &&& 31).toUInt32).toInt32) ((31 : Int32) + (-16 : Int32)) hr
  · refine XS.ifNo X.here hx rfl (hb hby d2_1) rfl ((if0 _ _).trans (flt hc1_1).2.2.1) ?_
    show Steps p.tables e below (T0.setTop (mkF m 4 #[.val (.int x), .unset] [])) _
    refine XS.iloadN X.here hx rfl (hb hby d2_4) rfl ?_
    show Steps p.tables e below (T0.setTop (mkF m 5 #[.val (.int x), .unset] [(.int x)])) _
    by_cases hc5_3 : x = (0 : Int32)
    · refine XS.ifNo X.here hx rfl (hb hby d2_5) rfl ((if0 _ _).trans (teq hc5_3).2) ?_
      show Steps p.tables e below (T0.setTop (mkF m 8 #[.val (.int x), .unset] [])) _
      refine XS.bipush X.here hx rfl (hb hby d2_8) ?_
      show Steps p.tables e below (T0.setTop (mkF m 10 #[.val (.int x), .unset] [(.int (32 : Int32))])) _
      refine XS.goto X.here hx rfl (pc0 := 10) (pc' := 14) rfl (hb hby d2_10) (by decide) (by decide) ?_
      show Steps p.tables e below (T0.setTop (mkF m 14 #[.val (.int x), .unset] [(.int (32 : Int32))])) _
      have hF : own_n0_F x = (32 : Int32) := by unfold own_n0_F; simp only [if_neg hc1_1, if_pos hc5_3]
      rw [hF] at hr
      exact retI X hx hret (hb hby d2_14) hr
    · refine XS.ifYes X.here hx rfl (pc0 := 5) (pc' := 13) rfl (hb hby d2_5) rfl ((if0 _ _).trans (feq hc5_3).2) (by decide) (by decide) ?_
      show Steps p.tables e below (T0.setTop (mkF m 13 #[.val (.int x), .unset] [])) _
      refine XS.iconst X.here hx rfl (hb hby d2_13) ?_
      show Steps p.tables e below (T0.setTop (mkF m 14 #[.val (.int x), .unset] [(.int (0 : Int32))])) _
      have hF : own_n0_F x = (0 : Int32) := by unfold own_n0_F; simp only [if_neg hc1_1, if_neg hc5_3]
      rw [hF] at hr
      exact retI X hx hret (hb hby d2_14) hr
theorem pn_2 : plainName "java/lang/Integer" = true := by first | (simp [plainName, overriddenIn]; done) | decide +kernel
theorem ef_2 (m : MethodId) (p1 : Int32) : entryFrame m #[(.int p1)] 2 = mkF m 0 #[.val (.int p1), .unset] [] := by first | (simp [entryFrame, mkF, argsToLocals, Value.category]; done) | rfl
def own_rm2_F (p1 : Int32) : Int32 := (own_n0_F p1)
set_option maxRecDepth 65536 in
set_option maxHeartbeats 40000000 in
theorem own_rm2 (l : Launch) (Z : State) (a0 : Array Value) (hw : ∀ d ∈ tables_1, d.before a0 Z = true) (ws : List Jvm.Cond) (p1 : Int32) (h0 : Heap) (n0 : Nat) (Z0 : n0 ≤ h0.size) :
    MetFree l (⟨"java/lang/Integer", "numberOfLeadingZeros", "(I)I"⟩ : MethodName) (head1 (Jvm.Cond.code (⟨"java/lang/Integer", "numberOfLeadingZeros", "(I)I"⟩ : MethodName) jdk_33_method_47_code 2 (some .int) :: ws) ({ frames := 0, cells := 0, slots := 0, locals := 0 } : Room)) (fun a U => a = #[(.int p1)] ∧ Z.Warmed39 U.vm ∧ U.heap = h0) (fun _ _ _ _ _ => True) (fun _ U o U' => ∃ v L, o = .returned v ∧ (own_Q (some (.int (own_rm2_F p1))) n0 h0 v U'.heap L) ∧ FrameEnd U o U' L ({ frames := 0, cells := 0, slots := 0, locals := 0 } : Room).cells ({ frames := 0, cells := 0, slots := 0, locals := 0 } : Room).slots) := by
  refine MetFree.of_bodySF (plainFor_of_name pn_2) hisR ?_
  intro p e s m args below meth c s₁ Bd hml0 hP hK
  obtain ⟨rfl, hZ, hh⟩ := hP
  have hx := Bd.exec
  have hby := Bd.bytes
  have hml : c.maxLocals = 2 := hml0
  have hown : s.vm.findClass "java/lang/Integer" = some m.cls := findClass_of_methodNamed Bd.named
  have X0 : Stand p l e ({ frames := 0, cells := 0, slots := 0, locals := 0 } : Room) s m #[(.int p1)] below meth c s₁ [] 0 0 := Stand.of_body Bd
  have e0 : s₁.heap = h0 := by rw [← hh, Bd.state]; rfl
  have N0 := Fr.nil n0
  have pre0 : ∀ t, Steps p.tables e below (s₁.setTop (mkF m 0 #[.val (.int p1), .unset] [])) t → Steps p.tables e below (s₁.setTop (entryFrame m #[(.int p1)] 2)) t := fun t k => castTop (ef_2 m p1) k
  obtain ⟨fs, hr, hrun, hended, hW, hsame⟩ := X0.leave (v := some (.int (own_n0_F p1))) (fun h => by rw [Bd.returns] at h; cases h)
  refine ⟨_, _, pre0 _ ?_, hrun, hended, _, _, rfl, ?_, ⟨_, rfl⟩, hW, hsame.mono (by decide) (by decide)⟩
  · exact own_n0 X0 hx hZ hw hby hown Bd.returns p1 hr
  · exact ⟨rfl, N0, e0⟩
theorem pn_1 : plainName "com/example/spargo/spargo/NodeIndex" = true := by first | (simp [plainName, overriddenIn]; done) | decide +kernel
theorem ef_1 (m : MethodId) (p1 : Int32) (p2 : Int32) : entryFrame m #[(.int p1), (.int p2)] 2 = mkF m 0 #[.val (.int p1), .val (.int p2)] [] := by first | (simp [entryFrame, mkF, argsToLocals, Value.category]; done) | rfl
theorem d1_0 : decode prog_19_method_11_code 0 = .ok (.iload_n 0, 1) := by decide +kernel
theorem d1_1 : decode prog_19_method_11_code 1 = .ok (.ldc 100, 2) := by decide +kernel
theorem d1_3 : decode prog_19_method_11_code 3 = .ok (.imul, 1) := by decide +kernel
theorem d1_4 : decode prog_19_method_11_code 4 = .ok (.iload_n 1, 1) := by decide +kernel
theorem d1_5 : decode prog_19_method_11_code 5 = .ok (.iconst 1, 1) := by decide +kernel
theorem d1_6 : decode prog_19_method_11_code 6 = .ok (.isub, 1) := by decide +kernel
theorem pd_1_101 : parseMethodDescriptor "(I)I" = some ⟨[.int], some .int⟩ := by decide +kernel
theorem d1_7 : decode prog_19_method_11_code 7 = .ok (.invokestatic 101, 3) := by decide +kernel
theorem d1_10 : decode prog_19_method_11_code 10 = .ok (.iushr, 1) := by decide +kernel
theorem d1_11 : decode prog_19_method_11_code 11 = .ok (.ireturn, 1) := by decide +kernel
def own_rm1_F (p1 : Int32) (p2 : Int32) : Int32 := (((p1 * (-1640531527 : Int32)).toUInt32 >>> ((own_rm2_F (p2 - (1 : Int32))) &&& 31).toUInt32).toInt32)
set_option maxRecDepth 65536 in
set_option maxHeartbeats 40000000 in
theorem own_rm1 (l : Launch) (Z : State) (a0 : Array Value) (hw : ∀ d ∈ tables_1, d.before a0 Z = true) (ws : List Jvm.Cond) (p1 : Int32) (p2 : Int32) (h0 : Heap) (n0 : Nat) (Z0 : n0 ≤ h0.size) :
    MetFree l (⟨"com/example/spargo/spargo/NodeIndex", "home", "(II)I"⟩ : MethodName) (head1 (Jvm.Cond.code (⟨"com/example/spargo/spargo/NodeIndex", "home", "(II)I"⟩ : MethodName) prog_19_method_11_code 2 (some .int) :: ws) ({ frames := 1, cells := 0, slots := 0, locals := 16 } : Room)) (fun a U => a = #[(.int p1), (.int p2)] ∧ Z.Warmed39 U.vm ∧ U.heap = h0) (fun _ _ _ _ _ => True) (fun _ U o U' => ∃ v L, o = .returned v ∧ (own_Q (some (.int (own_rm1_F p1 p2))) n0 h0 v U'.heap L) ∧ FrameEnd U o U' L ({ frames := 1, cells := 0, slots := 0, locals := 16 } : Room).cells ({ frames := 1, cells := 0, slots := 0, locals := 16 } : Room).slots) := by
  refine MetFree.of_bodySF (plainFor_of_name pn_1) hisR ?_
  intro p e s m args below meth c s₁ Bd hml0 hP hK
  obtain ⟨rfl, hZ, hh⟩ := hP
  have hx := Bd.exec
  have hby := Bd.bytes
  have hml : c.maxLocals = 2 := hml0
  have hown : s.vm.findClass "com/example/spargo/spargo/NodeIndex" = some m.cls := findClass_of_methodNamed Bd.named
  have X0 : Stand p l e ({ frames := 1, cells := 0, slots := 0, locals := 16 } : Room) s m #[(.int p1), (.int p2)] below meth c s₁ [] 0 0 := Stand.of_body Bd
  have e0 : s₁.heap = h0 := by rw [← hh, Bd.state]; rfl
  have N0 := Fr.nil n0
  have pre0 : ∀ t, Steps p.tables e below (s₁.setTop (mkF m 0 #[.val (.int p1), .val (.int p2)] [])) t → Steps p.tables e below (s₁.setTop (entryFrame m #[(.int p1), (.int p2)] 2)) t := fun t k => castTop (ef_1 m p1 p2) k
  obtain ⟨_, _, ⟨T1, L1, k1, n1⟩, -, X1, ⟨Lc1, hQ1, l1, y1, z1⟩, st1⟩ := Jvm.LawKit.callS X0 hx (y := (⟨"java/lang/Integer", "numberOfLeadingZeros", "(I)I"⟩ : MethodName)) hown (mvT hZ (hw _ (List.mem_of_getElem? (i := 6) rfl))) (mvT hZ (hw _ (List.mem_of_getElem? (i := 7) rfl))) (mvT hZ (hw _ (List.mem_of_getElem? (i := 8) rfl))) (mvT hZ (hw _ (List.mem_of_getElem? (i := 9) rfl))) (by decide) (backOf (W := 1) (own_rm2 l Z a0 hw [] (p2 - (1 : Int32)) h0 n0 Z0) hZ (hw _ (List.mem_of_getElem? (i := 9) rfl)) (hw _ (List.mem_of_getElem? (i := 8) rfl)) (by decide) (by decide)) (g := (mkF m 7 #[.val (.int p1), .val (.int p2)] [(.int (p2 - (1 : Int32))), (.int (p1 * (-1640531527 : Int32)))])) rfl (by rw [hml]; rfl) (argsL := [(.int (p2 - (1 : Int32)))]) (rest := [(.int (p1 * (-1640531527 : Int32)))]) (lenOf pd_1_101 rfl) rfl (by show 2 * 0 + _ ≤ _; exact Nat.le_of_eq rfl) (hb hby d1_7) (fun _ _ => ⟨rfl, e0, (by decide : 0 + 0 ≤ _), (by decide : 0 + 0 ≤ _)⟩)
  dsimp only [Pt.U, Pt.locs, Pt.cells, Pt.slots] at X1 l1 y1 z1 st1 hQ1
  subst l1 y1 z1
  obtain ⟨rfl, N1q, e1⟩ := hQ1
  have N1 := Fr.app N0 N1q
  obtain ⟨fs, hr, hrun, hended, hW, hsame⟩ := X1.leave (v := some (.int (((p1 * (-1640531527 : Int32)).toUInt32 >>> ((own_rm2_F (p2 - (1 : Int32))) &&& 31).toUInt32).toInt32))) (fun h => by rw [Bd.returns] at h; cases h)
  refine ⟨_, _, pre0 _ ?_, hrun, hended, _, _, rfl, ?_, ⟨_, rfl⟩, hW, hsame.mono (by decide) (by decide)⟩
  · show Steps p.tables e below (s₁.setTop (mkF m 0 #[.val (.int p1), .val (.int p2)] [])) _
    refine XS.iloadN X0.here hx rfl (hb hby d1_0) rfl ?_
    show Steps p.tables e below (s₁.setTop (mkF m 1 #[.val (.int p1), .val (.int p2)] [(.int p1)])) _
    refine X0.ldcInt hx hown (mvT hZ (hw _ (List.mem_of_getElem? (i := 5) rfl))) (g := (mkF m 1 #[.val (.int p1), .val (.int p2)] [(.int p1)])) rfl (hb hby d1_1) _ ?_
    show Steps p.tables e below (s₁.setTop (mkF m 3 #[.val (.int p1), .val (.int p2)] [(.int (-1640531527 : Int32)), (.int p1)])) _
    refine XS.imul X0.here hx rfl (hb hby d1_3) rfl ?_
    show Steps p.tables e below (s₁.setTop (mkF m 4 #[.val (.int p1), .val (.int p2)] [(.int (p1 * (-1640531527 : Int32)))])) _
    refine XS.iloadN X0.here hx rfl (hb hby d1_4) rfl ?_
    show Steps p.tables e below (s₁.setTop (mkF m 5 #[.val (.int p1), .val (.int p2)] [(.int p2), (.int (p1 * (-1640531527 : Int32)))])) _
    refine XS.iconst X0.here hx rfl (hb hby d1_5) ?_
    show Steps p.tables e below (s₁.setTop (mkF m 6 #[.val (.int p1), .val (.int p2)] [(.int (1 : Int32)), (.int p2), (.int (p1 * (-1640531527 : Int32)))])) _
    refine XS.isub X0.here hx rfl (hb hby d1_6) rfl ?_
    show Steps p.tables e below (s₁.setTop (mkF m 7 #[.val (.int p1), .val (.int p2)] [(.int (p2 - (1 : Int32))), (.int (p1 * (-1640531527 : Int32)))])) _
    refine st1 _ ?_
    show Steps p.tables e below (T1.setTop (mkF m 10 #[.val (.int p1), .val (.int p2)] [(.int (own_rm2_F (p2 - (1 : Int32)))), (.int (p1 * (-1640531527 : Int32)))])) _
    refine XS.iushr X1.here hx rfl (hb hby d1_10) rfl ?_
    show Steps p.tables e below (T1.setTop (mkF m 11 #[.val (.int p1), .val (.int p2)] [(.int (((p1 * (-1640531527 : Int32)).toUInt32 >>> ((own_rm2_F (p2 - (1 : Int32))) &&& 31).toUInt32).toInt32))])) _
    exact retI X1 hx Bd.returns (hb hby d1_11) hr
  · exact ⟨rfl, N1, e1⟩
def own_k (p2 : Int32) : Int32 := ((1 : Int32) + ((p2 &&& (2147483647 : Int32)) - ((p2 &&& (2147483647 : Int32)) / (30 : Int32)) * (30 : Int32)))
def own_sl (p2 : Int32) : Int32 := ((1 : Int32) <<< ((own_k p2) &&& 31))
theorem pn_0 : plainName "com/example/spargo/spargo/NodeIndexHomePinLaw" = true := by first | (simp [plainName, overriddenIn]; done) | decide +kernel
theorem ef_0 (m : MethodId) (p1 : Int32) (p2 : Int32) : entryFrame m #[(.int p1), (.int p2)] maxLocals = mkF m 0 #[.val (.int p1), .val (.int p2), .unset, .unset, .unset, .unset, .unset, .unset, .unset, .unset] [] := by first | (simp [entryFrame, mkF, argsToLocals, Value.category, maxLocals]; done) | rfl
theorem pd_0_8 : parseMethodDescriptor "(II)I" = some ⟨[.int, .int], some .int⟩ := by decide +kernel
set_option maxRecDepth 65536 in
set_option maxHeartbeats 40000000 in
theorem own_rm0a (l : Launch) (Z : State) (a0 : Array Value) (hw : ∀ d ∈ tables_1, d.before a0 Z = true) (ws : List Jvm.Cond) (p1 : Int32) (p2 : Int32) (h0 : Heap) (n0 : Nat) (Z0 : n0 ≤ h0.size) (hc23 : ¬ ((own_rm1_F p1 (own_sl p2)) < (0 : Int32))) (hc29 : (own_rm1_F p1 (own_sl p2)) < (own_sl p2)) (hnz54 : ((1 : Int64) <<< (((32 : Int32) - (own_k p2)) &&& 0x3f).toInt64) ≠ 0) (hc63 : ((own_rm1_F p1 (own_sl p2)).toInt64) = ((((p1.toInt64) * (2654435769 : Int64)) &&& (4294967295 : Int64)) / ((1 : Int64) <<< (((32 : Int32) - (own_k p2)) &&& 0x3f).toInt64))) (hc71 : ¬ ((own_k p2) < (30 : Int32))) :
    MetFree l x (head1 (Jvm.Cond.code x code maxLocals ret :: ws) room_1) (fun a U => a = #[(.int p1), (.int p2)] ∧ Z.Warmed39 U.vm ∧ U.heap = h0) (fun _ _ _ _ _ => True) (fun _ U o U' => ∃ v L, o = .returned v ∧ (v = some (.int 1) ∧ Fr n0 L) ∧ FrameEnd U o U' L room_1.cells room_1.slots) := by
  refine MetFree.of_bodySF (plainFor_of_name pn_0) hisR ?_
  intro p e s m args below meth c s₁ Bd hml0 hP hK
  obtain ⟨rfl, hZ, hh⟩ := hP
  have hx := Bd.exec
  have hby := Bd.bytes
  have hml : c.maxLocals = 10 := hml0
  have hown : s.vm.findClass "com/example/spargo/spargo/NodeIndexHomePinLaw" = some m.cls := findClass_of_methodNamed Bd.named
  have X0 : Stand p l e room_1 s m #[(.int p1), (.int p2)] below meth c s₁ [] 0 0 := Stand.of_body Bd
  have e0 : s₁.heap = h0 := by rw [← hh, Bd.state]; rfl
  have N0 := Fr.nil n0
  have pre0 : ∀ t, Steps p.tables e below (s₁.setTop (mkF m 0 #[.val (.int p1), .val (.int p2), .unset, .unset, .unset, .unset, .unset, .unset, .unset, .unset] [])) t → Steps p.tables e below (s₁.setTop (entryFrame m #[(.int p1), (.int p2)] maxLocals)) t := fun t k => castTop (ef_0 m p1 p2) k
  obtain ⟨_, _, ⟨T1, L1, k1, n1⟩, -, X1, ⟨Lc1, hQ1, l1, y1, z1⟩, st1⟩ := Jvm.LawKit.callS X0 hx (y := (⟨"com/example/spargo/spargo/NodeIndex", "home", "(II)I"⟩ : MethodName)) hown (mvT hZ (hw _ (List.mem_of_getElem? (i := 1) rfl))) (mvT hZ (hw _ (List.mem_of_getElem? (i := 2) rfl))) (mvT hZ (hw _ (List.mem_of_getElem? (i := 3) rfl))) (mvT hZ (hw _ (List.mem_of_getElem? (i := 4) rfl))) (by decide) (backOf (W := 0) (own_rm1 l Z a0 hw [] p1 (own_sl p2) h0 n0 Z0) hZ (hw _ (List.mem_of_getElem? (i := 4) rfl)) (hw _ (List.mem_of_getElem? (i := 3) rfl)) (by decide) (by decide)) (g := (mkF m 16 #[.val (.int p1), .val (.int p2), .val (.int (own_k p2)), .val (.int (own_sl p2)), .unset, .unset, .unset, .unset, .unset, .unset] [(.int (own_sl p2)), (.int p1)])) rfl (by rw [hml]; rfl) (argsL := [(.int p1), (.int (own_sl p2))]) (rest := []) (lenOf pd_0_8 rfl) rfl (by show 2 * 0 + _ ≤ _; exact Nat.le_of_eq rfl) (hb hby at_16) (fun _ _ => ⟨rfl, e0, (by decide : 0 + 0 ≤ _), (by decide : 0 + 0 ≤ _)⟩)
  dsimp only [Pt.U, Pt.locs, Pt.cells, Pt.slots] at X1 l1 y1 z1 st1 hQ1
  subst l1 y1 z1
  obtain ⟨rfl, N1q, e1⟩ := hQ1
  have N1 := Fr.app N0 N1q
  obtain ⟨fs, hr, hrun, hended, hW, hsame⟩ := X1.leave (v := some (.int (1 : Int32))) (fun h => by rw [Bd.returns] at h; cases h)
  refine ⟨_, _, pre0 _ ?_, hrun, hended, _, _, rfl, ?_, ⟨_, rfl⟩, hW, hsame.mono (by decide) (by decide)⟩
  · show Steps p.tables e below (s₁.setTop (mkF m 0 #[.val (.int p1), .val (.int p2), .unset, .unset, .unset, .unset, .unset, .unset, .unset, .unset] [])) _
    refine XS.iconst X0.here hx rfl (hb hby at_0) ?_
    show Steps p.tables e below (s₁.setTop (mkF m 1 #[.val (.int p1), .val (.int p2), .unset, .unset, .unset, .unset, .unset, .unset, .unset, .unset] [(.int (1 : Int32))])) _
    refine XS.iloadN X0.here hx rfl (hb hby at_1) rfl ?_
    show Steps p.tables e below (s₁.setTop (mkF m 2 #[.val (.int p1), .val (.int p2), .unset, .unset, .unset, .unset, .unset, .unset, .unset, .unset] [(.int p2), (.int (1 : Int32))])) _
    refine X0.ldcInt hx hown (mvT hZ (hw _ (List.mem_of_getElem? (i := 0) rfl))) (g := (mkF m 2 #[.val (.int p1), .val (.int p2), .unset, .unset, .unset, .unset, .unset, .unset, .unset, .unset] [(.int p2), (.int (1 : Int32))])) rfl (hb hby at_2) _ ?_
    show Steps p.tables e below (s₁.setTop (mkF m 4 #[.val (.int p1), .val (.int p2), .unset, .unset, .unset, .unset, .unset, .unset, .unset, .unset] [(.int (2147483647 : Int32)), (.int p2), (.int (1 : Int32))])) _
    refine XS.iand X0.here hx rfl (hb hby at_4) rfl ?_
    show Steps p.tables e below (s₁.setTop (mkF m 5 #[.val (.int p1), .val (.int p2), .unset, .unset, .unset, .unset, .unset, .unset, .unset, .unset] [(.int (p2 &&& (2147483647 : Int32))), (.int (1 : Int32))])) _
    refine XS.bipush X0.here hx rfl (hb hby at_5) ?_
    show Steps p.tables e below (s₁.setTop (mkF m 7 #[.val (.int p1), .val (.int p2), .unset, .unset, .unset, .unset, .unset, .unset, .unset, .unset] [(.int (30 : Int32)), (.int (p2 &&& (2147483647 : Int32))), (.int (1 : Int32))])) _
    refine XS.irem X0.here hx rfl (hb hby at_7) rfl (by decide) ?_
    show Steps p.tables e below (s₁.setTop (mkF m 8 #[.val (.int p1), .val (.int p2), .unset, .unset, .unset, .unset, .unset, .unset, .unset, .unset] [(.int ((p2 &&& (2147483647 : Int32)) - ((p2 &&& (2147483647 : Int32)) / (30 : Int32)) * (30 : Int32))), (.int (1 : Int32))])) _
    refine XS.iadd X0.here hx rfl (hb hby at_8) rfl ?_
    show Steps p.tables e below (s₁.setTop (mkF m 9 #[.val (.int p1), .val (.int p2), .unset, .unset, .unset, .unset, .unset, .unset, .unset, .unset] [(.int ((1 : Int32) + ((p2 &&& (2147483647 : Int32)) - ((p2 &&& (2147483647 : Int32)) / (30 : Int32)) * (30 : Int32))))])) _
    refine XS.istoreN X0.here hx rfl (hb hby at_9) rfl (l' := #[.val (.int p1), .val (.int p2), .val (.int (own_k p2)), .unset, .unset, .unset, .unset, .unset, .unset, .unset]) rfl ?_
    show Steps p.tables e below (s₁.setTop (mkF m 10 #[.val (.int p1), .val (.int p2), .val (.int (own_k p2)), .unset, .unset, .unset, .unset, .unset, .unset, .unset] [])) _
    refine XS.iconst X0.here hx rfl (hb hby at_10) ?_
    show Steps p.tables e below (s₁.setTop (mkF m 11 #[.val (.int p1), .val (.int p2), .val (.int (own_k p2)), .unset, .unset, .unset, .unset, .unset, .unset, .unset] [(.int (1 : Int32))])) _
    refine XS.iloadN X0.here hx rfl (hb hby at_11) rfl ?_
    show Steps p.tables e below (s₁.setTop (mkF m 12 #[.val (.int p1), .val (.int p2), .val (.int (own_k p2)), .unset, .unset, .unset, .unset, .unset, .unset, .unset] [(.int (own_k p2)), (.int (1 : Int32))])) _
    refine XS.ishl X0.here hx rfl (hb hby at_12) rfl ?_
    show Steps p.tables e below (s₁.setTop (mkF m 13 #[.val (.int p1), .val (.int p2), .val (.int (own_k p2)), .unset, .unset, .unset, .unset, .unset, .unset, .unset] [(.int ((1 : Int32) <<< ((own_k p2) &&& 31)))])) _
    refine XS.istoreN X0.here hx rfl (hb hby at_13) rfl (l' := #[.val (.int p1), .val (.int p2), .val (.int (own_k p2)), .val (.int (own_sl p2)), .unset, .unset, .unset, .unset, .unset, .unset]) rfl ?_
    show Steps p.tables e below (s₁.setTop (mkF m 14 #[.val (.int p1), .val (.int p2), .val (.int (own_k p2)), .val (.int (own_sl p2)), .unset, .unset, .unset, .unset, .unset, .unset] [])) _
    refine XS.iloadN X0.here hx rfl (hb hby at_14) rfl ?_
    show Steps p.tables e below (s₁.setTop (mkF m 15 #[.val (.int p1), .val (.int p2), .val (.int (own_k p2)), .val (.int (own_sl p2)), .unset, .unset, .unset, .unset, .unset, .unset] [(.int p1)])) _
    refine XS.iloadN X0.here hx rfl (hb hby at_15) rfl ?_
    show Steps p.tables e below (s₁.setTop (mkF m 16 #[.val (.int p1), .val (.int p2), .val (.int (own_k p2)), .val (.int (own_sl p2)), .unset, .unset, .unset, .unset, .unset, .unset] [(.int (own_sl p2)), (.int p1)])) _
    refine st1 _ ?_
    show Steps p.tables e below (T1.setTop (mkF m 19 #[.val (.int p1), .val (.int p2), .val (.int (own_k p2)), .val (.int (own_sl p2)), .unset, .unset, .unset, .unset, .unset, .unset] [(.int (own_rm1_F p1 (own_sl p2)))])) _
    refine XS.istore X1.here hx rfl (hb hby at_19) rfl (l' := #[.val (.int p1), .val (.int p2), .val (.int (own_k p2)), .val (.int (own_sl p2)), .val (.int (own_rm1_F p1 (own_sl p2))), .unset, .unset, .unset, .unset, .unset]) rfl ?_
    show Steps p.tables e below (T1.setTop (mkF m 21 #[.val (.int p1), .val (.int p2), .val (.int (own_k p2)), .val (.int (own_sl p2)), .val (.int (own_rm1_F p1 (own_sl p2))), .unset, .unset, .unset, .unset, .unset] [])) _
    refine XS.iload X1.here hx rfl (hb hby at_21) rfl ?_
    show Steps p.tables e below (T1.setTop (mkF m 23 #[.val (.int p1), .val (.int p2), .val (.int (own_k p2)), .val (.int (own_sl p2)), .val (.int (own_rm1_F p1 (own_sl p2))), .unset, .unset, .unset, .unset, .unset] [(.int (own_rm1_F p1 (own_sl p2)))])) _
    refine XS.ifNo X1.here hx rfl (hb hby at_23) rfl ((if0 _ _).trans (flt hc23).1) ?_
    show Steps p.tables e below (T1.setTop (mkF m 26 #[.val (.int p1), .val (.int p2), .val (.int (own_k p2)), .val (.int (own_sl p2)), .val (.int (own_rm1_F p1 (own_sl p2))), .unset, .unset, .unset, .unset, .unset] [])) _
    refine XS.iload X1.here hx rfl (hb hby at_26) rfl ?_
    show Steps p.tables e below (T1.setTop (mkF m 28 #[.val (.int p1), .val (.int p2), .val (.int (own_k p2)), .val (.int (own_sl p2)), .val (.int (own_rm1_F p1 (own_sl p2))), .unset, .unset, .unset, .unset, .unset] [(.int (own_rm1_F p1 (own_sl p2)))])) _
    refine XS.iloadN X1.here hx rfl (hb hby at_28) rfl ?_
    show Steps p.tables e below (T1.setTop (mkF m 29 #[.val (.int p1), .val (.int p2), .val (.int (own_k p2)), .val (.int (own_sl p2)), .val (.int (own_rm1_F p1 (own_sl p2))), .unset, .unset, .unset, .unset, .unset] [(.int (own_sl p2)), (.int (own_rm1_F p1 (own_sl p2)))])) _
    refine XS.icmpYes X1.here hx rfl (pc0 := 29) (pc' := 34) rfl (hb hby at_29) rfl (tlt hc29).1 (by decide) (by decide) ?_
    show Steps p.tables e below (T1.setTop (mkF m 34 #[.val (.int p1), .val (.int p2), .val (.int (own_k p2)), .val (.int (own_sl p2)), .val (.int (own_rm1_F p1 (own_sl p2))), .unset, .unset, .unset, .unset, .unset] [])) _
    refine XS.iloadN X1.here hx rfl (hb hby at_34) rfl ?_
    show Steps p.tables e below (T1.setTop (mkF m 35 #[.val (.int p1), .val (.int p2), .val (.int (own_k p2)), .val (.int (own_sl p2)), .val (.int (own_rm1_F p1 (own_sl p2))), .unset, .unset, .unset, .unset, .unset] [(.int p1)])) _
    refine XS.i2l X1.here hx rfl (hb hby at_35) rfl ?_
    show Steps p.tables e below (T1.setTop (mkF m 36 #[.val (.int p1), .val (.int p2), .val (.int (own_k p2)), .val (.int (own_sl p2)), .val (.int (own_rm1_F p1 (own_sl p2))), .unset, .unset, .unset, .unset, .unset] [(.long (p1.toInt64))])) _
    refine X1.ldc2Long hx hown (mvT hZ (hw _ (List.mem_of_getElem? (i := 11) rfl))) (g := (mkF m 36 #[.val (.int p1), .val (.int p2), .val (.int (own_k p2)), .val (.int (own_sl p2)), .val (.int (own_rm1_F p1 (own_sl p2))), .unset, .unset, .unset, .unset, .unset] [(.long (p1.toInt64))])) rfl (hb hby at_36) _ ?_
    show Steps p.tables e below (T1.setTop (mkF m 39 #[.val (.int p1), .val (.int p2), .val (.int (own_k p2)), .val (.int (own_sl p2)), .val (.int (own_rm1_F p1 (own_sl p2))), .unset, .unset, .unset, .unset, .unset] [(.long (2654435769 : Int64)), (.long (p1.toInt64))])) _
    refine XS.lmul X1.here hx rfl (hb hby at_39) rfl ?_
    show Steps p.tables e below (T1.setTop (mkF m 40 #[.val (.int p1), .val (.int p2), .val (.int (own_k p2)), .val (.int (own_sl p2)), .val (.int (own_rm1_F p1 (own_sl p2))), .unset, .unset, .unset, .unset, .unset] [(.long ((p1.toInt64) * (2654435769 : Int64)))])) _
    refine X1.ldc2Long hx hown (mvT hZ (hw _ (List.mem_of_getElem? (i := 12) rfl))) (g := (mkF m 40 #[.val (.int p1), .val (.int p2), .val (.int (own_k p2)), .val (.int (own_sl p2)), .val (.int (own_rm1_F p1 (own_sl p2))), .unset, .unset, .unset, .unset, .unset] [(.long ((p1.toInt64) * (2654435769 : Int64)))])) rfl (hb hby at_40) _ ?_
    show Steps p.tables e below (T1.setTop (mkF m 43 #[.val (.int p1), .val (.int p2), .val (.int (own_k p2)), .val (.int (own_sl p2)), .val (.int (own_rm1_F p1 (own_sl p2))), .unset, .unset, .unset, .unset, .unset] [(.long (4294967295 : Int64)), (.long ((p1.toInt64) * (2654435769 : Int64)))])) _
    refine XS.land X1.here hx rfl (hb hby at_43) rfl ?_
    show Steps p.tables e below (T1.setTop (mkF m 44 #[.val (.int p1), .val (.int p2), .val (.int (own_k p2)), .val (.int (own_sl p2)), .val (.int (own_rm1_F p1 (own_sl p2))), .unset, .unset, .unset, .unset, .unset] [(.long (((p1.toInt64) * (2654435769 : Int64)) &&& (4294967295 : Int64)))])) _
    refine XS.lstore X1.here hx rfl (hb hby at_44) rfl (l' := #[.val (.int p1), .val (.int p2), .val (.int (own_k p2)), .val (.int (own_sl p2)), .val (.int (own_rm1_F p1 (own_sl p2))), .val (.long (((p1.toInt64) * (2654435769 : Int64)) &&& (4294967295 : Int64))), .second, .unset, .unset, .unset]) rfl ?_
    show Steps p.tables e below (T1.setTop (mkF m 46 #[.val (.int p1), .val (.int p2), .val (.int (own_k p2)), .val (.int (own_sl p2)), .val (.int (own_rm1_F p1 (own_sl p2))), .val (.long (((p1.toInt64) * (2654435769 : Int64)) &&& (4294967295 : Int64))), .second, .unset, .unset, .unset] [])) _
    refine XS.lload X1.here hx rfl (hb hby at_46) rfl ?_
    show Steps p.tables e below (T1.setTop (mkF m 48 #[.val (.int p1), .val (.int p2), .val (.int (own_k p2)), .val (.int (own_sl p2)), .val (.int (own_rm1_F p1 (own_sl p2))), .val (.long (((p1.toInt64) * (2654435769 : Int64)) &&& (4294967295 : Int64))), .second, .unset, .unset, .unset] [(.long (((p1.toInt64) * (2654435769 : Int64)) &&& (4294967295 : Int64)))])) _
    refine XS.lconst X1.here hx rfl (hb hby at_48) ?_
    show Steps p.tables e below (T1.setTop (mkF m 49 #[.val (.int p1), .val (.int p2), .val (.int (own_k p2)), .val (.int (own_sl p2)), .val (.int (own_rm1_F p1 (own_sl p2))), .val (.long (((p1.toInt64) * (2654435769 : Int64)) &&& (4294967295 : Int64))), .second, .unset, .unset, .unset] [(.long (1 : Int64)), (.long (((p1.toInt64) * (2654435769 : Int64)) &&& (4294967295 : Int64)))])) _
    refine XS.bipush X1.here hx rfl (hb hby at_49) ?_
    show Steps p.tables e below (T1.setTop (mkF m 51 #[.val (.int p1), .val (.int p2), .val (.int (own_k p2)), .val (.int (own_sl p2)), .val (.int (own_rm1_F p1 (own_sl p2))), .val (.long (((p1.toInt64) * (2654435769 : Int64)) &&& (4294967295 : Int64))), .second, .unset, .unset, .unset] [(.int (32 : Int32)), (.long (1 : Int64)), (.long (((p1.toInt64) * (2654435769 : Int64)) &&& (4294967295 : Int64)))])) _
    refine XS.iloadN X1.here hx rfl (hb hby at_51) rfl ?_
    show Steps p.tables e below (T1.setTop (mkF m 52 #[.val (.int p1), .val (.int p2), .val (.int (own_k p2)), .val (.int (own_sl p2)), .val (.int (own_rm1_F p1 (own_sl p2))), .val (.long (((p1.toInt64) * (2654435769 : Int64)) &&& (4294967295 : Int64))), .second, .unset, .unset, .unset] [(.int (own_k p2)), (.int (32 : Int32)), (.long (1 : Int64)), (.long (((p1.toInt64) * (2654435769 : Int64)) &&& (4294967295 : Int64)))])) _
    refine XS.isub X1.here hx rfl (hb hby at_52) rfl ?_
    show Steps p.tables e below (T1.setTop (mkF m 53 #[.val (.int p1), .val (.int p2), .val (.int (own_k p2)), .val (.int (own_sl p2)), .val (.int (own_rm1_F p1 (own_sl p2))), .val (.long (((p1.toInt64) * (2654435769 : Int64)) &&& (4294967295 : Int64))), .second, .unset, .unset, .unset] [(.int ((32 : Int32) - (own_k p2))), (.long (1 : Int64)), (.long (((p1.toInt64) * (2654435769 : Int64)) &&& (4294967295 : Int64)))])) _
    refine XS.lshl X1.here hx rfl (hb hby at_53) rfl ?_
    show Steps p.tables e below (T1.setTop (mkF m 54 #[.val (.int p1), .val (.int p2), .val (.int (own_k p2)), .val (.int (own_sl p2)), .val (.int (own_rm1_F p1 (own_sl p2))), .val (.long (((p1.toInt64) * (2654435769 : Int64)) &&& (4294967295 : Int64))), .second, .unset, .unset, .unset] [(.long ((1 : Int64) <<< (((32 : Int32) - (own_k p2)) &&& 0x3f).toInt64)), (.long (((p1.toInt64) * (2654435769 : Int64)) &&& (4294967295 : Int64)))])) _
    refine XS.ldiv X1.here hx rfl (hb hby at_54) rfl hnz54 ?_
    show Steps p.tables e below (T1.setTop (mkF m 55 #[.val (.int p1), .val (.int p2), .val (.int (own_k p2)), .val (.int (own_sl p2)), .val (.int (own_rm1_F p1 (own_sl p2))), .val (.long (((p1.toInt64) * (2654435769 : Int64)) &&& (4294967295 : Int64))), .second, .unset, .unset, .unset] [(.long ((((p1.toInt64) * (2654435769 : Int64)) &&& (4294967295 : Int64)) / ((1 : Int64) <<< (((32 : Int32) - (own_k p2)) &&& 0x3f).toInt64)))])) _
    refine XS.lstore X1.here hx rfl (hb hby at_55) rfl (l' := #[.val (.int p1), .val (.int p2), .val (.int (own_k p2)), .val (.int (own_sl p2)), .val (.int (own_rm1_F p1 (own_sl p2))), .val (.long (((p1.toInt64) * (2654435769 : Int64)) &&& (4294967295 : Int64))), .second, .val (.long ((((p1.toInt64) * (2654435769 : Int64)) &&& (4294967295 : Int64)) / ((1 : Int64) <<< (((32 : Int32) - (own_k p2)) &&& 0x3f).toInt64))), .second, .unset]) rfl ?_
    show Steps p.tables e below (T1.setTop (mkF m 57 #[.val (.int p1), .val (.int p2), .val (.int (own_k p2)), .val (.int (own_sl p2)), .val (.int (own_rm1_F p1 (own_sl p2))), .val (.long (((p1.toInt64) * (2654435769 : Int64)) &&& (4294967295 : Int64))), .second, .val (.long ((((p1.toInt64) * (2654435769 : Int64)) &&& (4294967295 : Int64)) / ((1 : Int64) <<< (((32 : Int32) - (own_k p2)) &&& 0x3f).toInt64))), .second, .unset] [])) _
    refine XS.iload X1.here hx rfl (hb hby at_57) rfl ?_
    show Steps p.tables e below (T1.setTop (mkF m 59 #[.val (.int p1), .val (.int p2), .val (.int (own_k p2)), .val (.int (own_sl p2)), .val (.int (own_rm1_F p1 (own_sl p2))), .val (.long (((p1.toInt64) * (2654435769 : Int64)) &&& (4294967295 : Int64))), .second, .val (.long ((((p1.toInt64) * (2654435769 : Int64)) &&& (4294967295 : Int64)) / ((1 : Int64) <<< (((32 : Int32) - (own_k p2)) &&& 0x3f).toInt64))), .second, .unset] [(.int (own_rm1_F p1 (own_sl p2)))])) _
    refine XS.i2l X1.here hx rfl (hb hby at_59) rfl ?_
    show Steps p.tables e below (T1.setTop (mkF m 60 #[.val (.int p1), .val (.int p2), .val (.int (own_k p2)), .val (.int (own_sl p2)), .val (.int (own_rm1_F p1 (own_sl p2))), .val (.long (((p1.toInt64) * (2654435769 : Int64)) &&& (4294967295 : Int64))), .second, .val (.long ((((p1.toInt64) * (2654435769 : Int64)) &&& (4294967295 : Int64)) / ((1 : Int64) <<< (((32 : Int32) - (own_k p2)) &&& 0x3f).toInt64))), .second, .unset] [(.long ((own_rm1_F p1 (own_sl p2)).toInt64))])) _
    refine XS.lload X1.here hx rfl (hb hby at_60) rfl ?_
    show Steps p.tables e below (T1.setTop (mkF m 62 #[.val (.int p1), .val (.int p2), .val (.int (own_k p2)), .val (.int (own_sl p2)), .val (.int (own_rm1_F p1 (own_sl p2))), .val (.long (((p1.toInt64) * (2654435769 : Int64)) &&& (4294967295 : Int64))), .second, .val (.long ((((p1.toInt64) * (2654435769 : Int64)) &&& (4294967295 : Int64)) / ((1 : Int64) <<< (((32 : Int32) - (own_k p2)) &&& 0x3f).toInt64))), .second, .unset] [(.long ((((p1.toInt64) * (2654435769 : Int64)) &&& (4294967295 : Int64)) / ((1 : Int64) <<< (((32 : Int32) - (own_k p2)) &&& 0x3f).toInt64))), (.long ((own_rm1_F p1 (own_sl p2)).toInt64))])) _
    refine XS.lcmp X1.here hx rfl (hb hby at_62) rfl ?_
    show Steps p.tables e below (T1.setTop (mkF m 63 #[.val (.int p1), .val (.int p2), .val (.int (own_k p2)), .val (.int (own_sl p2)), .val (.int (own_rm1_F p1 (own_sl p2))), .val (.long (((p1.toInt64) * (2654435769 : Int64)) &&& (4294967295 : Int64))), .second, .val (.long ((((p1.toInt64) * (2654435769 : Int64)) &&& (4294967295 : Int64)) / ((1 : Int64) <<< (((32 : Int32) - (own_k p2)) &&& 0x3f).toInt64))), .second, .unset] [(.int (lcmpW ((own_rm1_F p1 (own_sl p2)).toInt64) ((((p1.toInt64) * (2654435769 : Int64)) &&& (4294967295 : Int64)) / ((1 : Int64) <<< (((32 : Int32) - (own_k p2)) &&& 0x3f).toInt64))))])) _
    refine XS.ifYes X1.here hx rfl (pc0 := 63) (pc' := 68) rfl (hb hby at_63) rfl ((if0 _ _).trans (teq ((lw_eq ((own_rm1_F p1 (own_sl p2)).toInt64) ((((p1.toInt64) * (2654435769 : Int64)) &&& (4294967295 : Int64)) / ((1 : Int64) <<< (((32 : Int32) - (own_k p2)) &&& 0x3f).toInt64))).mpr hc63)).1) (by decide) (by decide) ?_
    show Steps p.tables e below (T1.setTop (mkF m 68 #[.val (.int p1), .val (.int p2), .val (.int (own_k p2)), .val (.int (own_sl p2)), .val (.int (own_rm1_F p1 (own_sl p2))), .val (.long (((p1.toInt64) * (2654435769 : Int64)) &&& (4294967295 : Int64))), .second, .val (.long ((((p1.toInt64) * (2654435769 : Int64)) &&& (4294967295 : Int64)) / ((1 : Int64) <<< (((32 : Int32) - (own_k p2)) &&& 0x3f).toInt64))), .second, .unset] [])) _
    refine XS.iloadN X1.here hx rfl (hb hby at_68) rfl ?_
    show Steps p.tables e below (T1.setTop (mkF m 69 #[.val (.int p1), .val (.int p2), .val (.int (own_k p2)), .val (.int (own_sl p2)), .val (.int (own_rm1_F p1 (own_sl p2))), .val (.long (((p1.toInt64) * (2654435769 : Int64)) &&& (4294967295 : Int64))), .second, .val (.long ((((p1.toInt64) * (2654435769 : Int64)) &&& (4294967295 : Int64)) / ((1 : Int64) <<< (((32 : Int32) - (own_k p2)) &&& 0x3f).toInt64))), .second, .unset] [(.int (own_k p2))])) _
    refine XS.bipush X1.here hx rfl (hb hby at_69) ?_
    show Steps p.tables e below (T1.setTop (mkF m 71 #[.val (.int p1), .val (.int p2), .val (.int (own_k p2)), .val (.int (own_sl p2)), .val (.int (own_rm1_F p1 (own_sl p2))), .val (.long (((p1.toInt64) * (2654435769 : Int64)) &&& (4294967295 : Int64))), .second, .val (.long ((((p1.toInt64) * (2654435769 : Int64)) &&& (4294967295 : Int64)) / ((1 : Int64) <<< (((32 : Int32) - (own_k p2)) &&& 0x3f).toInt64))), .second, .unset] [(.int (30 : Int32)), (.int (own_k p2))])) _
    refine XS.icmpYes X1.here hx rfl (pc0 := 71) (pc' := 94) rfl (hb hby at_71) rfl (flt hc71).2.1 (by decide) (by decide) ?_
    show Steps p.tables e below (T1.setTop (mkF m 94 #[.val (.int p1), .val (.int p2), .val (.int (own_k p2)), .val (.int (own_sl p2)), .val (.int (own_rm1_F p1 (own_sl p2))), .val (.long (((p1.toInt64) * (2654435769 : Int64)) &&& (4294967295 : Int64))), .second, .val (.long ((((p1.toInt64) * (2654435769 : Int64)) &&& (4294967295 : Int64)) / ((1 : Int64) <<< (((32 : Int32) - (own_k p2)) &&& 0x3f).toInt64))), .second, .unset] [])) _
    refine XS.iconst X1.here hx rfl (hb hby at_94) ?_
    show Steps p.tables e below (T1.setTop (mkF m 95 #[.val (.int p1), .val (.int p2), .val (.int (own_k p2)), .val (.int (own_sl p2)), .val (.int (own_rm1_F p1 (own_sl p2))), .val (.long (((p1.toInt64) * (2654435769 : Int64)) &&& (4294967295 : Int64))), .second, .val (.long ((((p1.toInt64) * (2654435769 : Int64)) &&& (4294967295 : Int64)) / ((1 : Int64) <<< (((32 : Int32) - (own_k p2)) &&& 0x3f).toInt64))), .second, .unset] [(.int (1 : Int32))])) _
    exact retN X1 hx (t := .boolean) Bd.returns (by simp) (hb hby at_95) hr
  · exact ⟨rfl, N1⟩
set_option maxRecDepth 65536 in
set_option maxHeartbeats 40000000 in
theorem own_rm0b (l : Launch) (Z : State) (a0 : Array Value) (hw : ∀ d ∈ tables_1, d.before a0 Z = true) (ws : List Jvm.Cond) (p1 : Int32) (p2 : Int32) (h0 : Heap) (n0 : Nat) (Z0 : n0 ≤ h0.size) (hc23 : ¬ ((own_rm1_F p1 (own_sl p2)) < (0 : Int32))) (hc29 : (own_rm1_F p1 (own_sl p2)) < (own_sl p2)) (hnz54 : ((1 : Int64) <<< (((32 : Int32) - (own_k p2)) &&& 0x3f).toInt64) ≠ 0) (hc63 : ((own_rm1_F p1 (own_sl p2)).toInt64) = ((((p1.toInt64) * (2654435769 : Int64)) &&& (4294967295 : Int64)) / ((1 : Int64) <<< (((32 : Int32) - (own_k p2)) &&& 0x3f).toInt64))) (hc71 : (own_k p2) < (30 : Int32)) (hc89 : ((own_rm1_F p1 ((own_sl p2) <<< ((1 : Int32) &&& 31))) >>> ((1 : Int32) &&& 31)) = (own_rm1_F p1 (own_sl p2))) :
    MetFree l x (head1 (Jvm.Cond.code x code maxLocals ret :: ws) room_1) (fun a U => a = #[(.int p1), (.int p2)] ∧ Z.Warmed39 U.vm ∧ U.heap = h0) (fun _ _ _ _ _ => True) (fun _ U o U' => ∃ v L, o = .returned v ∧ (v = some (.int 1) ∧ Fr n0 L) ∧ FrameEnd U o U' L room_1.cells room_1.slots) := by
  refine MetFree.of_bodySF (plainFor_of_name pn_0) hisR ?_
  intro p e s m args below meth c s₁ Bd hml0 hP hK
  obtain ⟨rfl, hZ, hh⟩ := hP
  have hx := Bd.exec
  have hby := Bd.bytes
  have hml : c.maxLocals = 10 := hml0
  have hown : s.vm.findClass "com/example/spargo/spargo/NodeIndexHomePinLaw" = some m.cls := findClass_of_methodNamed Bd.named
  have X0 : Stand p l e room_1 s m #[(.int p1), (.int p2)] below meth c s₁ [] 0 0 := Stand.of_body Bd
  have e0 : s₁.heap = h0 := by rw [← hh, Bd.state]; rfl
  have N0 := Fr.nil n0
  have pre0 : ∀ t, Steps p.tables e below (s₁.setTop (mkF m 0 #[.val (.int p1), .val (.int p2), .unset, .unset, .unset, .unset, .unset, .unset, .unset, .unset] [])) t → Steps p.tables e below (s₁.setTop (entryFrame m #[(.int p1), (.int p2)] maxLocals)) t := fun t k => castTop (ef_0 m p1 p2) k
  obtain ⟨_, _, ⟨T1, L1, k1, n1⟩, -, X1, ⟨Lc1, hQ1, l1, y1, z1⟩, st1⟩ := Jvm.LawKit.callS X0 hx (y := (⟨"com/example/spargo/spargo/NodeIndex", "home", "(II)I"⟩ : MethodName)) hown (mvT hZ (hw _ (List.mem_of_getElem? (i := 1) rfl))) (mvT hZ (hw _ (List.mem_of_getElem? (i := 2) rfl))) (mvT hZ (hw _ (List.mem_of_getElem? (i := 3) rfl))) (mvT hZ (hw _ (List.mem_of_getElem? (i := 4) rfl))) (by decide) (backOf (W := 0) (own_rm1 l Z a0 hw [] p1 (own_sl p2) h0 n0 Z0) hZ (hw _ (List.mem_of_getElem? (i := 4) rfl)) (hw _ (List.mem_of_getElem? (i := 3) rfl)) (by decide) (by decide)) (g := (mkF m 16 #[.val (.int p1), .val (.int p2), .val (.int (own_k p2)), .val (.int (own_sl p2)), .unset, .unset, .unset, .unset, .unset, .unset] [(.int (own_sl p2)), (.int p1)])) rfl (by rw [hml]; rfl) (argsL := [(.int p1), (.int (own_sl p2))]) (rest := []) (lenOf pd_0_8 rfl) rfl (by show 2 * 0 + _ ≤ _; exact Nat.le_of_eq rfl) (hb hby at_16) (fun _ _ => ⟨rfl, e0, (by decide : 0 + 0 ≤ _), (by decide : 0 + 0 ≤ _)⟩)
  dsimp only [Pt.U, Pt.locs, Pt.cells, Pt.slots] at X1 l1 y1 z1 st1 hQ1
  subst l1 y1 z1
  obtain ⟨rfl, N1q, e1⟩ := hQ1
  have N1 := Fr.app N0 N1q
  obtain ⟨_, _, ⟨T2, L2, k2, n2⟩, -, X2, ⟨Lc2, hQ2, l2, y2, z2⟩, st2⟩ := Jvm.LawKit.callS X1 hx (y := (⟨"com/example/spargo/spargo/NodeIndex", "home", "(II)I"⟩ : MethodName)) hown (mvT hZ (hw _ (List.mem_of_getElem? (i := 1) rfl))) (mvT hZ (hw _ (List.mem_of_getElem? (i := 2) rfl))) (mvT hZ (hw _ (List.mem_of_getElem? (i := 3) rfl))) (mvT hZ (hw _ (List.mem_of_getElem? (i := 4) rfl))) (by decide) (backOf (W := 0) (own_rm1 l Z a0 hw [] p1 ((own_sl p2) <<< ((1 : Int32) &&& 31)) h0 n0 Z0) hZ (hw _ (List.mem_of_getElem? (i := 4) rfl)) (hw _ (List.mem_of_getElem? (i := 3) rfl)) (by decide) (by decide)) (g := (mkF m 78 #[.val (.int p1), .val (.int p2), .val (.int (own_k p2)), .val (.int (own_sl p2)), .val (.int (own_rm1_F p1 (own_sl p2))), .val (.long (((p1.toInt64) * (2654435769 : Int64)) &&& (4294967295 : Int64))), .second, .val (.long ((((p1.toInt64) * (2654435769 : Int64)) &&& (4294967295 : Int64)) / ((1 : Int64) <<< (((32 : Int32) - (own_k p2)) &&& 0x3f).toInt64))), .second, .unset] [(.int ((own_sl p2) <<< ((1 : Int32) &&& 31))), (.int p1)])) rfl (by rw [hml]; rfl) (argsL := [(.int p1), (.int ((own_sl p2) <<< ((1 : Int32) &&& 31)))]) (rest := []) (lenOf pd_0_8 rfl) rfl (by show 2 * 0 + _ ≤ _; exact Nat.le_of_eq rfl) (hb hby at_78) (fun _ _ => ⟨rfl, e1, (by decide : 0 + 0 ≤ _), (by decide : 0 + 0 ≤ _)⟩)
  dsimp only [Pt.U, Pt.locs, Pt.cells, Pt.slots] at X2 l2 y2 z2 st2 hQ2
  subst l2 y2 z2
  obtain ⟨rfl, N2q, e2⟩ := hQ2
  have N2 := Fr.app N1 N2q
  obtain ⟨fs, hr, hrun, hended, hW, hsame⟩ := X2.leave (v := some (.int (1 : Int32))) (fun h => by rw [Bd.returns] at h; cases h)
  refine ⟨_, _, pre0 _ ?_, hrun, hended, _, _, rfl, ?_, ⟨_, rfl⟩, hW, hsame.mono (by decide) (by decide)⟩
  · show Steps p.tables e below (s₁.setTop (mkF m 0 #[.val (.int p1), .val (.int p2), .unset, .unset, .unset, .unset, .unset, .unset, .unset, .unset] [])) _
    refine XS.iconst X0.here hx rfl (hb hby at_0) ?_
    show Steps p.tables e below (s₁.setTop (mkF m 1 #[.val (.int p1), .val (.int p2), .unset, .unset, .unset, .unset, .unset, .unset, .unset, .unset] [(.int (1 : Int32))])) _
    refine XS.iloadN X0.here hx rfl (hb hby at_1) rfl ?_
    show Steps p.tables e below (s₁.setTop (mkF m 2 #[.val (.int p1), .val (.int p2), .unset, .unset, .unset, .unset, .unset, .unset, .unset, .unset] [(.int p2), (.int (1 : Int32))])) _
    refine X0.ldcInt hx hown (mvT hZ (hw _ (List.mem_of_getElem? (i := 0) rfl))) (g := (mkF m 2 #[.val (.int p1), .val (.int p2), .unset, .unset, .unset, .unset, .unset, .unset, .unset, .unset] [(.int p2), (.int (1 : Int32))])) rfl (hb hby at_2) _ ?_
    show Steps p.tables e below (s₁.setTop (mkF m 4 #[.val (.int p1), .val (.int p2), .unset, .unset, .unset, .unset, .unset, .unset, .unset, .unset] [(.int (2147483647 : Int32)), (.int p2), (.int (1 : Int32))])) _
    refine XS.iand X0.here hx rfl (hb hby at_4) rfl ?_
    show Steps p.tables e below (s₁.setTop (mkF m 5 #[.val (.int p1), .val (.int p2), .unset, .unset, .unset, .unset, .unset, .unset, .unset, .unset] [(.int (p2 &&& (2147483647 : Int32))), (.int (1 : Int32))])) _
    refine XS.bipush X0.here hx rfl (hb hby at_5) ?_
    show Steps p.tables e below (s₁.setTop (mkF m 7 #[.val (.int p1), .val (.int p2), .unset, .unset, .unset, .unset, .unset, .unset, .unset, .unset] [(.int (30 : Int32)), (.int (p2 &&& (2147483647 : Int32))), (.int (1 : Int32))])) _
    refine XS.irem X0.here hx rfl (hb hby at_7) rfl (by decide) ?_
    show Steps p.tables e below (s₁.setTop (mkF m 8 #[.val (.int p1), .val (.int p2), .unset, .unset, .unset, .unset, .unset, .unset, .unset, .unset] [(.int ((p2 &&& (2147483647 : Int32)) - ((p2 &&& (2147483647 : Int32)) / (30 : Int32)) * (30 : Int32))), (.int (1 : Int32))])) _
    refine XS.iadd X0.here hx rfl (hb hby at_8) rfl ?_
    show Steps p.tables e below (s₁.setTop (mkF m 9 #[.val (.int p1), .val (.int p2), .unset, .unset, .unset, .unset, .unset, .unset, .unset, .unset] [(.int ((1 : Int32) + ((p2 &&& (2147483647 : Int32)) - ((p2 &&& (2147483647 : Int32)) / (30 : Int32)) * (30 : Int32))))])) _
    refine XS.istoreN X0.here hx rfl (hb hby at_9) rfl (l' := #[.val (.int p1), .val (.int p2), .val (.int (own_k p2)), .unset, .unset, .unset, .unset, .unset, .unset, .unset]) rfl ?_
    show Steps p.tables e below (s₁.setTop (mkF m 10 #[.val (.int p1), .val (.int p2), .val (.int (own_k p2)), .unset, .unset, .unset, .unset, .unset, .unset, .unset] [])) _
    refine XS.iconst X0.here hx rfl (hb hby at_10) ?_
    show Steps p.tables e below (s₁.setTop (mkF m 11 #[.val (.int p1), .val (.int p2), .val (.int (own_k p2)), .unset, .unset, .unset, .unset, .unset, .unset, .unset] [(.int (1 : Int32))])) _
    refine XS.iloadN X0.here hx rfl (hb hby at_11) rfl ?_
    show Steps p.tables e below (s₁.setTop (mkF m 12 #[.val (.int p1), .val (.int p2), .val (.int (own_k p2)), .unset, .unset, .unset, .unset, .unset, .unset, .unset] [(.int (own_k p2)), (.int (1 : Int32))])) _
    refine XS.ishl X0.here hx rfl (hb hby at_12) rfl ?_
    show Steps p.tables e below (s₁.setTop (mkF m 13 #[.val (.int p1), .val (.int p2), .val (.int (own_k p2)), .unset, .unset, .unset, .unset, .unset, .unset, .unset] [(.int ((1 : Int32) <<< ((own_k p2) &&& 31)))])) _
    refine XS.istoreN X0.here hx rfl (hb hby at_13) rfl (l' := #[.val (.int p1), .val (.int p2), .val (.int (own_k p2)), .val (.int (own_sl p2)), .unset, .unset, .unset, .unset, .unset, .unset]) rfl ?_
    show Steps p.tables e below (s₁.setTop (mkF m 14 #[.val (.int p1), .val (.int p2), .val (.int (own_k p2)), .val (.int (own_sl p2)), .unset, .unset, .unset, .unset, .unset, .unset] [])) _
    refine XS.iloadN X0.here hx rfl (hb hby at_14) rfl ?_
    show Steps p.tables e below (s₁.setTop (mkF m 15 #[.val (.int p1), .val (.int p2), .val (.int (own_k p2)), .val (.int (own_sl p2)), .unset, .unset, .unset, .unset, .unset, .unset] [(.int p1)])) _
    refine XS.iloadN X0.here hx rfl (hb hby at_15) rfl ?_
    show Steps p.tables e below (s₁.setTop (mkF m 16 #[.val (.int p1), .val (.int p2), .val (.int (own_k p2)), .val (.int (own_sl p2)), .unset, .unset, .unset, .unset, .unset, .unset] [(.int (own_sl p2)), (.int p1)])) _
    refine st1 _ ?_
    show Steps p.tables e below (T1.setTop (mkF m 19 #[.val (.int p1), .val (.int p2), .val (.int (own_k p2)), .val (.int (own_sl p2)), .unset, .unset, .unset, .unset, .unset, .unset] [(.int (own_rm1_F p1 (own_sl p2)))])) _
    refine XS.istore X1.here hx rfl (hb hby at_19) rfl (l' := #[.val (.int p1), .val (.int p2), .val (.int (own_k p2)), .val (.int (own_sl p2)), .val (.int (own_rm1_F p1 (own_sl p2))), .unset, .unset, .unset, .unset, .unset]) rfl ?_
    show Steps p.tables e below (T1.setTop (mkF m 21 #[.val (.int p1), .val (.int p2), .val (.int (own_k p2)), .val (.int (own_sl p2)), .val (.int (own_rm1_F p1 (own_sl p2))), .unset, .unset, .unset, .unset, .unset] [])) _
    refine XS.iload X1.here hx rfl (hb hby at_21) rfl ?_
    show Steps p.tables e below (T1.setTop (mkF m 23 #[.val (.int p1), .val (.int p2), .val (.int (own_k p2)), .val (.int (own_sl p2)), .val (.int (own_rm1_F p1 (own_sl p2))), .unset, .unset, .unset, .unset, .unset] [(.int (own_rm1_F p1 (own_sl p2)))])) _
    refine XS.ifNo X1.here hx rfl (hb hby at_23) rfl ((if0 _ _).trans (flt hc23).1) ?_
    show Steps p.tables e below (T1.setTop (mkF m 26 #[.val (.int p1), .val (.int p2), .val (.int (own_k p2)), .val (.int (own_sl p2)), .val (.int (own_rm1_F p1 (own_sl p2))), .unset, .unset, .unset, .unset, .unset] [])) _
    refine XS.iload X1.here hx rfl (hb hby at_26) rfl ?_
    show Steps p.tables e below (T1.setTop (mkF m 28 #[.val (.int p1), .val (.int p2), .val (.int (own_k p2)), .val (.int (own_sl p2)), .val (.int (own_rm1_F p1 (own_sl p2))), .unset, .unset, .unset, .unset, .unset] [(.int (own_rm1_F p1 (own_sl p2)))])) _
    refine XS.iloadN X1.here hx rfl (hb hby at_28) rfl ?_
    show Steps p.tables e below (T1.setTop (mkF m 29 #[.val (.int p1), .val (.int p2), .val (.int (own_k p2)), .val (.int (own_sl p2)), .val (.int (own_rm1_F p1 (own_sl p2))), .unset, .unset, .unset, .unset, .unset] [(.int (own_sl p2)), (.int (own_rm1_F p1 (own_sl p2)))])) _
    refine XS.icmpYes X1.here hx rfl (pc0 := 29) (pc' := 34) rfl (hb hby at_29) rfl (tlt hc29).1 (by decide) (by decide) ?_
    show Steps p.tables e below (T1.setTop (mkF m 34 #[.val (.int p1), .val (.int p2), .val (.int (own_k p2)), .val (.int (own_sl p2)), .val (.int (own_rm1_F p1 (own_sl p2))), .unset, .unset, .unset, .unset, .unset] [])) _
    refine XS.iloadN X1.here hx rfl (hb hby at_34) rfl ?_
    show Steps p.tables e below (T1.setTop (mkF m 35 #[.val (.int p1), .val (.int p2), .val (.int (own_k p2)), .val (.int (own_sl p2)), .val (.int (own_rm1_F p1 (own_sl p2))), .unset, .unset, .unset, .unset, .unset] [(.int p1)])) _
    refine XS.i2l X1.here hx rfl (hb hby at_35) rfl ?_
    show Steps p.tables e below (T1.setTop (mkF m 36 #[.val (.int p1), .val (.int p2), .val (.int (own_k p2)), .val (.int (own_sl p2)), .val (.int (own_rm1_F p1 (own_sl p2))), .unset, .unset, .unset, .unset, .unset] [(.long (p1.toInt64))])) _
    refine X1.ldc2Long hx hown (mvT hZ (hw _ (List.mem_of_getElem? (i := 11) rfl))) (g := (mkF m 36 #[.val (.int p1), .val (.int p2), .val (.int (own_k p2)), .val (.int (own_sl p2)), .val (.int (own_rm1_F p1 (own_sl p2))), .unset, .unset, .unset, .unset, .unset] [(.long (p1.toInt64))])) rfl (hb hby at_36) _ ?_
    show Steps p.tables e below (T1.setTop (mkF m 39 #[.val (.int p1), .val (.int p2), .val (.int (own_k p2)), .val (.int (own_sl p2)), .val (.int (own_rm1_F p1 (own_sl p2))), .unset, .unset, .unset, .unset, .unset] [(.long (2654435769 : Int64)), (.long (p1.toInt64))])) _
    refine XS.lmul X1.here hx rfl (hb hby at_39) rfl ?_
    show Steps p.tables e below (T1.setTop (mkF m 40 #[.val (.int p1), .val (.int p2), .val (.int (own_k p2)), .val (.int (own_sl p2)), .val (.int (own_rm1_F p1 (own_sl p2))), .unset, .unset, .unset, .unset, .unset] [(.long ((p1.toInt64) * (2654435769 : Int64)))])) _
    refine X1.ldc2Long hx hown (mvT hZ (hw _ (List.mem_of_getElem? (i := 12) rfl))) (g := (mkF m 40 #[.val (.int p1), .val (.int p2), .val (.int (own_k p2)), .val (.int (own_sl p2)), .val (.int (own_rm1_F p1 (own_sl p2))), .unset, .unset, .unset, .unset, .unset] [(.long ((p1.toInt64) * (2654435769 : Int64)))])) rfl (hb hby at_40) _ ?_
    show Steps p.tables e below (T1.setTop (mkF m 43 #[.val (.int p1), .val (.int p2), .val (.int (own_k p2)), .val (.int (own_sl p2)), .val (.int (own_rm1_F p1 (own_sl p2))), .unset, .unset, .unset, .unset, .unset] [(.long (4294967295 : Int64)), (.long ((p1.toInt64) * (2654435769 : Int64)))])) _
    refine XS.land X1.here hx rfl (hb hby at_43) rfl ?_
    show Steps p.tables e below (T1.setTop (mkF m 44 #[.val (.int p1), .val (.int p2), .val (.int (own_k p2)), .val (.int (own_sl p2)), .val (.int (own_rm1_F p1 (own_sl p2))), .unset, .unset, .unset, .unset, .unset] [(.long (((p1.toInt64) * (2654435769 : Int64)) &&& (4294967295 : Int64)))])) _
    refine XS.lstore X1.here hx rfl (hb hby at_44) rfl (l' := #[.val (.int p1), .val (.int p2), .val (.int (own_k p2)), .val (.int (own_sl p2)), .val (.int (own_rm1_F p1 (own_sl p2))), .val (.long (((p1.toInt64) * (2654435769 : Int64)) &&& (4294967295 : Int64))), .second, .unset, .unset, .unset]) rfl ?_
    show Steps p.tables e below (T1.setTop (mkF m 46 #[.val (.int p1), .val (.int p2), .val (.int (own_k p2)), .val (.int (own_sl p2)), .val (.int (own_rm1_F p1 (own_sl p2))), .val (.long (((p1.toInt64) * (2654435769 : Int64)) &&& (4294967295 : Int64))), .second, .unset, .unset, .unset] [])) _
    refine XS.lload X1.here hx rfl (hb hby at_46) rfl ?_
    show Steps p.tables e below (T1.setTop (mkF m 48 #[.val (.int p1), .val (.int p2), .val (.int (own_k p2)), .val (.int (own_sl p2)), .val (.int (own_rm1_F p1 (own_sl p2))), .val (.long (((p1.toInt64) * (2654435769 : Int64)) &&& (4294967295 : Int64))), .second, .unset, .unset, .unset] [(.long (((p1.toInt64) * (2654435769 : Int64)) &&& (4294967295 : Int64)))])) _
    refine XS.lconst X1.here hx rfl (hb hby at_48) ?_
    show Steps p.tables e below (T1.setTop (mkF m 49 #[.val (.int p1), .val (.int p2), .val (.int (own_k p2)), .val (.int (own_sl p2)), .val (.int (own_rm1_F p1 (own_sl p2))), .val (.long (((p1.toInt64) * (2654435769 : Int64)) &&& (4294967295 : Int64))), .second, .unset, .unset, .unset] [(.long (1 : Int64)), (.long (((p1.toInt64) * (2654435769 : Int64)) &&& (4294967295 : Int64)))])) _
    refine XS.bipush X1.here hx rfl (hb hby at_49) ?_
    show Steps p.tables e below (T1.setTop (mkF m 51 #[.val (.int p1), .val (.int p2), .val (.int (own_k p2)), .val (.int (own_sl p2)), .val (.int (own_rm1_F p1 (own_sl p2))), .val (.long (((p1.toInt64) * (2654435769 : Int64)) &&& (4294967295 : Int64))), .second, .unset, .unset, .unset] [(.int (32 : Int32)), (.long (1 : Int64)), (.long (((p1.toInt64) * (2654435769 : Int64)) &&& (4294967295 : Int64)))])) _
    refine XS.iloadN X1.here hx rfl (hb hby at_51) rfl ?_
    show Steps p.tables e below (T1.setTop (mkF m 52 #[.val (.int p1), .val (.int p2), .val (.int (own_k p2)), .val (.int (own_sl p2)), .val (.int (own_rm1_F p1 (own_sl p2))), .val (.long (((p1.toInt64) * (2654435769 : Int64)) &&& (4294967295 : Int64))), .second, .unset, .unset, .unset] [(.int (own_k p2)), (.int (32 : Int32)), (.long (1 : Int64)), (.long (((p1.toInt64) * (2654435769 : Int64)) &&& (4294967295 : Int64)))])) _
    refine XS.isub X1.here hx rfl (hb hby at_52) rfl ?_
    show Steps p.tables e below (T1.setTop (mkF m 53 #[.val (.int p1), .val (.int p2), .val (.int (own_k p2)), .val (.int (own_sl p2)), .val (.int (own_rm1_F p1 (own_sl p2))), .val (.long (((p1.toInt64) * (2654435769 : Int64)) &&& (4294967295 : Int64))), .second, .unset, .unset, .unset] [(.int ((32 : Int32) - (own_k p2))), (.long (1 : Int64)), (.long (((p1.toInt64) * (2654435769 : Int64)) &&& (4294967295 : Int64)))])) _
    refine XS.lshl X1.here hx rfl (hb hby at_53) rfl ?_
    show Steps p.tables e below (T1.setTop (mkF m 54 #[.val (.int p1), .val (.int p2), .val (.int (own_k p2)), .val (.int (own_sl p2)), .val (.int (own_rm1_F p1 (own_sl p2))), .val (.long (((p1.toInt64) * (2654435769 : Int64)) &&& (4294967295 : Int64))), .second, .unset, .unset, .unset] [(.long ((1 : Int64) <<< (((32 : Int32) - (own_k p2)) &&& 0x3f).toInt64)), (.long (((p1.toInt64) * (2654435769 : Int64)) &&& (4294967295 : Int64)))])) _
    refine XS.ldiv X1.here hx rfl (hb hby at_54) rfl hnz54 ?_
    show Steps p.tables e below (T1.setTop (mkF m 55 #[.val (.int p1), .val (.int p2), .val (.int (own_k p2)), .val (.int (own_sl p2)), .val (.int (own_rm1_F p1 (own_sl p2))), .val (.long (((p1.toInt64) * (2654435769 : Int64)) &&& (4294967295 : Int64))), .second, .unset, .unset, .unset] [(.long ((((p1.toInt64) * (2654435769 : Int64)) &&& (4294967295 : Int64)) / ((1 : Int64) <<< (((32 : Int32) - (own_k p2)) &&& 0x3f).toInt64)))])) _
    refine XS.lstore X1.here hx rfl (hb hby at_55) rfl (l' := #[.val (.int p1), .val (.int p2), .val (.int (own_k p2)), .val (.int (own_sl p2)), .val (.int (own_rm1_F p1 (own_sl p2))), .val (.long (((p1.toInt64) * (2654435769 : Int64)) &&& (4294967295 : Int64))), .second, .val (.long ((((p1.toInt64) * (2654435769 : Int64)) &&& (4294967295 : Int64)) / ((1 : Int64) <<< (((32 : Int32) - (own_k p2)) &&& 0x3f).toInt64))), .second, .unset]) rfl ?_
    show Steps p.tables e below (T1.setTop (mkF m 57 #[.val (.int p1), .val (.int p2), .val (.int (own_k p2)), .val (.int (own_sl p2)), .val (.int (own_rm1_F p1 (own_sl p2))), .val (.long (((p1.toInt64) * (2654435769 : Int64)) &&& (4294967295 : Int64))), .second, .val (.long ((((p1.toInt64) * (2654435769 : Int64)) &&& (4294967295 : Int64)) / ((1 : Int64) <<< (((32 : Int32) - (own_k p2)) &&& 0x3f).toInt64))), .second, .unset] [])) _
    refine XS.iload X1.here hx rfl (hb hby at_57) rfl ?_
    show Steps p.tables e below (T1.setTop (mkF m 59 #[.val (.int p1), .val (.int p2), .val (.int (own_k p2)), .val (.int (own_sl p2)), .val (.int (own_rm1_F p1 (own_sl p2))), .val (.long (((p1.toInt64) * (2654435769 : Int64)) &&& (4294967295 : Int64))), .second, .val (.long ((((p1.toInt64) * (2654435769 : Int64)) &&& (4294967295 : Int64)) / ((1 : Int64) <<< (((32 : Int32) - (own_k p2)) &&& 0x3f).toInt64))), .second, .unset] [(.int (own_rm1_F p1 (own_sl p2)))])) _
    refine XS.i2l X1.here hx rfl (hb hby at_59) rfl ?_
    show Steps p.tables e below (T1.setTop (mkF m 60 #[.val (.int p1), .val (.int p2), .val (.int (own_k p2)), .val (.int (own_sl p2)), .val (.int (own_rm1_F p1 (own_sl p2))), .val (.long (((p1.toInt64) * (2654435769 : Int64)) &&& (4294967295 : Int64))), .second, .val (.long ((((p1.toInt64) * (2654435769 : Int64)) &&& (4294967295 : Int64)) / ((1 : Int64) <<< (((32 : Int32) - (own_k p2)) &&& 0x3f).toInt64))), .second, .unset] [(.long ((own_rm1_F p1 (own_sl p2)).toInt64))])) _
    refine XS.lload X1.here hx rfl (hb hby at_60) rfl ?_
    show Steps p.tables e below (T1.setTop (mkF m 62 #[.val (.int p1), .val (.int p2), .val (.int (own_k p2)), .val (.int (own_sl p2)), .val (.int (own_rm1_F p1 (own_sl p2))), .val (.long (((p1.toInt64) * (2654435769 : Int64)) &&& (4294967295 : Int64))), .second, .val (.long ((((p1.toInt64) * (2654435769 : Int64)) &&& (4294967295 : Int64)) / ((1 : Int64) <<< (((32 : Int32) - (own_k p2)) &&& 0x3f).toInt64))), .second, .unset] [(.long ((((p1.toInt64) * (2654435769 : Int64)) &&& (4294967295 : Int64)) / ((1 : Int64) <<< (((32 : Int32) - (own_k p2)) &&& 0x3f).toInt64))), (.long ((own_rm1_F p1 (own_sl p2)).toInt64))])) _
    refine XS.lcmp X1.here hx rfl (hb hby at_62) rfl ?_
    show Steps p.tables e below (T1.setTop (mkF m 63 #[.val (.int p1), .val (.int p2), .val (.int (own_k p2)), .val (.int (own_sl p2)), .val (.int (own_rm1_F p1 (own_sl p2))), .val (.long (((p1.toInt64) * (2654435769 : Int64)) &&& (4294967295 : Int64))), .second, .val (.long ((((p1.toInt64) * (2654435769 : Int64)) &&& (4294967295 : Int64)) / ((1 : Int64) <<< (((32 : Int32) - (own_k p2)) &&& 0x3f).toInt64))), .second, .unset] [(.int (lcmpW ((own_rm1_F p1 (own_sl p2)).toInt64) ((((p1.toInt64) * (2654435769 : Int64)) &&& (4294967295 : Int64)) / ((1 : Int64) <<< (((32 : Int32) - (own_k p2)) &&& 0x3f).toInt64))))])) _
    refine XS.ifYes X1.here hx rfl (pc0 := 63) (pc' := 68) rfl (hb hby at_63) rfl ((if0 _ _).trans (teq ((lw_eq ((own_rm1_F p1 (own_sl p2)).toInt64) ((((p1.toInt64) * (2654435769 : Int64)) &&& (4294967295 : Int64)) / ((1 : Int64) <<< (((32 : Int32) - (own_k p2)) &&& 0x3f).toInt64))).mpr hc63)).1) (by decide) (by decide) ?_
    show Steps p.tables e below (T1.setTop (mkF m 68 #[.val (.int p1), .val (.int p2), .val (.int (own_k p2)), .val (.int (own_sl p2)), .val (.int (own_rm1_F p1 (own_sl p2))), .val (.long (((p1.toInt64) * (2654435769 : Int64)) &&& (4294967295 : Int64))), .second, .val (.long ((((p1.toInt64) * (2654435769 : Int64)) &&& (4294967295 : Int64)) / ((1 : Int64) <<< (((32 : Int32) - (own_k p2)) &&& 0x3f).toInt64))), .second, .unset] [])) _
    refine XS.iloadN X1.here hx rfl (hb hby at_68) rfl ?_
    show Steps p.tables e below (T1.setTop (mkF m 69 #[.val (.int p1), .val (.int p2), .val (.int (own_k p2)), .val (.int (own_sl p2)), .val (.int (own_rm1_F p1 (own_sl p2))), .val (.long (((p1.toInt64) * (2654435769 : Int64)) &&& (4294967295 : Int64))), .second, .val (.long ((((p1.toInt64) * (2654435769 : Int64)) &&& (4294967295 : Int64)) / ((1 : Int64) <<< (((32 : Int32) - (own_k p2)) &&& 0x3f).toInt64))), .second, .unset] [(.int (own_k p2))])) _
    refine XS.bipush X1.here hx rfl (hb hby at_69) ?_
    show Steps p.tables e below (T1.setTop (mkF m 71 #[.val (.int p1), .val (.int p2), .val (.int (own_k p2)), .val (.int (own_sl p2)), .val (.int (own_rm1_F p1 (own_sl p2))), .val (.long (((p1.toInt64) * (2654435769 : Int64)) &&& (4294967295 : Int64))), .second, .val (.long ((((p1.toInt64) * (2654435769 : Int64)) &&& (4294967295 : Int64)) / ((1 : Int64) <<< (((32 : Int32) - (own_k p2)) &&& 0x3f).toInt64))), .second, .unset] [(.int (30 : Int32)), (.int (own_k p2))])) _
    refine XS.icmpNo X1.here hx rfl (hb hby at_71) rfl (tlt hc71).2.1 ?_
    show Steps p.tables e below (T1.setTop (mkF m 74 #[.val (.int p1), .val (.int p2), .val (.int (own_k p2)), .val (.int (own_sl p2)), .val (.int (own_rm1_F p1 (own_sl p2))), .val (.long (((p1.toInt64) * (2654435769 : Int64)) &&& (4294967295 : Int64))), .second, .val (.long ((((p1.toInt64) * (2654435769 : Int64)) &&& (4294967295 : Int64)) / ((1 : Int64) <<< (((32 : Int32) - (own_k p2)) &&& 0x3f).toInt64))), .second, .unset] [])) _
    refine XS.iloadN X1.here hx rfl (hb hby at_74) rfl ?_
    show Steps p.tables e below (T1.setTop (mkF m 75 #[.val (.int p1), .val (.int p2), .val (.int (own_k p2)), .val (.int (own_sl p2)), .val (.int (own_rm1_F p1 (own_sl p2))), .val (.long (((p1.toInt64) * (2654435769 : Int64)) &&& (4294967295 : Int64))), .second, .val (.long ((((p1.toInt64) * (2654435769 : Int64)) &&& (4294967295 : Int64)) / ((1 : Int64) <<< (((32 : Int32) - (own_k p2)) &&& 0x3f).toInt64))), .second, .unset] [(.int p1)])) _
    refine XS.iloadN X1.here hx rfl (hb hby at_75) rfl ?_
    show Steps p.tables e below (T1.setTop (mkF m 76 #[.val (.int p1), .val (.int p2), .val (.int (own_k p2)), .val (.int (own_sl p2)), .val (.int (own_rm1_F p1 (own_sl p2))), .val (.long (((p1.toInt64) * (2654435769 : Int64)) &&& (4294967295 : Int64))), .second, .val (.long ((((p1.toInt64) * (2654435769 : Int64)) &&& (4294967295 : Int64)) / ((1 : Int64) <<< (((32 : Int32) - (own_k p2)) &&& 0x3f).toInt64))), .second, .unset] [(.int (own_sl p2)), (.int p1)])) _
    refine XS.iconst X1.here hx rfl (hb hby at_76) ?_
    show Steps p.tables e below (T1.setTop (mkF m 77 #[.val (.int p1), .val (.int p2), .val (.int (own_k p2)), .val (.int (own_sl p2)), .val (.int (own_rm1_F p1 (own_sl p2))), .val (.long (((p1.toInt64) * (2654435769 : Int64)) &&& (4294967295 : Int64))), .second, .val (.long ((((p1.toInt64) * (2654435769 : Int64)) &&& (4294967295 : Int64)) / ((1 : Int64) <<< (((32 : Int32) - (own_k p2)) &&& 0x3f).toInt64))), .second, .unset] [(.int (1 : Int32)), (.int (own_sl p2)), (.int p1)])) _
    refine XS.ishl X1.here hx rfl (hb hby at_77) rfl ?_
    show Steps p.tables e below (T1.setTop (mkF m 78 #[.val (.int p1), .val (.int p2), .val (.int (own_k p2)), .val (.int (own_sl p2)), .val (.int (own_rm1_F p1 (own_sl p2))), .val (.long (((p1.toInt64) * (2654435769 : Int64)) &&& (4294967295 : Int64))), .second, .val (.long ((((p1.toInt64) * (2654435769 : Int64)) &&& (4294967295 : Int64)) / ((1 : Int64) <<< (((32 : Int32) - (own_k p2)) &&& 0x3f).toInt64))), .second, .unset] [(.int ((own_sl p2) <<< ((1 : Int32) &&& 31))), (.int p1)])) _
    refine st2 _ ?_
    show Steps p.tables e below (T2.setTop (mkF m 81 #[.val (.int p1), .val (.int p2), .val (.int (own_k p2)), .val (.int (own_sl p2)), .val (.int (own_rm1_F p1 (own_sl p2))), .val (.long (((p1.toInt64) * (2654435769 : Int64)) &&& (4294967295 : Int64))), .second, .val (.long ((((p1.toInt64) * (2654435769 : Int64)) &&& (4294967295 : Int64)) / ((1 : Int64) <<< (((32 : Int32) - (own_k p2)) &&& 0x3f).toInt64))), .second, .unset] [(.int (own_rm1_F p1 ((own_sl p2) <<< ((1 : Int32) &&& 31))))])) _
    refine XS.istore X2.here hx rfl (hb hby at_81) rfl (l' := #[.val (.int p1), .val (.int p2), .val (.int (own_k p2)), .val (.int (own_sl p2)), .val (.int (own_rm1_F p1 (own_sl p2))), .val (.long (((p1.toInt64) * (2654435769 : Int64)) &&& (4294967295 : Int64))), .second, .val (.long ((((p1.toInt64) * (2654435769 : Int64)) &&& (4294967295 : Int64)) / ((1 : Int64) <<< (((32 : Int32) - (own_k p2)) &&& 0x3f).toInt64))), .second, .val (.int (own_rm1_F p1 ((own_sl p2) <<< ((1 : Int32) &&& 31))))]) rfl ?_
    show Steps p.tables e below (T2.setTop (mkF m 83 #[.val (.int p1), .val (.int p2), .val (.int (own_k p2)), .val (.int (own_sl p2)), .val (.int (own_rm1_F p1 (own_sl p2))), .val (.long (((p1.toInt64) * (2654435769 : Int64)) &&& (4294967295 : Int64))), .second, .val (.long ((((p1.toInt64) * (2654435769 : Int64)) &&& (4294967295 : Int64)) / ((1 : Int64) <<< (((32 : Int32) - (own_k p2)) &&& 0x3f).toInt64))), .second, .val (.int (own_rm1_F p1 ((own_sl p2) <<< ((1 : Int32) &&& 31))))] [])) _
    refine XS.iload X2.here hx rfl (hb hby at_83) rfl ?_
    show Steps p.tables e below (T2.setTop (mkF m 85 #[.val (.int p1), .val (.int p2), .val (.int (own_k p2)), .val (.int (own_sl p2)), .val (.int (own_rm1_F p1 (own_sl p2))), .val (.long (((p1.toInt64) * (2654435769 : Int64)) &&& (4294967295 : Int64))), .second, .val (.long ((((p1.toInt64) * (2654435769 : Int64)) &&& (4294967295 : Int64)) / ((1 : Int64) <<< (((32 : Int32) - (own_k p2)) &&& 0x3f).toInt64))), .second, .val (.int (own_rm1_F p1 ((own_sl p2) <<< ((1 : Int32) &&& 31))))] [(.int (own_rm1_F p1 ((own_sl p2) <<< ((1 : Int32) &&& 31))))])) _
    refine XS.iconst X2.here hx rfl (hb hby at_85) ?_
    show Steps p.tables e below (T2.setTop (mkF m 86 #[.val (.int p1), .val (.int p2), .val (.int (own_k p2)), .val (.int (own_sl p2)), .val (.int (own_rm1_F p1 (own_sl p2))), .val (.long (((p1.toInt64) * (2654435769 : Int64)) &&& (4294967295 : Int64))), .second, .val (.long ((((p1.toInt64) * (2654435769 : Int64)) &&& (4294967295 : Int64)) / ((1 : Int64) <<< (((32 : Int32) - (own_k p2)) &&& 0x3f).toInt64))), .second, .val (.int (own_rm1_F p1 ((own_sl p2) <<< ((1 : Int32) &&& 31))))] [(.int (1 : Int32)), (.int (own_rm1_F p1 ((own_sl p2) <<< ((1 : Int32) &&& 31))))])) _
    refine XS.ishr X2.here hx rfl (hb hby at_86) rfl ?_
    show Steps p.tables e below (T2.setTop (mkF m 87 #[.val (.int p1), .val (.int p2), .val (.int (own_k p2)), .val (.int (own_sl p2)), .val (.int (own_rm1_F p1 (own_sl p2))), .val (.long (((p1.toInt64) * (2654435769 : Int64)) &&& (4294967295 : Int64))), .second, .val (.long ((((p1.toInt64) * (2654435769 : Int64)) &&& (4294967295 : Int64)) / ((1 : Int64) <<< (((32 : Int32) - (own_k p2)) &&& 0x3f).toInt64))), .second, .val (.int (own_rm1_F p1 ((own_sl p2) <<< ((1 : Int32) &&& 31))))] [(.int ((own_rm1_F p1 ((own_sl p2) <<< ((1 : Int32) &&& 31))) >>> ((1 : Int32) &&& 31)))])) _
    refine XS.iload X2.here hx rfl (hb hby at_87) rfl ?_
    show Steps p.tables e below (T2.setTop (mkF m 89 #[.val (.int p1), .val (.int p2), .val (.int (own_k p2)), .val (.int (own_sl p2)), .val (.int (own_rm1_F p1 (own_sl p2))), .val (.long (((p1.toInt64) * (2654435769 : Int64)) &&& (4294967295 : Int64))), .second, .val (.long ((((p1.toInt64) * (2654435769 : Int64)) &&& (4294967295 : Int64)) / ((1 : Int64) <<< (((32 : Int32) - (own_k p2)) &&& 0x3f).toInt64))), .second, .val (.int (own_rm1_F p1 ((own_sl p2) <<< ((1 : Int32) &&& 31))))] [(.int (own_rm1_F p1 (own_sl p2))), (.int ((own_rm1_F p1 ((own_sl p2) <<< ((1 : Int32) &&& 31))) >>> ((1 : Int32) &&& 31)))])) _
    refine XS.icmpYes X2.here hx rfl (pc0 := 89) (pc' := 94) rfl (hb hby at_89) rfl (teq hc89).1 (by decide) (by decide) ?_
    show Steps p.tables e below (T2.setTop (mkF m 94 #[.val (.int p1), .val (.int p2), .val (.int (own_k p2)), .val (.int (own_sl p2)), .val (.int (own_rm1_F p1 (own_sl p2))), .val (.long (((p1.toInt64) * (2654435769 : Int64)) &&& (4294967295 : Int64))), .second, .val (.long ((((p1.toInt64) * (2654435769 : Int64)) &&& (4294967295 : Int64)) / ((1 : Int64) <<< (((32 : Int32) - (own_k p2)) &&& 0x3f).toInt64))), .second, .val (.int (own_rm1_F p1 ((own_sl p2) <<< ((1 : Int32) &&& 31))))] [])) _
    refine XS.iconst X2.here hx rfl (hb hby at_94) ?_
    show Steps p.tables e below (T2.setTop (mkF m 95 #[.val (.int p1), .val (.int p2), .val (.int (own_k p2)), .val (.int (own_sl p2)), .val (.int (own_rm1_F p1 (own_sl p2))), .val (.long (((p1.toInt64) * (2654435769 : Int64)) &&& (4294967295 : Int64))), .second, .val (.long ((((p1.toInt64) * (2654435769 : Int64)) &&& (4294967295 : Int64)) / ((1 : Int64) <<< (((32 : Int32) - (own_k p2)) &&& 0x3f).toInt64))), .second, .val (.int (own_rm1_F p1 ((own_sl p2) <<< ((1 : Int32) &&& 31))))] [(.int (1 : Int32))])) _
    exact retN X2 hx (t := .boolean) Bd.returns (by simp) (hb hby at_95) hr
  · exact ⟨rfl, N2⟩
theorem own_k_nat (p2 : Int32) : ∃ k : Nat, 1 ≤ k ∧ k ≤ 30 ∧ own_k p2 = Int32.ofNat k := by
  have hm : (p2 &&& (2147483647 : Int32)).toInt = p2.toInt % 2147483648 := by
    have h : (p2 &&& (2147483647 : Int32)) = (p2 &&& (2147483647 : Int32)) := rfl
    have e : (p2 &&& (2147483647 : Int32)).toBitVec = p2.toBitVec &&& 2147483647#32 := rfl
    have n1 : (p2.toBitVec &&& 2147483647#32).toNat = p2.toBitVec.toNat % 2147483648 := by
      rw [BitVec.toNat_and]
      exact Nat.and_two_pow_sub_one_eq_mod _ 31
    have l1 : (p2.toBitVec &&& 2147483647#32).toNat < 2147483648 := by rw [n1]; exact Nat.mod_lt _ (by decide)
    show (p2 &&& (2147483647 : Int32)).toBitVec.toInt = p2.toBitVec.toInt % 2147483648
    rw [e, BitVec.toInt_eq_toNat_cond, if_pos (by omega), n1, BitVec.toInt_eq_toNat_cond]
    have := p2.toBitVec.isLt
    split <;> omega
  have b0 : 0 ≤ (p2 &&& (2147483647 : Int32)).toInt := by rw [hm]; omega
  have b1 : (p2 &&& (2147483647 : Int32)).toInt < 2147483648 := by rw [hm]; omega
  generalize hy : (p2 &&& (2147483647 : Int32)) = y at b0 b1
  have hk : own_k p2 = ((1 : Int32) + (y - (y / (30 : Int32)) * (30 : Int32))) := by unfold own_k; rw [hy]
  have e30 : (30 : Int32).toInt = 30 := by decide
  have e1 : (1 : Int32).toInt = 1 := by decide
  have hd : (y / (30 : Int32)).toInt = y.toInt / 30 := by
    rw [Int32.toInt_div, e30, Int.tdiv_eq_ediv_of_nonneg b0, Int.bmod_def]; omega
  have ht : (own_k p2).toInt = 1 + y.toInt % 30 := by
    rw [hk, Int32.toInt_add, Int32.toInt_sub, Int32.toInt_mul, hd, e30, e1]
    have q1 : (y.toInt / 30 * 30).bmod (2 ^ 32) = y.toInt / 30 * 30 := by rw [Int.bmod_def]; omega
    have q2 : (y.toInt - y.toInt / 30 * 30).bmod (2 ^ 32) = y.toInt % 30 := by rw [Int.bmod_def]; omega
    rw [q1, q2, Int.bmod_def]; omega
  refine ⟨(1 + y.toInt % 30).toNat, by omega, by omega, ?_⟩
  apply Int32.toInt_inj.mp
  rw [ht, Int32.toInt_ofNat_of_lt (by omega)]
  omega
theorem own_sl_nat : ∀ k : Fin 31, ((1 : Int32) <<< ((Int32.ofNat k.val) &&& 31)) = Int32.ofNat (2 ^ k.val) := by decide +kernel
theorem own_nlz_nat : ∀ k : Fin 31, 1 ≤ k.val → ((own_rm2_F (Int32.ofNat (2 ^ k.val) - 1)) &&& 31).toUInt32 = UInt32.ofNat (32 - k.val) := by decide +kernel
theorem own_den : ∀ k : Fin 31, 1 ≤ k.val → ((1 : Int64) <<< (((32 : Int32) - (Int32.ofNat k.val)) &&& 0x3f).toInt64) = Int64.ofNat (2 ^ (32 - k.val)) := by decide +kernel
theorem own_dbl : ∀ k : Fin 30, (Int32.ofNat (2 ^ k.val)) <<< ((1 : Int32) &&& 31) = Int32.ofNat (2 ^ (k.val + 1)) := by decide +kernel
theorem own_pow {k : Nat} (h : k ≤ 30) : 2 ^ k ≤ 1073741824 := Nat.pow_le_pow_right (by decide) h
theorem own_home (n : Int32) (k : Nat) (h1 : 1 ≤ k) (h2 : k ≤ 30) : (own_rm1_F n (Int32.ofNat (2 ^ k))).toInt = (((n * (-1640531527 : Int32)).toUInt32.toNat / 2 ^ (32 - k) : Nat) : Int) ∧ (n * (-1640531527 : Int32)).toUInt32.toNat / 2 ^ (32 - k) < 2 ^ k := by
  have hz := own_nlz_nat ⟨k, by omega⟩ h1
  dsimp only at hz
  have hl : (n * (-1640531527 : Int32)).toUInt32.toNat / 2 ^ (32 - k) < 2 ^ k := by
    rw [Nat.div_lt_iff_lt_mul (Nat.two_pow_pos _), ← Nat.pow_add]
    have : k + (32 - k) = 32 := by omega
    rw [this]
    exact (n * (-1640531527 : Int32)).toUInt32.toNat_lt
  refine ⟨?_, hl⟩
  unfold own_rm1_F
  rw [hz]
  generalize (n * (-1640531527 : Int32)).toUInt32 = P at hl ⊢
  have hs : (P >>> UInt32.ofNat (32 - k)).toNat = P.toNat / 2 ^ (32 - k) := by
    rw [UInt32.toNat_shiftRight, UInt32.toNat_ofNat_of_lt' (by have : UInt32.size = 4294967296 := rfl; omega), Nat.shiftRight_eq_div_pow, Nat.mod_eq_of_lt (by omega)]
  have hp := own_pow h2
  show (P >>> UInt32.ofNat (32 - k)).toBitVec.toInt = _
  have ht : (P >>> UInt32.ofNat (32 - k)).toBitVec.toNat = P.toNat / 2 ^ (32 - k) := hs
  rw [BitVec.toInt_eq_toNat_cond, if_pos (by omega), ht]
theorem own_prod (n : Int32) : (((n.toInt64) * (2654435769 : Int64)) &&& (4294967295 : Int64)).toInt = ((n * (-1640531527 : Int32)).toUInt32.toNat : Int) := by
  have a1 := Int32.toInt_lt n
  have a2 := Int32.le_toInt n
  have hP : ((n * (-1640531527 : Int32)).toUInt32.toNat : Int) = (n.toInt * (-1640531527)) % 4294967296 := by
    have e : (-1640531527 : Int32).toInt = -1640531527 := by decide
    have ht := Int32.toInt_mul n (-1640531527)
    rw [e] at ht
    generalize n * (-1640531527 : Int32) = w at ht
    have hw : w.toInt = w.toBitVec.toInt := rfl
    have hu : w.toUInt32.toNat = w.toBitVec.toNat := rfl
    rw [hu]
    rw [hw, BitVec.toInt_eq_toNat_cond, Int.bmod_def] at ht
    have := w.toBitVec.isLt
    revert ht
    split <;> split <;> intro ht <;> omega
  rw [hP]
  have hm : (n.toInt64 * (2654435769 : Int64)).toInt = n.toInt * 2654435769 := by
    have e : (2654435769 : Int64).toInt = 2654435769 := by decide
    rw [Int64.toInt_mul, Int32.toInt_toInt64, e, Int.bmod_def]
    omega
  generalize n.toInt64 * (2654435769 : Int64) = v at hm
  have e : (v &&& (4294967295 : Int64)).toBitVec = v.toBitVec &&& 4294967295#64 := rfl
  have n1 : (v.toBitVec &&& 4294967295#64).toNat = v.toBitVec.toNat % 4294967296 := by
    rw [BitVec.toNat_and]
    exact Nat.and_two_pow_sub_one_eq_mod _ 32
  have l1 : (v.toBitVec &&& 4294967295#64).toNat < 4294967296 := by rw [n1]; exact Nat.mod_lt _ (by decide)
  show (v &&& (4294967295 : Int64)).toBitVec.toInt = _
  rw [e, BitVec.toInt_eq_toNat_cond, if_pos (by omega), n1]
  have hv : v.toInt = v.toBitVec.toInt := rfl
  rw [hv, BitVec.toInt_eq_toNat_cond] at hm
  have := v.toBitVec.isLt
  revert hm
  split <;> intro hm <;> omega
theorem own_bm (D : Nat) (h : D < 1073741824) : (D : Int) = (D : Int).bmod (2 ^ 64) := by
  rw [Int.bmod_def]
  omega
theorem own_facts (n p2 : Int32) : ¬ ((own_rm1_F n (own_sl p2)) < (0 : Int32)) ∧ (own_rm1_F n (own_sl p2)) < (own_sl p2)
    ∧ ((1 : Int64) <<< (((32 : Int32) - (own_k p2)) &&& 0x3f).toInt64) ≠ 0
    ∧ ((own_rm1_F n (own_sl p2)).toInt64) = ((((n.toInt64) * (2654435769 : Int64)) &&& (4294967295 : Int64)) / ((1 : Int64) <<< (((32 : Int32) - (own_k p2)) &&& 0x3f).toInt64))
    ∧ (own_k p2 < (30 : Int32) → ((own_rm1_F n ((own_sl p2) <<< ((1 : Int32) &&& 31))) >>> ((1 : Int32) &&& 31)) = (own_rm1_F n (own_sl p2))) := by
  obtain ⟨k, h1, h2, hk⟩ := own_k_nat p2
  have hs : own_sl p2 = Int32.ofNat (2 ^ k) := by
    unfold own_sl; rw [hk]; exact own_sl_nat ⟨k, by omega⟩
  have hd := own_den ⟨k, by omega⟩ h1
  dsimp only at hd
  obtain ⟨hh, hl⟩ := own_home n k h1 h2
  have hp := own_pow h2
  have hsl : (Int32.ofNat (2 ^ k)).toInt = ((2 ^ k : Nat) : Int) := Int32.toInt_ofNat_of_lt (by omega)
  have hq : 2 ^ (32 - k) ≤ 2147483648 := Nat.pow_le_pow_right (n := 2) (by decide) (show 32 - k ≤ 31 by omega)
  have hq0 : 0 < 2 ^ (32 - k) := Nat.two_pow_pos _
  have hdl : (Int64.ofNat (2 ^ (32 - k))).toInt = ((2 ^ (32 - k) : Nat) : Int) := Int64.toInt_ofNat_of_lt (by omega)
  have z32 : (0 : Int32).toInt = 0 := by decide
  have z64 : (0 : Int64).toInt = 0 := by decide
  rw [hs, hk, hd]
  refine ⟨?_, ?_, ?_, ?_, ?_⟩
  · rw [Int32.lt_iff_toInt_lt, hh, z32]; exact Int.not_lt.mpr (Int.natCast_nonneg _)
  · rw [Int32.lt_iff_toInt_lt, hh, hsl]; omega
  · intro z
    have := congrArg Int64.toInt z
    rw [hdl, z64] at this
    omega
  · apply Int64.toInt_inj.mp
    rw [Int32.toInt_toInt64, hh, Int64.toInt_div, own_prod, hdl]
    have hb := (n * (-1640531527 : Int32)).toUInt32.toNat_lt
    generalize (n * (-1640531527 : Int32)).toUInt32.toNat = P at hb hl ⊢
    rw [Int.tdiv_eq_ediv_of_nonneg (by omega)]
    have hc : ((P : Int) / ((2 ^ (32 - k) : Nat) : Int)) = ((P / 2 ^ (32 - k) : Nat) : Int) := (Int.natCast_ediv _ _).symm
    rw [hc]
    have hD : P / 2 ^ (32 - k) < 1073741824 := Nat.lt_of_lt_of_le hl hp
    exact own_bm _ hD
  · intro hlt
    have hk2 : k < 30 := by
      rw [Int32.lt_iff_toInt_lt, Int32.toInt_ofNat_of_lt (by omega)] at hlt
      have e30 : (30 : Int32).toInt = 30 := by decide
      omega
    rw [own_dbl ⟨k, hk2⟩]
    dsimp only
    obtain ⟨hh2, hl2⟩ := own_home n (k + 1) (by omega) (by omega)
    have hp2 := own_pow (show k + 1 ≤ 30 by omega)
    apply Int32.toInt_inj.mp
    rw [hh]
    have e31 : ((1 : Int32) &&& 31) = 1 := by decide
    rw [e31]
    generalize own_rm1_F n (Int32.ofNat (2 ^ (k + 1))) = h at hh2
    have hsh : (h >>> (1 : Int32)).toInt = h.toInt / 2 := by
      show (h >>> (1 : Int32)).toBitVec.toInt = h.toBitVec.toInt / 2
      have : (h >>> (1 : Int32)).toBitVec = h.toBitVec.sshiftRight 1 := by
        rw [Int32.toBitVec_shiftRight]
        rfl
      rw [this, BitVec.toInt_sshiftRight, Int.shiftRight_eq_div_pow]
      rfl
    rw [hsh, hh2]
    generalize (n * (-1640531527 : Int32)).toUInt32.toNat = P
    have hpw : 2 ^ (32 - k) = 2 ^ (32 - (k + 1)) * 2 := by
      rw [← Nat.pow_succ]; congr 1; omega
    rw [hpw, ← Nat.div_div_eq_div_mul]
    omega
theorem own_rm0 (l : Launch) (Z : State) (a0 : Array Value) (hw : ∀ d ∈ tables_1, d.before a0 Z = true) (ws : List Jvm.Cond) (p1 : Int32) (p2 : Int32) (h0 : Heap) (n0 : Nat) (Z0 : n0 ≤ h0.size) :
    MetFree l x (head1 (Jvm.Cond.code x code maxLocals ret :: ws) room_1) (fun a U => a = #[(.int p1), (.int p2)] ∧ Z.Warmed39 U.vm ∧ U.heap = h0) (fun _ _ _ _ _ => True) (fun _ U o U' => ∃ v L, o = .returned v ∧ (v = some (.int 1) ∧ Fr n0 L) ∧ FrameEnd U o U' L room_1.cells room_1.slots) := by
  obtain ⟨f1, f2, f3, f4, f5⟩ := own_facts p1 p2
  by_cases hk : own_k p2 < (30 : Int32)
  · exact own_rm0b l Z a0 hw ws p1 p2 h0 n0 Z0 f1 f2 f3 f4 hk (f5 hk)
  · exact own_rm0a l Z a0 hw ws p1 p2 h0 n0 Z0 f1 f2 f3 f4 hk
set_option maxRecDepth 65536 in
set_option maxHeartbeats 40000000 in
theorem comes_1 {Post : Tables → Env → Array Value → State → Outcome → State → Prop} (hpost : ∀ tb e args s v u, (limb_1_1.after args s (.returned v) u = true ∧ limb_1_2.after args s (.returned v) u = true ∧ True) → FrameEnd s (.returned v) u (Jvm.fieldLocs frame_1_writes args s ++ Jvm.arrayLocs frame_1_arrays args s ++ Jvm.staticLocs frame_1_statics s) 0 0 → Post tb e args s (.returned v) u) :
    ArmFor flags0 classFile x code maxLocals ret World_1 tables_1 room_1 Calls_1 rest_1 Pre_1 Post := by
  intro l hfl _ _ p e ha hc hk s m args below hf hA hF happ hP
  obtain ⟨hcalls, hrest, hpre⟩ := hP
  obtain ⟨-, -, -, hnamed, -, -, -, hat⟩ := (Spec.applies_iff hf).mp happ
  obtain ⟨hg, hn⟩ := and_e (Cond.before_iff.mp (show (Jvm.Cond.and given_1 narrow_1).before args s = true from hpre))
  obtain ⟨gc, g0⟩ := and_e hg
  obtain ⟨b0, g1⟩ := and_e g0
  obtain ⟨w0, w1, rfl⟩ : ∃ w0 w1 : Value, args = #[w0, w1] := by
    have hs : args.size = 2 := by simpa [Cond.value, given_1] using gc
    obtain ⟨L⟩ := args
    match L, hs with
    | [w0, w1], _ => exact ⟨w0, w1, rfl⟩
  have hw := fun d (hd : d ∈ tables_1) => atoms_spec (ws := Jvm.Cond.code x code maxLocals ret :: tables_1) hat d (List.mem_cons_of_mem _ hd)
  obtain ⟨i0, ei0⟩ := is_v b0
  obtain rfl : w0 = (.int i0) := Option.some.inj ei0
  obtain ⟨i1, ei1⟩ := is_v g1
  obtain rfl : w1 = (.int i1) := Option.some.inj ei1
  obtain ⟨n, o, h1, h2, h3, _, L, rfl, ⟨rfl, N⟩, hq⟩ := own_rm0 l s _ hw tables_1 i0 i1 s.heap s.heap.size (Nat.le_refl _) p e ha hc hk s m _ below hf ((Spec.applies_iff_loose hf).mp happ).1 ⟨rfl, State.Warmed39.refl s, rfl⟩ trivial
  refine ⟨n, _, h1, h2, h3, hpost _ _ _ _ _ _ ⟨Cond.after_iff.mpr rfl, Cond.after_iff.mpr (eq_i res_at (Term.int_eval (1)) rfl), trivial⟩ ⟨hq.1, hq.2.1, (hq.2.2.sift fun y hy => Or.inr (N y hy)).mono (by decide) (by decide)⟩⟩
theorem main_1_1 : Claimed_1_1 := comes_1 fun _ _ _ _ _ _ h hF => ⟨h.1, hF⟩
theorem main_1_2 : Claimed_1_2 := comes_1 fun _ _ _ _ _ _ h hF => ⟨h.2.1, hF⟩
end Jvm.Pilot.@@N@@
namespace Jvm.Pilot.@@N@@
open Jvm Jvm.ClassFile Sem Op Lib Jvm.Free Jvm.Stand Jvm.Pilot.@@N@@.Jvm.D
/-! MADE BY PROGRAM (witnessworld.py) out of the Statement's table words and the real class files: 14 classes; the members and pool entries that the words name. The judged class is class 1, her method 1. -/
namespace start1
open Jvm.ClassFile
def u (s : String) : CpInfo := .utf8 (stringToUtf16 s)
/-- a pool by its gaps: so many unusable entries, then the entry; so many at the end -/
def gap : Nat → List CpInfo → List CpInfo
  | 0, r => r
  | n + 1, r => .unusable :: gap n r
def poolList (es : List (Nat × CpInfo)) (last : Nat) : List CpInfo := es.foldr (fun e r => gap e.1 (e.2 :: r)) (gap last [])
def pool (es : List (Nat × CpInfo)) (last : Nat) : Array CpInfo := ⟨poolList es last⟩
def fileOf (pool : Array CpInfo) (this : Nat) (attrs : Array Attribute := #[]) (ms : Array MethodInfo := #[]) (fl : Nat := 33) (sup : Nat := 0) (ifs : Array Nat := #[]) (fds : Array FieldInfo := #[]) : ClassFile where
  minorVersion := 0
  majorVersion := 65
  constantPool := pool
  accessFlags := fl
  thisClass := this
  superClass := sup
  interfaces := ifs
  fields := fds
  methods := ms
  attributes := attrs
def plain (name : String) (sup : Option ClassId) : Class where
  name := name
  kind := .ordinary
  loader := none
  accessFlags := 33
  super := sup
  interfaces := #[]
  cf := none
  fields := #[]
  methods := #[]
  instanceTypes := #[]
  staticTypes := #[]
  resolved := #[]
  callSites := []
  init := .initialized
  statics := none
  mirror := none

def pool0 : Array CpInfo := pool [(5, u "<init>"), (0, u "()V"), (1, .class_ 10), (1, u "java/lang/Object")] 113

def k0m0 : Method := { name := "<init>", desc := "()V", sig := { parameters := [], returnType := none }, accessFlags := 1, code := none }
/-- java/lang/Object -/
def k0 : Class := { plain "java/lang/Object" none with
  accessFlags := 33
  interfaces := #[]
  cf := some (fileOf pool0 8 #[] #[{ accessFlags := 1, nameIndex := 5, descriptorIndex := 6, attributes := #[] }] 33 0 #[] #[])
  fields := #[]
  methods := #[k0m0]
  instanceTypes := #[]
  staticTypes := #[]
  resolved := Array.replicate 124 none
  statics := none }

def pool1 : Array CpInfo := pool [(2, .class_ 4), (1, u "java/lang/Object"), (0, u "<init>"), (0, u "()V"), (0, .integer 2147483647), (0, .methodref 9 10), (0, .class_ 11), (0, .nameAndType 12 13), (0, u "com/example/spargo/spargo/NodeIndex"), (0, u "home"), (0, u "(II)I"), (0, .long 2654435769), (1, .long 4294967295), (1, .class_ 19), (0, u "com/example/spargo/spargo/NodeIndexHomePinLaw"), (2, u "law"), (0, u "(II)Z")] 3

def k1m0 : Method := { name := "<init>", desc := "()V", sig := { parameters := [], returnType := none }, accessFlags := 1, code := none }
def k1c1 : Code := { maxStack := 6, maxLocals := 10, code := code, exceptionTable := #[], attributes := #[] }
def k1m1 : Method := { name := "law", desc := "(II)Z", sig := { parameters := [.int, .int], returnType := some .boolean }, accessFlags := 9, code := some k1c1 }
/-- com/example/spargo/spargo/NodeIndexHomePinLaw -/
def k1 : Class := { plain "com/example/spargo/spargo/NodeIndexHomePinLaw" (some 0) with
  accessFlags := 49
  interfaces := #[]
  cf := some (fileOf pool1 18 #[] #[{ accessFlags := 1, nameIndex := 5, descriptorIndex := 6, attributes := #[] }, { accessFlags := 9, nameIndex := 22, descriptorIndex := 23, attributes := #[] }] 49 2 #[] #[])
  fields := #[]
  methods := #[k1m0, k1m1]
  instanceTypes := #[]
  staticTypes := #[]
  resolved := Array.replicate 27 none
  statics := none }

def pool2 : Array CpInfo := pool [(2, .class_ 4), (1, u "java/lang/Object"), (0, u "<init>"), (0, u "()V"), (4, .class_ 13), (1, u "com/example/spargo/spargo/NodeIndex"), (0, u "nodes"), (0, u "Lcom/example/spargo/spargo/IntList;"), (2, u "slots"), (0, u "[I"), (5, u "overflow"), (0, u "Ljava/util/TreeMap;"), (7, u "(I)I"), (11, u "(II)I"), (13, u "home"), (1, .class_ 64), (1, u "java/lang/Integer"), (35, .integer 2654435769), (0, .methodref 62 102), (0, .nameAndType 103 34), (0, u "numberOfLeadingZeros"), (0, u "FIRST_SLOTS"), (0, u "I"), (2, u "MAX_PROBES")] 10

def k2m0 : Method := { name := "<init>", desc := "()V", sig := { parameters := [], returnType := none }, accessFlags := 0, code := none }
def k2c1 : Code := { maxStack := 3, maxLocals := 2, code := prog_19_method_11_code, exceptionTable := #[], attributes := #[] }
def k2m1 : Method := { name := "home", desc := "(II)I", sig := { parameters := [.int, .int], returnType := some .int }, accessFlags := 8, code := some k2c1 }
/-- com/example/spargo/spargo/NodeIndex -/
def k2 : Class := { plain "com/example/spargo/spargo/NodeIndex" (some 0) with
  accessFlags := 32
  interfaces := #[]
  cf := some (fileOf pool2 11 #[] #[{ accessFlags := 0, nameIndex := 5, descriptorIndex := 6, attributes := #[] }, { accessFlags := 8, nameIndex := 60, descriptorIndex := 46, attributes := #[] }] 32 2 #[] #[{ accessFlags := 26, nameIndex := 104, descriptorIndex := 105, attributes := #[] }, { accessFlags := 26, nameIndex := 108, descriptorIndex := 105, attributes := #[] }, { accessFlags := 18, nameIndex := 14, descriptorIndex := 15, attributes := #[] }, { accessFlags := 2, nameIndex := 18, descriptorIndex := 19, attributes := #[] }, { accessFlags := 18, nameIndex := 25, descriptorIndex := 26, attributes := #[] }])
  fields := #[{ name := "FIRST_SLOTS", type := .int, accessFlags := 26, slot := 0, constantValue := 0 }, { name := "MAX_PROBES", type := .int, accessFlags := 26, slot := 1, constantValue := 0 }, { name := "nodes", type := (.object "com/example/spargo/spargo/IntList"), accessFlags := 18, slot := 0, constantValue := 0 }, { name := "slots", type := (.array .int), accessFlags := 2, slot := 1, constantValue := 0 }, { name := "overflow", type := (.object "java/util/TreeMap"), accessFlags := 18, slot := 2, constantValue := 0 }]
  methods := #[k2m0, k2m1]
  instanceTypes := #[(.object "com/example/spargo/spargo/IntList"), (.array .int), (.object "java/util/TreeMap")]
  staticTypes := #[.int, .int]
  resolved := Array.replicate 119 none
  statics := none }

def pool3 : Array CpInfo := pool [(1, .class_ 2), (0, u "java/io/Serializable"), (0, .class_ 4), (0, u "java/lang/Object")] 2

/-- java/io/Serializable -/
def k3 : Class := { plain "java/io/Serializable" (some 0) with
  accessFlags := 1537
  interfaces := #[]
  cf := some (fileOf pool3 1 #[] #[] 1537 3 #[] #[])
  fields := #[]
  methods := #[]
  instanceTypes := #[]
  staticTypes := #[]
  resolved := Array.replicate 7 none
  statics := none }

def pool4 : Array CpInfo := pool [(2, .class_ 4), (1, u "java/lang/Object"), (0, u "<init>"), (0, u "()V"), (1, .class_ 10), (1, u "java/lang/Number"), (2, .class_ 14), (0, u "java/io/Serializable"), (0, u "serialVersionUID"), (0, u "J")] 20

def k4m0 : Method := { name := "<init>", desc := "()V", sig := { parameters := [], returnType := none }, accessFlags := 1, code := none }
/-- java/lang/Number -/
def k4 : Class := { plain "java/lang/Number" (some 0) with
  accessFlags := 1057
  interfaces := #[3]
  cf := some (fileOf pool4 8 #[] #[{ accessFlags := 1, nameIndex := 5, descriptorIndex := 6, attributes := #[] }] 1057 2 #[13] #[{ accessFlags := 26, nameIndex := 15, descriptorIndex := 16, attributes := #[] }])
  fields := #[{ name := "serialVersionUID", type := .long, accessFlags := 26, slot := 0, constantValue := 0 }]
  methods := #[k4m0]
  instanceTypes := #[]
  staticTypes := #[.long]
  resolved := Array.replicate 37 none
  statics := none }

def pool5 : Array CpInfo := pool [(1, .class_ 2), (0, u "java/lang/Comparable"), (0, .class_ 4), (0, u "java/lang/Object")] 7

/-- java/lang/Comparable -/
def k5 : Class := { plain "java/lang/Comparable" (some 0) with
  accessFlags := 1537
  interfaces := #[]
  cf := some (fileOf pool5 1 #[] #[] 1537 3 #[] #[])
  fields := #[]
  methods := #[]
  instanceTypes := #[]
  staticTypes := #[]
  resolved := Array.replicate 12 none
  statics := none }

def pool6 : Array CpInfo := pool [(1, .class_ 2), (0, u "java/lang/constant/Constable"), (0, .class_ 4), (0, u "java/lang/Object")] 6

/-- java/lang/constant/Constable -/
def k6 : Class := { plain "java/lang/constant/Constable" (some 0) with
  accessFlags := 1537
  interfaces := #[]
  cf := some (fileOf pool6 1 #[] #[] 1537 3 #[] #[])
  fields := #[]
  methods := #[]
  instanceTypes := #[]
  staticTypes := #[]
  resolved := Array.replicate 11 none
  statics := none }

def pool7 : Array CpInfo := pool [(1, .class_ 2), (0, u "java/lang/constant/ConstantDesc"), (0, .class_ 4), (0, u "java/lang/Object")] 32

/-- java/lang/constant/ConstantDesc -/
def k7 : Class := { plain "java/lang/constant/ConstantDesc" (some 0) with
  accessFlags := 1537
  interfaces := #[]
  cf := some (fileOf pool7 1 #[] #[] 1537 3 #[] #[])
  fields := #[]
  methods := #[]
  instanceTypes := #[]
  staticTypes := #[]
  resolved := Array.replicate 37 none
  statics := none }

def pool8 : Array CpInfo := pool [(1, .class_ 2), (0, u "java/lang/Integer"), (16, u "digits"), (0, u "[C"), (32, u "numberOfLeadingZeros"), (0, u "(I)I"), (30, u "DigitOnes"), (0, u "[B"), (2, u "DigitTens"), (99, .class_ 190), (0, u "java/lang/Integer$IntegerCache"), (3, u "I"), (8, .class_ 204), (0, u "java/lang/Number"), (2, u "value"), (56, .integer 65536), (37, u "TYPE"), (0, u "Ljava/lang/Class;"), (0, .class_ 305), (0, u "java/lang/Comparable"), (0, .class_ 307), (0, u "java/lang/constant/Constable"), (0, .class_ 309), (0, u "java/lang/constant/ConstantDesc"), (0, u "MIN_VALUE"), (1, u "MAX_VALUE"), (3, u "SIZE"), (1, u "BYTES"), (1, u "serialVersionUID"), (0, u "J")] 131

def k8c0 : Code := { maxStack := 3, maxLocals := 2, code := jdk_33_method_47_code, exceptionTable := #[], attributes := #[] }
def k8m0 : Method := { name := "numberOfLeadingZeros", desc := "(I)I", sig := { parameters := [.int], returnType := some .int }, accessFlags := 9, code := some k8c0 }
/-- java/lang/Integer -/
def k8 : Class := { plain "java/lang/Integer" (some 4) with
  accessFlags := 49
  interfaces := #[5, 6, 7]
  cf := some (fileOf pool8 1 #[.nestMembers #[189]] #[{ accessFlags := 9, nameIndex := 53, descriptorIndex := 54, attributes := #[] }] 49 203 #[304, 306, 308] #[{ accessFlags := 25, nameIndex := 310, descriptorIndex := 194, attributes := #[] }, { accessFlags := 25, nameIndex := 312, descriptorIndex := 194, attributes := #[] }, { accessFlags := 25, nameIndex := 302, descriptorIndex := 303, attributes := #[] }, { accessFlags := 24, nameIndex := 19, descriptorIndex := 20, attributes := #[] }, { accessFlags := 24, nameIndex := 89, descriptorIndex := 86, attributes := #[] }, { accessFlags := 24, nameIndex := 85, descriptorIndex := 86, attributes := #[] }, { accessFlags := 18, nameIndex := 207, descriptorIndex := 194, attributes := #[] }, { accessFlags := 25, nameIndex := 316, descriptorIndex := 194, attributes := #[] }, { accessFlags := 25, nameIndex := 318, descriptorIndex := 194, attributes := #[] }, { accessFlags := 26, nameIndex := 320, descriptorIndex := 321, attributes := #[] }])
  fields := #[{ name := "MIN_VALUE", type := .int, accessFlags := 25, slot := 0, constantValue := 0 }, { name := "MAX_VALUE", type := .int, accessFlags := 25, slot := 1, constantValue := 0 }, { name := "TYPE", type := (.object "java/lang/Class"), accessFlags := 25, slot := 2, constantValue := 0 }, { name := "digits", type := (.array .char), accessFlags := 24, slot := 3, constantValue := 0 }, { name := "DigitTens", type := (.array .byte), accessFlags := 24, slot := 4, constantValue := 0 }, { name := "DigitOnes", type := (.array .byte), accessFlags := 24, slot := 5, constantValue := 0 }, { name := "value", type := .int, accessFlags := 18, slot := 0, constantValue := 0 }, { name := "SIZE", type := .int, accessFlags := 25, slot := 6, constantValue := 0 }, { name := "BYTES", type := .int, accessFlags := 25, slot := 7, constantValue := 0 }, { name := "serialVersionUID", type := .long, accessFlags := 26, slot := 8, constantValue := 0 }]
  methods := #[k8m0]
  instanceTypes := #[.int]
  staticTypes := #[.int, .int, (.object "java/lang/Class"), (.array .char), (.array .byte), (.array .byte), .int, .int, .long]
  resolved := Array.replicate 453 none
  statics := none }

def pool9 : Array CpInfo := pool [(1, u "java/lang/Cloneable"), (0, .class_ 1), (0, u "java/lang/Object"), (0, .class_ 3)] 3

/-- java/lang/Cloneable -/
def k9 : Class := { plain "java/lang/Cloneable" (some 0) with
  accessFlags := 1537
  interfaces := #[]
  cf := some (fileOf pool9 2 #[] #[] 1537 4 #[] #[])
  fields := #[]
  methods := #[]
  instanceTypes := #[]
  staticTypes := #[]
  resolved := Array.replicate 8 none
  statics := none }

/-- the primitive byte -/
def k10 : Class := { plain "byte" none with kind := .primitive 'B', accessFlags := 0x411 }
/-- [B -/
def k11 : Class := { plain "[B" (some 0) with kind := .array 10 .byte, interfaces := #[9, 3], accessFlags := 1041 }

/-- the primitive int -/
def k12 : Class := { plain "int" none with kind := .primitive 'I', accessFlags := 0x411 }
/-- [I -/
def k13 : Class := { plain "[I" (some 0) with kind := .array 12 .int, interfaces := #[9, 3], accessFlags := 1041 }

def heap : Heap := #[]
def classes : Array Class := #[k0, k1, k2, k3, k4, k5, k6, k7, k8, k9, k10, k11, k12, k13]
def interned : List (Array UInt16 × Addr) := []
def slotsUsed : Nat := 0
def theMethod : MethodId := ⟨1, 1⟩
def args0 : Array Value := #[.int 5, .int 7]
def aboutOver (below : List Frame) : State where
  vm := { classes := classes, interned := interned.toArray }
  heap := heap
  slotsUsed := slotsUsed
  threads := #[{ frames := .invoking theMethod args0 :: below }]
def below0 : List Frame := [.native { method := ⟨0, 0⟩, args := #[] }]
def about1 : State := aboutOver below0
def p0 : Program := .bare "" "" ""
def e0 : Env := launch0.env 0 0 0
theorem w_frames : about1.frames = Frame.invoking theMethod args0 :: below0 := rfl
set_option maxRecDepth 65536 in
theorem w_args : argsFit about1.vm theMethod args0 = true := by decide +kernel
set_option maxRecDepth 65536 in
theorem w_heap : heapFits about1 = true := by decide +kernel
set_option maxRecDepth 65536 in
theorem w_runnable : about1.curStatus? = some .runnable := by decide +kernel
set_option maxRecDepth 65536 in
theorem w_alone : about1.alone = true := by decide +kernel
set_option maxRecDepth 65536 in
theorem w_named : about1.methodNamed? x = some theMethod := by decide +kernel
set_option maxRecDepth 65536 in
theorem w_hears : about1.hears theMethod below0 = true := by decide +kernel
set_option maxRecDepth 65536 in
theorem w_ripe : about1.ripe theMethod args0 below0 = true := by decide +kernel
theorem w_running : about1.status = .running := rfl
set_option maxRecDepth 65536 in
theorem w_room : about1.hasRoom e0.platform room_1 = true :=
  launch0.hasRoom_least _ room_1 (by decide +kernel) (by decide +kernel) (by decide +kernel) (by decide +kernel) (by decide +kernel) (by decide +kernel)
theorem allAtoms_all (ts : List Jvm.Cond) (a : Array Jvm.Value) (st : Jvm.State) : (allAtoms ts).before a st = ts.all (fun c => c.before a st) := by
  induction ts with
  | nil => rfl
  | cons c t ih =>
    show (Jvm.Cond.and c (allAtoms t)).before a st = _
    rw [Jvm.Cond.before_and, ih, List.all_cons]
def words1 : List Jvm.Cond := Jvm.Cond.code x code maxLocals ret :: tables_1
/-- a 'code' word, met by the world's own term for the bytes: nothing is compared byte by byte -/
theorem code_word {y : MethodName} {bytes : ByteArray} {mx : Nat} {rt : Option FieldType} {a : Array Value} {s : State} {m : MethodId} {meth : Method} {c : Code} (h1 : s.methodNamed? y = some m) (h2 : s.vm.method? m = some meth) (h3 : meth.code = some c) (h4 : c.code = bytes)
    (h5 : (c.maxLocals == mx && c.exceptionTable.isEmpty && decide (c.maxStack ≤ mostOperands) && decide (meth.sig.returnType = rt) && !meth.locks && decide (parseMethodDescriptor y.desc = some meth.sig)) = true) : (Jvm.Cond.code y bytes mx rt).before a s = true := by
  simp only [Bool.and_eq_true, beq_iff_eq, Bool.not_eq_true', decide_eq_true_eq] at h5
  obtain ⟨⟨⟨⟨⟨g1, g2⟩, g3⟩, g4⟩, g5⟩, g6⟩ := h5
  simp [Cond.before, Cond.holds, Cond.value, h1, h2, h3, h4, g1, g2, g3, g4, g5, g6]
def isCode : Jvm.Cond → Bool
  | .code _ _ _ _ => true
  | _ => false
theorem all_split {L : List Jvm.Cond} {P : Jvm.Cond → Bool} (h1 : L.all (fun c => isCode c || P c) = true) (h2 : ∀ c ∈ L.filter isCode, P c = true) : L.all P = true := by
  refine List.all_eq_true.mpr fun c hc => ?_
  have h := List.all_eq_true.mp h1 c hc
  rcases Bool.eq_false_or_eq_true (isCode c) with hi | hi
  · exact h2 c (List.mem_filter.mpr ⟨hc, hi⟩)
  · simpa [hi] using h
set_option maxRecDepth 65536 in
theorem w_c0 : (Jvm.Cond.code x code maxLocals ret).before args0 about1 = true := code_word (m := ⟨1, 1⟩) (meth := k1m1) (c := k1c1) (by decide +kernel) rfl rfl rfl (by decide +kernel)
set_option maxRecDepth 65536 in
theorem w_c1 : (Jvm.Cond.code ({ cls := "com/example/spargo/spargo/NodeIndex", name := "home", desc := "(II)I" } : Jvm.MethodName) prog_19_method_11_code (2 : Nat) (Option.some Jvm.ClassFile.FieldType.int)).before args0 about1 = true := code_word (m := ⟨2, 1⟩) (meth := k2m1) (c := k2c1) (by decide +kernel) rfl rfl rfl (by decide +kernel)
set_option maxRecDepth 65536 in
theorem w_c2 : (Jvm.Cond.code ({ cls := "java/lang/Integer", name := "numberOfLeadingZeros", desc := "(I)I" } : Jvm.MethodName) jdk_33_method_47_code (2 : Nat) (Option.some Jvm.ClassFile.FieldType.int)).before args0 about1 = true := code_word (m := ⟨8, 0⟩) (meth := k8m0) (c := k8c0) (by decide +kernel) rfl rfl rfl (by decide +kernel)
def codes1 : List Jvm.Cond := [Jvm.Cond.code x code maxLocals ret, Jvm.Cond.code ({ cls := "com/example/spargo/spargo/NodeIndex", name := "home", desc := "(II)I" } : Jvm.MethodName) prog_19_method_11_code (2 : Nat) (Option.some Jvm.ClassFile.FieldType.int), Jvm.Cond.code ({ cls := "java/lang/Integer", name := "numberOfLeadingZeros", desc := "(I)I" } : Jvm.MethodName) jdk_33_method_47_code (2 : Nat) (Option.some Jvm.ClassFile.FieldType.int)]
set_option maxRecDepth 65536 in
theorem codes_eq : words1.filter isCode = codes1 := rfl
theorem w_codes : ∀ c ∈ words1.filter isCode, c.before args0 about1 = true := by
  rw [codes_eq]
  intro c hc
  simp only [codes1, List.mem_cons, List.not_mem_nil, or_false] at hc
  rcases hc with rfl | rfl | rfl
  · exact w_c0
  · exact w_c1
  · exact w_c2
set_option maxRecDepth 65536 in
theorem w_t1 : words1.all (fun c => isCode c || c.before args0 about1) = true := by decide +kernel
theorem w_tables : (allAtoms (Jvm.Cond.code x code maxLocals ret :: tables_1)).before args0 about1 = true := by
  rw [allAtoms_all]
  show words1.all (fun c => c.before args0 about1) = true
  refine all_split ?_ w_codes
  rw [w_t1]
set_option maxRecDepth 65536 in
theorem w_case : (Jvm.Cond.and given_1 narrow_1).before args0 about1 = true := by decide +kernel
theorem w_applies : (headSpec (Jvm.Cond.code x code maxLocals ret :: tables_1) room_1).applies x e0.platform about1 = true :=
  (Spec.applies_iff w_frames).mpr ⟨w_running, w_runnable, w_alone, w_named, w_hears, w_ripe, w_room, w_tables⟩
theorem atStart : AtStart classFile x code maxLocals ret World_1 tables_1 room_1 Calls_1 rest_1 Pre_1 launch0 p0 e0 about1 theMethod args0 below0 :=
  ⟨lists_1, trivial, launch0.admits_env _ _ _, launch0.least_env, fairChoices_fair.cas, fairChoices_fair.clock, w_frames, w_args, w_heap, w_applies, trivial, trivial, w_case⟩
end start1
theorem witness_1 : WitnessClaimed_1 := ⟨start1.p0, start1.e0, start1.about1, start1.theMethod, start1.args0, start1.below0, start1.atStart⟩
end Jvm.Pilot.@@N@@
