import JvmDerived
import JvmDerived.Pilot.@@N@@Statement
import JvmDerived.Pilot.@@N@@Code
set_option linter.unusedVariables false
set_option linter.unusedSimpArgs false
namespace Jvm.RoadKit
open Sem ClassFile Op Lib Jvm.Stand Jvm.Free Jvm.LawKit
section New
variable {p : Program} {l : Launch} {e : Env} {R : Room} {s : State} {m : MethodId} {args : Array Value} {below : List Frame} {meth : Method} {c : Code} {T : State} {locs : List Loc} {cells slots : Nat}
theorem retI (X : Stand p l e R s m args below meth c T locs cells slots) (hx : p.tables.exec = Jvm.exec) {pc : Nat} {Ls : Array Slot} {z : Int32} {rest : List Value} (hret : meth.sig.returnType = some .int) (hd : decode c.code pc = .ok (.ireturn, 1)) {fs : List Frame}
    (hl : ∀ (f : JFrame) (acts : List Action), f.method = m → f.locked = none → f.entered = [] → (doReturn e (T.setTop f) acts (some (.int z))).1 = T.setFrames fs) : Steps p.tables e below (T.setTop (mkF m pc Ls (.int z :: rest))) (T.setFrames fs) := by
  have hm' : T.vm.method? m = some meth := X.method'
  have hn : narrow .int (.int z) = .int z := rfl
  show Steps p.tables e below (T.setTop { method := m, pc := pc, locals := Ls, stack := _ :: rest, locked := none }) _
  jvm_step X.here [X.here.top, hx, hd, hm', hret, hn]
  first | (intro acts; rw [hl _ acts rfl rfl rfl]) | rw [hl _ _ rfl rfl rfl]
  exact Steps.refl _
end New
end Jvm.RoadKit
namespace Jvm.Pilot.@@N@@
open Jvm Jvm.ClassFile Sem Op Lib Jvm.Free Jvm.Stand Jvm.LawKit Jvm.RoadKit Bundle Jvm.Pilot.@@N@@.Jvm.D
def own_Q (r : Option Value) (n0 : Nat) (h0 : Heap) (v : Option Value) (h : Heap) (L : List Loc) : Prop := v = r ∧ Fr n0 L ∧ h = h0
theorem d1_0 : decode prog_117_method_4_code 0 = .ok (.iload_n 0, 1) := by decide +kernel
theorem d1_1 : decode prog_117_method_4_code 1 = .ok (.bipush 32, 2) := by decide +kernel
theorem d1_3 : decode prog_117_method_4_code 3 = .ok (.if_icmp .eq 21, 3) := by decide +kernel
theorem d1_24 : decode prog_117_method_4_code 24 = .ok (.iconst 1, 1) := by decide +kernel
theorem d1_25 : decode prog_117_method_4_code 25 = .ok (.goto 4, 3) := by decide +kernel
theorem d1_29 : decode prog_117_method_4_code 29 = .ok (.ireturn, 1) := by decide +kernel
theorem d1_6 : decode prog_117_method_4_code 6 = .ok (.iload_n 0, 1) := by decide +kernel
theorem d1_7 : decode prog_117_method_4_code 7 = .ok (.bipush 9, 2) := by decide +kernel
theorem d1_9 : decode prog_117_method_4_code 9 = .ok (.if_icmp .eq 15, 3) := by decide +kernel
theorem d1_12 : decode prog_117_method_4_code 12 = .ok (.iload_n 0, 1) := by decide +kernel
theorem d1_13 : decode prog_117_method_4_code 13 = .ok (.bipush 13, 2) := by decide +kernel
theorem d1_15 : decode prog_117_method_4_code 15 = .ok (.if_icmp .eq 9, 3) := by decide +kernel
theorem d1_18 : decode prog_117_method_4_code 18 = .ok (.iload_n 0, 1) := by decide +kernel
theorem d1_19 : decode prog_117_method_4_code 19 = .ok (.bipush 10, 2) := by decide +kernel
theorem d1_21 : decode prog_117_method_4_code 21 = .ok (.if_icmp .ne 7, 3) := by decide +kernel
theorem d1_28 : decode prog_117_method_4_code 28 = .ok (.iconst 0, 1) := by decide +kernel
def own_t1_F (x : Int32) : Int32 := (if x = (32 : Int32) then (1 : Int32) else (if x = (9 : Int32) then (1 : Int32) else (if x = (13 : Int32) then (1 : Int32) else (if x = (10 : Int32) then (1 : Int32) else (0 : Int32)))))
set_option maxRecDepth 65536 in
set_option maxHeartbeats 40000000 in
theorem own_t1 {p : Program} {l : Launch} {e : Env} {R : Room} {s : State} {m : MethodId} {args : Array Value} {below : List Frame} {meth : Method} {c : Code} {T0 : State} {locs : List Loc} {cells slots : Nat} {Z : State} {a0 : Array Value} (X : Stand p l e R s m args below meth c T0 locs cells slots) (hx : p.tables.exec = Jvm.exec) (hZ : Z.Warmed39 s.vm) (hw : ∀ d ∈ tables_1, d.before a0 Z = true) (hby : c.code = prog_117_method_4_code) (hown : s.vm.findClass "com/example/unfold_axioms/unfoldaxioms/owlapi/TextSyntax" = some m.cls) (hret : meth.sig.returnType = some .boolean) (x : Int32) {fs : List Frame}
    (hr : ∀ (f : JFrame) (acts : List Action), f.method = m → f.locked = none → f.entered = [] → (doReturn e (T0.setTop f) acts (some (.int (own_t1_F x)))).1 = T0.setFrames fs) :
    Steps p.tables e below (T0.setTop (mkF m 0 #[.val (.int x)] [])) (T0.setFrames fs) := by
  show Steps p.tables e below (T0.setTop (mkF m 0 #[.val (.int x)] [])) _
  refine XS.iloadN X.here hx rfl (hb hby d1_0) rfl ?_
  show Steps p.tables e below (T0.setTop (mkF m 1 #[.val (.int x)] [(.int x)])) _
  refine XS.bipush X.here hx rfl (hb hby d1_1) ?_
  show Steps p.tables e below (T0.setTop (mkF m 3 #[.val (.int x)] [(.int (32 : Int32)), (.int x)])) _
  by_cases hc3_1 : x = (32 : Int32)
  · refine XS.icmpYes X.here hx rfl (pc0 := 3) (pc' := 24) rfl (hb hby d1_3) rfl (teq hc3_1).1 (by decide) (by decide) ?_
    show Steps p.tables e below (T0.setTop (mkF m 24 #[.val (.int x)] [])) _
    refine XS.iconst X.here hx rfl (hb hby d1_24) ?_
    show Steps p.tables e below (T0.setTop (mkF m 25 #[.val (.int x)] [(.int (1 : Int32))])) _
    refine XS.goto X.here hx rfl (pc0 := 25) (pc' := 29) rfl (hb hby d1_25) (by decide) (by decide) ?_
    show Steps p.tables e below (T0.setTop (mkF m 29 #[.val (.int x)] [(.int (1 : Int32))])) _
    have hF : own_t1_F x = (1 : Int32) := by unfold own_t1_F; simp only [if_pos hc3_1]
    rw [hF] at hr
    exact retN X hx (t := .boolean) hret (by simp) (hb hby d1_29) hr
  · refine XS.icmpNo X.here hx rfl (hb hby d1_3) rfl (feq hc3_1).1 ?_
    show Steps p.tables e below (T0.setTop (mkF m 6 #[.val (.int x)] [])) _
    refine XS.iloadN X.here hx rfl (hb hby d1_6) rfl ?_
    show Steps p.tables e below (T0.setTop (mkF m 7 #[.val (.int x)] [(.int x)])) _
    refine XS.bipush X.here hx rfl (hb hby d1_7) ?_
    show Steps p.tables e below (T0.setTop (mkF m 9 #[.val (.int x)] [(.int (9 : Int32)), (.int x)])) _
    by_cases hc9_2 : x = (9 : Int32)
    · refine XS.icmpYes X.here hx rfl (pc0 := 9) (pc' := 24) rfl (hb hby d1_9) rfl (teq hc9_2).1 (by decide) (by decide) ?_
      show Steps p.tables e below (T0.setTop (mkF m 24 #[.val (.int x)] [])) _
      refine XS.iconst X.here hx rfl (hb hby d1_24) ?_
      show Steps p.tables e below (T0.setTop (mkF m 25 #[.val (.int x)] [(.int (1 : Int32))])) _
      refine XS.goto X.here hx rfl (pc0 := 25) (pc' := 29) rfl (hb hby d1_25) (by decide) (by decide) ?_
      show Steps p.tables e below (T0.setTop (mkF m 29 #[.val (.int x)] [(.int (1 : Int32))])) _
      have hF : own_t1_F x = (1 : Int32) := by unfold own_t1_F; simp only [if_neg hc3_1, if_pos hc9_2]
      rw [hF] at hr
      exact retN X hx (t := .boolean) hret (by simp) (hb hby d1_29) hr
    · refine XS.icmpNo X.here hx rfl (hb hby d1_9) rfl (feq hc9_2).1 ?_
      show Steps p.tables e below (T0.setTop (mkF m 12 #[.val (.int x)] [])) _
      refine XS.iloadN X.here hx rfl (hb hby d1_12) rfl ?_
      show Steps p.tables e below (T0.setTop (mkF m 13 #[.val (.int x)] [(.int x)])) _
      refine XS.bipush X.here hx rfl (hb hby d1_13) ?_
      show Steps p.tables e below (T0.setTop (mkF m 15 #[.val (.int x)] [(.int (13 : Int32)), (.int x)])) _
      by_cases hc15_3 : x = (13 : Int32)
      · refine XS.icmpYes X.here hx rfl (pc0 := 15) (pc' := 24) rfl (hb hby d1_15) rfl (teq hc15_3).1 (by decide) (by decide) ?_
        show Steps p.tables e below (T0.setTop (mkF m 24 #[.val (.int x)] [])) _
        refine XS.iconst X.here hx rfl (hb hby d1_24) ?_
        show Steps p.tables e below (T0.setTop (mkF m 25 #[.val (.int x)] [(.int (1 : Int32))])) _
        refine XS.goto X.here hx rfl (pc0 := 25) (pc' := 29) rfl (hb hby d1_25) (by decide) (by decide) ?_
        show Steps p.tables e below (T0.setTop (mkF m 29 #[.val (.int x)] [(.int (1 : Int32))])) _
        have hF : own_t1_F x = (1 : Int32) := by unfold own_t1_F; simp only [if_neg hc3_1, if_neg hc9_2, if_pos hc15_3]
        rw [hF] at hr
        exact retN X hx (t := .boolean) hret (by simp) (hb hby d1_29) hr
      · refine XS.icmpNo X.here hx rfl (hb hby d1_15) rfl (feq hc15_3).1 ?_
        show Steps p.tables e below (T0.setTop (mkF m 18 #[.val (.int x)] [])) _
        refine XS.iloadN X.here hx rfl (hb hby d1_18) rfl ?_
        show Steps p.tables e below (T0.setTop (mkF m 19 #[.val (.int x)] [(.int x)])) _
        refine XS.bipush X.here hx rfl (hb hby d1_19) ?_
        show Steps p.tables e below (T0.setTop (mkF m 21 #[.val (.int x)] [(.int (10 : Int32)), (.int x)])) _
        by_cases hc21_4 : x = (10 : Int32)
        · refine XS.icmpNo X.here hx rfl (hb hby d1_21) rfl (teq hc21_4).2 ?_
          show Steps p.tables e below (T0.setTop (mkF m 24 #[.val (.int x)] [])) _
          refine XS.iconst X.here hx rfl (hb hby d1_24) ?_
          show Steps p.tables e below (T0.setTop (mkF m 25 #[.val (.int x)] [(.int (1 : Int32))])) _
          refine XS.goto X.here hx rfl (pc0 := 25) (pc' := 29) rfl (hb hby d1_25) (by decide) (by decide) ?_
          show Steps p.tables e below (T0.setTop (mkF m 29 #[.val (.int x)] [(.int (1 : Int32))])) _
          have hF : own_t1_F x = (1 : Int32) := by unfold own_t1_F; simp only [if_neg hc3_1, if_neg hc9_2, if_neg hc15_3, if_pos hc21_4]
          rw [hF] at hr
          exact retN X hx (t := .boolean) hret (by simp) (hb hby d1_29) hr
        · refine XS.icmpYes X.here hx rfl (pc0 := 21) (pc' := 28) rfl (hb hby d1_21) rfl (feq hc21_4).2 (by decide) (by decide) ?_
          show Steps p.tables e below (T0.setTop (mkF m 28 #[.val (.int x)] [])) _
          refine XS.iconst X.here hx rfl (hb hby d1_28) ?_
          show Steps p.tables e below (T0.setTop (mkF m 29 #[.val (.int x)] [(.int (0 : Int32))])) _
          have hF : own_t1_F x = (0 : Int32) := by unfold own_t1_F; simp only [if_neg hc3_1, if_neg hc9_2, if_neg hc15_3, if_neg hc21_4]
          rw [hF] at hr
          exact retN X hx (t := .boolean) hret (by simp) (hb hby d1_29) hr
theorem pn_1 : plainName "com/example/unfold_axioms/unfoldaxioms/owlapi/TextSyntax" = true := by first | (simp [plainName, overriddenIn]; done) | decide +kernel
theorem ef_1 (m : MethodId) (p1 : Int32) : entryFrame m #[(.int p1)] 1 = mkF m 0 #[.val (.int p1)] [] := by first | (simp [entryFrame, mkF, argsToLocals, Value.category]; done) | rfl
def own_rm1_F (p1 : Int32) : Int32 := (own_t1_F p1)
set_option maxRecDepth 65536 in
set_option maxHeartbeats 40000000 in
theorem own_rm1 (l : Launch) (Z : State) (a0 : Array Value) (hw : ∀ d ∈ tables_1, d.before a0 Z = true) (ws : List Jvm.Cond) (p1 : Int32) (h0 : Heap) (n0 : Nat) (Z0 : n0 ≤ h0.size) :
    MetFree l (⟨"com/example/unfold_axioms/unfoldaxioms/owlapi/TextSyntax", "isWhiteSpace", "(I)Z"⟩ : MethodName) (head1 (Jvm.Cond.code (⟨"com/example/unfold_axioms/unfoldaxioms/owlapi/TextSyntax", "isWhiteSpace", "(I)Z"⟩ : MethodName) prog_117_method_4_code 1 (some .boolean) :: ws) ({ frames := 0, cells := 0, slots := 0, locals := 0 } : Room)) (fun a U => a = #[(.int p1)] ∧ Z.Warmed39 U.vm ∧ U.heap = h0) (fun _ _ _ _ _ => True) (fun _ U o U' => ∃ v L, o = .returned v ∧ (own_Q (some (.int (own_rm1_F p1))) n0 h0 v U'.heap L) ∧ FrameEnd U o U' L ({ frames := 0, cells := 0, slots := 0, locals := 0 } : Room).cells ({ frames := 0, cells := 0, slots := 0, locals := 0 } : Room).slots) := by
  refine MetFree.of_bodySF (plainFor_of_name pn_1) hisR ?_
  intro p e s m args below meth c s₁ Bd hml0 hP hK
  obtain ⟨rfl, hZ, hh⟩ := hP
  have hx := Bd.exec
  have hby := Bd.bytes
  have hml : c.maxLocals = 1 := hml0
  have hown : s.vm.findClass "com/example/unfold_axioms/unfoldaxioms/owlapi/TextSyntax" = some m.cls := findClass_of_methodNamed Bd.named
  have X0 : Stand p l e ({ frames := 0, cells := 0, slots := 0, locals := 0 } : Room) s m #[(.int p1)] below meth c s₁ [] 0 0 := Stand.of_body Bd
  have e0 : s₁.heap = h0 := by rw [← hh, Bd.state]; rfl
  have N0 := Fr.nil n0
  have pre0 : ∀ t, Steps p.tables e below (s₁.setTop (mkF m 0 #[.val (.int p1)] [])) t → Steps p.tables e below (s₁.setTop (entryFrame m #[(.int p1)] 1)) t := fun t k => castTop (ef_1 m p1) k
  obtain ⟨fs, hr, hrun, hended, hW, hsame⟩ := X0.leave (v := some (.int (own_t1_F p1))) (fun h => by rw [Bd.returns] at h; cases h)
  refine ⟨_, _, pre0 _ ?_, hrun, hended, _, _, rfl, ?_, ⟨_, rfl⟩, hW, hsame.mono (by decide) (by decide)⟩
  · exact own_t1 X0 hx hZ hw hby hown Bd.returns p1 hr
  · exact ⟨rfl, N0, e0⟩
def own_t0_F (x : Int32) (g : Int32) : Int32 := (if x < (9 : Int32) then (if x = (32 : Int32) then (if g = (1 : Int32) then (1 : Int32) else (0 : Int32)) else (if g = (0 : Int32) then (1 : Int32) else (0 : Int32))) else (if (13 : Int32) < x then (if x = (32 : Int32) then (if g = (1 : Int32) then (1 : Int32) else (0 : Int32)) else (if g = (0 : Int32) then (1 : Int32) else (0 : Int32))) else (if x = (11 : Int32) then (if x = (32 : Int32) then (if g = (1 : Int32) then (1 : Int32) else (0 : Int32)) else (if g = (0 : Int32) then (1 : Int32) else (0 : Int32))) else (if x = (12 : Int32) then (if x = (32 : Int32) then (if g = (1 : Int32) then (1 : Int32) else (0 : Int32)) else (if g = (0 : Int32) then (1 : Int32) else (0 : Int32))) else (if x = (32 : Int32) then (if g = (1 : Int32) then (1 : Int32) else (0 : Int32)) else (if g = (1 : Int32) then (1 : Int32) else (0 : Int32)))))))
set_option maxRecDepth 65536 in
set_option maxHeartbeats 40000000 in
theorem own_t0 {p : Program} {l : Launch} {e : Env} {R : Room} {s : State} {m : MethodId} {args : Array Value} {below : List Frame} {meth : Method} {c : Code} {T0 : State} {locs : List Loc} {cells slots : Nat} {Z : State} {a0 : Array Value} (X : Stand p l e R s m args below meth c T0 locs cells slots) (hx : p.tables.exec = Jvm.exec) (hZ : Z.Warmed39 s.vm) (hw : ∀ d ∈ tables_1, d.before a0 Z = true) (hby : c.code = code) (hown : s.vm.findClass "com/example/unfold_axioms/unfoldaxioms/owlapi/TextSyntaxIsWhiteSpacePinLaw" = some m.cls) (hret : meth.sig.returnType = some .boolean) (x : Int32) (g : Int32) {fs : List Frame}
    (hr : ∀ (f : JFrame) (acts : List Action), f.method = m → f.locked = none → f.entered = [] → (doReturn e (T0.setTop f) acts (some (.int (own_t0_F x g)))).1 = T0.setFrames fs) :
    Steps p.tables e below (T0.setTop (mkF m 5 #[.val (.int x), .val (.int g), .unset, .unset] [])) (T0.setFrames fs) := by
  show Steps p.tables e below (T0.setTop (mkF m 5 #[.val (.int x), .val (.int g), .unset, .unset] [])) _
  refine XS.iloadN X.here hx rfl (hb hby at_5) rfl ?_
  show Steps p.tables e below (T0.setTop (mkF m 6 #[.val (.int x), .val (.int g), .unset, .unset] [(.int x)])) _
  refine XS.bipush X.here hx rfl (hb hby at_6) ?_
  show Steps p.tables e below (T0.setTop (mkF m 8 #[.val (.int x), .val (.int g), .unset, .unset] [(.int (9 : Int32)), (.int x)])) _
  by_cases hc8_1 : x < (9 : Int32)
  · refine XS.icmpYes X.here hx rfl (pc0 := 8) (pc' := 33) rfl (hb hby at_8) rfl (tlt hc8_1).1 (by decide) (by decide) ?_
    show Steps p.tables e below (T0.setTop (mkF m 33 #[.val (.int x), .val (.int g), .unset, .unset] [])) _
    refine XS.iconst X.here hx rfl (hb hby at_33) ?_
    show Steps p.tables e below (T0.setTop (mkF m 34 #[.val (.int x), .val (.int g), .unset, .unset] [(.int (0 : Int32))])) _
    refine XS.istoreN X.here hx rfl (hb hby at_34) rfl (l' := #[.val (.int x), .val (.int g), .val (.int (0 : Int32)), .unset]) rfl ?_
    show Steps p.tables e below (T0.setTop (mkF m 35 #[.val (.int x), .val (.int g), .val (.int (0 : Int32)), .unset] [])) _
    refine XS.iloadN X.here hx rfl (hb hby at_35) rfl ?_
    show Steps p.tables e below (T0.setTop (mkF m 36 #[.val (.int x), .val (.int g), .val (.int (0 : Int32)), .unset] [(.int x)])) _
    refine XS.bipush X.here hx rfl (hb hby at_36) ?_
    show Steps p.tables e below (T0.setTop (mkF m 38 #[.val (.int x), .val (.int g), .val (.int (0 : Int32)), .unset] [(.int (32 : Int32)), (.int x)])) _
    by_cases hc38_2 : x = (32 : Int32)
    · refine XS.icmpYes X.here hx rfl (pc0 := 38) (pc' := 45) rfl (hb hby at_38) rfl (teq hc38_2).1 (by decide) (by decide) ?_
      show Steps p.tables e below (T0.setTop (mkF m 45 #[.val (.int x), .val (.int g), .val (.int (0 : Int32)), .unset] [])) _
      refine XS.iconst X.here hx rfl (hb hby at_45) ?_
      show Steps p.tables e below (T0.setTop (mkF m 46 #[.val (.int x), .val (.int g), .val (.int (0 : Int32)), .unset] [(.int (1 : Int32))])) _
      refine XS.goto X.here hx rfl (pc0 := 46) (pc' := 50) rfl (hb hby at_46) (by decide) (by decide) ?_
      show Steps p.tables e below (T0.setTop (mkF m 50 #[.val (.int x), .val (.int g), .val (.int (0 : Int32)), .unset] [(.int (1 : Int32))])) _
      refine XS.istoreN X.here hx rfl (hb hby at_50) rfl (l' := #[.val (.int x), .val (.int g), .val (.int (0 : Int32)), .val (.int (1 : Int32))]) rfl ?_
      show Steps p.tables e below (T0.setTop (mkF m 51 #[.val (.int x), .val (.int g), .val (.int (0 : Int32)), .val (.int (1 : Int32))] [])) _
      refine XS.iloadN X.here hx rfl (hb hby at_51) rfl ?_
      show Steps p.tables e below (T0.setTop (mkF m 52 #[.val (.int x), .val (.int g), .val (.int (0 : Int32)), .val (.int (1 : Int32))] [(.int g)])) _
      refine XS.iloadN X.here hx rfl (hb hby at_52) rfl ?_
      show Steps p.tables e below (T0.setTop (mkF m 53 #[.val (.int x), .val (.int g), .val (.int (0 : Int32)), .val (.int (1 : Int32))] [(.int (1 : Int32)), (.int g)])) _
      by_cases hc53_3 : g = (1 : Int32)
      · refine XS.icmpNo X.here hx rfl (hb hby at_53) rfl (teq hc53_3).2 ?_
        show Steps p.tables e below (T0.setTop (mkF m 56 #[.val (.int x), .val (.int g), .val (.int (0 : Int32)), .val (.int (1 : Int32))] [])) _
        refine XS.iconst X.here hx rfl (hb hby at_56) ?_
        show Steps p.tables e below (T0.setTop (mkF m 57 #[.val (.int x), .val (.int g), .val (.int (0 : Int32)), .val (.int (1 : Int32))] [(.int (1 : Int32))])) _
        refine XS.goto X.here hx rfl (pc0 := 57) (pc' := 61) rfl (hb hby at_57) (by decide) (by decide) ?_
        show Steps p.tables e below (T0.setTop (mkF m 61 #[.val (.int x), .val (.int g), .val (.int (0 : Int32)), .val (.int (1 : Int32))] [(.int (1 : Int32))])) _
        have hF : own_t0_F x g = (1 : Int32) := by unfold own_t0_F; simp only [if_pos hc8_1, if_pos hc38_2, if_pos hc53_3]
        rw [hF] at hr
        exact retN X hx (t := .boolean) hret (by simp) (hb hby at_61) hr
      · refine XS.icmpYes X.here hx rfl (pc0 := 53) (pc' := 60) rfl (hb hby at_53) rfl (feq hc53_3).2 (by decide) (by decide) ?_
        show Steps p.tables e below (T0.setTop (mkF m 60 #[.val (.int x), .val (.int g), .val (.int (0 : Int32)), .val (.int (1 : Int32))] [])) _
        refine XS.iconst X.here hx rfl (hb hby at_60) ?_
        show Steps p.tables e below (T0.setTop (mkF m 61 #[.val (.int x), .val (.int g), .val (.int (0 : Int32)), .val (.int (1 : Int32))] [(.int (0 : Int32))])) _
        have hF : own_t0_F x g = (0 : Int32) := by unfold own_t0_F; simp only [if_pos hc8_1, if_pos hc38_2, if_neg hc53_3]
        rw [hF] at hr
        exact retN X hx (t := .boolean) hret (by simp) (hb hby at_61) hr
    · refine XS.icmpNo X.here hx rfl (hb hby at_38) rfl (feq hc38_2).1 ?_
      show Steps p.tables e below (T0.setTop (mkF m 41 #[.val (.int x), .val (.int g), .val (.int (0 : Int32)), .unset] [])) _
      refine XS.iloadN X.here hx rfl (hb hby at_41) rfl ?_
      show Steps p.tables e below (T0.setTop (mkF m 42 #[.val (.int x), .val (.int g), .val (.int (0 : Int32)), .unset] [(.int (0 : Int32))])) _
      refine XS.ifYes X.here hx rfl (pc0 := 42) (pc' := 49) rfl (hb hby at_42) rfl ((if0 _ _).trans (teq rfl).1) (by decide) (by decide) ?_
      show Steps p.tables e below (T0.setTop (mkF m 49 #[.val (.int x), .val (.int g), .val (.int (0 : Int32)), .unset] [])) _
      refine XS.iconst X.here hx rfl (hb hby at_49) ?_
      show Steps p.tables e below (T0.setTop (mkF m 50 #[.val (.int x), .val (.int g), .val (.int (0 : Int32)), .unset] [(.int (0 : Int32))])) _
      refine XS.istoreN X.here hx rfl (hb hby at_50) rfl (l' := #[.val (.int x), .val (.int g), .val (.int (0 : Int32)), .val (.int (0 : Int32))]) rfl ?_
      show Steps p.tables e below (T0.setTop (mkF m 51 #[.val (.int x), .val (.int g), .val (.int (0 : Int32)), .val (.int (0 : Int32))] [])) _
      refine XS.iloadN X.here hx rfl (hb hby at_51) rfl ?_
      show Steps p.tables e below (T0.setTop (mkF m 52 #[.val (.int x), .val (.int g), .val (.int (0 : Int32)), .val (.int (0 : Int32))] [(.int g)])) _
      refine XS.iloadN X.here hx rfl (hb hby at_52) rfl ?_
      show Steps p.tables e below (T0.setTop (mkF m 53 #[.val (.int x), .val (.int g), .val (.int (0 : Int32)), .val (.int (0 : Int32))] [(.int (0 : Int32)), (.int g)])) _
      by_cases hc53_4 : g = (0 : Int32)
      · refine XS.icmpNo X.here hx rfl (hb hby at_53) rfl (teq hc53_4).2 ?_
        show Steps p.tables e below (T0.setTop (mkF m 56 #[.val (.int x), .val (.int g), .val (.int (0 : Int32)), .val (.int (0 : Int32))] [])) _
        refine XS.iconst X.here hx rfl (hb hby at_56) ?_
        show Steps p.tables e below (T0.setTop (mkF m 57 #[.val (.int x), .val (.int g), .val (.int (0 : Int32)), .val (.int (0 : Int32))] [(.int (1 : Int32))])) _
        refine XS.goto X.here hx rfl (pc0 := 57) (pc' := 61) rfl (hb hby at_57) (by decide) (by decide) ?_
        show Steps p.tables e below (T0.setTop (mkF m 61 #[.val (.int x), .val (.int g), .val (.int (0 : Int32)), .val (.int (0 : Int32))] [(.int (1 : Int32))])) _
        have hF : own_t0_F x g = (1 : Int32) := by unfold own_t0_F; simp only [if_pos hc8_1, if_neg hc38_2, if_pos hc53_4]
        rw [hF] at hr
        exact retN X hx (t := .boolean) hret (by simp) (hb hby at_61) hr
      · refine XS.icmpYes X.here hx rfl (pc0 := 53) (pc' := 60) rfl (hb hby at_53) rfl (feq hc53_4).2 (by decide) (by decide) ?_
        show Steps p.tables e below (T0.setTop (mkF m 60 #[.val (.int x), .val (.int g), .val (.int (0 : Int32)), .val (.int (0 : Int32))] [])) _
        refine XS.iconst X.here hx rfl (hb hby at_60) ?_
        show Steps p.tables e below (T0.setTop (mkF m 61 #[.val (.int x), .val (.int g), .val (.int (0 : Int32)), .val (.int (0 : Int32))] [(.int (0 : Int32))])) _
        have hF : own_t0_F x g = (0 : Int32) := by unfold own_t0_F; simp only [if_pos hc8_1, if_neg hc38_2, if_neg hc53_4]
        rw [hF] at hr
        exact retN X hx (t := .boolean) hret (by simp) (hb hby at_61) hr
  · refine XS.icmpNo X.here hx rfl (hb hby at_8) rfl (flt hc8_1).1 ?_
    show Steps p.tables e below (T0.setTop (mkF m 11 #[.val (.int x), .val (.int g), .unset, .unset] [])) _
    refine XS.iloadN X.here hx rfl (hb hby at_11) rfl ?_
    show Steps p.tables e below (T0.setTop (mkF m 12 #[.val (.int x), .val (.int g), .unset, .unset] [(.int x)])) _
    refine XS.bipush X.here hx rfl (hb hby at_12) ?_
    show Steps p.tables e below (T0.setTop (mkF m 14 #[.val (.int x), .val (.int g), .unset, .unset] [(.int (13 : Int32)), (.int x)])) _
    by_cases hc14_5 : (13 : Int32) < x
    · refine XS.icmpYes X.here hx rfl (pc0 := 14) (pc' := 33) rfl (hb hby at_14) rfl (tlt hc14_5).2.2.1 (by decide) (by decide) ?_
      show Steps p.tables e below (T0.setTop (mkF m 33 #[.val (.int x), .val (.int g), .unset, .unset] [])) _
      refine XS.iconst X.here hx rfl (hb hby at_33) ?_
      show Steps p.tables e below (T0.setTop (mkF m 34 #[.val (.int x), .val (.int g), .unset, .unset] [(.int (0 : Int32))])) _
      refine XS.istoreN X.here hx rfl (hb hby at_34) rfl (l' := #[.val (.int x), .val (.int g), .val (.int (0 : Int32)), .unset]) rfl ?_
      show Steps p.tables e below (T0.setTop (mkF m 35 #[.val (.int x), .val (.int g), .val (.int (0 : Int32)), .unset] [])) _
      refine XS.iloadN X.here hx rfl (hb hby at_35) rfl ?_
      show Steps p.tables e below (T0.setTop (mkF m 36 #[.val (.int x), .val (.int g), .val (.int (0 : Int32)), .unset] [(.int x)])) _
      refine XS.bipush X.here hx rfl (hb hby at_36) ?_
      show Steps p.tables e below (T0.setTop (mkF m 38 #[.val (.int x), .val (.int g), .val (.int (0 : Int32)), .unset] [(.int (32 : Int32)), (.int x)])) _
      by_cases hc38_6 : x = (32 : Int32)
      · refine XS.icmpYes X.here hx rfl (pc0 := 38) (pc' := 45) rfl (hb hby at_38) rfl (teq hc38_6).1 (by decide) (by decide) ?_
        show Steps p.tables e below (T0.setTop (mkF m 45 #[.val (.int x), .val (.int g), .val (.int (0 : Int32)), .unset] [])) _
        refine XS.iconst X.here hx rfl (hb hby at_45) ?_
        show Steps p.tables e below (T0.setTop (mkF m 46 #[.val (.int x), .val (.int g), .val (.int (0 : Int32)), .unset] [(.int (1 : Int32))])) _
        refine XS.goto X.here hx rfl (pc0 := 46) (pc' := 50) rfl (hb hby at_46) (by decide) (by decide) ?_
        show Steps p.tables e below (T0.setTop (mkF m 50 #[.val (.int x), .val (.int g), .val (.int (0 : Int32)), .unset] [(.int (1 : Int32))])) _
        refine XS.istoreN X.here hx rfl (hb hby at_50) rfl (l' := #[.val (.int x), .val (.int g), .val (.int (0 : Int32)), .val (.int (1 : Int32))]) rfl ?_
        show Steps p.tables e below (T0.setTop (mkF m 51 #[.val (.int x), .val (.int g), .val (.int (0 : Int32)), .val (.int (1 : Int32))] [])) _
        refine XS.iloadN X.here hx rfl (hb hby at_51) rfl ?_
        show Steps p.tables e below (T0.setTop (mkF m 52 #[.val (.int x), .val (.int g), .val (.int (0 : Int32)), .val (.int (1 : Int32))] [(.int g)])) _
        refine XS.iloadN X.here hx rfl (hb hby at_52) rfl ?_
        show Steps p.tables e below (T0.setTop (mkF m 53 #[.val (.int x), .val (.int g), .val (.int (0 : Int32)), .val (.int (1 : Int32))] [(.int (1 : Int32)), (.int g)])) _
        by_cases hc53_7 : g = (1 : Int32)
        · refine XS.icmpNo X.here hx rfl (hb hby at_53) rfl (teq hc53_7).2 ?_
          show Steps p.tables e below (T0.setTop (mkF m 56 #[.val (.int x), .val (.int g), .val (.int (0 : Int32)), .val (.int (1 : Int32))] [])) _
          refine XS.iconst X.here hx rfl (hb hby at_56) ?_
          show Steps p.tables e below (T0.setTop (mkF m 57 #[.val (.int x), .val (.int g), .val (.int (0 : Int32)), .val (.int (1 : Int32))] [(.int (1 : Int32))])) _
          refine XS.goto X.here hx rfl (pc0 := 57) (pc' := 61) rfl (hb hby at_57) (by decide) (by decide) ?_
          show Steps p.tables e below (T0.setTop (mkF m 61 #[.val (.int x), .val (.int g), .val (.int (0 : Int32)), .val (.int (1 : Int32))] [(.int (1 : Int32))])) _
          have hF : own_t0_F x g = (1 : Int32) := by unfold own_t0_F; simp only [if_neg hc8_1, if_pos hc14_5, if_pos hc38_6, if_pos hc53_7]
          rw [hF] at hr
          exact retN X hx (t := .boolean) hret (by simp) (hb hby at_61) hr
        · refine XS.icmpYes X.here hx rfl (pc0 := 53) (pc' := 60) rfl (hb hby at_53) rfl (feq hc53_7).2 (by decide) (by decide) ?_
          show Steps p.tables e below (T0.setTop (mkF m 60 #[.val (.int x), .val (.int g), .val (.int (0 : Int32)), .val (.int (1 : Int32))] [])) _
          refine XS.iconst X.here hx rfl (hb hby at_60) ?_
          show Steps p.tables e below (T0.setTop (mkF m 61 #[.val (.int x), .val (.int g), .val (.int (0 : Int32)), .val (.int (1 : Int32))] [(.int (0 : Int32))])) _
          have hF : own_t0_F x g = (0 : Int32) := by unfold own_t0_F; simp only [if_neg hc8_1, if_pos hc14_5, if_pos hc38_6, if_neg hc53_7]
          rw [hF] at hr
          exact retN X hx (t := .boolean) hret (by simp) (hb hby at_61) hr
      · refine XS.icmpNo X.here hx rfl (hb hby at_38) rfl (feq hc38_6).1 ?_
        show Steps p.tables e below (T0.setTop (mkF m 41 #[.val (.int x), .val (.int g), .val (.int (0 : Int32)), .unset] [])) _
        refine XS.iloadN X.here hx rfl (hb hby at_41) rfl ?_
        show Steps p.tables e below (T0.setTop (mkF m 42 #[.val (.int x), .val (.int g), .val (.int (0 : Int32)), .unset] [(.int (0 : Int32))])) _
        refine XS.ifYes X.here hx rfl (pc0 := 42) (pc' := 49) rfl (hb hby at_42) rfl ((if0 _ _).trans (teq rfl).1) (by decide) (by decide) ?_
        show Steps p.tables e below (T0.setTop (mkF m 49 #[.val (.int x), .val (.int g), .val (.int (0 : Int32)), .unset] [])) _
        refine XS.iconst X.here hx rfl (hb hby at_49) ?_
        show Steps p.tables e below (T0.setTop (mkF m 50 #[.val (.int x), .val (.int g), .val (.int (0 : Int32)), .unset] [(.int (0 : Int32))])) _
        refine XS.istoreN X.here hx rfl (hb hby at_50) rfl (l' := #[.val (.int x), .val (.int g), .val (.int (0 : Int32)), .val (.int (0 : Int32))]) rfl ?_
        show Steps p.tables e below (T0.setTop (mkF m 51 #[.val (.int x), .val (.int g), .val (.int (0 : Int32)), .val (.int (0 : Int32))] [])) _
        refine XS.iloadN X.here hx rfl (hb hby at_51) rfl ?_
        show Steps p.tables e below (T0.setTop (mkF m 52 #[.val (.int x), .val (.int g), .val (.int (0 : Int32)), .val (.int (0 : Int32))] [(.int g)])) _
        refine XS.iloadN X.here hx rfl (hb hby at_52) rfl ?_
        show Steps p.tables e below (T0.setTop (mkF m 53 #[.val (.int x), .val (.int g), .val (.int (0 : Int32)), .val (.int (0 : Int32))] [(.int (0 : Int32)), (.int g)])) _
        by_cases hc53_8 : g = (0 : Int32)
        · refine XS.icmpNo X.here hx rfl (hb hby at_53) rfl (teq hc53_8).2 ?_
          show Steps p.tables e below (T0.setTop (mkF m 56 #[.val (.int x), .val (.int g), .val (.int (0 : Int32)), .val (.int (0 : Int32))] [])) _
          refine XS.iconst X.here hx rfl (hb hby at_56) ?_
          show Steps p.tables e below (T0.setTop (mkF m 57 #[.val (.int x), .val (.int g), .val (.int (0 : Int32)), .val (.int (0 : Int32))] [(.int (1 : Int32))])) _
          refine XS.goto X.here hx rfl (pc0 := 57) (pc' := 61) rfl (hb hby at_57) (by decide) (by decide) ?_
          show Steps p.tables e below (T0.setTop (mkF m 61 #[.val (.int x), .val (.int g), .val (.int (0 : Int32)), .val (.int (0 : Int32))] [(.int (1 : Int32))])) _
          have hF : own_t0_F x g = (1 : Int32) := by unfold own_t0_F; simp only [if_neg hc8_1, if_pos hc14_5, if_neg hc38_6, if_pos hc53_8]
          rw [hF] at hr
          exact retN X hx (t := .boolean) hret (by simp) (hb hby at_61) hr
        · refine XS.icmpYes X.here hx rfl (pc0 := 53) (pc' := 60) rfl (hb hby at_53) rfl (feq hc53_8).2 (by decide) (by decide) ?_
          show Steps p.tables e below (T0.setTop (mkF m 60 #[.val (.int x), .val (.int g), .val (.int (0 : Int32)), .val (.int (0 : Int32))] [])) _
          refine XS.iconst X.here hx rfl (hb hby at_60) ?_
          show Steps p.tables e below (T0.setTop (mkF m 61 #[.val (.int x), .val (.int g), .val (.int (0 : Int32)), .val (.int (0 : Int32))] [(.int (0 : Int32))])) _
          have hF : own_t0_F x g = (0 : Int32) := by unfold own_t0_F; simp only [if_neg hc8_1, if_pos hc14_5, if_neg hc38_6, if_neg hc53_8]
          rw [hF] at hr
          exact retN X hx (t := .boolean) hret (by simp) (hb hby at_61) hr
    · refine XS.icmpNo X.here hx rfl (hb hby at_14) rfl (flt hc14_5).2.2.1 ?_
      show Steps p.tables e below (T0.setTop (mkF m 17 #[.val (.int x), .val (.int g), .unset, .unset] [])) _
      refine XS.iloadN X.here hx rfl (hb hby at_17) rfl ?_
      show Steps p.tables e below (T0.setTop (mkF m 18 #[.val (.int x), .val (.int g), .unset, .unset] [(.int x)])) _
      refine XS.bipush X.here hx rfl (hb hby at_18) ?_
      show Steps p.tables e below (T0.setTop (mkF m 20 #[.val (.int x), .val (.int g), .unset, .unset] [(.int (11 : Int32)), (.int x)])) _
      by_cases hc20_9 : x = (11 : Int32)
      · refine XS.icmpYes X.here hx rfl (pc0 := 20) (pc' := 33) rfl (hb hby at_20) rfl (teq hc20_9).1 (by decide) (by decide) ?_
        show Steps p.tables e below (T0.setTop (mkF m 33 #[.val (.int x), .val (.int g), .unset, .unset] [])) _
        refine XS.iconst X.here hx rfl (hb hby at_33) ?_
        show Steps p.tables e below (T0.setTop (mkF m 34 #[.val (.int x), .val (.int g), .unset, .unset] [(.int (0 : Int32))])) _
        refine XS.istoreN X.here hx rfl (hb hby at_34) rfl (l' := #[.val (.int x), .val (.int g), .val (.int (0 : Int32)), .unset]) rfl ?_
        show Steps p.tables e below (T0.setTop (mkF m 35 #[.val (.int x), .val (.int g), .val (.int (0 : Int32)), .unset] [])) _
        refine XS.iloadN X.here hx rfl (hb hby at_35) rfl ?_
        show Steps p.tables e below (T0.setTop (mkF m 36 #[.val (.int x), .val (.int g), .val (.int (0 : Int32)), .unset] [(.int x)])) _
        refine XS.bipush X.here hx rfl (hb hby at_36) ?_
        show Steps p.tables e below (T0.setTop (mkF m 38 #[.val (.int x), .val (.int g), .val (.int (0 : Int32)), .unset] [(.int (32 : Int32)), (.int x)])) _
        by_cases hc38_10 : x = (32 : Int32)
        · refine XS.icmpYes X.here hx rfl (pc0 := 38) (pc' := 45) rfl (hb hby at_38) rfl (teq hc38_10).1 (by decide) (by decide) ?_
          show Steps p.tables e below (T0.setTop (mkF m 45 #[.val (.int x), .val (.int g), .val (.int (0 : Int32)), .unset] [])) _
          refine XS.iconst X.here hx rfl (hb hby at_45) ?_
          show Steps p.tables e below (T0.setTop (mkF m 46 #[.val (.int x), .val (.int g), .val (.int (0 : Int32)), .unset] [(.int (1 : Int32))])) _
          refine XS.goto X.here hx rfl (pc0 := 46) (pc' := 50) rfl (hb hby at_46) (by decide) (by decide) ?_
          show Steps p.tables e below (T0.setTop (mkF m 50 #[.val (.int x), .val (.int g), .val (.int (0 : Int32)), .unset] [(.int (1 : Int32))])) _
          refine XS.istoreN X.here hx rfl (hb hby at_50) rfl (l' := #[.val (.int x), .val (.int g), .val (.int (0 : Int32)), .val (.int (1 : Int32))]) rfl ?_
          show Steps p.tables e below (T0.setTop (mkF m 51 #[.val (.int x), .val (.int g), .val (.int (0 : Int32)), .val (.int (1 : Int32))] [])) _
          refine XS.iloadN X.here hx rfl (hb hby at_51) rfl ?_
          show Steps p.tables e below (T0.setTop (mkF m 52 #[.val (.int x), .val (.int g), .val (.int (0 : Int32)), .val (.int (1 : Int32))] [(.int g)])) _
          refine XS.iloadN X.here hx rfl (hb hby at_52) rfl ?_
          show Steps p.tables e below (T0.setTop (mkF m 53 #[.val (.int x), .val (.int g), .val (.int (0 : Int32)), .val (.int (1 : Int32))] [(.int (1 : Int32)), (.int g)])) _
          by_cases hc53_11 : g = (1 : Int32)
          · refine XS.icmpNo X.here hx rfl (hb hby at_53) rfl (teq hc53_11).2 ?_
            show Steps p.tables e below (T0.setTop (mkF m 56 #[.val (.int x), .val (.int g), .val (.int (0 : Int32)), .val (.int (1 : Int32))] [])) _
            refine XS.iconst X.here hx rfl (hb hby at_56) ?_
            show Steps p.tables e below (T0.setTop (mkF m 57 #[.val (.int x), .val (.int g), .val (.int (0 : Int32)), .val (.int (1 : Int32))] [(.int (1 : Int32))])) _
            refine XS.goto X.here hx rfl (pc0 := 57) (pc' := 61) rfl (hb hby at_57) (by decide) (by decide) ?_
            show Steps p.tables e below (T0.setTop (mkF m 61 #[.val (.int x), .val (.int g), .val (.int (0 : Int32)), .val (.int (1 : Int32))] [(.int (1 : Int32))])) _
            have hF : own_t0_F x g = (1 : Int32) := by unfold own_t0_F; simp only [if_neg hc8_1, if_neg hc14_5, if_pos hc20_9, if_pos hc38_10, if_pos hc53_11]
            rw [hF] at hr
            exact retN X hx (t := .boolean) hret (by simp) (hb hby at_61) hr
          · refine XS.icmpYes X.here hx rfl (pc0 := 53) (pc' := 60) rfl (hb hby at_53) rfl (feq hc53_11).2 (by decide) (by decide) ?_
            show Steps p.tables e below (T0.setTop (mkF m 60 #[.val (.int x), .val (.int g), .val (.int (0 : Int32)), .val (.int (1 : Int32))] [])) _
            refine XS.iconst X.here hx rfl (hb hby at_60) ?_
            show Steps p.tables e below (T0.setTop (mkF m 61 #[.val (.int x), .val (.int g), .val (.int (0 : Int32)), .val (.int (1 : Int32))] [(.int (0 : Int32))])) _
            have hF : own_t0_F x g = (0 : Int32) := by unfold own_t0_F; simp only [if_neg hc8_1, if_neg hc14_5, if_pos hc20_9, if_pos hc38_10, if_neg hc53_11]
            rw [hF] at hr
            exact retN X hx (t := .boolean) hret (by simp) (hb hby at_61) hr
        · refine XS.icmpNo X.here hx rfl (hb hby at_38) rfl (feq hc38_10).1 ?_
          show Steps p.tables e below (T0.setTop (mkF m 41 #[.val (.int x), .val (.int g), .val (.int (0 : Int32)), .unset] [])) _
          refine XS.iloadN X.here hx rfl (hb hby at_41) rfl ?_
          show Steps p.tables e below (T0.setTop (mkF m 42 #[.val (.int x), .val (.int g), .val (.int (0 : Int32)), .unset] [(.int (0 : Int32))])) _
          refine XS.ifYes X.here hx rfl (pc0 := 42) (pc' := 49) rfl (hb hby at_42) rfl ((if0 _ _).trans (teq rfl).1) (by decide) (by decide) ?_
          show Steps p.tables e below (T0.setTop (mkF m 49 #[.val (.int x), .val (.int g), .val (.int (0 : Int32)), .unset] [])) _
          refine XS.iconst X.here hx rfl (hb hby at_49) ?_
          show Steps p.tables e below (T0.setTop (mkF m 50 #[.val (.int x), .val (.int g), .val (.int (0 : Int32)), .unset] [(.int (0 : Int32))])) _
          refine XS.istoreN X.here hx rfl (hb hby at_50) rfl (l' := #[.val (.int x), .val (.int g), .val (.int (0 : Int32)), .val (.int (0 : Int32))]) rfl ?_
          show Steps p.tables e below (T0.setTop (mkF m 51 #[.val (.int x), .val (.int g), .val (.int (0 : Int32)), .val (.int (0 : Int32))] [])) _
          refine XS.iloadN X.here hx rfl (hb hby at_51) rfl ?_
          show Steps p.tables e below (T0.setTop (mkF m 52 #[.val (.int x), .val (.int g), .val (.int (0 : Int32)), .val (.int (0 : Int32))] [(.int g)])) _
          refine XS.iloadN X.here hx rfl (hb hby at_52) rfl ?_
          show Steps p.tables e below (T0.setTop (mkF m 53 #[.val (.int x), .val (.int g), .val (.int (0 : Int32)), .val (.int (0 : Int32))] [(.int (0 : Int32)), (.int g)])) _
          by_cases hc53_12 : g = (0 : Int32)
          · refine XS.icmpNo X.here hx rfl (hb hby at_53) rfl (teq hc53_12).2 ?_
            show Steps p.tables e below (T0.setTop (mkF m 56 #[.val (.int x), .val (.int g), .val (.int (0 : Int32)), .val (.int (0 : Int32))] [])) _
            refine XS.iconst X.here hx rfl (hb hby at_56) ?_
            show Steps p.tables e below (T0.setTop (mkF m 57 #[.val (.int x), .val (.int g), .val (.int (0 : Int32)), .val (.int (0 : Int32))] [(.int (1 : Int32))])) _
            refine XS.goto X.here hx rfl (pc0 := 57) (pc' := 61) rfl (hb hby at_57) (by decide) (by decide) ?_
            show Steps p.tables e below (T0.setTop (mkF m 61 #[.val (.int x), .val (.int g), .val (.int (0 : Int32)), .val (.int (0 : Int32))] [(.int (1 : Int32))])) _
            have hF : own_t0_F x g = (1 : Int32) := by unfold own_t0_F; simp only [if_neg hc8_1, if_neg hc14_5, if_pos hc20_9, if_neg hc38_10, if_pos hc53_12]
            rw [hF] at hr
            exact retN X hx (t := .boolean) hret (by simp) (hb hby at_61) hr
          · refine XS.icmpYes X.here hx rfl (pc0 := 53) (pc' := 60) rfl (hb hby at_53) rfl (feq hc53_12).2 (by decide) (by decide) ?_
            show Steps p.tables e below (T0.setTop (mkF m 60 #[.val (.int x), .val (.int g), .val (.int (0 : Int32)), .val (.int (0 : Int32))] [])) _
            refine XS.iconst X.here hx rfl (hb hby at_60) ?_
            show Steps p.tables e below (T0.setTop (mkF m 61 #[.val (.int x), .val (.int g), .val (.int (0 : Int32)), .val (.int (0 : Int32))] [(.int (0 : Int32))])) _
            have hF : own_t0_F x g = (0 : Int32) := by unfold own_t0_F; simp only [if_neg hc8_1, if_neg hc14_5, if_pos hc20_9, if_neg hc38_10, if_neg hc53_12]
            rw [hF] at hr
            exact retN X hx (t := .boolean) hret (by simp) (hb hby at_61) hr
      · refine XS.icmpNo X.here hx rfl (hb hby at_20) rfl (feq hc20_9).1 ?_
        show Steps p.tables e below (T0.setTop (mkF m 23 #[.val (.int x), .val (.int g), .unset, .unset] [])) _
        refine XS.iloadN X.here hx rfl (hb hby at_23) rfl ?_
        show Steps p.tables e below (T0.setTop (mkF m 24 #[.val (.int x), .val (.int g), .unset, .unset] [(.int x)])) _
        refine XS.bipush X.here hx rfl (hb hby at_24) ?_
        show Steps p.tables e below (T0.setTop (mkF m 26 #[.val (.int x), .val (.int g), .unset, .unset] [(.int (12 : Int32)), (.int x)])) _
        by_cases hc26_13 : x = (12 : Int32)
        · refine XS.icmpYes X.here hx rfl (pc0 := 26) (pc' := 33) rfl (hb hby at_26) rfl (teq hc26_13).1 (by decide) (by decide) ?_
          show Steps p.tables e below (T0.setTop (mkF m 33 #[.val (.int x), .val (.int g), .unset, .unset] [])) _
          refine XS.iconst X.here hx rfl (hb hby at_33) ?_
          show Steps p.tables e below (T0.setTop (mkF m 34 #[.val (.int x), .val (.int g), .unset, .unset] [(.int (0 : Int32))])) _
          refine XS.istoreN X.here hx rfl (hb hby at_34) rfl (l' := #[.val (.int x), .val (.int g), .val (.int (0 : Int32)), .unset]) rfl ?_
          show Steps p.tables e below (T0.setTop (mkF m 35 #[.val (.int x), .val (.int g), .val (.int (0 : Int32)), .unset] [])) _
          refine XS.iloadN X.here hx rfl (hb hby at_35) rfl ?_
          show Steps p.tables e below (T0.setTop (mkF m 36 #[.val (.int x), .val (.int g), .val (.int (0 : Int32)), .unset] [(.int x)])) _
          refine XS.bipush X.here hx rfl (hb hby at_36) ?_
          show Steps p.tables e below (T0.setTop (mkF m 38 #[.val (.int x), .val (.int g), .val (.int (0 : Int32)), .unset] [(.int (32 : Int32)), (.int x)])) _
          by_cases hc38_14 : x = (32 : Int32)
          · refine XS.icmpYes X.here hx rfl (pc0 := 38) (pc' := 45) rfl (hb hby at_38) rfl (teq hc38_14).1 (by decide) (by decide) ?_
            show Steps p.tables e below (T0.setTop (mkF m 45 #[.val (.int x), .val (.int g), .val (.int (0 : Int32)), .unset] [])) _
            refine XS.iconst X.here hx rfl (hb hby at_45) ?_
            show Steps p.tables e below (T0.setTop (mkF m 46 #[.val (.int x), .val (.int g), .val (.int (0 : Int32)), .unset] [(.int (1 : Int32))])) _
            refine XS.goto X.here hx rfl (pc0 := 46) (pc' := 50) rfl (hb hby at_46) (by decide) (by decide) ?_
            show Steps p.tables e below (T0.setTop (mkF m 50 #[.val (.int x), .val (.int g), .val (.int (0 : Int32)), .unset] [(.int (1 : Int32))])) _
            refine XS.istoreN X.here hx rfl (hb hby at_50) rfl (l' := #[.val (.int x), .val (.int g), .val (.int (0 : Int32)), .val (.int (1 : Int32))]) rfl ?_
            show Steps p.tables e below (T0.setTop (mkF m 51 #[.val (.int x), .val (.int g), .val (.int (0 : Int32)), .val (.int (1 : Int32))] [])) _
            refine XS.iloadN X.here hx rfl (hb hby at_51) rfl ?_
            show Steps p.tables e below (T0.setTop (mkF m 52 #[.val (.int x), .val (.int g), .val (.int (0 : Int32)), .val (.int (1 : Int32))] [(.int g)])) _
            refine XS.iloadN X.here hx rfl (hb hby at_52) rfl ?_
            show Steps p.tables e below (T0.setTop (mkF m 53 #[.val (.int x), .val (.int g), .val (.int (0 : Int32)), .val (.int (1 : Int32))] [(.int (1 : Int32)), (.int g)])) _
            by_cases hc53_15 : g = (1 : Int32)
            · refine XS.icmpNo X.here hx rfl (hb hby at_53) rfl (teq hc53_15).2 ?_
              show Steps p.tables e below (T0.setTop (mkF m 56 #[.val (.int x), .val (.int g), .val (.int (0 : Int32)), .val (.int (1 : Int32))] [])) _
              refine XS.iconst X.here hx rfl (hb hby at_56) ?_
              show Steps p.tables e below (T0.setTop (mkF m 57 #[.val (.int x), .val (.int g), .val (.int (0 : Int32)), .val (.int (1 : Int32))] [(.int (1 : Int32))])) _
              refine XS.goto X.here hx rfl (pc0 := 57) (pc' := 61) rfl (hb hby at_57) (by decide) (by decide) ?_
              show Steps p.tables e below (T0.setTop (mkF m 61 #[.val (.int x), .val (.int g), .val (.int (0 : Int32)), .val (.int (1 : Int32))] [(.int (1 : Int32))])) _
              have hF : own_t0_F x g = (1 : Int32) := by unfold own_t0_F; simp only [if_neg hc8_1, if_neg hc14_5, if_neg hc20_9, if_pos hc26_13, if_pos hc38_14, if_pos hc53_15]
              rw [hF] at hr
              exact retN X hx (t := .boolean) hret (by simp) (hb hby at_61) hr
            · refine XS.icmpYes X.here hx rfl (pc0 := 53) (pc' := 60) rfl (hb hby at_53) rfl (feq hc53_15).2 (by decide) (by decide) ?_
              show Steps p.tables e below (T0.setTop (mkF m 60 #[.val (.int x), .val (.int g), .val (.int (0 : Int32)), .val (.int (1 : Int32))] [])) _
              refine XS.iconst X.here hx rfl (hb hby at_60) ?_
              show Steps p.tables e below (T0.setTop (mkF m 61 #[.val (.int x), .val (.int g), .val (.int (0 : Int32)), .val (.int (1 : Int32))] [(.int (0 : Int32))])) _
              have hF : own_t0_F x g = (0 : Int32) := by unfold own_t0_F; simp only [if_neg hc8_1, if_neg hc14_5, if_neg hc20_9, if_pos hc26_13, if_pos hc38_14, if_neg hc53_15]
              rw [hF] at hr
              exact retN X hx (t := .boolean) hret (by simp) (hb hby at_61) hr
          · refine XS.icmpNo X.here hx rfl (hb hby at_38) rfl (feq hc38_14).1 ?_
            show Steps p.tables e below (T0.setTop (mkF m 41 #[.val (.int x), .val (.int g), .val (.int (0 : Int32)), .unset] [])) _
            refine XS.iloadN X.here hx rfl (hb hby at_41) rfl ?_
            show Steps p.tables e below (T0.setTop (mkF m 42 #[.val (.int x), .val (.int g), .val (.int (0 : Int32)), .unset] [(.int (0 : Int32))])) _
            refine XS.ifYes X.here hx rfl (pc0 := 42) (pc' := 49) rfl (hb hby at_42) rfl ((if0 _ _).trans (teq rfl).1) (by decide) (by decide) ?_
            show Steps p.tables e below (T0.setTop (mkF m 49 #[.val (.int x), .val (.int g), .val (.int (0 : Int32)), .unset] [])) _
            refine XS.iconst X.here hx rfl (hb hby at_49) ?_
            show Steps p.tables e below (T0.setTop (mkF m 50 #[.val (.int x), .val (.int g), .val (.int (0 : Int32)), .unset] [(.int (0 : Int32))])) _
            refine XS.istoreN X.here hx rfl (hb hby at_50) rfl (l' := #[.val (.int x), .val (.int g), .val (.int (0 : Int32)), .val (.int (0 : Int32))]) rfl ?_
            show Steps p.tables e below (T0.setTop (mkF m 51 #[.val (.int x), .val (.int g), .val (.int (0 : Int32)), .val (.int (0 : Int32))] [])) _
            refine XS.iloadN X.here hx rfl (hb hby at_51) rfl ?_
            show Steps p.tables e below (T0.setTop (mkF m 52 #[.val (.int x), .val (.int g), .val (.int (0 : Int32)), .val (.int (0 : Int32))] [(.int g)])) _
            refine XS.iloadN X.here hx rfl (hb hby at_52) rfl ?_
            show Steps p.tables e below (T0.setTop (mkF m 53 #[.val (.int x), .val (.int g), .val (.int (0 : Int32)), .val (.int (0 : Int32))] [(.int (0 : Int32)), (.int g)])) _
            by_cases hc53_16 : g = (0 : Int32)
            · refine XS.icmpNo X.here hx rfl (hb hby at_53) rfl (teq hc53_16).2 ?_
              show Steps p.tables e below (T0.setTop (mkF m 56 #[.val (.int x), .val (.int g), .val (.int (0 : Int32)), .val (.int (0 : Int32))] [])) _
              refine XS.iconst X.here hx rfl (hb hby at_56) ?_
              show Steps p.tables e below (T0.setTop (mkF m 57 #[.val (.int x), .val (.int g), .val (.int (0 : Int32)), .val (.int (0 : Int32))] [(.int (1 : Int32))])) _
              refine XS.goto X.here hx rfl (pc0 := 57) (pc' := 61) rfl (hb hby at_57) (by decide) (by decide) ?_
              show Steps p.tables e below (T0.setTop (mkF m 61 #[.val (.int x), .val (.int g), .val (.int (0 : Int32)), .val (.int (0 : Int32))] [(.int (1 : Int32))])) _
              have hF : own_t0_F x g = (1 : Int32) := by unfold own_t0_F; simp only [if_neg hc8_1, if_neg hc14_5, if_neg hc20_9, if_pos hc26_13, if_neg hc38_14, if_pos hc53_16]
              rw [hF] at hr
              exact retN X hx (t := .boolean) hret (by simp) (hb hby at_61) hr
            · refine XS.icmpYes X.here hx rfl (pc0 := 53) (pc' := 60) rfl (hb hby at_53) rfl (feq hc53_16).2 (by decide) (by decide) ?_
              show Steps p.tables e below (T0.setTop (mkF m 60 #[.val (.int x), .val (.int g), .val (.int (0 : Int32)), .val (.int (0 : Int32))] [])) _
              refine XS.iconst X.here hx rfl (hb hby at_60) ?_
              show Steps p.tables e below (T0.setTop (mkF m 61 #[.val (.int x), .val (.int g), .val (.int (0 : Int32)), .val (.int (0 : Int32))] [(.int (0 : Int32))])) _
              have hF : own_t0_F x g = (0 : Int32) := by unfold own_t0_F; simp only [if_neg hc8_1, if_neg hc14_5, if_neg hc20_9, if_pos hc26_13, if_neg hc38_14, if_neg hc53_16]
              rw [hF] at hr
              exact retN X hx (t := .boolean) hret (by simp) (hb hby at_61) hr
        · refine XS.icmpNo X.here hx rfl (hb hby at_26) rfl (feq hc26_13).1 ?_
          show Steps p.tables e below (T0.setTop (mkF m 29 #[.val (.int x), .val (.int g), .unset, .unset] [])) _
          refine XS.iconst X.here hx rfl (hb hby at_29) ?_
          show Steps p.tables e below (T0.setTop (mkF m 30 #[.val (.int x), .val (.int g), .unset, .unset] [(.int (1 : Int32))])) _
          refine XS.goto X.here hx rfl (pc0 := 30) (pc' := 34) rfl (hb hby at_30) (by decide) (by decide) ?_
          show Steps p.tables e below (T0.setTop (mkF m 34 #[.val (.int x), .val (.int g), .unset, .unset] [(.int (1 : Int32))])) _
          refine XS.istoreN X.here hx rfl (hb hby at_34) rfl (l' := #[.val (.int x), .val (.int g), .val (.int (1 : Int32)), .unset]) rfl ?_
          show Steps p.tables e below (T0.setTop (mkF m 35 #[.val (.int x), .val (.int g), .val (.int (1 : Int32)), .unset] [])) _
          refine XS.iloadN X.here hx rfl (hb hby at_35) rfl ?_
          show Steps p.tables e below (T0.setTop (mkF m 36 #[.val (.int x), .val (.int g), .val (.int (1 : Int32)), .unset] [(.int x)])) _
          refine XS.bipush X.here hx rfl (hb hby at_36) ?_
          show Steps p.tables e below (T0.setTop (mkF m 38 #[.val (.int x), .val (.int g), .val (.int (1 : Int32)), .unset] [(.int (32 : Int32)), (.int x)])) _
          by_cases hc38_17 : x = (32 : Int32)
          · refine XS.icmpYes X.here hx rfl (pc0 := 38) (pc' := 45) rfl (hb hby at_38) rfl (teq hc38_17).1 (by decide) (by decide) ?_
            show Steps p.tables e below (T0.setTop (mkF m 45 #[.val (.int x), .val (.int g), .val (.int (1 : Int32)), .unset] [])) _
            refine XS.iconst X.here hx rfl (hb hby at_45) ?_
            show Steps p.tables e below (T0.setTop (mkF m 46 #[.val (.int x), .val (.int g), .val (.int (1 : Int32)), .unset] [(.int (1 : Int32))])) _
            refine XS.goto X.here hx rfl (pc0 := 46) (pc' := 50) rfl (hb hby at_46) (by decide) (by decide) ?_
            show Steps p.tables e below (T0.setTop (mkF m 50 #[.val (.int x), .val (.int g), .val (.int (1 : Int32)), .unset] [(.int (1 : Int32))])) _
            refine XS.istoreN X.here hx rfl (hb hby at_50) rfl (l' := #[.val (.int x), .val (.int g), .val (.int (1 : Int32)), .val (.int (1 : Int32))]) rfl ?_
            show Steps p.tables e below (T0.setTop (mkF m 51 #[.val (.int x), .val (.int g), .val (.int (1 : Int32)), .val (.int (1 : Int32))] [])) _
            refine XS.iloadN X.here hx rfl (hb hby at_51) rfl ?_
            show Steps p.tables e below (T0.setTop (mkF m 52 #[.val (.int x), .val (.int g), .val (.int (1 : Int32)), .val (.int (1 : Int32))] [(.int g)])) _
            refine XS.iloadN X.here hx rfl (hb hby at_52) rfl ?_
            show Steps p.tables e below (T0.setTop (mkF m 53 #[.val (.int x), .val (.int g), .val (.int (1 : Int32)), .val (.int (1 : Int32))] [(.int (1 : Int32)), (.int g)])) _
            by_cases hc53_18 : g = (1 : Int32)
            · refine XS.icmpNo X.here hx rfl (hb hby at_53) rfl (teq hc53_18).2 ?_
              show Steps p.tables e below (T0.setTop (mkF m 56 #[.val (.int x), .val (.int g), .val (.int (1 : Int32)), .val (.int (1 : Int32))] [])) _
              refine XS.iconst X.here hx rfl (hb hby at_56) ?_
              show Steps p.tables e below (T0.setTop (mkF m 57 #[.val (.int x), .val (.int g), .val (.int (1 : Int32)), .val (.int (1 : Int32))] [(.int (1 : Int32))])) _
              refine XS.goto X.here hx rfl (pc0 := 57) (pc' := 61) rfl (hb hby at_57) (by decide) (by decide) ?_
              show Steps p.tables e below (T0.setTop (mkF m 61 #[.val (.int x), .val (.int g), .val (.int (1 : Int32)), .val (.int (1 : Int32))] [(.int (1 : Int32))])) _
              have hF : own_t0_F x g = (1 : Int32) := by unfold own_t0_F; simp only [if_neg hc8_1, if_neg hc14_5, if_neg hc20_9, if_neg hc26_13, if_pos hc38_17, if_pos hc53_18]
              rw [hF] at hr
              exact retN X hx (t := .boolean) hret (by simp) (hb hby at_61) hr
            · refine XS.icmpYes X.here hx rfl (pc0 := 53) (pc' := 60) rfl (hb hby at_53) rfl (feq hc53_18).2 (by decide) (by decide) ?_
              show Steps p.tables e below (T0.setTop (mkF m 60 #[.val (.int x), .val (.int g), .val (.int (1 : Int32)), .val (.int (1 : Int32))] [])) _
              refine XS.iconst X.here hx rfl (hb hby at_60) ?_
              show Steps p.tables e below (T0.setTop (mkF m 61 #[.val (.int x), .val (.int g), .val (.int (1 : Int32)), .val (.int (1 : Int32))] [(.int (0 : Int32))])) _
              have hF : own_t0_F x g = (0 : Int32) := by unfold own_t0_F; simp only [if_neg hc8_1, if_neg hc14_5, if_neg hc20_9, if_neg hc26_13, if_pos hc38_17, if_neg hc53_18]
              rw [hF] at hr
              exact retN X hx (t := .boolean) hret (by simp) (hb hby at_61) hr
          · refine XS.icmpNo X.here hx rfl (hb hby at_38) rfl (feq hc38_17).1 ?_
            show Steps p.tables e below (T0.setTop (mkF m 41 #[.val (.int x), .val (.int g), .val (.int (1 : Int32)), .unset] [])) _
            refine XS.iloadN X.here hx rfl (hb hby at_41) rfl ?_
            show Steps p.tables e below (T0.setTop (mkF m 42 #[.val (.int x), .val (.int g), .val (.int (1 : Int32)), .unset] [(.int (1 : Int32))])) _
            refine XS.ifNo X.here hx rfl (hb hby at_42) rfl ((if0 _ _).trans (feq (by decide)).1) ?_
            show Steps p.tables e below (T0.setTop (mkF m 45 #[.val (.int x), .val (.int g), .val (.int (1 : Int32)), .unset] [])) _
            refine XS.iconst X.here hx rfl (hb hby at_45) ?_
            show Steps p.tables e below (T0.setTop (mkF m 46 #[.val (.int x), .val (.int g), .val (.int (1 : Int32)), .unset] [(.int (1 : Int32))])) _
            refine XS.goto X.here hx rfl (pc0 := 46) (pc' := 50) rfl (hb hby at_46) (by decide) (by decide) ?_
            show Steps p.tables e below (T0.setTop (mkF m 50 #[.val (.int x), .val (.int g), .val (.int (1 : Int32)), .unset] [(.int (1 : Int32))])) _
            refine XS.istoreN X.here hx rfl (hb hby at_50) rfl (l' := #[.val (.int x), .val (.int g), .val (.int (1 : Int32)), .val (.int (1 : Int32))]) rfl ?_
            show Steps p.tables e below (T0.setTop (mkF m 51 #[.val (.int x), .val (.int g), .val (.int (1 : Int32)), .val (.int (1 : Int32))] [])) _
            refine XS.iloadN X.here hx rfl (hb hby at_51) rfl ?_
            show Steps p.tables e below (T0.setTop (mkF m 52 #[.val (.int x), .val (.int g), .val (.int (1 : Int32)), .val (.int (1 : Int32))] [(.int g)])) _
            refine XS.iloadN X.here hx rfl (hb hby at_52) rfl ?_
            show Steps p.tables e below (T0.setTop (mkF m 53 #[.val (.int x), .val (.int g), .val (.int (1 : Int32)), .val (.int (1 : Int32))] [(.int (1 : Int32)), (.int g)])) _
            by_cases hc53_19 : g = (1 : Int32)
            · refine XS.icmpNo X.here hx rfl (hb hby at_53) rfl (teq hc53_19).2 ?_
              show Steps p.tables e below (T0.setTop (mkF m 56 #[.val (.int x), .val (.int g), .val (.int (1 : Int32)), .val (.int (1 : Int32))] [])) _
              refine XS.iconst X.here hx rfl (hb hby at_56) ?_
              show Steps p.tables e below (T0.setTop (mkF m 57 #[.val (.int x), .val (.int g), .val (.int (1 : Int32)), .val (.int (1 : Int32))] [(.int (1 : Int32))])) _
              refine XS.goto X.here hx rfl (pc0 := 57) (pc' := 61) rfl (hb hby at_57) (by decide) (by decide) ?_
              show Steps p.tables e below (T0.setTop (mkF m 61 #[.val (.int x), .val (.int g), .val (.int (1 : Int32)), .val (.int (1 : Int32))] [(.int (1 : Int32))])) _
              have hF : own_t0_F x g = (1 : Int32) := by unfold own_t0_F; simp only [if_neg hc8_1, if_neg hc14_5, if_neg hc20_9, if_neg hc26_13, if_neg hc38_17, if_pos hc53_19]
              rw [hF] at hr
              exact retN X hx (t := .boolean) hret (by simp) (hb hby at_61) hr
            · refine XS.icmpYes X.here hx rfl (pc0 := 53) (pc' := 60) rfl (hb hby at_53) rfl (feq hc53_19).2 (by decide) (by decide) ?_
              show Steps p.tables e below (T0.setTop (mkF m 60 #[.val (.int x), .val (.int g), .val (.int (1 : Int32)), .val (.int (1 : Int32))] [])) _
              refine XS.iconst X.here hx rfl (hb hby at_60) ?_
              show Steps p.tables e below (T0.setTop (mkF m 61 #[.val (.int x), .val (.int g), .val (.int (1 : Int32)), .val (.int (1 : Int32))] [(.int (0 : Int32))])) _
              have hF : own_t0_F x g = (0 : Int32) := by unfold own_t0_F; simp only [if_neg hc8_1, if_neg hc14_5, if_neg hc20_9, if_neg hc26_13, if_neg hc38_17, if_neg hc53_19]
              rw [hF] at hr
              exact retN X hx (t := .boolean) hret (by simp) (hb hby at_61) hr
theorem pn_0 : plainName "com/example/unfold_axioms/unfoldaxioms/owlapi/TextSyntaxIsWhiteSpacePinLaw" = true := by first | (simp [plainName, overriddenIn]; done) | decide +kernel
theorem ef_0 (m : MethodId) (p1 : Int32) : entryFrame m #[(.int p1)] maxLocals = mkF m 0 #[.val (.int p1), .unset, .unset, .unset] [] := by first | (simp [entryFrame, mkF, argsToLocals, Value.category, maxLocals]; done) | rfl
theorem pd_0_7 : parseMethodDescriptor "(I)Z" = some ⟨[.int], some .boolean⟩ := by decide +kernel
def own_rm0_F (p1 : Int32) : Int32 := (own_t0_F p1 (own_rm1_F p1))
theorem own_law (x : Int32) : own_rm0_F x = 1 := by
  unfold own_rm0_F own_t0_F own_rm1_F own_t1_F
  have e1 : ∀ k : Int32, x = k ↔ x.toInt = k.toInt := fun k => Int32.toInt_inj.symm
  simp only [Int32.lt_iff_toInt_lt, e1]
  repeat' split
  all_goals first | rfl | (exfalso; simp_all; omega) | (exfalso; simp_all)
set_option maxRecDepth 65536 in
set_option maxHeartbeats 40000000 in
theorem own_rm0 (l : Launch) (Z : State) (a0 : Array Value) (hw : ∀ d ∈ tables_1, d.before a0 Z = true) (ws : List Jvm.Cond) (p1 : Int32) (h0 : Heap) (n0 : Nat) (Z0 : n0 ≤ h0.size) :
    MetFree l x (head1 (Jvm.Cond.code x code maxLocals ret :: ws) room_1) (fun a U => a = #[(.int p1)] ∧ Z.Warmed39 U.vm ∧ U.heap = h0) (fun _ _ _ _ _ => True) (fun _ U o U' => ∃ v L, o = .returned v ∧ (v = some (.int 1) ∧ Fr n0 L) ∧ FrameEnd U o U' L room_1.cells room_1.slots) := by
  refine MetFree.of_bodySF (plainFor_of_name pn_0) hisR ?_
  intro p e s m args below meth c s₁ Bd hml0 hP hK
  obtain ⟨rfl, hZ, hh⟩ := hP
  have hx := Bd.exec
  have hby := Bd.bytes
  have hml : c.maxLocals = 4 := hml0
  have hown : s.vm.findClass "com/example/unfold_axioms/unfoldaxioms/owlapi/TextSyntaxIsWhiteSpacePinLaw" = some m.cls := findClass_of_methodNamed Bd.named
  have X0 : Stand p l e room_1 s m #[(.int p1)] below meth c s₁ [] 0 0 := Stand.of_body Bd
  have e0 : s₁.heap = h0 := by rw [← hh, Bd.state]; rfl
  have N0 := Fr.nil n0
  have pre0 : ∀ t, Steps p.tables e below (s₁.setTop (mkF m 0 #[.val (.int p1), .unset, .unset, .unset] [])) t → Steps p.tables e below (s₁.setTop (entryFrame m #[(.int p1)] maxLocals)) t := fun t k => castTop (ef_0 m p1) k
  obtain ⟨_, _, ⟨T1, L1, k1, n1⟩, -, X1, ⟨Lc1, hQ1, l1, y1, z1⟩, st1⟩ := Jvm.LawKit.callS X0 hx (y := (⟨"com/example/unfold_axioms/unfoldaxioms/owlapi/TextSyntax", "isWhiteSpace", "(I)Z"⟩ : MethodName)) hown (mvT hZ (hw _ (List.mem_of_getElem? (i := 0) rfl))) (mvT hZ (hw _ (List.mem_of_getElem? (i := 1) rfl))) (mvT hZ (hw _ (List.mem_of_getElem? (i := 2) rfl))) (mvT hZ (hw _ (List.mem_of_getElem? (i := 3) rfl))) (by decide) (backOf (W := 0) (own_rm1 l Z a0 hw [] p1 h0 n0 Z0) hZ (hw _ (List.mem_of_getElem? (i := 3) rfl)) (hw _ (List.mem_of_getElem? (i := 2) rfl)) (by decide) (by decide)) (g := (mkF m 1 #[.val (.int p1), .unset, .unset, .unset] [(.int p1)])) rfl (by rw [hml]; rfl) (argsL := [(.int p1)]) (rest := []) (lenOf pd_0_7 rfl) rfl (by show 2 * 0 + _ ≤ _; exact Nat.le_of_eq rfl) (hb hby at_1) (fun _ _ => ⟨rfl, e0, (by decide : 0 + 0 ≤ _), (by decide : 0 + 0 ≤ _)⟩)
  dsimp only [Pt.U, Pt.locs, Pt.cells, Pt.slots] at X1 l1 y1 z1 st1 hQ1
  subst l1 y1 z1
  obtain ⟨rfl, N1q, e1⟩ := hQ1
  have N1 := Fr.app N0 N1q
  obtain ⟨fs, hr, hrun, hended, hW, hsame⟩ := X1.leave (v := some (.int (own_t0_F p1 (own_rm1_F p1)))) (fun h => by rw [Bd.returns] at h; cases h)
  refine ⟨_, _, pre0 _ ?_, hrun, hended, _, _, rfl, ?_, ⟨_, rfl⟩, hW, hsame.mono (by decide) (by decide)⟩
  · show Steps p.tables e below (s₁.setTop (mkF m 0 #[.val (.int p1), .unset, .unset, .unset] [])) _
    refine XS.iloadN X0.here hx rfl (hb hby at_0) rfl ?_
    show Steps p.tables e below (s₁.setTop (mkF m 1 #[.val (.int p1), .unset, .unset, .unset] [(.int p1)])) _
    refine st1 _ ?_
    show Steps p.tables e below (T1.setTop (mkF m 4 #[.val (.int p1), .unset, .unset, .unset] [(.int (own_rm1_F p1))])) _
    refine XS.istoreN X1.here hx rfl (hb hby at_4) rfl (l' := #[.val (.int p1), .val (.int (own_rm1_F p1)), .unset, .unset]) rfl ?_
    exact own_t0 X1 hx hZ hw hby hown Bd.returns p1 (own_rm1_F p1) hr
  · exact ⟨congrArg (fun z => some (Value.int z)) (own_law p1), N1⟩
set_option maxRecDepth 65536 in
set_option maxHeartbeats 40000000 in
theorem comes_1 {Post : Tables → Env → Array Value → State → Outcome → State → Prop} (hpost : ∀ tb e args s v u, (limb_1_1.after args s (.returned v) u = true ∧ limb_1_2.after args s (.returned v) u = true ∧ True) → FrameEnd s (.returned v) u (Jvm.fieldLocs frame_1_writes args s ++ Jvm.arrayLocs frame_1_arrays args s ++ Jvm.staticLocs frame_1_statics s) 0 0 → Post tb e args s (.returned v) u) :
    ArmFor flags0 classFile x code maxLocals ret World_1 tables_1 room_1 Calls_1 rest_1 Pre_1 Post := by
  intro l hfl _ _ p e ha hc hk s m args below hf hA hF happ hP
  obtain ⟨hcalls, hrest, hpre⟩ := hP
  obtain ⟨-, -, -, hnamed, -, -, -, hat⟩ := (Spec.applies_iff hf).mp happ
  obtain ⟨hg, hn⟩ := and_e (Cond.before_iff.mp (show (Jvm.Cond.and given_1 narrow_1).before args s = true from hpre))
  obtain ⟨gc, g0⟩ := and_e hg
  obtain ⟨w0, rfl⟩ : ∃ w0 : Value, args = #[w0] := by
    have hs : args.size = 1 := by simpa [Cond.value, given_1] using gc
    obtain ⟨L⟩ := args
    match L, hs with
    | [w0], _ => exact ⟨w0, rfl⟩
  have hw := fun d (hd : d ∈ tables_1) => atoms_spec (ws := Jvm.Cond.code x code maxLocals ret :: tables_1) hat d (List.mem_cons_of_mem _ hd)
  obtain ⟨i0, ei0⟩ := is_v g0
  obtain rfl : w0 = (.int i0) := Option.some.inj ei0
  obtain ⟨n, o, h1, h2, h3, _, L, rfl, ⟨rfl, N⟩, hq⟩ := own_rm0 l s _ hw tables_1 i0 s.heap s.heap.size (Nat.le_refl _) p e ha hc hk s m _ below hf ((Spec.applies_iff_loose hf).mp happ).1 ⟨rfl, State.Warmed39.refl s, rfl⟩ trivial
  refine ⟨n, _, h1, h2, h3, hpost _ _ _ _ _ _ ⟨Cond.after_iff.mpr rfl, Cond.after_iff.mpr (eq_i res_at (Term.int_eval (1)) rfl), trivial⟩ ⟨hq.1, hq.2.1, (hq.2.2.sift fun y hy => Or.inr (N y hy)).mono (by decide) (by decide)⟩⟩
theorem main_1_1 : Claimed_1_1 := comes_1 fun _ _ _ _ _ _ h hF => ⟨h.1, hF⟩
theorem main_1_2 : Claimed_1_2 := comes_1 fun _ _ _ _ _ _ h hF => ⟨h.2.1, hF⟩
end Jvm.Pilot.@@N@@
namespace Jvm.Pilot.@@N@@
open Jvm Jvm.ClassFile Sem Op Lib Jvm.Free Jvm.Stand Jvm.Pilot.@@N@@.Jvm.D
/-! MADE BY PROGRAM (witnessworld.py) out of the Statement's table words and the real class files: 12 classes; the members and pool entries that the words name. The judged class is class 1, her method 1. -/
namespace start1
open Jvm.ClassFile
def u (s : String) : CpInfo := .utf8 (stringToUtf16 s)
/-- a pool by its gaps: so many unusable entries, then the entry; so many at the end -/
def gap : Nat → List CpInfo → List CpInfo
  | 0, r => r
  | n + 1, r => .unusable :: gap n r
def poolList (es : List (Nat × CpInfo)) (last : Nat) : List CpInfo := es.foldr (fun e r => gap e.1 (e.2 :: r)) (gap last [])
def pool (es : List (Nat × CpInfo)) (last : Nat) : Array CpInfo := ⟨poolList es last⟩
def fileOf (pool : Array CpInfo) (this : Nat) (attrs : Array Attribute := #[]) (ms : Array MethodInfo := #[]) (fl : Nat := 33) (sup : Nat := 0) (ifs : Array Nat := #[]) (fds : Array FieldInfo := #[]) : ClassFile where
  minorVersion := 0
  majorVersion := 65
  constantPool := pool
  accessFlags := fl
  thisClass := this
  superClass := sup
  interfaces := ifs
  fields := fds
  methods := ms
  attributes := attrs
def plain (name : String) (sup : Option ClassId) : Class where
  name := name
  kind := .ordinary
  loader := none
  accessFlags := 33
  super := sup
  interfaces := #[]
  cf := none
  fields := #[]
  methods := #[]
  instanceTypes := #[]
  staticTypes := #[]
  resolved := #[]
  callSites := []
  init := .initialized
  statics := none
  mirror := none

def pool0 : Array CpInfo := pool [(5, u "<init>"), (0, u "()V"), (1, .class_ 10), (1, u "java/lang/Object")] 113

def k0m0 : Method := { name := "<init>", desc := "()V", sig := { parameters := [], returnType := none }, accessFlags := 1, code := none }
/-- java/lang/Object -/
def k0 : Class := { plain "java/lang/Object" none with
  accessFlags := 33
  interfaces := #[]
  cf := some (fileOf pool0 8 #[] #[{ accessFlags := 1, nameIndex := 5, descriptorIndex := 6, attributes := #[] }] 33 0 #[] #[])
  fields := #[]
  methods := #[k0m0]
  instanceTypes := #[]
  staticTypes := #[]
  resolved := Array.replicate 124 none
  statics := none }

def pool1 : Array CpInfo := pool [(2, .class_ 4), (1, u "java/lang/Object"), (0, u "<init>"), (0, u "()V"), (0, .methodref 8 9), (0, .class_ 10), (0, .nameAndType 11 12), (0, u "com/example/unfold_axioms/unfoldaxioms/owlapi/TextSyntax"), (0, u "isWhiteSpace"), (0, u "(I)Z"), (0, .class_ 14), (0, u "com/example/unfold_axioms/unfoldaxioms/owlapi/TextSyntaxIsWhiteSpacePinLaw"), (2, u "law")] 3

def k1m0 : Method := { name := "<init>", desc := "()V", sig := { parameters := [], returnType := none }, accessFlags := 2, code := none }
def k1c1 : Code := { maxStack := 2, maxLocals := 4, code := code, exceptionTable := #[], attributes := #[] }
def k1m1 : Method := { name := "law", desc := "(I)Z", sig := { parameters := [.int], returnType := some .boolean }, accessFlags := 9, code := some k1c1 }
/-- com/example/unfold_axioms/unfoldaxioms/owlapi/TextSyntaxIsWhiteSpacePinLaw -/
def k1 : Class := { plain "com/example/unfold_axioms/unfoldaxioms/owlapi/TextSyntaxIsWhiteSpacePinLaw" (some 0) with
  accessFlags := 49
  interfaces := #[]
  cf := some (fileOf pool1 13 #[] #[{ accessFlags := 2, nameIndex := 5, descriptorIndex := 6, attributes := #[] }, { accessFlags := 9, nameIndex := 17, descriptorIndex := 12, attributes := #[] }] 49 2 #[] #[])
  fields := #[]
  methods := #[k1m0, k1m1]
  instanceTypes := #[]
  staticTypes := #[]
  resolved := Array.replicate 21 none
  statics := none }

def pool2 : Array CpInfo := pool [(1, .class_ 2), (0, u "java/lang/constant/Constable"), (0, .class_ 4), (0, u "java/lang/Object")] 6

/-- java/lang/constant/Constable -/
def k2 : Class := { plain "java/lang/constant/Constable" (some 0) with
  accessFlags := 1537
  interfaces := #[]
  cf := some (fileOf pool2 1 #[] #[] 1537 3 #[] #[])
  fields := #[]
  methods := #[]
  instanceTypes := #[]
  staticTypes := #[]
  resolved := Array.replicate 11 none
  statics := none }

def pool3 : Array CpInfo := pool [(1, .class_ 2), (0, u "java/lang/Comparable"), (0, .class_ 4), (0, u "java/lang/Object")] 7

/-- java/lang/Comparable -/
def k3 : Class := { plain "java/lang/Comparable" (some 0) with
  accessFlags := 1537
  interfaces := #[]
  cf := some (fileOf pool3 1 #[] #[] 1537 3 #[] #[])
  fields := #[]
  methods := #[]
  instanceTypes := #[]
  staticTypes := #[]
  resolved := Array.replicate 12 none
  statics := none }

def pool4 : Array CpInfo := pool [(1, .class_ 2), (0, u "java/io/Serializable"), (0, .class_ 4), (0, u "java/lang/Object")] 2

/-- java/io/Serializable -/
def k4 : Class := { plain "java/io/Serializable" (some 0) with
  accessFlags := 1537
  interfaces := #[]
  cf := some (fileOf pool4 1 #[] #[] 1537 3 #[] #[])
  fields := #[]
  methods := #[]
  instanceTypes := #[]
  staticTypes := #[]
  resolved := Array.replicate 7 none
  statics := none }

def pool5 : Array CpInfo := pool [(2, .class_ 4), (1, u "java/lang/Enum"), (0, u "name"), (0, u "Ljava/lang/String;"), (2, u "ordinal"), (0, u "I"), (1, .class_ 14), (1, u "java/lang/Object"), (4, u "hash"), (86, .class_ 108), (1, u "java/lang/Enum$EnumDesc"), (2, .class_ 112), (0, u "java/lang/constant/Constable"), (0, .class_ 114), (0, u "java/lang/Comparable"), (0, .class_ 116), (0, u "java/io/Serializable")] 87

/-- java/lang/Enum -/
def k5 : Class := { plain "java/lang/Enum" (some 0) with
  accessFlags := 1057
  interfaces := #[2, 3, 4]
  cf := some (fileOf pool5 2 #[.nestMembers #[106]] #[] 1057 12 #[111, 113, 115] #[{ accessFlags := 18, nameIndex := 5, descriptorIndex := 6, attributes := #[] }, { accessFlags := 18, nameIndex := 9, descriptorIndex := 10, attributes := #[] }, { accessFlags := 2, nameIndex := 19, descriptorIndex := 10, attributes := #[] }])
  fields := #[{ name := "name", type := (.object "java/lang/String"), accessFlags := 18, slot := 0, constantValue := 0 }, { name := "ordinal", type := .int, accessFlags := 18, slot := 1, constantValue := 0 }, { name := "hash", type := .int, accessFlags := 2, slot := 2, constantValue := 0 }]
  methods := #[]
  instanceTypes := #[(.object "java/lang/String"), .int, .int]
  staticTypes := #[]
  resolved := Array.replicate 204 none
  statics := none }

def pool6 : Array CpInfo := pool [(1, .class_ 2), (0, u "com/example/unfold_axioms/unfoldaxioms/owlapi/TextSyntax"), (2, u "FUNCTIONAL"), (0, u "Lcom/example/unfold_axioms/unfoldaxioms/owlapi/TextSyntax;"), (2, u "MANCHESTER"), (2, u "TURTLE"), (2, u "$VALUES"), (0, u "[Lcom/example/unfold_axioms/unfoldaxioms/owlapi/TextSyntax;"), (6, .class_ 25), (1, u "java/lang/Enum"), (8, u "commentEndsName"), (0, u "Z"), (2, u "returnEndsComment"), (0, .class_ 40), (0, u "com/example/unfold_axioms/unfoldaxioms/owlapi/TextSyntax$Blanks"), (20, u "isWhiteSpace"), (0, u "(I)Z")] 14

def k6c0 : Code := { maxStack := 2, maxLocals := 1, code := prog_117_method_4_code, exceptionTable := #[], attributes := #[] }
def k6m0 : Method := { name := "isWhiteSpace", desc := "(I)Z", sig := { parameters := [.int], returnType := some .boolean }, accessFlags := 8, code := some k6c0 }
/-- com/example/unfold_axioms/unfoldaxioms/owlapi/TextSyntax -/
def k6 : Class := { plain "com/example/unfold_axioms/unfoldaxioms/owlapi/TextSyntax" (some 5) with
  accessFlags := 16432
  interfaces := #[]
  cf := some (fileOf pool6 1 #[.nestMembers #[39]] #[{ accessFlags := 8, nameIndex := 61, descriptorIndex := 62, attributes := #[] }] 16432 23 #[] #[{ accessFlags := 16409, nameIndex := 5, descriptorIndex := 6, attributes := #[] }, { accessFlags := 16409, nameIndex := 9, descriptorIndex := 6, attributes := #[] }, { accessFlags := 16409, nameIndex := 12, descriptorIndex := 6, attributes := #[] }, { accessFlags := 18, nameIndex := 34, descriptorIndex := 35, attributes := #[] }, { accessFlags := 18, nameIndex := 38, descriptorIndex := 35, attributes := #[] }, { accessFlags := 4122, nameIndex := 15, descriptorIndex := 16, attributes := #[] }])
  fields := #[{ name := "FUNCTIONAL", type := (.object "com/example/unfold_axioms/unfoldaxioms/owlapi/TextSyntax"), accessFlags := 16409, slot := 0, constantValue := 0 }, { name := "MANCHESTER", type := (.object "com/example/unfold_axioms/unfoldaxioms/owlapi/TextSyntax"), accessFlags := 16409, slot := 1, constantValue := 0 }, { name := "TURTLE", type := (.object "com/example/unfold_axioms/unfoldaxioms/owlapi/TextSyntax"), accessFlags := 16409, slot := 2, constantValue := 0 }, { name := "commentEndsName", type := .boolean, accessFlags := 18, slot := 3, constantValue := 0 }, { name := "returnEndsComment", type := .boolean, accessFlags := 18, slot := 4, constantValue := 0 }, { name := "$VALUES", type := (.array (.object "com/example/unfold_axioms/unfoldaxioms/owlapi/TextSyntax")), accessFlags := 4122, slot := 3, constantValue := 0 }]
  methods := #[k6m0]
  instanceTypes := #[(.object "java/lang/String"), .int, .int, .boolean, .boolean]
  staticTypes := #[(.object "com/example/unfold_axioms/unfoldaxioms/owlapi/TextSyntax"), (.object "com/example/unfold_axioms/unfoldaxioms/owlapi/TextSyntax"), (.object "com/example/unfold_axioms/unfoldaxioms/owlapi/TextSyntax"), (.array (.object "com/example/unfold_axioms/unfoldaxioms/owlapi/TextSyntax"))]
  resolved := Array.replicate 77 none
  statics := none }

def pool7 : Array CpInfo := pool [(1, u "java/lang/Cloneable"), (0, .class_ 1), (0, u "java/lang/Object"), (0, .class_ 3)] 3

/-- java/lang/Cloneable -/
def k7 : Class := { plain "java/lang/Cloneable" (some 0) with
  accessFlags := 1537
  interfaces := #[]
  cf := some (fileOf pool7 2 #[] #[] 1537 4 #[] #[])
  fields := #[]
  methods := #[]
  instanceTypes := #[]
  staticTypes := #[]
  resolved := Array.replicate 8 none
  statics := none }

/-- the primitive byte -/
def k8 : Class := { plain "byte" none with kind := .primitive 'B', accessFlags := 0x411 }
/-- [B -/
def k9 : Class := { plain "[B" (some 0) with kind := .array 8 .byte, interfaces := #[7, 4], accessFlags := 1041 }

/-- the primitive int -/
def k10 : Class := { plain "int" none with kind := .primitive 'I', accessFlags := 0x411 }
/-- [I -/
def k11 : Class := { plain "[I" (some 0) with kind := .array 10 .int, interfaces := #[7, 4], accessFlags := 1041 }

def heap : Heap := #[]
def classes : Array Class := #[k0, k1, k2, k3, k4, k5, k6, k7, k8, k9, k10, k11]
def interned : List (Array UInt16 × Addr) := []
def slotsUsed : Nat := 0
def theMethod : MethodId := ⟨1, 1⟩
def args0 : Array Value := #[.int 32]
def aboutOver (below : List Frame) : State where
  vm := { classes := classes, interned := interned.toArray }
  heap := heap
  slotsUsed := slotsUsed
  threads := #[{ frames := .invoking theMethod args0 :: below }]
def below0 : List Frame := [.native { method := ⟨0, 0⟩, args := #[] }]
def about1 : State := aboutOver below0
def p0 : Program := .bare "" "" ""
def e0 : Env := launch0.env 0 0 0
theorem w_frames : about1.frames = Frame.invoking theMethod args0 :: below0 := rfl
set_option maxRecDepth 65536 in
theorem w_args : argsFit about1.vm theMethod args0 = true := by decide +kernel
set_option maxRecDepth 65536 in
theorem w_heap : heapFits about1 = true := by decide +kernel
set_option maxRecDepth 65536 in
theorem w_runnable : about1.curStatus? = some .runnable := by decide +kernel
set_option maxRecDepth 65536 in
theorem w_alone : about1.alone = true := by decide +kernel
set_option maxRecDepth 65536 in
theorem w_named : about1.methodNamed? x = some theMethod := by decide +kernel
set_option maxRecDepth 65536 in
theorem w_hears : about1.hears theMethod below0 = true := by decide +kernel
set_option maxRecDepth 65536 in
theorem w_ripe : about1.ripe theMethod args0 below0 = true := by decide +kernel
theorem w_running : about1.status = .running := rfl
set_option maxRecDepth 65536 in
theorem w_room : about1.hasRoom e0.platform room_1 = true :=
  launch0.hasRoom_least _ room_1 (by decide +kernel) (by decide +kernel) (by decide +kernel) (by decide +kernel) (by decide +kernel) (by decide +kernel)
theorem allAtoms_all (ts : List Jvm.Cond) (a : Array Jvm.Value) (st : Jvm.State) : (allAtoms ts).before a st = ts.all (fun c => c.before a st) := by
  induction ts with
  | nil => rfl
  | cons c t ih =>
    show (Jvm.Cond.and c (allAtoms t)).before a st = _
    rw [Jvm.Cond.before_and, ih, List.all_cons]
def words1 : List Jvm.Cond := Jvm.Cond.code x code maxLocals ret :: tables_1
/-- a 'code' word, met by the world's own term for the bytes: nothing is compared byte by byte -/
theorem code_word {y : MethodName} {bytes : ByteArray} {mx : Nat} {rt : Option FieldType} {a : Array Value} {s : State} {m : MethodId} {meth : Method} {c : Code} (h1 : s.methodNamed? y = some m) (h2 : s.vm.method? m = some meth) (h3 : meth.code = some c) (h4 : c.code = bytes)
    (h5 : (c.maxLocals == mx && c.exceptionTable.isEmpty && decide (c.maxStack ≤ mostOperands) && decide (meth.sig.returnType = rt) && !meth.locks && decide (parseMethodDescriptor y.desc = some meth.sig)) = true) : (Jvm.Cond.code y bytes mx rt).before a s = true := by
  simp only [Bool.and_eq_true, beq_iff_eq, Bool.not_eq_true', decide_eq_true_eq] at h5
  obtain ⟨⟨⟨⟨⟨g1, g2⟩, g3⟩, g4⟩, g5⟩, g6⟩ := h5
  simp [Cond.before, Cond.holds, Cond.value, h1, h2, h3, h4, g1, g2, g3, g4, g5, g6]
def isCode : Jvm.Cond → Bool
  | .code _ _ _ _ => true
  | _ => false
theorem all_split {L : List Jvm.Cond} {P : Jvm.Cond → Bool} (h1 : L.all (fun c => isCode c || P c) = true) (h2 : ∀ c ∈ L.filter isCode, P c = true) : L.all P = true := by
  refine List.all_eq_true.mpr fun c hc => ?_
  have h := List.all_eq_true.mp h1 c hc
  rcases Bool.eq_false_or_eq_true (isCode c) with hi | hi
  · exact h2 c (List.mem_filter.mpr ⟨hc, hi⟩)
  · simpa [hi] using h
set_option maxRecDepth 65536 in
theorem w_c0 : (Jvm.Cond.code x code maxLocals ret).before args0 about1 = true := code_word (m := ⟨1, 1⟩) (meth := k1m1) (c := k1c1) (by decide +kernel) rfl rfl rfl (by decide +kernel)
set_option maxRecDepth 65536 in
theorem w_c1 : (Jvm.Cond.code ({ cls := "com/example/unfold_axioms/unfoldaxioms/owlapi/TextSyntax", name := "isWhiteSpace", desc := "(I)Z" } : Jvm.MethodName) prog_117_method_4_code (1 : Nat) (Option.some Jvm.ClassFile.FieldType.boolean)).before args0 about1 = true := code_word (m := ⟨6, 0⟩) (meth := k6m0) (c := k6c0) (by decide +kernel) rfl rfl rfl (by decide +kernel)
def codes1 : List Jvm.Cond := [Jvm.Cond.code x code maxLocals ret, Jvm.Cond.code ({ cls := "com/example/unfold_axioms/unfoldaxioms/owlapi/TextSyntax", name := "isWhiteSpace", desc := "(I)Z" } : Jvm.MethodName) prog_117_method_4_code (1 : Nat) (Option.some Jvm.ClassFile.FieldType.boolean)]
set_option maxRecDepth 65536 in
theorem codes_eq : words1.filter isCode = codes1 := rfl
theorem w_codes : ∀ c ∈ words1.filter isCode, c.before args0 about1 = true := by
  rw [codes_eq]
  intro c hc
  simp only [codes1, List.mem_cons, List.not_mem_nil, or_false] at hc
  rcases hc with rfl | rfl
  · exact w_c0
  · exact w_c1
set_option maxRecDepth 65536 in
theorem w_t1 : words1.all (fun c => isCode c || c.before args0 about1) = true := by decide +kernel
theorem w_tables : (allAtoms (Jvm.Cond.code x code maxLocals ret :: tables_1)).before args0 about1 = true := by
  rw [allAtoms_all]
  show words1.all (fun c => c.before args0 about1) = true
  refine all_split ?_ w_codes
  rw [w_t1]
set_option maxRecDepth 65536 in
theorem w_case : (Jvm.Cond.and given_1 narrow_1).before args0 about1 = true := by decide +kernel
theorem w_applies : (headSpec (Jvm.Cond.code x code maxLocals ret :: tables_1) room_1).applies x e0.platform about1 = true :=
  (Spec.applies_iff w_frames).mpr ⟨w_running, w_runnable, w_alone, w_named, w_hears, w_ripe, w_room, w_tables⟩
theorem atStart : AtStart classFile x code maxLocals ret World_1 tables_1 room_1 Calls_1 rest_1 Pre_1 launch0 p0 e0 about1 theMethod args0 below0 :=
  ⟨lists_1, trivial, launch0.admits_env _ _ _, launch0.least_env, fairChoices_fair.cas, fairChoices_fair.clock, w_frames, w_args, w_heap, w_applies, trivial, trivial, w_case⟩
end start1
theorem witness_1 : WitnessClaimed_1 := ⟨start1.p0, start1.e0, start1.about1, start1.theMethod, start1.args0, start1.below0, start1.atStart⟩
end Jvm.Pilot.@@N@@
