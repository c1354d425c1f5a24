import JvmDerived
import JvmDerived.Pilot.@@N@@Statement
import JvmDerived.Pilot.@@N@@Code
set_option linter.unusedVariables false
set_option linter.unusedSimpArgs false
namespace Jvm.RoadKit
open Sem ClassFile Op Lib Jvm.Stand Jvm.Free Jvm.LawKit
section New
variable {p : Program} {l : Launch} {e : Env} {R : Room} {s : State} {m : MethodId} {args : Array Value} {below : List Frame} {meth : Method} {c : Code} {T : State} {locs : List Loc} {cells slots : Nat}
theorem retI (X : Stand p l e R s m args below meth c T locs cells slots) (hx : p.tables.exec = Jvm.exec) {pc : Nat} {Ls : Array Slot} {z : Int32} {rest : List Value} (hret : meth.sig.returnType = some .int) (hd : decode c.code pc = .ok (.ireturn, 1)) {fs : List Frame}
    (hl : ∀ (f : JFrame) (acts : List Action), f.method = m → f.locked = none → f.entered = [] → (doReturn e (T.setTop f) acts (some (.int z))).1 = T.setFrames fs) : Steps p.tables e below (T.setTop (mkF m pc Ls (.int z :: rest))) (T.setFrames fs) := by
  have hm' : T.vm.method? m = some meth := X.method'
  have hn : narrow .int (.int z) = .int z := rfl
  show Steps p.tables e below (T.setTop { method := m, pc := pc, locals := Ls, stack := _ :: rest, locked := none }) _
  jvm_step X.here [X.here.top, hx, hd, hm', hret, hn]
  first | (intro acts; rw [hl _ acts rfl rfl rfl]) | rw [hl _ _ rfl rfl rfl]
  exact Steps.refl _
end New
end Jvm.RoadKit
namespace Jvm.Pilot.@@N@@
open Jvm Jvm.ClassFile Sem Op Lib Jvm.Free Jvm.Stand Jvm.LawKit Jvm.RoadKit Bundle Jvm.Pilot.@@N@@.Jvm.D
def own_Q (r : Option Value) (n0 : Nat) (h0 : Heap) (v : Option Value) (h : Heap) (L : List Loc) : Prop := v = r ∧ Fr n0 L ∧ h = h0
theorem d1_0 : decode prog_72_method_2_code 0 = .ok (.lload_n 0, 1) := by decide +kernel
theorem d1_1 : decode prog_72_method_2_code 1 = .ok (.lload_n 3, 1) := by decide +kernel
theorem d1_2 : decode prog_72_method_2_code 2 = .ok (.lcmp, 1) := by decide +kernel
theorem d1_3 : decode prog_72_method_2_code 3 = .ok (.ifCond .gt 15, 3) := by decide +kernel
theorem d1_18 : decode prog_72_method_2_code 18 = .ok (.iconst 1, 1) := by decide +kernel
theorem d1_19 : decode prog_72_method_2_code 19 = .ok (.goto 4, 3) := by decide +kernel
theorem d1_23 : decode prog_72_method_2_code 23 = .ok (.ireturn, 1) := by decide +kernel
theorem d1_6 : decode prog_72_method_2_code 6 = .ok (.lload_n 0, 1) := by decide +kernel
theorem d1_7 : decode prog_72_method_2_code 7 = .ok (.lload_n 3, 1) := by decide +kernel
theorem d1_8 : decode prog_72_method_2_code 8 = .ok (.lcmp, 1) := by decide +kernel
theorem d1_9 : decode prog_72_method_2_code 9 = .ok (.ifCond .ne 13, 3) := by decide +kernel
theorem d1_12 : decode prog_72_method_2_code 12 = .ok (.iload_n 2, 1) := by decide +kernel
theorem d1_13 : decode prog_72_method_2_code 13 = .ok (.iload 5, 2) := by decide +kernel
theorem d1_15 : decode prog_72_method_2_code 15 = .ok (.if_icmp .le 7, 3) := by decide +kernel
theorem d1_22 : decode prog_72_method_2_code 22 = .ok (.iconst 0, 1) := by decide +kernel
def own_t1_F (v : Int64) (i : Int32) (w : Int64) (j : Int32) : Int32 := (if w < v then (1 : Int32) else (if v = w then (if j < i then (1 : Int32) else (0 : Int32)) else (0 : Int32)))
set_option maxRecDepth 65536 in
set_option maxHeartbeats 40000000 in
theorem own_t1 {p : Program} {l : Launch} {e : Env} {R : Room} {s : State} {m : MethodId} {args : Array Value} {below : List Frame} {meth : Method} {c : Code} {T0 : State} {locs : List Loc} {cells slots : Nat} {Z : State} {a0 : Array Value} (X : Stand p l e R s m args below meth c T0 locs cells slots) (hx : p.tables.exec = Jvm.exec) (hZ : Z.Warmed39 s.vm) (hw : ∀ d ∈ tables_1, d.before a0 Z = true) (hby : c.code = prog_72_method_2_code) (hown : s.vm.findClass "com/example/firmeza/firmeza/settlement/Ranking" = some m.cls) (hret : meth.sig.returnType = some .boolean) (v : Int64) (i : Int32) (w : Int64) (j : Int32) {fs : List Frame}
    (hr : ∀ (f : JFrame) (acts : List Action), f.method = m → f.locked = none → f.entered = [] → (doReturn e (T0.setTop f) acts (some (.int (own_t1_F v i w j)))).1 = T0.setFrames fs) :
    Steps p.tables e below (T0.setTop (mkF m 0 #[.val (.long v), .second, .val (.int i), .val (.long w), .second, .val (.int j)] [])) (T0.setFrames fs) := by
  show Steps p.tables e below (T0.setTop (mkF m 0 #[.val (.long v), .second, .val (.int i), .val (.long w), .second, .val (.int j)] [])) _
  refine XS.lloadN X.here hx rfl (hb hby d1_0) rfl ?_
  show Steps p.tables e below (T0.setTop (mkF m 1 #[.val (.long v), .second, .val (.int i), .val (.long w), .second, .val (.int j)] [(.long v)])) _
  refine XS.lloadN X.here hx rfl (hb hby d1_1) rfl ?_
  show Steps p.tables e below (T0.setTop (mkF m 2 #[.val (.long v), .second, .val (.int i), .val (.long w), .second, .val (.int j)] [(.long w), (.long v)])) _
  refine XS.lcmp X.here hx rfl (hb hby d1_2) rfl ?_
  show Steps p.tables e below (T0.setTop (mkF m 3 #[.val (.long v), .second, .val (.int i), .val (.long w), .second, .val (.int j)] [(.int (lcmpW v w))])) _
  by_cases hc3_1 : w < v
  · refine XS.ifYes X.here hx rfl (pc0 := 3) (pc' := 18) rfl (hb hby d1_3) rfl ((if0 _ _).trans (tlt ((lw_gt v w).mpr hc3_1)).2.2.1) (by decide) (by decide) ?_
    show Steps p.tables e below (T0.setTop (mkF m 18 #[.val (.long v), .second, .val (.int i), .val (.long w), .second, .val (.int j)] [])) _
    refine XS.iconst X.here hx rfl (hb hby d1_18) ?_
    show Steps p.tables e below (T0.setTop (mkF m 19 #[.val (.long v), .second, .val (.int i), .val (.long w), .second, .val (.int j)] [(.int (1 : Int32))])) _
    refine XS.goto X.here hx rfl (pc0 := 19) (pc' := 23) rfl (hb hby d1_19) (by decide) (by decide) ?_
    show Steps p.tables e below (T0.setTop (mkF m 23 #[.val (.long v), .second, .val (.int i), .val (.long w), .second, .val (.int j)] [(.int (1 : Int32))])) _
    have hF : own_t1_F v i w j = (1 : Int32) := by unfold own_t1_F; simp only [if_pos hc3_1]
    rw [hF] at hr
    exact retN X hx (t := .boolean) hret (by simp) (hb hby d1_23) hr
  · refine XS.ifNo X.here hx rfl (hb hby d1_3) rfl ((if0 _ _).trans (flt (fun z_ => hc3_1 ((lw_gt v w).mp z_))).2.2.1) ?_
    show Steps p.tables e below (T0.setTop (mkF m 6 #[.val (.long v), .second, .val (.int i), .val (.long w), .second, .val (.int j)] [])) _
    refine XS.lloadN X.here hx rfl (hb hby d1_6) rfl ?_
    show Steps p.tables e below (T0.setTop (mkF m 7 #[.val (.long v), .second, .val (.int i), .val (.long w), .second, .val (.int j)] [(.long v)])) _
    refine XS.lloadN X.here hx rfl (hb hby d1_7) rfl ?_
    show Steps p.tables e below (T0.setTop (mkF m 8 #[.val (.long v), .second, .val (.int i), .val (.long w), .second, .val (.int j)] [(.long w), (.long v)])) _
    refine XS.lcmp X.here hx rfl (hb hby d1_8) rfl ?_
    show Steps p.tables e below (T0.setTop (mkF m 9 #[.val (.long v), .second, .val (.int i), .val (.long w), .second, .val (.int j)] [(.int (lcmpW v w))])) _
    by_cases hc9_2 : v = w
    · refine XS.ifNo X.here hx rfl (hb hby d1_9) rfl ((if0 _ _).trans (teq ((lw_eq v w).mpr hc9_2)).2) ?_
      show Steps p.tables e below (T0.setTop (mkF m 12 #[.val (.long v), .second, .val (.int i), .val (.long w), .second, .val (.int j)] [])) _
      refine XS.iloadN X.here hx rfl (hb hby d1_12) rfl ?_
      show Steps p.tables e below (T0.setTop (mkF m 13 #[.val (.long v), .second, .val (.int i), .val (.long w), .second, .val (.int j)] [(.int i)])) _
      refine XS.iload X.here hx rfl (hb hby d1_13) rfl ?_
      show Steps p.tables e below (T0.setTop (mkF m 15 #[.val (.long v), .second, .val (.int i), .val (.long w), .second, .val (.int j)] [(.int j), (.int i)])) _
      by_cases hc15_3 : j < i
      · refine XS.icmpNo X.here hx rfl (hb hby d1_15) rfl (tlt hc15_3).2.2.2 ?_
        show Steps p.tables e below (T0.setTop (mkF m 18 #[.val (.long v), .second, .val (.int i), .val (.long w), .second, .val (.int j)] [])) _
        refine XS.iconst X.here hx rfl (hb hby d1_18) ?_
        show Steps p.tables e below (T0.setTop (mkF m 19 #[.val (.long v), .second, .val (.int i), .val (.long w), .second, .val (.int j)] [(.int (1 : Int32))])) _
        refine XS.goto X.here hx rfl (pc0 := 19) (pc' := 23) rfl (hb hby d1_19) (by decide) (by decide) ?_
        show Steps p.tables e below (T0.setTop (mkF m 23 #[.val (.long v), .second, .val (.int i), .val (.long w), .second, .val (.int j)] [(.int (1 : Int32))])) _
        have hF : own_t1_F v i w j = (1 : Int32) := by unfold own_t1_F; simp only [if_neg hc3_1, if_pos hc9_2, if_pos hc15_3]
        rw [hF] at hr
        exact retN X hx (t := .boolean) hret (by simp) (hb hby d1_23) hr
      · refine XS.icmpYes X.here hx rfl (pc0 := 15) (pc' := 22) rfl (hb hby d1_15) rfl (flt hc15_3).2.2.2 (by decide) (by decide) ?_
        show Steps p.tables e below (T0.setTop (mkF m 22 #[.val (.long v), .second, .val (.int i), .val (.long w), .second, .val (.int j)] [])) _
        refine XS.iconst X.here hx rfl (hb hby d1_22) ?_
        show Steps p.tables e below (T0.setTop (mkF m 23 #[.val (.long v), .second, .val (.int i), .val (.long w), .second, .val (.int j)] [(.int (0 : Int32))])) _
        have hF : own_t1_F v i w j = (0 : Int32) := by unfold own_t1_F; simp only [if_neg hc3_1, if_pos hc9_2, if_neg hc15_3]
        rw [hF] at hr
        exact retN X hx (t := .boolean) hret (by simp) (hb hby d1_23) hr
    · refine XS.ifYes X.here hx rfl (pc0 := 9) (pc' := 22) rfl (hb hby d1_9) rfl ((if0 _ _).trans (feq (fun z_ => hc9_2 ((lw_eq v w).mp z_))).2) (by decide) (by decide) ?_
      show Steps p.tables e below (T0.setTop (mkF m 22 #[.val (.long v), .second, .val (.int i), .val (.long w), .second, .val (.int j)] [])) _
      refine XS.iconst X.here hx rfl (hb hby d1_22) ?_
      show Steps p.tables e below (T0.setTop (mkF m 23 #[.val (.long v), .second, .val (.int i), .val (.long w), .second, .val (.int j)] [(.int (0 : Int32))])) _
      have hF : own_t1_F v i w j = (0 : Int32) := by unfold own_t1_F; simp only [if_neg hc3_1, if_neg hc9_2]
      rw [hF] at hr
      exact retN X hx (t := .boolean) hret (by simp) (hb hby d1_23) hr
theorem pn_1 : plainName "com/example/firmeza/firmeza/settlement/Ranking" = true := by first | (simp [plainName, overriddenIn]; done) | decide +kernel
theorem ef_1 (m : MethodId) (q1 : Int64) (p2 : Int32) (q3 : Int64) (p4 : Int32) : entryFrame m #[(.long q1), (.int p2), (.long q3), (.int p4)] 6 = mkF m 0 #[.val (.long q1), .second, .val (.int p2), .val (.long q3), .second, .val (.int p4)] [] := by first | (simp [entryFrame, mkF, argsToLocals, Value.category]; done) | rfl
def own_rm1_F (q1 : Int64) (p2 : Int32) (q3 : Int64) (p4 : Int32) : Int32 := (own_t1_F q1 p2 q3 p4)
set_option maxRecDepth 65536 in
set_option maxHeartbeats 40000000 in
theorem own_rm1 (l : Launch) (Z : State) (a0 : Array Value) (hw : ∀ d ∈ tables_1, d.before a0 Z = true) (ws : List Jvm.Cond) (q1 : Int64) (p2 : Int32) (q3 : Int64) (p4 : Int32) (h0 : Heap) (n0 : Nat) (Z0 : n0 ≤ h0.size) :
    MetFree l (⟨"com/example/firmeza/firmeza/settlement/Ranking", "beats", "(JIJI)Z"⟩ : MethodName) (head1 (Jvm.Cond.code (⟨"com/example/firmeza/firmeza/settlement/Ranking", "beats", "(JIJI)Z"⟩ : MethodName) prog_72_method_2_code 6 (some .boolean) :: ws) ({ frames := 0, cells := 0, slots := 0, locals := 0 } : Room)) (fun a U => a = #[(.long q1), (.int p2), (.long q3), (.int p4)] ∧ Z.Warmed39 U.vm ∧ U.heap = h0) (fun _ _ _ _ _ => True) (fun _ U o U' => ∃ v L, o = .returned v ∧ (own_Q (some (.int (own_rm1_F q1 p2 q3 p4))) n0 h0 v U'.heap L) ∧ FrameEnd U o U' L ({ frames := 0, cells := 0, slots := 0, locals := 0 } : Room).cells ({ frames := 0, cells := 0, slots := 0, locals := 0 } : Room).slots) := by
  refine MetFree.of_bodySF (plainFor_of_name pn_1) hisR ?_
  intro p e s m args below meth c s₁ Bd hml0 hP hK
  obtain ⟨rfl, hZ, hh⟩ := hP
  have hx := Bd.exec
  have hby := Bd.bytes
  have hml : c.maxLocals = 6 := hml0
  have hown : s.vm.findClass "com/example/firmeza/firmeza/settlement/Ranking" = some m.cls := findClass_of_methodNamed Bd.named
  have X0 : Stand p l e ({ frames := 0, cells := 0, slots := 0, locals := 0 } : Room) s m #[(.long q1), (.int p2), (.long q3), (.int p4)] below meth c s₁ [] 0 0 := Stand.of_body Bd
  have e0 : s₁.heap = h0 := by rw [← hh, Bd.state]; rfl
  have N0 := Fr.nil n0
  have pre0 : ∀ t, Steps p.tables e below (s₁.setTop (mkF m 0 #[.val (.long q1), .second, .val (.int p2), .val (.long q3), .second, .val (.int p4)] [])) t → Steps p.tables e below (s₁.setTop (entryFrame m #[(.long q1), (.int p2), (.long q3), (.int p4)] 6)) t := fun t k => castTop (ef_1 m q1 p2 q3 p4) k
  obtain ⟨fs, hr, hrun, hended, hW, hsame⟩ := X0.leave (v := some (.int (own_t1_F q1 p2 q3 p4))) (fun h => by rw [Bd.returns] at h; cases h)
  refine ⟨_, _, pre0 _ ?_, hrun, hended, _, _, rfl, ?_, ⟨_, rfl⟩, hW, hsame.mono (by decide) (by decide)⟩
  · exact own_t1 X0 hx hZ hw hby hown Bd.returns q1 p2 q3 p4 hr
  · exact ⟨rfl, N0, e0⟩
def own_t127_F (i : Int32) (j : Int32) (b4 : Int32) (b5 : Int32) : Int32 := (if i = j then (if b4 = (0 : Int32) then (if b5 = (0 : Int32) then (1 : Int32) else (0 : Int32)) else (0 : Int32)) else (if b4 = b5 then (0 : Int32) else (if j < i then (if b4 = (0 : Int32) then (0 : Int32) else (if i < j then (if b5 = (0 : Int32) then (0 : Int32) else (1 : Int32)) else (1 : Int32))) else (if i < j then (if b5 = (0 : Int32) then (0 : Int32) else (1 : Int32)) else (1 : Int32)))))
set_option maxRecDepth 65536 in
set_option maxHeartbeats 40000000 in
theorem own_t127 {p : Program} {l : Launch} {e : Env} {R : Room} {s : State} {m : MethodId} {args : Array Value} {below : List Frame} {meth : Method} {c : Code} {T0 : State} {locs : List Loc} {cells slots : Nat} {Z : State} {a0 : Array Value} (X : Stand p l e R s m args below meth c T0 locs cells slots) (hx : p.tables.exec = Jvm.exec) (hZ : Z.Warmed39 s.vm) (hw : ∀ d ∈ tables_1, d.before a0 Z = true) (hby : c.code = code) (hown : s.vm.findClass "com/example/firmeza/firmeza/settlement/RankingBeatsPinLaw" = some m.cls) (hret : meth.sig.returnType = some .boolean) (v : Int64) (i : Int32) (w : Int64) (j : Int32) (b1 : Int32) (b2 : Int32) (b3 : Int32) (b4 : Int32) (b5 : Int32) (sm : Int32) {fs : List Frame}
    (hr : ∀ (f : JFrame) (acts : List Action), f.method = m → f.locked = none → f.entered = [] → (doReturn e (T0.setTop f) acts (some (.int (own_t127_F i j b4 b5)))).1 = T0.setFrames fs) :
    Steps p.tables e below (T0.setTop (mkF m 127 #[.val (.long v), .second, .val (.int i), .val (.long w), .second, .val (.int j), .val (.int b1), .val (.int b2), .val (.int b3), .val (.int b4), .val (.int b5), .val (.int sm)] [])) (T0.setFrames fs) := by
  show Steps p.tables e below (T0.setTop (mkF m 127 #[.val (.long v), .second, .val (.int i), .val (.long w), .second, .val (.int j), .val (.int b1), .val (.int b2), .val (.int b3), .val (.int b4), .val (.int b5), .val (.int sm)] [])) _
  refine XS.iloadN X.here hx rfl (hb hby at_127) rfl ?_
  show Steps p.tables e below (T0.setTop (mkF m 128 #[.val (.long v), .second, .val (.int i), .val (.long w), .second, .val (.int j), .val (.int b1), .val (.int b2), .val (.int b3), .val (.int b4), .val (.int b5), .val (.int sm)] [(.int i)])) _
  refine XS.iload X.here hx rfl (hb hby at_128) rfl ?_
  show Steps p.tables e below (T0.setTop (mkF m 130 #[.val (.long v), .second, .val (.int i), .val (.long w), .second, .val (.int j), .val (.int b1), .val (.int b2), .val (.int b3), .val (.int b4), .val (.int b5), .val (.int sm)] [(.int j), (.int i)])) _
  by_cases hc130_1 : i = j
  · refine XS.icmpNo X.here hx rfl (hb hby at_130) rfl (teq hc130_1).2 ?_
    show Steps p.tables e below (T0.setTop (mkF m 133 #[.val (.long v), .second, .val (.int i), .val (.long w), .second, .val (.int j), .val (.int b1), .val (.int b2), .val (.int b3), .val (.int b4), .val (.int b5), .val (.int sm)] [])) _
    refine XS.iload X.here hx rfl (hb hby at_133) rfl ?_
    show Steps p.tables e below (T0.setTop (mkF m 135 #[.val (.long v), .second, .val (.int i), .val (.long w), .second, .val (.int j), .val (.int b1), .val (.int b2), .val (.int b3), .val (.int b4), .val (.int b5), .val (.int sm)] [(.int b4)])) _
    by_cases hc135_2 : b4 = (0 : Int32)
    · refine XS.ifNo X.here hx rfl (hb hby at_135) rfl ((if0 _ _).trans (teq hc135_2).2) ?_
      show Steps p.tables e below (T0.setTop (mkF m 138 #[.val (.long v), .second, .val (.int i), .val (.long w), .second, .val (.int j), .val (.int b1), .val (.int b2), .val (.int b3), .val (.int b4), .val (.int b5), .val (.int sm)] [])) _
      refine XS.iload X.here hx rfl (hb hby at_138) rfl ?_
      show Steps p.tables e below (T0.setTop (mkF m 140 #[.val (.long v), .second, .val (.int i), .val (.long w), .second, .val (.int j), .val (.int b1), .val (.int b2), .val (.int b3), .val (.int b4), .val (.int b5), .val (.int sm)] [(.int b5)])) _
      by_cases hc140_3 : b5 = (0 : Int32)
      · refine XS.ifYes X.here hx rfl (pc0 := 140) (pc' := 180) rfl (hb hby at_140) rfl ((if0 _ _).trans (teq hc140_3).1) (by decide) (by decide) ?_
        show Steps p.tables e below (T0.setTop (mkF m 180 #[.val (.long v), .second, .val (.int i), .val (.long w), .second, .val (.int j), .val (.int b1), .val (.int b2), .val (.int b3), .val (.int b4), .val (.int b5), .val (.int sm)] [])) _
        refine XS.iconst X.here hx rfl (hb hby at_180) ?_
        show Steps p.tables e below (T0.setTop (mkF m 181 #[.val (.long v), .second, .val (.int i), .val (.long w), .second, .val (.int j), .val (.int b1), .val (.int b2), .val (.int b3), .val (.int b4), .val (.int b5), .val (.int sm)] [(.int (1 : Int32))])) _
        have hF : own_t127_F i j b4 b5 = (1 : Int32) := by unfold own_t127_F; simp only [if_pos hc130_1, if_pos hc135_2, if_pos hc140_3]
        rw [hF] at hr
        exact retN X hx (t := .boolean) hret (by simp) (hb hby at_181) hr
      · refine XS.ifNo X.here hx rfl (hb hby at_140) rfl ((if0 _ _).trans (feq hc140_3).1) ?_
        show Steps p.tables e below (T0.setTop (mkF m 143 #[.val (.long v), .second, .val (.int i), .val (.long w), .second, .val (.int j), .val (.int b1), .val (.int b2), .val (.int b3), .val (.int b4), .val (.int b5), .val (.int sm)] [])) _
        refine XS.iconst X.here hx rfl (hb hby at_143) ?_
        show Steps p.tables e below (T0.setTop (mkF m 144 #[.val (.long v), .second, .val (.int i), .val (.long w), .second, .val (.int j), .val (.int b1), .val (.int b2), .val (.int b3), .val (.int b4), .val (.int b5), .val (.int sm)] [(.int (0 : Int32))])) _
        have hF : own_t127_F i j b4 b5 = (0 : Int32) := by unfold own_t127_F; simp only [if_pos hc130_1, if_pos hc135_2, if_neg hc140_3]
        rw [hF] at hr
        exact retN X hx (t := .boolean) hret (by simp) (hb hby at_144) hr
    · refine XS.ifYes X.here hx rfl (pc0 := 135) (pc' := 143) rfl (hb hby at_135) rfl ((if0 _ _).trans (feq hc135_2).2) (by decide) (by decide) ?_
      show Steps p.tables e below (T0.setTop (mkF m 143 #[.val (.long v), .second, .val (.int i), .val (.long w), .second, .val (.int j), .val (.int b1), .val (.int b2), .val (.int b3), .val (.int b4), .val (.int b5), .val (.int sm)] [])) _
      refine XS.iconst X.here hx rfl (hb hby at_143) ?_
      show Steps p.tables e below (T0.setTop (mkF m 144 #[.val (.long v), .second, .val (.int i), .val (.long w), .second, .val (.int j), .val (.int b1), .val (.int b2), .val (.int b3), .val (.int b4), .val (.int b5), .val (.int sm)] [(.int (0 : Int32))])) _
      have hF : own_t127_F i j b4 b5 = (0 : Int32) := by unfold own_t127_F; simp only [if_pos hc130_1, if_neg hc135_2]
      rw [hF] at hr
      exact retN X hx (t := .boolean) hret (by simp) (hb hby at_144) hr
  · refine XS.icmpYes X.here hx rfl (pc0 := 130) (pc' := 145) rfl (hb hby at_130) rfl (feq hc130_1).2 (by decide) (by decide) ?_
    show Steps p.tables e below (T0.setTop (mkF m 145 #[.val (.long v), .second, .val (.int i), .val (.long w), .second, .val (.int j), .val (.int b1), .val (.int b2), .val (.int b3), .val (.int b4), .val (.int b5), .val (.int sm)] [])) _
    refine XS.iload X.here hx rfl (hb hby at_145) rfl ?_
    show Steps p.tables e below (T0.setTop (mkF m 147 #[.val (.long v), .second, .val (.int i), .val (.long w), .second, .val (.int j), .val (.int b1), .val (.int b2), .val (.int b3), .val (.int b4), .val (.int b5), .val (.int sm)] [(.int b4)])) _
    refine XS.iload X.here hx rfl (hb hby at_147) rfl ?_
    show Steps p.tables e below (T0.setTop (mkF m 149 #[.val (.long v), .second, .val (.int i), .val (.long w), .second, .val (.int j), .val (.int b1), .val (.int b2), .val (.int b3), .val (.int b4), .val (.int b5), .val (.int sm)] [(.int b5), (.int b4)])) _
    by_cases hc149_4 : b4 = b5
    · refine XS.icmpNo X.here hx rfl (hb hby at_149) rfl (teq hc149_4).2 ?_
      show Steps p.tables e below (T0.setTop (mkF m 152 #[.val (.long v), .second, .val (.int i), .val (.long w), .second, .val (.int j), .val (.int b1), .val (.int b2), .val (.int b3), .val (.int b4), .val (.int b5), .val (.int sm)] [])) _
      refine XS.iconst X.here hx rfl (hb hby at_152) ?_
      show Steps p.tables e below (T0.setTop (mkF m 153 #[.val (.long v), .second, .val (.int i), .val (.long w), .second, .val (.int j), .val (.int b1), .val (.int b2), .val (.int b3), .val (.int b4), .val (.int b5), .val (.int sm)] [(.int (0 : Int32))])) _
      have hF : own_t127_F i j b4 b5 = (0 : Int32) := by unfold own_t127_F; simp only [if_neg hc130_1, if_pos hc149_4]
      rw [hF] at hr
      exact retN X hx (t := .boolean) hret (by simp) (hb hby at_153) hr
    · refine XS.icmpYes X.here hx rfl (pc0 := 149) (pc' := 154) rfl (hb hby at_149) rfl (feq hc149_4).2 (by decide) (by decide) ?_
      show Steps p.tables e below (T0.setTop (mkF m 154 #[.val (.long v), .second, .val (.int i), .val (.long w), .second, .val (.int j), .val (.int b1), .val (.int b2), .val (.int b3), .val (.int b4), .val (.int b5), .val (.int sm)] [])) _
      refine XS.iloadN X.here hx rfl (hb hby at_154) rfl ?_
      show Steps p.tables e below (T0.setTop (mkF m 155 #[.val (.long v), .second, .val (.int i), .val (.long w), .second, .val (.int j), .val (.int b1), .val (.int b2), .val (.int b3), .val (.int b4), .val (.int b5), .val (.int sm)] [(.int i)])) _
      refine XS.iload X.here hx rfl (hb hby at_155) rfl ?_
      show Steps p.tables e below (T0.setTop (mkF m 157 #[.val (.long v), .second, .val (.int i), .val (.long w), .second, .val (.int j), .val (.int b1), .val (.int b2), .val (.int b3), .val (.int b4), .val (.int b5), .val (.int sm)] [(.int j), (.int i)])) _
      by_cases hc157_5 : j < i
      · refine XS.icmpNo X.here hx rfl (hb hby at_157) rfl (tlt hc157_5).2.2.2 ?_
        show Steps p.tables e below (T0.setTop (mkF m 160 #[.val (.long v), .second, .val (.int i), .val (.long w), .second, .val (.int j), .val (.int b1), .val (.int b2), .val (.int b3), .val (.int b4), .val (.int b5), .val (.int sm)] [])) _
        refine XS.iload X.here hx rfl (hb hby at_160) rfl ?_
        show Steps p.tables e below (T0.setTop (mkF m 162 #[.val (.long v), .second, .val (.int i), .val (.long w), .second, .val (.int j), .val (.int b1), .val (.int b2), .val (.int b3), .val (.int b4), .val (.int b5), .val (.int sm)] [(.int b4)])) _
        by_cases hc162_6 : b4 = (0 : Int32)
        · refine XS.ifNo X.here hx rfl (hb hby at_162) rfl ((if0 _ _).trans (teq hc162_6).2) ?_
          show Steps p.tables e below (T0.setTop (mkF m 165 #[.val (.long v), .second, .val (.int i), .val (.long w), .second, .val (.int j), .val (.int b1), .val (.int b2), .val (.int b3), .val (.int b4), .val (.int b5), .val (.int sm)] [])) _
          refine XS.iconst X.here hx rfl (hb hby at_165) ?_
          show Steps p.tables e below (T0.setTop (mkF m 166 #[.val (.long v), .second, .val (.int i), .val (.long w), .second, .val (.int j), .val (.int b1), .val (.int b2), .val (.int b3), .val (.int b4), .val (.int b5), .val (.int sm)] [(.int (0 : Int32))])) _
          have hF : own_t127_F i j b4 b5 = (0 : Int32) := by unfold own_t127_F; simp only [if_neg hc130_1, if_neg hc149_4, if_pos hc157_5, if_pos hc162_6]
          rw [hF] at hr
          exact retN X hx (t := .boolean) hret (by simp) (hb hby at_166) hr
        · refine XS.ifYes X.here hx rfl (pc0 := 162) (pc' := 167) rfl (hb hby at_162) rfl ((if0 _ _).trans (feq hc162_6).2) (by decide) (by decide) ?_
          show Steps p.tables e below (T0.setTop (mkF m 167 #[.val (.long v), .second, .val (.int i), .val (.long w), .second, .val (.int j), .val (.int b1), .val (.int b2), .val (.int b3), .val (.int b4), .val (.int b5), .val (.int sm)] [])) _
          refine XS.iloadN X.here hx rfl (hb hby at_167) rfl ?_
          show Steps p.tables e below (T0.setTop (mkF m 168 #[.val (.long v), .second, .val (.int i), .val (.long w), .second, .val (.int j), .val (.int b1), .val (.int b2), .val (.int b3), .val (.int b4), .val (.int b5), .val (.int sm)] [(.int i)])) _
          refine XS.iload X.here hx rfl (hb hby at_168) rfl ?_
          show Steps p.tables e below (T0.setTop (mkF m 170 #[.val (.long v), .second, .val (.int i), .val (.long w), .second, .val (.int j), .val (.int b1), .val (.int b2), .val (.int b3), .val (.int b4), .val (.int b5), .val (.int sm)] [(.int j), (.int i)])) _
          by_cases hc170_7 : i < j
          · refine XS.icmpNo X.here hx rfl (hb hby at_170) rfl (tlt hc170_7).2.1 ?_
            show Steps p.tables e below (T0.setTop (mkF m 173 #[.val (.long v), .second, .val (.int i), .val (.long w), .second, .val (.int j), .val (.int b1), .val (.int b2), .val (.int b3), .val (.int b4), .val (.int b5), .val (.int sm)] [])) _
            refine XS.iload X.here hx rfl (hb hby at_173) rfl ?_
            show Steps p.tables e below (T0.setTop (mkF m 175 #[.val (.long v), .second, .val (.int i), .val (.long w), .second, .val (.int j), .val (.int b1), .val (.int b2), .val (.int b3), .val (.int b4), .val (.int b5), .val (.int sm)] [(.int b5)])) _
            by_cases hc175_8 : b5 = (0 : Int32)
            · refine XS.ifNo X.here hx rfl (hb hby at_175) rfl ((if0 _ _).trans (teq hc175_8).2) ?_
              show Steps p.tables e below (T0.setTop (mkF m 178 #[.val (.long v), .second, .val (.int i), .val (.long w), .second, .val (.int j), .val (.int b1), .val (.int b2), .val (.int b3), .val (.int b4), .val (.int b5), .val (.int sm)] [])) _
              refine XS.iconst X.here hx rfl (hb hby at_178) ?_
              show Steps p.tables e below (T0.setTop (mkF m 179 #[.val (.long v), .second, .val (.int i), .val (.long w), .second, .val (.int j), .val (.int b1), .val (.int b2), .val (.int b3), .val (.int b4), .val (.int b5), .val (.int sm)] [(.int (0 : Int32))])) _
              have hF : own_t127_F i j b4 b5 = (0 : Int32) := by unfold own_t127_F; simp only [if_neg hc130_1, if_neg hc149_4, if_pos hc157_5, if_neg hc162_6, if_pos hc170_7, if_pos hc175_8]
              rw [hF] at hr
              exact retN X hx (t := .boolean) hret (by simp) (hb hby at_179) hr
            · refine XS.ifYes X.here hx rfl (pc0 := 175) (pc' := 180) rfl (hb hby at_175) rfl ((if0 _ _).trans (feq hc175_8).2) (by decide) (by decide) ?_
              show Steps p.tables e below (T0.setTop (mkF m 180 #[.val (.long v), .second, .val (.int i), .val (.long w), .second, .val (.int j), .val (.int b1), .val (.int b2), .val (.int b3), .val (.int b4), .val (.int b5), .val (.int sm)] [])) _
              refine XS.iconst X.here hx rfl (hb hby at_180) ?_
              show Steps p.tables e below (T0.setTop (mkF m 181 #[.val (.long v), .second, .val (.int i), .val (.long w), .second, .val (.int j), .val (.int b1), .val (.int b2), .val (.int b3), .val (.int b4), .val (.int b5), .val (.int sm)] [(.int (1 : Int32))])) _
              have hF : own_t127_F i j b4 b5 = (1 : Int32) := by unfold own_t127_F; simp only [if_neg hc130_1, if_neg hc149_4, if_pos hc157_5, if_neg hc162_6, if_pos hc170_7, if_neg hc175_8]
              rw [hF] at hr
              exact retN X hx (t := .boolean) hret (by simp) (hb hby at_181) hr
          · refine XS.icmpYes X.here hx rfl (pc0 := 170) (pc' := 180) rfl (hb hby at_170) rfl (flt hc170_7).2.1 (by decide) (by decide) ?_
            show Steps p.tables e below (T0.setTop (mkF m 180 #[.val (.long v), .second, .val (.int i), .val (.long w), .second, .val (.int j), .val (.int b1), .val (.int b2), .val (.int b3), .val (.int b4), .val (.int b5), .val (.int sm)] [])) _
            refine XS.iconst X.here hx rfl (hb hby at_180) ?_
            show Steps p.tables e below (T0.setTop (mkF m 181 #[.val (.long v), .second, .val (.int i), .val (.long w), .second, .val (.int j), .val (.int b1), .val (.int b2), .val (.int b3), .val (.int b4), .val (.int b5), .val (.int sm)] [(.int (1 : Int32))])) _
            have hF : own_t127_F i j b4 b5 = (1 : Int32) := by unfold own_t127_F; simp only [if_neg hc130_1, if_neg hc149_4, if_pos hc157_5, if_neg hc162_6, if_neg hc170_7]
            rw [hF] at hr
            exact retN X hx (t := .boolean) hret (by simp) (hb hby at_181) hr
      · refine XS.icmpYes X.here hx rfl (pc0 := 157) (pc' := 167) rfl (hb hby at_157) rfl (flt hc157_5).2.2.2 (by decide) (by decide) ?_
        show Steps p.tables e below (T0.setTop (mkF m 167 #[.val (.long v), .second, .val (.int i), .val (.long w), .second, .val (.int j), .val (.int b1), .val (.int b2), .val (.int b3), .val (.int b4), .val (.int b5), .val (.int sm)] [])) _
        refine XS.iloadN X.here hx rfl (hb hby at_167) rfl ?_
        show Steps p.tables e below (T0.setTop (mkF m 168 #[.val (.long v), .second, .val (.int i), .val (.long w), .second, .val (.int j), .val (.int b1), .val (.int b2), .val (.int b3), .val (.int b4), .val (.int b5), .val (.int sm)] [(.int i)])) _
        refine XS.iload X.here hx rfl (hb hby at_168) rfl ?_
        show Steps p.tables e below (T0.setTop (mkF m 170 #[.val (.long v), .second, .val (.int i), .val (.long w), .second, .val (.int j), .val (.int b1), .val (.int b2), .val (.int b3), .val (.int b4), .val (.int b5), .val (.int sm)] [(.int j), (.int i)])) _
        by_cases hc170_9 : i < j
        · refine XS.icmpNo X.here hx rfl (hb hby at_170) rfl (tlt hc170_9).2.1 ?_
          show Steps p.tables e below (T0.setTop (mkF m 173 #[.val (.long v), .second, .val (.int i), .val (.long w), .second, .val (.int j), .val (.int b1), .val (.int b2), .val (.int b3), .val (.int b4), .val (.int b5), .val (.int sm)] [])) _
          refine XS.iload X.here hx rfl (hb hby at_173) rfl ?_
          show Steps p.tables e below (T0.setTop (mkF m 175 #[.val (.long v), .second, .val (.int i), .val (.long w), .second, .val (.int j), .val (.int b1), .val (.int b2), .val (.int b3), .val (.int b4), .val (.int b5), .val (.int sm)] [(.int b5)])) _
          by_cases hc175_10 : b5 = (0 : Int32)
          · refine XS.ifNo X.here hx rfl (hb hby at_175) rfl ((if0 _ _).trans (teq hc175_10).2) ?_
            show Steps p.tables e below (T0.setTop (mkF m 178 #[.val (.long v), .second, .val (.int i), .val (.long w), .second, .val (.int j), .val (.int b1), .val (.int b2), .val (.int b3), .val (.int b4), .val (.int b5), .val (.int sm)] [])) _
            refine XS.iconst X.here hx rfl (hb hby at_178) ?_
            show Steps p.tables e below (T0.setTop (mkF m 179 #[.val (.long v), .second, .val (.int i), .val (.long w), .second, .val (.int j), .val (.int b1), .val (.int b2), .val (.int b3), .val (.int b4), .val (.int b5), .val (.int sm)] [(.int (0 : Int32))])) _
            have hF : own_t127_F i j b4 b5 = (0 : Int32) := by unfold own_t127_F; simp only [if_neg hc130_1, if_neg hc149_4, if_neg hc157_5, if_pos hc170_9, if_pos hc175_10]
            rw [hF] at hr
            exact retN X hx (t := .boolean) hret (by simp) (hb hby at_179) hr
          · refine XS.ifYes X.here hx rfl (pc0 := 175) (pc' := 180) rfl (hb hby at_175) rfl ((if0 _ _).trans (feq hc175_10).2) (by decide) (by decide) ?_
            show Steps p.tables e below (T0.setTop (mkF m 180 #[.val (.long v), .second, .val (.int i), .val (.long w), .second, .val (.int j), .val (.int b1), .val (.int b2), .val (.int b3), .val (.int b4), .val (.int b5), .val (.int sm)] [])) _
            refine XS.iconst X.here hx rfl (hb hby at_180) ?_
            show Steps p.tables e below (T0.setTop (mkF m 181 #[.val (.long v), .second, .val (.int i), .val (.long w), .second, .val (.int j), .val (.int b1), .val (.int b2), .val (.int b3), .val (.int b4), .val (.int b5), .val (.int sm)] [(.int (1 : Int32))])) _
            have hF : own_t127_F i j b4 b5 = (1 : Int32) := by unfold own_t127_F; simp only [if_neg hc130_1, if_neg hc149_4, if_neg hc157_5, if_pos hc170_9, if_neg hc175_10]
            rw [hF] at hr
            exact retN X hx (t := .boolean) hret (by simp) (hb hby at_181) hr
        · refine XS.icmpYes X.here hx rfl (pc0 := 170) (pc' := 180) rfl (hb hby at_170) rfl (flt hc170_9).2.1 (by decide) (by decide) ?_
          show Steps p.tables e below (T0.setTop (mkF m 180 #[.val (.long v), .second, .val (.int i), .val (.long w), .second, .val (.int j), .val (.int b1), .val (.int b2), .val (.int b3), .val (.int b4), .val (.int b5), .val (.int sm)] [])) _
          refine XS.iconst X.here hx rfl (hb hby at_180) ?_
          show Steps p.tables e below (T0.setTop (mkF m 181 #[.val (.long v), .second, .val (.int i), .val (.long w), .second, .val (.int j), .val (.int b1), .val (.int b2), .val (.int b3), .val (.int b4), .val (.int b5), .val (.int sm)] [(.int (1 : Int32))])) _
          have hF : own_t127_F i j b4 b5 = (1 : Int32) := by unfold own_t127_F; simp only [if_neg hc130_1, if_neg hc149_4, if_neg hc157_5, if_neg hc170_9]
          rw [hF] at hr
          exact retN X hx (t := .boolean) hret (by simp) (hb hby at_181) hr
def own_t114_F (v : Int64) (i : Int32) (w : Int64) (j : Int32) (b2 : Int32) (b4 : Int32) (b5 : Int32) : Int32 := (if v < w then (if b2 = (0 : Int32) then (0 : Int32) else (own_t127_F i j b4 b5)) else (own_t127_F i j b4 b5))
set_option maxRecDepth 65536 in
set_option maxHeartbeats 40000000 in
theorem own_t114 {p : Program} {l : Launch} {e : Env} {R : Room} {s : State} {m : MethodId} {args : Array Value} {below : List Frame} {meth : Method} {c : Code} {T0 : State} {locs : List Loc} {cells slots : Nat} {Z : State} {a0 : Array Value} (X : Stand p l e R s m args below meth c T0 locs cells slots) (hx : p.tables.exec = Jvm.exec) (hZ : Z.Warmed39 s.vm) (hw : ∀ d ∈ tables_1, d.before a0 Z = true) (hby : c.code = code) (hown : s.vm.findClass "com/example/firmeza/firmeza/settlement/RankingBeatsPinLaw" = some m.cls) (hret : meth.sig.returnType = some .boolean) (v : Int64) (i : Int32) (w : Int64) (j : Int32) (b1 : Int32) (b2 : Int32) (b3 : Int32) (b4 : Int32) (b5 : Int32) (sm : Int32) {fs : List Frame}
    (hr : ∀ (f : JFrame) (acts : List Action), f.method = m → f.locked = none → f.entered = [] → (doReturn e (T0.setTop f) acts (some (.int (own_t114_F v i w j b2 b4 b5)))).1 = T0.setFrames fs) :
    Steps p.tables e below (T0.setTop (mkF m 114 #[.val (.long v), .second, .val (.int i), .val (.long w), .second, .val (.int j), .val (.int b1), .val (.int b2), .val (.int b3), .val (.int b4), .val (.int b5), .val (.int sm)] [])) (T0.setFrames fs) := by
  show Steps p.tables e below (T0.setTop (mkF m 114 #[.val (.long v), .second, .val (.int i), .val (.long w), .second, .val (.int j), .val (.int b1), .val (.int b2), .val (.int b3), .val (.int b4), .val (.int b5), .val (.int sm)] [])) _
  refine XS.lloadN X.here hx rfl (hb hby at_114) rfl ?_
  show Steps p.tables e below (T0.setTop (mkF m 115 #[.val (.long v), .second, .val (.int i), .val (.long w), .second, .val (.int j), .val (.int b1), .val (.int b2), .val (.int b3), .val (.int b4), .val (.int b5), .val (.int sm)] [(.long v)])) _
  refine XS.lloadN X.here hx rfl (hb hby at_115) rfl ?_
  show Steps p.tables e below (T0.setTop (mkF m 116 #[.val (.long v), .second, .val (.int i), .val (.long w), .second, .val (.int j), .val (.int b1), .val (.int b2), .val (.int b3), .val (.int b4), .val (.int b5), .val (.int sm)] [(.long w), (.long v)])) _
  refine XS.lcmp X.here hx rfl (hb hby at_116) rfl ?_
  show Steps p.tables e below (T0.setTop (mkF m 117 #[.val (.long v), .second, .val (.int i), .val (.long w), .second, .val (.int j), .val (.int b1), .val (.int b2), .val (.int b3), .val (.int b4), .val (.int b5), .val (.int sm)] [(.int (lcmpW v w))])) _
  by_cases hc117_1 : v < w
  · refine XS.ifNo X.here hx rfl (hb hby at_117) rfl ((if0 _ _).trans (tlt ((lw_lt v w).mpr hc117_1)).2.1) ?_
    show Steps p.tables e below (T0.setTop (mkF m 120 #[.val (.long v), .second, .val (.int i), .val (.long w), .second, .val (.int j), .val (.int b1), .val (.int b2), .val (.int b3), .val (.int b4), .val (.int b5), .val (.int sm)] [])) _
    refine XS.iload X.here hx rfl (hb hby at_120) rfl ?_
    show Steps p.tables e below (T0.setTop (mkF m 122 #[.val (.long v), .second, .val (.int i), .val (.long w), .second, .val (.int j), .val (.int b1), .val (.int b2), .val (.int b3), .val (.int b4), .val (.int b5), .val (.int sm)] [(.int b2)])) _
    by_cases hc122_2 : b2 = (0 : Int32)
    · refine XS.ifNo X.here hx rfl (hb hby at_122) rfl ((if0 _ _).trans (teq hc122_2).2) ?_
      show Steps p.tables e below (T0.setTop (mkF m 125 #[.val (.long v), .second, .val (.int i), .val (.long w), .second, .val (.int j), .val (.int b1), .val (.int b2), .val (.int b3), .val (.int b4), .val (.int b5), .val (.int sm)] [])) _
      refine XS.iconst X.here hx rfl (hb hby at_125) ?_
      show Steps p.tables e below (T0.setTop (mkF m 126 #[.val (.long v), .second, .val (.int i), .val (.long w), .second, .val (.int j), .val (.int b1), .val (.int b2), .val (.int b3), .val (.int b4), .val (.int b5), .val (.int sm)] [(.int (0 : Int32))])) _
      have hF : own_t114_F v i w j b2 b4 b5 = (0 : Int32) := by unfold own_t114_F; simp only [if_pos hc117_1, if_pos hc122_2]
      rw [hF] at hr
      exact retN X hx (t := .boolean) hret (by simp) (hb hby at_126) hr
    · refine XS.ifYes X.here hx rfl (pc0 := 122) (pc' := 127) rfl (hb hby at_122) rfl ((if0 _ _).trans (feq hc122_2).2) (by decide) (by decide) ?_
      have hF : own_t114_F v i w j b2 b4 b5 = (own_t127_F i j b4 b5) := by unfold own_t114_F; simp only [if_pos hc117_1, if_neg hc122_2]
      rw [hF] at hr
      exact own_t127 X hx hZ hw hby hown hret v i w j b1 b2 b3 b4 b5 sm hr
  · refine XS.ifYes X.here hx rfl (pc0 := 117) (pc' := 127) rfl (hb hby at_117) rfl ((if0 _ _).trans (flt (fun z_ => hc117_1 ((lw_lt v w).mp z_))).2.1) (by decide) (by decide) ?_
    have hF : own_t114_F v i w j b2 b4 b5 = (own_t127_F i j b4 b5) := by unfold own_t114_F; simp only [if_neg hc117_1]
    rw [hF] at hr
    exact own_t127 X hx hZ hw hby hown hret v i w j b1 b2 b3 b4 b5 sm hr
def own_t101_F (v : Int64) (i : Int32) (w : Int64) (j : Int32) (b1 : Int32) (b2 : Int32) (b4 : Int32) (b5 : Int32) : Int32 := (if w < v then (if b1 = (0 : Int32) then (0 : Int32) else (own_t114_F v i w j b2 b4 b5)) else (own_t114_F v i w j b2 b4 b5))
set_option maxRecDepth 65536 in
set_option maxHeartbeats 40000000 in
theorem own_t101 {p : Program} {l : Launch} {e : Env} {R : Room} {s : State} {m : MethodId} {args : Array Value} {below : List Frame} {meth : Method} {c : Code} {T0 : State} {locs : List Loc} {cells slots : Nat} {Z : State} {a0 : Array Value} (X : Stand p l e R s m args below meth c T0 locs cells slots) (hx : p.tables.exec = Jvm.exec) (hZ : Z.Warmed39 s.vm) (hw : ∀ d ∈ tables_1, d.before a0 Z = true) (hby : c.code = code) (hown : s.vm.findClass "com/example/firmeza/firmeza/settlement/RankingBeatsPinLaw" = some m.cls) (hret : meth.sig.returnType = some .boolean) (v : Int64) (i : Int32) (w : Int64) (j : Int32) (b1 : Int32) (b2 : Int32) (b3 : Int32) (b4 : Int32) (b5 : Int32) (sm : Int32) {fs : List Frame}
    (hr : ∀ (f : JFrame) (acts : List Action), f.method = m → f.locked = none → f.entered = [] → (doReturn e (T0.setTop f) acts (some (.int (own_t101_F v i w j b1 b2 b4 b5)))).1 = T0.setFrames fs) :
    Steps p.tables e below (T0.setTop (mkF m 101 #[.val (.long v), .second, .val (.int i), .val (.long w), .second, .val (.int j), .val (.int b1), .val (.int b2), .val (.int b3), .val (.int b4), .val (.int b5), .val (.int sm)] [])) (T0.setFrames fs) := by
  show Steps p.tables e below (T0.setTop (mkF m 101 #[.val (.long v), .second, .val (.int i), .val (.long w), .second, .val (.int j), .val (.int b1), .val (.int b2), .val (.int b3), .val (.int b4), .val (.int b5), .val (.int sm)] [])) _
  refine XS.lloadN X.here hx rfl (hb hby at_101) rfl ?_
  show Steps p.tables e below (T0.setTop (mkF m 102 #[.val (.long v), .second, .val (.int i), .val (.long w), .second, .val (.int j), .val (.int b1), .val (.int b2), .val (.int b3), .val (.int b4), .val (.int b5), .val (.int sm)] [(.long v)])) _
  refine XS.lloadN X.here hx rfl (hb hby at_102) rfl ?_
  show Steps p.tables e below (T0.setTop (mkF m 103 #[.val (.long v), .second, .val (.int i), .val (.long w), .second, .val (.int j), .val (.int b1), .val (.int b2), .val (.int b3), .val (.int b4), .val (.int b5), .val (.int sm)] [(.long w), (.long v)])) _
  refine XS.lcmp X.here hx rfl (hb hby at_103) rfl ?_
  show Steps p.tables e below (T0.setTop (mkF m 104 #[.val (.long v), .second, .val (.int i), .val (.long w), .second, .val (.int j), .val (.int b1), .val (.int b2), .val (.int b3), .val (.int b4), .val (.int b5), .val (.int sm)] [(.int (lcmpW v w))])) _
  by_cases hc104_1 : w < v
  · refine XS.ifNo X.here hx rfl (hb hby at_104) rfl ((if0 _ _).trans (tlt ((lw_gt v w).mpr hc104_1)).2.2.2) ?_
    show Steps p.tables e below (T0.setTop (mkF m 107 #[.val (.long v), .second, .val (.int i), .val (.long w), .second, .val (.int j), .val (.int b1), .val (.int b2), .val (.int b3), .val (.int b4), .val (.int b5), .val (.int sm)] [])) _
    refine XS.iload X.here hx rfl (hb hby at_107) rfl ?_
    show Steps p.tables e below (T0.setTop (mkF m 109 #[.val (.long v), .second, .val (.int i), .val (.long w), .second, .val (.int j), .val (.int b1), .val (.int b2), .val (.int b3), .val (.int b4), .val (.int b5), .val (.int sm)] [(.int b1)])) _
    by_cases hc109_2 : b1 = (0 : Int32)
    · refine XS.ifNo X.here hx rfl (hb hby at_109) rfl ((if0 _ _).trans (teq hc109_2).2) ?_
      show Steps p.tables e below (T0.setTop (mkF m 112 #[.val (.long v), .second, .val (.int i), .val (.long w), .second, .val (.int j), .val (.int b1), .val (.int b2), .val (.int b3), .val (.int b4), .val (.int b5), .val (.int sm)] [])) _
      refine XS.iconst X.here hx rfl (hb hby at_112) ?_
      show Steps p.tables e below (T0.setTop (mkF m 113 #[.val (.long v), .second, .val (.int i), .val (.long w), .second, .val (.int j), .val (.int b1), .val (.int b2), .val (.int b3), .val (.int b4), .val (.int b5), .val (.int sm)] [(.int (0 : Int32))])) _
      have hF : own_t101_F v i w j b1 b2 b4 b5 = (0 : Int32) := by unfold own_t101_F; simp only [if_pos hc104_1, if_pos hc109_2]
      rw [hF] at hr
      exact retN X hx (t := .boolean) hret (by simp) (hb hby at_113) hr
    · refine XS.ifYes X.here hx rfl (pc0 := 109) (pc' := 114) rfl (hb hby at_109) rfl ((if0 _ _).trans (feq hc109_2).2) (by decide) (by decide) ?_
      have hF : own_t101_F v i w j b1 b2 b4 b5 = (own_t114_F v i w j b2 b4 b5) := by unfold own_t101_F; simp only [if_pos hc104_1, if_neg hc109_2]
      rw [hF] at hr
      exact own_t114 X hx hZ hw hby hown hret v i w j b1 b2 b3 b4 b5 sm hr
  · refine XS.ifYes X.here hx rfl (pc0 := 104) (pc' := 114) rfl (hb hby at_104) rfl ((if0 _ _).trans (flt (fun z_ => hc104_1 ((lw_gt v w).mp z_))).2.2.2) (by decide) (by decide) ?_
    have hF : own_t101_F v i w j b1 b2 b4 b5 = (own_t114_F v i w j b2 b4 b5) := by unfold own_t101_F; simp only [if_neg hc104_1]
    rw [hF] at hr
    exact own_t114 X hx hZ hw hby hown hret v i w j b1 b2 b3 b4 b5 sm hr
def own_t49_F (v : Int64) (i : Int32) (w : Int64) (j : Int32) (b1 : Int32) (b2 : Int32) (b3 : Int32) (b4 : Int32) (b5 : Int32) : Int32 := (if b3 = (0 : Int32) then (if v = w then (if i = j then (if b1 = (0 : Int32) then (if b2 = (0 : Int32) then (own_t101_F v i w j b1 b2 b4 b5) else (0 : Int32)) else (0 : Int32)) else (if b1 = b2 then (0 : Int32) else (own_t101_F v i w j b1 b2 b4 b5))) else (if b1 = b2 then (0 : Int32) else (own_t101_F v i w j b1 b2 b4 b5))) else (0 : Int32))
set_option maxRecDepth 65536 in
set_option maxHeartbeats 40000000 in
theorem own_t49 {p : Program} {l : Launch} {e : Env} {R : Room} {s : State} {m : MethodId} {args : Array Value} {below : List Frame} {meth : Method} {c : Code} {T0 : State} {locs : List Loc} {cells slots : Nat} {Z : State} {a0 : Array Value} (X : Stand p l e R s m args below meth c T0 locs cells slots) (hx : p.tables.exec = Jvm.exec) (hZ : Z.Warmed39 s.vm) (hw : ∀ d ∈ tables_1, d.before a0 Z = true) (hby : c.code = code) (hown : s.vm.findClass "com/example/firmeza/firmeza/settlement/RankingBeatsPinLaw" = some m.cls) (hret : meth.sig.returnType = some .boolean) (v : Int64) (i : Int32) (w : Int64) (j : Int32) (b1 : Int32) (b2 : Int32) (b3 : Int32) (b4 : Int32) (b5 : Int32) {fs : List Frame}
    (hr : ∀ (f : JFrame) (acts : List Action), f.method = m → f.locked = none → f.entered = [] → (doReturn e (T0.setTop f) acts (some (.int (own_t49_F v i w j b1 b2 b3 b4 b5)))).1 = T0.setFrames fs) :
    Steps p.tables e below (T0.setTop (mkF m 49 #[.val (.long v), .second, .val (.int i), .val (.long w), .second, .val (.int j), .val (.int b1), .val (.int b2), .val (.int b3), .val (.int b4), .val (.int b5), .unset] [])) (T0.setFrames fs) := by
  show Steps p.tables e below (T0.setTop (mkF m 49 #[.val (.long v), .second, .val (.int i), .val (.long w), .second, .val (.int j), .val (.int b1), .val (.int b2), .val (.int b3), .val (.int b4), .val (.int b5), .unset] [])) _
  refine XS.iload X.here hx rfl (hb hby at_49) rfl ?_
  show Steps p.tables e below (T0.setTop (mkF m 51 #[.val (.long v), .second, .val (.int i), .val (.long w), .second, .val (.int j), .val (.int b1), .val (.int b2), .val (.int b3), .val (.int b4), .val (.int b5), .unset] [(.int b3)])) _
  by_cases hc51_1 : b3 = (0 : Int32)
  · refine XS.ifYes X.here hx rfl (pc0 := 51) (pc' := 56) rfl (hb hby at_51) rfl ((if0 _ _).trans (teq hc51_1).1) (by decide) (by decide) ?_
    show Steps p.tables e below (T0.setTop (mkF m 56 #[.val (.long v), .second, .val (.int i), .val (.long w), .second, .val (.int j), .val (.int b1), .val (.int b2), .val (.int b3), .val (.int b4), .val (.int b5), .unset] [])) _
    refine XS.lloadN X.here hx rfl (hb hby at_56) rfl ?_
    show Steps p.tables e below (T0.setTop (mkF m 57 #[.val (.long v), .second, .val (.int i), .val (.long w), .second, .val (.int j), .val (.int b1), .val (.int b2), .val (.int b3), .val (.int b4), .val (.int b5), .unset] [(.long v)])) _
    refine XS.lloadN X.here hx rfl (hb hby at_57) rfl ?_
    show Steps p.tables e below (T0.setTop (mkF m 58 #[.val (.long v), .second, .val (.int i), .val (.long w), .second, .val (.int j), .val (.int b1), .val (.int b2), .val (.int b3), .val (.int b4), .val (.int b5), .unset] [(.long w), (.long v)])) _
    refine XS.lcmp X.here hx rfl (hb hby at_58) rfl ?_
    show Steps p.tables e below (T0.setTop (mkF m 59 #[.val (.long v), .second, .val (.int i), .val (.long w), .second, .val (.int j), .val (.int b1), .val (.int b2), .val (.int b3), .val (.int b4), .val (.int b5), .unset] [(.int (lcmpW v w))])) _
    by_cases hc59_2 : v = w
    · refine XS.ifNo X.here hx rfl (hb hby at_59) rfl ((if0 _ _).trans (teq ((lw_eq v w).mpr hc59_2)).2) ?_
      show Steps p.tables e below (T0.setTop (mkF m 62 #[.val (.long v), .second, .val (.int i), .val (.long w), .second, .val (.int j), .val (.int b1), .val (.int b2), .val (.int b3), .val (.int b4), .val (.int b5), .unset] [])) _
      refine XS.iloadN X.here hx rfl (hb hby at_62) rfl ?_
      show Steps p.tables e below (T0.setTop (mkF m 63 #[.val (.long v), .second, .val (.int i), .val (.long w), .second, .val (.int j), .val (.int b1), .val (.int b2), .val (.int b3), .val (.int b4), .val (.int b5), .unset] [(.int i)])) _
      refine XS.iload X.here hx rfl (hb hby at_63) rfl ?_
      show Steps p.tables e below (T0.setTop (mkF m 65 #[.val (.long v), .second, .val (.int i), .val (.long w), .second, .val (.int j), .val (.int b1), .val (.int b2), .val (.int b3), .val (.int b4), .val (.int b5), .unset] [(.int j), (.int i)])) _
      by_cases hc65_3 : i = j
      · refine XS.icmpNo X.here hx rfl (hb hby at_65) rfl (teq hc65_3).2 ?_
        show Steps p.tables e below (T0.setTop (mkF m 68 #[.val (.long v), .second, .val (.int i), .val (.long w), .second, .val (.int j), .val (.int b1), .val (.int b2), .val (.int b3), .val (.int b4), .val (.int b5), .unset] [])) _
        refine XS.iconst X.here hx rfl (hb hby at_68) ?_
        show Steps p.tables e below (T0.setTop (mkF m 69 #[.val (.long v), .second, .val (.int i), .val (.long w), .second, .val (.int j), .val (.int b1), .val (.int b2), .val (.int b3), .val (.int b4), .val (.int b5), .unset] [(.int (1 : Int32))])) _
        refine XS.goto X.here hx rfl (pc0 := 69) (pc' := 73) rfl (hb hby at_69) (by decide) (by decide) ?_
        show Steps p.tables e below (T0.setTop (mkF m 73 #[.val (.long v), .second, .val (.int i), .val (.long w), .second, .val (.int j), .val (.int b1), .val (.int b2), .val (.int b3), .val (.int b4), .val (.int b5), .unset] [(.int (1 : Int32))])) _
        refine XS.istore X.here hx rfl (hb hby at_73) rfl (l' := #[.val (.long v), .second, .val (.int i), .val (.long w), .second, .val (.int j), .val (.int b1), .val (.int b2), .val (.int b3), .val (.int b4), .val (.int b5), .val (.int (1 : Int32))]) rfl ?_
        show Steps p.tables e below (T0.setTop (mkF m 75 #[.val (.long v), .second, .val (.int i), .val (.long w), .second, .val (.int j), .val (.int b1), .val (.int b2), .val (.int b3), .val (.int b4), .val (.int b5), .val (.int (1 : Int32))] [])) _
        refine XS.iload X.here hx rfl (hb hby at_75) rfl ?_
        show Steps p.tables e below (T0.setTop (mkF m 77 #[.val (.long v), .second, .val (.int i), .val (.long w), .second, .val (.int j), .val (.int b1), .val (.int b2), .val (.int b3), .val (.int b4), .val (.int b5), .val (.int (1 : Int32))] [(.int (1 : Int32))])) _
        refine XS.ifNo X.here hx rfl (hb hby at_77) rfl ((if0 _ _).trans (feq (by decide)).1) ?_
        show Steps p.tables e below (T0.setTop (mkF m 80 #[.val (.long v), .second, .val (.int i), .val (.long w), .second, .val (.int j), .val (.int b1), .val (.int b2), .val (.int b3), .val (.int b4), .val (.int b5), .val (.int (1 : Int32))] [])) _
        refine XS.iload X.here hx rfl (hb hby at_80) rfl ?_
        show Steps p.tables e below (T0.setTop (mkF m 82 #[.val (.long v), .second, .val (.int i), .val (.long w), .second, .val (.int j), .val (.int b1), .val (.int b2), .val (.int b3), .val (.int b4), .val (.int b5), .val (.int (1 : Int32))] [(.int b1)])) _
        by_cases hc82_4 : b1 = (0 : Int32)
        · refine XS.ifNo X.here hx rfl (hb hby at_82) rfl ((if0 _ _).trans (teq hc82_4).2) ?_
          show Steps p.tables e below (T0.setTop (mkF m 85 #[.val (.long v), .second, .val (.int i), .val (.long w), .second, .val (.int j), .val (.int b1), .val (.int b2), .val (.int b3), .val (.int b4), .val (.int b5), .val (.int (1 : Int32))] [])) _
          refine XS.iload X.here hx rfl (hb hby at_85) rfl ?_
          show Steps p.tables e below (T0.setTop (mkF m 87 #[.val (.long v), .second, .val (.int i), .val (.long w), .second, .val (.int j), .val (.int b1), .val (.int b2), .val (.int b3), .val (.int b4), .val (.int b5), .val (.int (1 : Int32))] [(.int b2)])) _
          by_cases hc87_5 : b2 = (0 : Int32)
          · refine XS.ifYes X.here hx rfl (pc0 := 87) (pc' := 101) rfl (hb hby at_87) rfl ((if0 _ _).trans (teq hc87_5).1) (by decide) (by decide) ?_
            have hF : own_t49_F v i w j b1 b2 b3 b4 b5 = (own_t101_F v i w j b1 b2 b4 b5) := by unfold own_t49_F; simp only [if_pos hc51_1, if_pos hc59_2, if_pos hc65_3, if_pos hc82_4, if_pos hc87_5]
            rw [hF] at hr
            exact own_t101 X hx hZ hw hby hown hret v i w j b1 b2 b3 b4 b5 (1 : Int32) hr
          · refine XS.ifNo X.here hx rfl (hb hby at_87) rfl ((if0 _ _).trans (feq hc87_5).1) ?_
            show Steps p.tables e below (T0.setTop (mkF m 90 #[.val (.long v), .second, .val (.int i), .val (.long w), .second, .val (.int j), .val (.int b1), .val (.int b2), .val (.int b3), .val (.int b4), .val (.int b5), .val (.int (1 : Int32))] [])) _
            refine XS.iconst X.here hx rfl (hb hby at_90) ?_
            show Steps p.tables e below (T0.setTop (mkF m 91 #[.val (.long v), .second, .val (.int i), .val (.long w), .second, .val (.int j), .val (.int b1), .val (.int b2), .val (.int b3), .val (.int b4), .val (.int b5), .val (.int (1 : Int32))] [(.int (0 : Int32))])) _
            have hF : own_t49_F v i w j b1 b2 b3 b4 b5 = (0 : Int32) := by unfold own_t49_F; simp only [if_pos hc51_1, if_pos hc59_2, if_pos hc65_3, if_pos hc82_4, if_neg hc87_5]
            rw [hF] at hr
            exact retN X hx (t := .boolean) hret (by simp) (hb hby at_91) hr
        · refine XS.ifYes X.here hx rfl (pc0 := 82) (pc' := 90) rfl (hb hby at_82) rfl ((if0 _ _).trans (feq hc82_4).2) (by decide) (by decide) ?_
          show Steps p.tables e below (T0.setTop (mkF m 90 #[.val (.long v), .second, .val (.int i), .val (.long w), .second, .val (.int j), .val (.int b1), .val (.int b2), .val (.int b3), .val (.int b4), .val (.int b5), .val (.int (1 : Int32))] [])) _
          refine XS.iconst X.here hx rfl (hb hby at_90) ?_
          show Steps p.tables e below (T0.setTop (mkF m 91 #[.val (.long v), .second, .val (.int i), .val (.long w), .second, .val (.int j), .val (.int b1), .val (.int b2), .val (.int b3), .val (.int b4), .val (.int b5), .val (.int (1 : Int32))] [(.int (0 : Int32))])) _
          have hF : own_t49_F v i w j b1 b2 b3 b4 b5 = (0 : Int32) := by unfold own_t49_F; simp only [if_pos hc51_1, if_pos hc59_2, if_pos hc65_3, if_neg hc82_4]
          rw [hF] at hr
          exact retN X hx (t := .boolean) hret (by simp) (hb hby at_91) hr
      · refine XS.icmpYes X.here hx rfl (pc0 := 65) (pc' := 72) rfl (hb hby at_65) rfl (feq hc65_3).2 (by decide) (by decide) ?_
        show Steps p.tables e below (T0.setTop (mkF m 72 #[.val (.long v), .second, .val (.int i), .val (.long w), .second, .val (.int j), .val (.int b1), .val (.int b2), .val (.int b3), .val (.int b4), .val (.int b5), .unset] [])) _
        refine XS.iconst X.here hx rfl (hb hby at_72) ?_
        show Steps p.tables e below (T0.setTop (mkF m 73 #[.val (.long v), .second, .val (.int i), .val (.long w), .second, .val (.int j), .val (.int b1), .val (.int b2), .val (.int b3), .val (.int b4), .val (.int b5), .unset] [(.int (0 : Int32))])) _
        refine XS.istore X.here hx rfl (hb hby at_73) rfl (l' := #[.val (.long v), .second, .val (.int i), .val (.long w), .second, .val (.int j), .val (.int b1), .val (.int b2), .val (.int b3), .val (.int b4), .val (.int b5), .val (.int (0 : Int32))]) rfl ?_
        show Steps p.tables e below (T0.setTop (mkF m 75 #[.val (.long v), .second, .val (.int i), .val (.long w), .second, .val (.int j), .val (.int b1), .val (.int b2), .val (.int b3), .val (.int b4), .val (.int b5), .val (.int (0 : Int32))] [])) _
        refine XS.iload X.here hx rfl (hb hby at_75) rfl ?_
        show Steps p.tables e below (T0.setTop (mkF m 77 #[.val (.long v), .second, .val (.int i), .val (.long w), .second, .val (.int j), .val (.int b1), .val (.int b2), .val (.int b3), .val (.int b4), .val (.int b5), .val (.int (0 : Int32))] [(.int (0 : Int32))])) _
        refine XS.ifYes X.here hx rfl (pc0 := 77) (pc' := 92) rfl (hb hby at_77) rfl ((if0 _ _).trans (teq rfl).1) (by decide) (by decide) ?_
        show Steps p.tables e below (T0.setTop (mkF m 92 #[.val (.long v), .second, .val (.int i), .val (.long w), .second, .val (.int j), .val (.int b1), .val (.int b2), .val (.int b3), .val (.int b4), .val (.int b5), .val (.int (0 : Int32))] [])) _
        refine XS.iload X.here hx rfl (hb hby at_92) rfl ?_
        show Steps p.tables e below (T0.setTop (mkF m 94 #[.val (.long v), .second, .val (.int i), .val (.long w), .second, .val (.int j), .val (.int b1), .val (.int b2), .val (.int b3), .val (.int b4), .val (.int b5), .val (.int (0 : Int32))] [(.int b1)])) _
        refine XS.iload X.here hx rfl (hb hby at_94) rfl ?_
        show Steps p.tables e below (T0.setTop (mkF m 96 #[.val (.long v), .second, .val (.int i), .val (.long w), .second, .val (.int j), .val (.int b1), .val (.int b2), .val (.int b3), .val (.int b4), .val (.int b5), .val (.int (0 : Int32))] [(.int b2), (.int b1)])) _
        by_cases hc96_6 : b1 = b2
        · refine XS.icmpNo X.here hx rfl (hb hby at_96) rfl (teq hc96_6).2 ?_
          show Steps p.tables e below (T0.setTop (mkF m 99 #[.val (.long v), .second, .val (.int i), .val (.long w), .second, .val (.int j), .val (.int b1), .val (.int b2), .val (.int b3), .val (.int b4), .val (.int b5), .val (.int (0 : Int32))] [])) _
          refine XS.iconst X.here hx rfl (hb hby at_99) ?_
          show Steps p.tables e below (T0.setTop (mkF m 100 #[.val (.long v), .second, .val (.int i), .val (.long w), .second, .val (.int j), .val (.int b1), .val (.int b2), .val (.int b3), .val (.int b4), .val (.int b5), .val (.int (0 : Int32))] [(.int (0 : Int32))])) _
          have hF : own_t49_F v i w j b1 b2 b3 b4 b5 = (0 : Int32) := by unfold own_t49_F; simp only [if_pos hc51_1, if_pos hc59_2, if_neg hc65_3, if_pos hc96_6]
          rw [hF] at hr
          exact retN X hx (t := .boolean) hret (by simp) (hb hby at_100) hr
        · refine XS.icmpYes X.here hx rfl (pc0 := 96) (pc' := 101) rfl (hb hby at_96) rfl (feq hc96_6).2 (by decide) (by decide) ?_
          have hF : own_t49_F v i w j b1 b2 b3 b4 b5 = (own_t101_F v i w j b1 b2 b4 b5) := by unfold own_t49_F; simp only [if_pos hc51_1, if_pos hc59_2, if_neg hc65_3, if_neg hc96_6]
          rw [hF] at hr
          exact own_t101 X hx hZ hw hby hown hret v i w j b1 b2 b3 b4 b5 (0 : Int32) hr
    · refine XS.ifYes X.here hx rfl (pc0 := 59) (pc' := 72) rfl (hb hby at_59) rfl ((if0 _ _).trans (feq (fun z_ => hc59_2 ((lw_eq v w).mp z_))).2) (by decide) (by decide) ?_
      show Steps p.tables e below (T0.setTop (mkF m 72 #[.val (.long v), .second, .val (.int i), .val (.long w), .second, .val (.int j), .val (.int b1), .val (.int b2), .val (.int b3), .val (.int b4), .val (.int b5), .unset] [])) _
      refine XS.iconst X.here hx rfl (hb hby at_72) ?_
      show Steps p.tables e below (T0.setTop (mkF m 73 #[.val (.long v), .second, .val (.int i), .val (.long w), .second, .val (.int j), .val (.int b1), .val (.int b2), .val (.int b3), .val (.int b4), .val (.int b5), .unset] [(.int (0 : Int32))])) _
      refine XS.istore X.here hx rfl (hb hby at_73) rfl (l' := #[.val (.long v), .second, .val (.int i), .val (.long w), .second, .val (.int j), .val (.int b1), .val (.int b2), .val (.int b3), .val (.int b4), .val (.int b5), .val (.int (0 : Int32))]) rfl ?_
      show Steps p.tables e below (T0.setTop (mkF m 75 #[.val (.long v), .second, .val (.int i), .val (.long w), .second, .val (.int j), .val (.int b1), .val (.int b2), .val (.int b3), .val (.int b4), .val (.int b5), .val (.int (0 : Int32))] [])) _
      refine XS.iload X.here hx rfl (hb hby at_75) rfl ?_
      show Steps p.tables e below (T0.setTop (mkF m 77 #[.val (.long v), .second, .val (.int i), .val (.long w), .second, .val (.int j), .val (.int b1), .val (.int b2), .val (.int b3), .val (.int b4), .val (.int b5), .val (.int (0 : Int32))] [(.int (0 : Int32))])) _
      refine XS.ifYes X.here hx rfl (pc0 := 77) (pc' := 92) rfl (hb hby at_77) rfl ((if0 _ _).trans (teq rfl).1) (by decide) (by decide) ?_
      show Steps p.tables e below (T0.setTop (mkF m 92 #[.val (.long v), .second, .val (.int i), .val (.long w), .second, .val (.int j), .val (.int b1), .val (.int b2), .val (.int b3), .val (.int b4), .val (.int b5), .val (.int (0 : Int32))] [])) _
      refine XS.iload X.here hx rfl (hb hby at_92) rfl ?_
      show Steps p.tables e below (T0.setTop (mkF m 94 #[.val (.long v), .second, .val (.int i), .val (.long w), .second, .val (.int j), .val (.int b1), .val (.int b2), .val (.int b3), .val (.int b4), .val (.int b5), .val (.int (0 : Int32))] [(.int b1)])) _
      refine XS.iload X.here hx rfl (hb hby at_94) rfl ?_
      show Steps p.tables e below (T0.setTop (mkF m 96 #[.val (.long v), .second, .val (.int i), .val (.long w), .second, .val (.int j), .val (.int b1), .val (.int b2), .val (.int b3), .val (.int b4), .val (.int b5), .val (.int (0 : Int32))] [(.int b2), (.int b1)])) _
      by_cases hc96_7 : b1 = b2
      · refine XS.icmpNo X.here hx rfl (hb hby at_96) rfl (teq hc96_7).2 ?_
        show Steps p.tables e below (T0.setTop (mkF m 99 #[.val (.long v), .second, .val (.int i), .val (.long w), .second, .val (.int j), .val (.int b1), .val (.int b2), .val (.int b3), .val (.int b4), .val (.int b5), .val (.int (0 : Int32))] [])) _
        refine XS.iconst X.here hx rfl (hb hby at_99) ?_
        show Steps p.tables e below (T0.setTop (mkF m 100 #[.val (.long v), .second, .val (.int i), .val (.long w), .second, .val (.int j), .val (.int b1), .val (.int b2), .val (.int b3), .val (.int b4), .val (.int b5), .val (.int (0 : Int32))] [(.int (0 : Int32))])) _
        have hF : own_t49_F v i w j b1 b2 b3 b4 b5 = (0 : Int32) := by unfold own_t49_F; simp only [if_pos hc51_1, if_neg hc59_2, if_pos hc96_7]
        rw [hF] at hr
        exact retN X hx (t := .boolean) hret (by simp) (hb hby at_100) hr
      · refine XS.icmpYes X.here hx rfl (pc0 := 96) (pc' := 101) rfl (hb hby at_96) rfl (feq hc96_7).2 (by decide) (by decide) ?_
        have hF : own_t49_F v i w j b1 b2 b3 b4 b5 = (own_t101_F v i w j b1 b2 b4 b5) := by unfold own_t49_F; simp only [if_pos hc51_1, if_neg hc59_2, if_neg hc96_7]
        rw [hF] at hr
        exact own_t101 X hx hZ hw hby hown hret v i w j b1 b2 b3 b4 b5 (0 : Int32) hr
  · refine XS.ifNo X.here hx rfl (hb hby at_51) rfl ((if0 _ _).trans (feq hc51_1).1) ?_
    show Steps p.tables e below (T0.setTop (mkF m 54 #[.val (.long v), .second, .val (.int i), .val (.long w), .second, .val (.int j), .val (.int b1), .val (.int b2), .val (.int b3), .val (.int b4), .val (.int b5), .unset] [])) _
    refine XS.iconst X.here hx rfl (hb hby at_54) ?_
    show Steps p.tables e below (T0.setTop (mkF m 55 #[.val (.long v), .second, .val (.int i), .val (.long w), .second, .val (.int j), .val (.int b1), .val (.int b2), .val (.int b3), .val (.int b4), .val (.int b5), .unset] [(.int (0 : Int32))])) _
    have hF : own_t49_F v i w j b1 b2 b3 b4 b5 = (0 : Int32) := by unfold own_t49_F; simp only [if_neg hc51_1]
    rw [hF] at hr
    exact retN X hx (t := .boolean) hret (by simp) (hb hby at_55) hr
theorem pn_0 : plainName "com/example/firmeza/firmeza/settlement/RankingBeatsPinLaw" = true := by first | (simp [plainName, overriddenIn]; done) | decide +kernel
theorem ef_0 (m : MethodId) (q1 : Int64) (p2 : Int32) (q3 : Int64) (p4 : Int32) : entryFrame m #[(.long q1), (.int p2), (.long q3), (.int p4)] maxLocals = mkF m 0 #[.val (.long q1), .second, .val (.int p2), .val (.long q3), .second, .val (.int p4), .unset, .unset, .unset, .unset, .unset, .unset] [] := by first | (simp [entryFrame, mkF, argsToLocals, Value.category, maxLocals]; done) | rfl
theorem pd_0_7 : parseMethodDescriptor "(JIJI)Z" = some ⟨[.long, .int, .long, .int], some .boolean⟩ := by decide +kernel
def own_rm0_F (q1 : Int64) (p2 : Int32) (q3 : Int64) (p4 : Int32) : Int32 := (own_t49_F q1 p2 q3 p4 (own_rm1_F q1 p2 q3 p4) (own_rm1_F q3 p4 q1 p2) (own_rm1_F q1 p2 q1 p2) (own_rm1_F q1 p2 q1 p4) (own_rm1_F q1 p4 q1 p2))
theorem own_law (v : Int64) (c : Int32) (w : Int64) (d : Int32) : own_rm0_F v c w d = 1 := by
  have T64 : v < w ∧ ¬ w < v ∧ v ≠ w ∧ w ≠ v ∨ v = w ∧ ¬ v < v ∨ w < v ∧ ¬ v < w ∧ v ≠ w ∧ w ≠ v := by
    have e1 : v = w ↔ v.toInt = w.toInt := Int64.toInt_inj.symm
    have e2 : w = v ↔ w.toInt = v.toInt := Int64.toInt_inj.symm
    simp only [Int64.lt_iff_toInt_lt, ne_eq, e1, e2]; omega
  have T32 : c < d ∧ ¬ d < c ∧ c ≠ d ∧ d ≠ c ∨ c = d ∧ ¬ c < c ∨ d < c ∧ ¬ c < d ∧ c ≠ d ∧ d ≠ c := by
    have e1 : c = d ↔ c.toInt = d.toInt := Int32.toInt_inj.symm
    have e2 : d = c ↔ d.toInt = c.toInt := Int32.toInt_inj.symm
    simp only [Int32.lt_iff_toInt_lt, ne_eq, e1, e2]; omega
  have v0 : ¬ v < v := by rw [Int64.lt_iff_toInt_lt]; omega
  have w0 : ¬ w < w := by rw [Int64.lt_iff_toInt_lt]; omega
  have c0 : ¬ c < c := by rw [Int32.lt_iff_toInt_lt]; omega
  have d0 : ¬ d < d := by rw [Int32.lt_iff_toInt_lt]; omega
  unfold own_rm0_F own_t49_F own_t101_F own_t114_F own_t127_F own_rm1_F own_t1_F
  rcases T64 with ⟨a1, a2, a3, a4⟩ | ⟨rfl, a1⟩ | ⟨a1, a2, a3, a4⟩ <;> rcases T32 with ⟨b1, b2, b3, b4⟩ | ⟨rfl, b1⟩ | ⟨b1, b2, b3, b4⟩ <;>
    simp [*]
set_option maxRecDepth 65536 in
set_option maxHeartbeats 40000000 in
theorem own_rm0 (l : Launch) (Z : State) (a0 : Array Value) (hw : ∀ d ∈ tables_1, d.before a0 Z = true) (ws : List Jvm.Cond) (q1 : Int64) (p2 : Int32) (q3 : Int64) (p4 : Int32) (h0 : Heap) (n0 : Nat) (Z0 : n0 ≤ h0.size) :
    MetFree l x (head1 (Jvm.Cond.code x code maxLocals ret :: ws) room_1) (fun a U => a = #[(.long q1), (.int p2), (.long q3), (.int p4)] ∧ Z.Warmed39 U.vm ∧ U.heap = h0) (fun _ _ _ _ _ => True) (fun _ U o U' => ∃ v L, o = .returned v ∧ (v = some (.int 1) ∧ Fr n0 L) ∧ FrameEnd U o U' L room_1.cells room_1.slots) := by
  refine MetFree.of_bodySF (plainFor_of_name pn_0) hisR ?_
  intro p e s m args below meth c s₁ Bd hml0 hP hK
  obtain ⟨rfl, hZ, hh⟩ := hP
  have hx := Bd.exec
  have hby := Bd.bytes
  have hml : c.maxLocals = 12 := hml0
  have hown : s.vm.findClass "com/example/firmeza/firmeza/settlement/RankingBeatsPinLaw" = some m.cls := findClass_of_methodNamed Bd.named
  have X0 : Stand p l e room_1 s m #[(.long q1), (.int p2), (.long q3), (.int p4)] below meth c s₁ [] 0 0 := Stand.of_body Bd
  have e0 : s₁.heap = h0 := by rw [← hh, Bd.state]; rfl
  have N0 := Fr.nil n0
  have pre0 : ∀ t, Steps p.tables e below (s₁.setTop (mkF m 0 #[.val (.long q1), .second, .val (.int p2), .val (.long q3), .second, .val (.int p4), .unset, .unset, .unset, .unset, .unset, .unset] [])) t → Steps p.tables e below (s₁.setTop (entryFrame m #[(.long q1), (.int p2), (.long q3), (.int p4)] maxLocals)) t := fun t k => castTop (ef_0 m q1 p2 q3 p4) k
  obtain ⟨_, _, ⟨T1, L1, k1, n1⟩, -, X1, ⟨Lc1, hQ1, l1, y1, z1⟩, st1⟩ := Jvm.LawKit.callS X0 hx (y := (⟨"com/example/firmeza/firmeza/settlement/Ranking", "beats", "(JIJI)Z"⟩ : MethodName)) hown (mvT hZ (hw _ (List.mem_of_getElem? (i := 0) rfl))) (mvT hZ (hw _ (List.mem_of_getElem? (i := 1) rfl))) (mvT hZ (hw _ (List.mem_of_getElem? (i := 2) rfl))) (mvT hZ (hw _ (List.mem_of_getElem? (i := 3) rfl))) (by decide) (backOf (W := 0) (own_rm1 l Z a0 hw [] q1 p2 q3 p4 h0 n0 Z0) hZ (hw _ (List.mem_of_getElem? (i := 3) rfl)) (hw _ (List.mem_of_getElem? (i := 2) rfl)) (by decide) (by decide)) (g := (mkF m 5 #[.val (.long q1), .second, .val (.int p2), .val (.long q3), .second, .val (.int p4), .unset, .unset, .unset, .unset, .unset, .unset] [(.int p4), (.long q3), (.int p2), (.long q1)])) rfl (by rw [hml]; rfl) (argsL := [(.long q1), (.int p2), (.long q3), (.int p4)]) (rest := []) (lenOf pd_0_7 rfl) rfl (by show 2 * 0 + _ ≤ _; exact Nat.le_of_eq rfl) (hb hby at_5) (fun _ _ => ⟨rfl, e0, (by decide : 0 + 0 ≤ _), (by decide : 0 + 0 ≤ _)⟩)
  dsimp only [Pt.U, Pt.locs, Pt.cells, Pt.slots] at X1 l1 y1 z1 st1 hQ1
  subst l1 y1 z1
  obtain ⟨rfl, N1q, e1⟩ := hQ1
  have N1 := Fr.app N0 N1q
  obtain ⟨_, _, ⟨T2, L2, k2, n2⟩, -, X2, ⟨Lc2, hQ2, l2, y2, z2⟩, st2⟩ := Jvm.LawKit.callS X1 hx (y := (⟨"com/example/firmeza/firmeza/settlement/Ranking", "beats", "(JIJI)Z"⟩ : MethodName)) hown (mvT hZ (hw _ (List.mem_of_getElem? (i := 0) rfl))) (mvT hZ (hw _ (List.mem_of_getElem? (i := 1) rfl))) (mvT hZ (hw _ (List.mem_of_getElem? (i := 2) rfl))) (mvT hZ (hw _ (List.mem_of_getElem? (i := 3) rfl))) (by decide) (backOf (W := 0) (own_rm1 l Z a0 hw [] q3 p4 q1 p2 h0 n0 Z0) hZ (hw _ (List.mem_of_getElem? (i := 3) rfl)) (hw _ (List.mem_of_getElem? (i := 2) rfl)) (by decide) (by decide)) (g := (mkF m 15 #[.val (.long q1), .second, .val (.int p2), .val (.long q3), .second, .val (.int p4), .val (.int (own_rm1_F q1 p2 q3 p4)), .unset, .unset, .unset, .unset, .unset] [(.int p2), (.long q1), (.int p4), (.long q3)])) rfl (by rw [hml]; rfl) (argsL := [(.long q3), (.int p4), (.long q1), (.int p2)]) (rest := []) (lenOf pd_0_7 rfl) rfl (by show 2 * 0 + _ ≤ _; exact Nat.le_of_eq rfl) (hb hby at_15) (fun _ _ => ⟨rfl, e1, (by decide : 0 + 0 ≤ _), (by decide : 0 + 0 ≤ _)⟩)
  dsimp only [Pt.U, Pt.locs, Pt.cells, Pt.slots] at X2 l2 y2 z2 st2 hQ2
  subst l2 y2 z2
  obtain ⟨rfl, N2q, e2⟩ := hQ2
  have N2 := Fr.app N1 N2q
  obtain ⟨_, _, ⟨T3, L3, k3, n3⟩, -, X3, ⟨Lc3, hQ3, l3, y3, z3⟩, st3⟩ := Jvm.LawKit.callS X2 hx (y := (⟨"com/example/firmeza/firmeza/settlement/Ranking", "beats", "(JIJI)Z"⟩ : MethodName)) hown (mvT hZ (hw _ (List.mem_of_getElem? (i := 0) rfl))) (mvT hZ (hw _ (List.mem_of_getElem? (i := 1) rfl))) (mvT hZ (hw _ (List.mem_of_getElem? (i := 2) rfl))) (mvT hZ (hw _ (List.mem_of_getElem? (i := 3) rfl))) (by decide) (backOf (W := 0) (own_rm1 l Z a0 hw [] q1 p2 q1 p2 h0 n0 Z0) hZ (hw _ (List.mem_of_getElem? (i := 3) rfl)) (hw _ (List.mem_of_getElem? (i := 2) rfl)) (by decide) (by decide)) (g := (mkF m 24 #[.val (.long q1), .second, .val (.int p2), .val (.long q3), .second, .val (.int p4), .val (.int (own_rm1_F q1 p2 q3 p4)), .val (.int (own_rm1_F q3 p4 q1 p2)), .unset, .unset, .unset, .unset] [(.int p2), (.long q1), (.int p2), (.long q1)])) rfl (by rw [hml]; rfl) (argsL := [(.long q1), (.int p2), (.long q1), (.int p2)]) (rest := []) (lenOf pd_0_7 rfl) rfl (by show 2 * 0 + _ ≤ _; exact Nat.le_of_eq rfl) (hb hby at_24) (fun _ _ => ⟨rfl, e2, (by decide : 0 + 0 ≤ _), (by decide : 0 + 0 ≤ _)⟩)
  dsimp only [Pt.U, Pt.locs, Pt.cells, Pt.slots] at X3 l3 y3 z3 st3 hQ3
  subst l3 y3 z3
  obtain ⟨rfl, N3q, e3⟩ := hQ3
  have N3 := Fr.app N2 N3q
  obtain ⟨_, _, ⟨T4, L4, k4, n4⟩, -, X4, ⟨Lc4, hQ4, l4, y4, z4⟩, st4⟩ := Jvm.LawKit.callS X3 hx (y := (⟨"com/example/firmeza/firmeza/settlement/Ranking", "beats", "(JIJI)Z"⟩ : MethodName)) hown (mvT hZ (hw _ (List.mem_of_getElem? (i := 0) rfl))) (mvT hZ (hw _ (List.mem_of_getElem? (i := 1) rfl))) (mvT hZ (hw _ (List.mem_of_getElem? (i := 2) rfl))) (mvT hZ (hw _ (List.mem_of_getElem? (i := 3) rfl))) (by decide) (backOf (W := 0) (own_rm1 l Z a0 hw [] q1 p2 q1 p4 h0 n0 Z0) hZ (hw _ (List.mem_of_getElem? (i := 3) rfl)) (hw _ (List.mem_of_getElem? (i := 2) rfl)) (by decide) (by decide)) (g := (mkF m 34 #[.val (.long q1), .second, .val (.int p2), .val (.long q3), .second, .val (.int p4), .val (.int (own_rm1_F q1 p2 q3 p4)), .val (.int (own_rm1_F q3 p4 q1 p2)), .val (.int (own_rm1_F q1 p2 q1 p2)), .unset, .unset, .unset] [(.int p4), (.long q1), (.int p2), (.long q1)])) rfl (by rw [hml]; rfl) (argsL := [(.long q1), (.int p2), (.long q1), (.int p4)]) (rest := []) (lenOf pd_0_7 rfl) rfl (by show 2 * 0 + _ ≤ _; exact Nat.le_of_eq rfl) (hb hby at_34) (fun _ _ => ⟨rfl, e3, (by decide : 0 + 0 ≤ _), (by decide : 0 + 0 ≤ _)⟩)
  dsimp only [Pt.U, Pt.locs, Pt.cells, Pt.slots] at X4 l4 y4 z4 st4 hQ4
  subst l4 y4 z4
  obtain ⟨rfl, N4q, e4⟩ := hQ4
  have N4 := Fr.app N3 N4q
  obtain ⟨_, _, ⟨T5, L5, k5, n5⟩, -, X5, ⟨Lc5, hQ5, l5, y5, z5⟩, st5⟩ := Jvm.LawKit.callS X4 hx (y := (⟨"com/example/firmeza/firmeza/settlement/Ranking", "beats", "(JIJI)Z"⟩ : MethodName)) hown (mvT hZ (hw _ (List.mem_of_getElem? (i := 0) rfl))) (mvT hZ (hw _ (List.mem_of_getElem? (i := 1) rfl))) (mvT hZ (hw _ (List.mem_of_getElem? (i := 2) rfl))) (mvT hZ (hw _ (List.mem_of_getElem? (i := 3) rfl))) (by decide) (backOf (W := 0) (own_rm1 l Z a0 hw [] q1 p4 q1 p2 h0 n0 Z0) hZ (hw _ (List.mem_of_getElem? (i := 3) rfl)) (hw _ (List.mem_of_getElem? (i := 2) rfl)) (by decide) (by decide)) (g := (mkF m 44 #[.val (.long q1), .second, .val (.int p2), .val (.long q3), .second, .val (.int p4), .val (.int (own_rm1_F q1 p2 q3 p4)), .val (.int (own_rm1_F q3 p4 q1 p2)), .val (.int (own_rm1_F q1 p2 q1 p2)), .val (.int (own_rm1_F q1 p2 q1 p4)), .unset, .unset] [(.int p2), (.long q1), (.int p4), (.long q1)])) rfl (by rw [hml]; rfl) (argsL := [(.long q1), (.int p4), (.long q1), (.int p2)]) (rest := []) (lenOf pd_0_7 rfl) rfl (by show 2 * 0 + _ ≤ _; exact Nat.le_of_eq rfl) (hb hby at_44) (fun _ _ => ⟨rfl, e4, (by decide : 0 + 0 ≤ _), (by decide : 0 + 0 ≤ _)⟩)
  dsimp only [Pt.U, Pt.locs, Pt.cells, Pt.slots] at X5 l5 y5 z5 st5 hQ5
  subst l5 y5 z5
  obtain ⟨rfl, N5q, e5⟩ := hQ5
  have N5 := Fr.app N4 N5q
  obtain ⟨fs, hr, hrun, hended, hW, hsame⟩ := X5.leave (v := some (.int (own_t49_F q1 p2 q3 p4 (own_rm1_F q1 p2 q3 p4) (own_rm1_F q3 p4 q1 p2) (own_rm1_F q1 p2 q1 p2) (own_rm1_F q1 p2 q1 p4) (own_rm1_F q1 p4 q1 p2)))) (fun h => by rw [Bd.returns] at h; cases h)
  refine ⟨_, _, pre0 _ ?_, hrun, hended, _, _, rfl, ?_, ⟨_, rfl⟩, hW, hsame.mono (by decide) (by decide)⟩
  · show Steps p.tables e below (s₁.setTop (mkF m 0 #[.val (.long q1), .second, .val (.int p2), .val (.long q3), .second, .val (.int p4), .unset, .unset, .unset, .unset, .unset, .unset] [])) _
    refine XS.lloadN X0.here hx rfl (hb hby at_0) rfl ?_
    show Steps p.tables e below (s₁.setTop (mkF m 1 #[.val (.long q1), .second, .val (.int p2), .val (.long q3), .second, .val (.int p4), .unset, .unset, .unset, .unset, .unset, .unset] [(.long q1)])) _
    refine XS.iloadN X0.here hx rfl (hb hby at_1) rfl ?_
    show Steps p.tables e below (s₁.setTop (mkF m 2 #[.val (.long q1), .second, .val (.int p2), .val (.long q3), .second, .val (.int p4), .unset, .unset, .unset, .unset, .unset, .unset] [(.int p2), (.long q1)])) _
    refine XS.lloadN X0.here hx rfl (hb hby at_2) rfl ?_
    show Steps p.tables e below (s₁.setTop (mkF m 3 #[.val (.long q1), .second, .val (.int p2), .val (.long q3), .second, .val (.int p4), .unset, .unset, .unset, .unset, .unset, .unset] [(.long q3), (.int p2), (.long q1)])) _
    refine XS.iload X0.here hx rfl (hb hby at_3) rfl ?_
    show Steps p.tables e below (s₁.setTop (mkF m 5 #[.val (.long q1), .second, .val (.int p2), .val (.long q3), .second, .val (.int p4), .unset, .unset, .unset, .unset, .unset, .unset] [(.int p4), (.long q3), (.int p2), (.long q1)])) _
    refine st1 _ ?_
    show Steps p.tables e below (T1.setTop (mkF m 8 #[.val (.long q1), .second, .val (.int p2), .val (.long q3), .second, .val (.int p4), .unset, .unset, .unset, .unset, .unset, .unset] [(.int (own_rm1_F q1 p2 q3 p4))])) _
    refine XS.istore X1.here hx rfl (hb hby at_8) rfl (l' := #[.val (.long q1), .second, .val (.int p2), .val (.long q3), .second, .val (.int p4), .val (.int (own_rm1_F q1 p2 q3 p4)), .unset, .unset, .unset, .unset, .unset]) rfl ?_
    show Steps p.tables e below (T1.setTop (mkF m 10 #[.val (.long q1), .second, .val (.int p2), .val (.long q3), .second, .val (.int p4), .val (.int (own_rm1_F q1 p2 q3 p4)), .unset, .unset, .unset, .unset, .unset] [])) _
    refine XS.lloadN X1.here hx rfl (hb hby at_10) rfl ?_
    show Steps p.tables e below (T1.setTop (mkF m 11 #[.val (.long q1), .second, .val (.int p2), .val (.long q3), .second, .val (.int p4), .val (.int (own_rm1_F q1 p2 q3 p4)), .unset, .unset, .unset, .unset, .unset] [(.long q3)])) _
    refine XS.iload X1.here hx rfl (hb hby at_11) rfl ?_
    show Steps p.tables e below (T1.setTop (mkF m 13 #[.val (.long q1), .second, .val (.int p2), .val (.long q3), .second, .val (.int p4), .val (.int (own_rm1_F q1 p2 q3 p4)), .unset, .unset, .unset, .unset, .unset] [(.int p4), (.long q3)])) _
    refine XS.lloadN X1.here hx rfl (hb hby at_13) rfl ?_
    show Steps p.tables e below (T1.setTop (mkF m 14 #[.val (.long q1), .second, .val (.int p2), .val (.long q3), .second, .val (.int p4), .val (.int (own_rm1_F q1 p2 q3 p4)), .unset, .unset, .unset, .unset, .unset] [(.long q1), (.int p4), (.long q3)])) _
    refine XS.iloadN X1.here hx rfl (hb hby at_14) rfl ?_
    show Steps p.tables e below (T1.setTop (mkF m 15 #[.val (.long q1), .second, .val (.int p2), .val (.long q3), .second, .val (.int p4), .val (.int (own_rm1_F q1 p2 q3 p4)), .unset, .unset, .unset, .unset, .unset] [(.int p2), (.long q1), (.int p4), (.long q3)])) _
    refine st2 _ ?_
    show Steps p.tables e below (T2.setTop (mkF m 18 #[.val (.long q1), .second, .val (.int p2), .val (.long q3), .second, .val (.int p4), .val (.int (own_rm1_F q1 p2 q3 p4)), .unset, .unset, .unset, .unset, .unset] [(.int (own_rm1_F q3 p4 q1 p2))])) _
    refine XS.istore X2.here hx rfl (hb hby at_18) rfl (l' := #[.val (.long q1), .second, .val (.int p2), .val (.long q3), .second, .val (.int p4), .val (.int (own_rm1_F q1 p2 q3 p4)), .val (.int (own_rm1_F q3 p4 q1 p2)), .unset, .unset, .unset, .unset]) rfl ?_
    show Steps p.tables e below (T2.setTop (mkF m 20 #[.val (.long q1), .second, .val (.int p2), .val (.long q3), .second, .val (.int p4), .val (.int (own_rm1_F q1 p2 q3 p4)), .val (.int (own_rm1_F q3 p4 q1 p2)), .unset, .unset, .unset, .unset] [])) _
    refine XS.lloadN X2.here hx rfl (hb hby at_20) rfl ?_
    show Steps p.tables e below (T2.setTop (mkF m 21 #[.val (.long q1), .second, .val (.int p2), .val (.long q3), .second, .val (.int p4), .val (.int (own_rm1_F q1 p2 q3 p4)), .val (.int (own_rm1_F q3 p4 q1 p2)), .unset, .unset, .unset, .unset] [(.long q1)])) _
    refine XS.iloadN X2.here hx rfl (hb hby at_21) rfl ?_
    show Steps p.tables e below (T2.setTop (mkF m 22 #[.val (.long q1), .second, .val (.int p2), .val (.long q3), .second, .val (.int p4), .val (.int (own_rm1_F q1 p2 q3 p4)), .val (.int (own_rm1_F q3 p4 q1 p2)), .unset, .unset, .unset, .unset] [(.int p2), (.long q1)])) _
    refine XS.lloadN X2.here hx rfl (hb hby at_22) rfl ?_
    show Steps p.tables e below (T2.setTop (mkF m 23 #[.val (.long q1), .second, .val (.int p2), .val (.long q3), .second, .val (.int p4), .val (.int (own_rm1_F q1 p2 q3 p4)), .val (.int (own_rm1_F q3 p4 q1 p2)), .unset, .unset, .unset, .unset] [(.long q1), (.int p2), (.long q1)])) _
    refine XS.iloadN X2.here hx rfl (hb hby at_23) rfl ?_
    show Steps p.tables e below (T2.setTop (mkF m 24 #[.val (.long q1), .second, .val (.int p2), .val (.long q3), .second, .val (.int p4), .val (.int (own_rm1_F q1 p2 q3 p4)), .val (.int (own_rm1_F q3 p4 q1 p2)), .unset, .unset, .unset, .unset] [(.int p2), (.long q1), (.int p2), (.long q1)])) _
    refine st3 _ ?_
    show Steps p.tables e below (T3.setTop (mkF m 27 #[.val (.long q1), .second, .val (.int p2), .val (.long q3), .second, .val (.int p4), .val (.int (own_rm1_F q1 p2 q3 p4)), .val (.int (own_rm1_F q3 p4 q1 p2)), .unset, .unset, .unset, .unset] [(.int (own_rm1_F q1 p2 q1 p2))])) _
    refine XS.istore X3.here hx rfl (hb hby at_27) rfl (l' := #[.val (.long q1), .second, .val (.int p2), .val (.long q3), .second, .val (.int p4), .val (.int (own_rm1_F q1 p2 q3 p4)), .val (.int (own_rm1_F q3 p4 q1 p2)), .val (.int (own_rm1_F q1 p2 q1 p2)), .unset, .unset, .unset]) rfl ?_
    show Steps p.tables e below (T3.setTop (mkF m 29 #[.val (.long q1), .second, .val (.int p2), .val (.long q3), .second, .val (.int p4), .val (.int (own_rm1_F q1 p2 q3 p4)), .val (.int (own_rm1_F q3 p4 q1 p2)), .val (.int (own_rm1_F q1 p2 q1 p2)), .unset, .unset, .unset] [])) _
    refine XS.lloadN X3.here hx rfl (hb hby at_29) rfl ?_
    show Steps p.tables e below (T3.setTop (mkF m 30 #[.val (.long q1), .second, .val (.int p2), .val (.long q3), .second, .val (.int p4), .val (.int (own_rm1_F q1 p2 q3 p4)), .val (.int (own_rm1_F q3 p4 q1 p2)), .val (.int (own_rm1_F q1 p2 q1 p2)), .unset, .unset, .unset] [(.long q1)])) _
    refine XS.iloadN X3.here hx rfl (hb hby at_30) rfl ?_
    show Steps p.tables e below (T3.setTop (mkF m 31 #[.val (.long q1), .second, .val (.int p2), .val (.long q3), .second, .val (.int p4), .val (.int (own_rm1_F q1 p2 q3 p4)), .val (.int (own_rm1_F q3 p4 q1 p2)), .val (.int (own_rm1_F q1 p2 q1 p2)), .unset, .unset, .unset] [(.int p2), (.long q1)])) _
    refine XS.lloadN X3.here hx rfl (hb hby at_31) rfl ?_
    show Steps p.tables e below (T3.setTop (mkF m 32 #[.val (.long q1), .second, .val (.int p2), .val (.long q3), .second, .val (.int p4), .val (.int (own_rm1_F q1 p2 q3 p4)), .val (.int (own_rm1_F q3 p4 q1 p2)), .val (.int (own_rm1_F q1 p2 q1 p2)), .unset, .unset, .unset] [(.long q1), (.int p2), (.long q1)])) _
    refine XS.iload X3.here hx rfl (hb hby at_32) rfl ?_
    show Steps p.tables e below (T3.setTop (mkF m 34 #[.val (.long q1), .second, .val (.int p2), .val (.long q3), .second, .val (.int p4), .val (.int (own_rm1_F q1 p2 q3 p4)), .val (.int (own_rm1_F q3 p4 q1 p2)), .val (.int (own_rm1_F q1 p2 q1 p2)), .unset, .unset, .unset] [(.int p4), (.long q1), (.int p2), (.long q1)])) _
    refine st4 _ ?_
    show Steps p.tables e below (T4.setTop (mkF m 37 #[.val (.long q1), .second, .val (.int p2), .val (.long q3), .second, .val (.int p4), .val (.int (own_rm1_F q1 p2 q3 p4)), .val (.int (own_rm1_F q3 p4 q1 p2)), .val (.int (own_rm1_F q1 p2 q1 p2)), .unset, .unset, .unset] [(.int (own_rm1_F q1 p2 q1 p4))])) _
    refine XS.istore X4.here hx rfl (hb hby at_37) rfl (l' := #[.val (.long q1), .second, .val (.int p2), .val (.long q3), .second, .val (.int p4), .val (.int (own_rm1_F q1 p2 q3 p4)), .val (.int (own_rm1_F q3 p4 q1 p2)), .val (.int (own_rm1_F q1 p2 q1 p2)), .val (.int (own_rm1_F q1 p2 q1 p4)), .unset, .unset]) rfl ?_
    show Steps p.tables e below (T4.setTop (mkF m 39 #[.val (.long q1), .second, .val (.int p2), .val (.long q3), .second, .val (.int p4), .val (.int (own_rm1_F q1 p2 q3 p4)), .val (.int (own_rm1_F q3 p4 q1 p2)), .val (.int (own_rm1_F q1 p2 q1 p2)), .val (.int (own_rm1_F q1 p2 q1 p4)), .unset, .unset] [])) _
    refine XS.lloadN X4.here hx rfl (hb hby at_39) rfl ?_
    show Steps p.tables e below (T4.setTop (mkF m 40 #[.val (.long q1), .second, .val (.int p2), .val (.long q3), .second, .val (.int p4), .val (.int (own_rm1_F q1 p2 q3 p4)), .val (.int (own_rm1_F q3 p4 q1 p2)), .val (.int (own_rm1_F q1 p2 q1 p2)), .val (.int (own_rm1_F q1 p2 q1 p4)), .unset, .unset] [(.long q1)])) _
    refine XS.iload X4.here hx rfl (hb hby at_40) rfl ?_
    show Steps p.tables e below (T4.setTop (mkF m 42 #[.val (.long q1), .second, .val (.int p2), .val (.long q3), .second, .val (.int p4), .val (.int (own_rm1_F q1 p2 q3 p4)), .val (.int (own_rm1_F q3 p4 q1 p2)), .val (.int (own_rm1_F q1 p2 q1 p2)), .val (.int (own_rm1_F q1 p2 q1 p4)), .unset, .unset] [(.int p4), (.long q1)])) _
    refine XS.lloadN X4.here hx rfl (hb hby at_42) rfl ?_
    show Steps p.tables e below (T4.setTop (mkF m 43 #[.val (.long q1), .second, .val (.int p2), .val (.long q3), .second, .val (.int p4), .val (.int (own_rm1_F q1 p2 q3 p4)), .val (.int (own_rm1_F q3 p4 q1 p2)), .val (.int (own_rm1_F q1 p2 q1 p2)), .val (.int (own_rm1_F q1 p2 q1 p4)), .unset, .unset] [(.long q1), (.int p4), (.long q1)])) _
    refine XS.iloadN X4.here hx rfl (hb hby at_43) rfl ?_
    show Steps p.tables e below (T4.setTop (mkF m 44 #[.val (.long q1), .second, .val (.int p2), .val (.long q3), .second, .val (.int p4), .val (.int (own_rm1_F q1 p2 q3 p4)), .val (.int (own_rm1_F q3 p4 q1 p2)), .val (.int (own_rm1_F q1 p2 q1 p2)), .val (.int (own_rm1_F q1 p2 q1 p4)), .unset, .unset] [(.int p2), (.long q1), (.int p4), (.long q1)])) _
    refine st5 _ ?_
    show Steps p.tables e below (T5.setTop (mkF m 47 #[.val (.long q1), .second, .val (.int p2), .val (.long q3), .second, .val (.int p4), .val (.int (own_rm1_F q1 p2 q3 p4)), .val (.int (own_rm1_F q3 p4 q1 p2)), .val (.int (own_rm1_F q1 p2 q1 p2)), .val (.int (own_rm1_F q1 p2 q1 p4)), .unset, .unset] [(.int (own_rm1_F q1 p4 q1 p2))])) _
    refine XS.istore X5.here hx rfl (hb hby at_47) rfl (l' := #[.val (.long q1), .second, .val (.int p2), .val (.long q3), .second, .val (.int p4), .val (.int (own_rm1_F q1 p2 q3 p4)), .val (.int (own_rm1_F q3 p4 q1 p2)), .val (.int (own_rm1_F q1 p2 q1 p2)), .val (.int (own_rm1_F q1 p2 q1 p4)), .val (.int (own_rm1_F q1 p4 q1 p2)), .unset]) rfl ?_
    exact own_t49 X5 hx hZ hw hby hown Bd.returns q1 p2 q3 p4 (own_rm1_F q1 p2 q3 p4) (own_rm1_F q3 p4 q1 p2) (own_rm1_F q1 p2 q1 p2) (own_rm1_F q1 p2 q1 p4) (own_rm1_F q1 p4 q1 p2) hr
  · exact ⟨congrArg (fun z => some (Value.int z)) (own_law q1 p2 q3 p4), N5⟩
set_option maxRecDepth 65536 in
set_option maxHeartbeats 40000000 in
theorem comes_1 {Post : Tables → Env → Array Value → State → Outcome → State → Prop} (hpost : ∀ tb e args s v u, (limb_1_1.after args s (.returned v) u = true ∧ limb_1_2.after args s (.returned v) u = true ∧ True) → FrameEnd s (.returned v) u (Jvm.fieldLocs frame_1_writes args s ++ Jvm.arrayLocs frame_1_arrays args s ++ Jvm.staticLocs frame_1_statics s) 0 0 → Post tb e args s (.returned v) u) :
    ArmFor flags0 classFile x code maxLocals ret World_1 tables_1 room_1 Calls_1 rest_1 Pre_1 Post := by
  intro l hfl _ _ p e ha hc hk s m args below hf hA hF happ hP
  obtain ⟨hcalls, hrest, hpre⟩ := hP
  obtain ⟨-, -, -, hnamed, -, -, -, hat⟩ := (Spec.applies_iff hf).mp happ
  obtain ⟨hg, hn⟩ := and_e (Cond.before_iff.mp (show (Jvm.Cond.and given_1 narrow_1).before args s = true from hpre))
  obtain ⟨gc, g0⟩ := and_e hg
  obtain ⟨b0, g1⟩ := and_e g0
  obtain ⟨b1, g2⟩ := and_e g1
  obtain ⟨b2, g3⟩ := and_e g2
  obtain ⟨w0, w1, w2, w3, rfl⟩ : ∃ w0 w1 w2 w3 : Value, args = #[w0, w1, w2, w3] := by
    have hs : args.size = 4 := by simpa [Cond.value, given_1] using gc
    obtain ⟨L⟩ := args
    match L, hs with
    | [w0, w1, w2, w3], _ => exact ⟨w0, w1, w2, w3, rfl⟩
  have hw := fun d (hd : d ∈ tables_1) => atoms_spec (ws := Jvm.Cond.code x code maxLocals ret :: tables_1) hat d (List.mem_cons_of_mem _ hd)
  obtain ⟨i0, ei0⟩ := isL_v b0
  obtain rfl : w0 = (.long i0) := Option.some.inj ei0
  obtain ⟨i1, ei1⟩ := is_v b1
  obtain rfl : w1 = (.int i1) := Option.some.inj ei1
  obtain ⟨i2, ei2⟩ := isL_v b2
  obtain rfl : w2 = (.long i2) := Option.some.inj ei2
  obtain ⟨i3, ei3⟩ := is_v g3
  obtain rfl : w3 = (.int i3) := Option.some.inj ei3
  obtain ⟨n, o, h1, h2, h3, _, L, rfl, ⟨rfl, N⟩, hq⟩ := own_rm0 l s _ hw tables_1 i0 i1 i2 i3 s.heap s.heap.size (Nat.le_refl _) p e ha hc hk s m _ below hf ((Spec.applies_iff_loose hf).mp happ).1 ⟨rfl, State.Warmed39.refl s, rfl⟩ trivial
  refine ⟨n, _, h1, h2, h3, hpost _ _ _ _ _ _ ⟨Cond.after_iff.mpr rfl, Cond.after_iff.mpr (eq_i res_at (Term.int_eval (1)) rfl), trivial⟩ ⟨hq.1, hq.2.1, (hq.2.2.sift fun y hy => Or.inr (N y hy)).mono (by decide) (by decide)⟩⟩
theorem main_1_1 : Claimed_1_1 := comes_1 fun _ _ _ _ _ _ h hF => ⟨h.1, hF⟩
theorem main_1_2 : Claimed_1_2 := comes_1 fun _ _ _ _ _ _ h hF => ⟨h.2.1, hF⟩
end Jvm.Pilot.@@N@@
namespace Jvm.Pilot.@@N@@
open Jvm Jvm.ClassFile Sem Op Lib Jvm.Free Jvm.Stand Jvm.Pilot.@@N@@.Jvm.D
/-! MADE BY PROGRAM (witnessworld.py) out of the Statement's table words and the real class files: 9 classes; the members and pool entries that the words name. The judged class is class 1, her method 1. -/
namespace start1
open Jvm.ClassFile
def u (s : String) : CpInfo := .utf8 (stringToUtf16 s)
/-- a pool by its gaps: so many unusable entries, then the entry; so many at the end -/
def gap : Nat → List CpInfo → List CpInfo
  | 0, r => r
  | n + 1, r => .unusable :: gap n r
def poolList (es : List (Nat × CpInfo)) (last : Nat) : List CpInfo := es.foldr (fun e r => gap e.1 (e.2 :: r)) (gap last [])
def pool (es : List (Nat × CpInfo)) (last : Nat) : Array CpInfo := ⟨poolList es last⟩
def fileOf (pool : Array CpInfo) (this : Nat) (attrs : Array Attribute := #[]) (ms : Array MethodInfo := #[]) (fl : Nat := 33) (sup : Nat := 0) (ifs : Array Nat := #[]) (fds : Array FieldInfo := #[]) : ClassFile where
  minorVersion := 0
  majorVersion := 65
  constantPool := pool
  accessFlags := fl
  thisClass := this
  superClass := sup
  interfaces := ifs
  fields := fds
  methods := ms
  attributes := attrs
def plain (name : String) (sup : Option ClassId) : Class where
  name := name
  kind := .ordinary
  loader := none
  accessFlags := 33
  super := sup
  interfaces := #[]
  cf := none
  fields := #[]
  methods := #[]
  instanceTypes := #[]
  staticTypes := #[]
  resolved := #[]
  callSites := []
  init := .initialized
  statics := none
  mirror := none

def pool0 : Array CpInfo := pool [(5, u "<init>"), (0, u "()V"), (1, .class_ 10), (1, u "java/lang/Object")] 113

def k0m0 : Method := { name := "<init>", desc := "()V", sig := { parameters := [], returnType := none }, accessFlags := 1, code := none }
/-- java/lang/Object -/
def k0 : Class := { plain "java/lang/Object" none with
  accessFlags := 33
  interfaces := #[]
  cf := some (fileOf pool0 8 #[] #[{ accessFlags := 1, nameIndex := 5, descriptorIndex := 6, attributes := #[] }] 33 0 #[] #[])
  fields := #[]
  methods := #[k0m0]
  instanceTypes := #[]
  staticTypes := #[]
  resolved := Array.replicate 124 none
  statics := none }

def pool1 : Array CpInfo := pool [(2, .class_ 4), (1, u "java/lang/Object"), (0, u "<init>"), (0, u "()V"), (0, .methodref 8 9), (0, .class_ 10), (0, .nameAndType 11 12), (0, u "com/example/firmeza/firmeza/settlement/Ranking"), (0, u "beats"), (0, u "(JIJI)Z"), (0, .class_ 14), (0, u "com/example/firmeza/firmeza/settlement/RankingBeatsPinLaw"), (2, u "law")] 3

def k1m0 : Method := { name := "<init>", desc := "()V", sig := { parameters := [], returnType := none }, accessFlags := 2, code := none }
def k1c1 : Code := { maxStack := 6, maxLocals := 12, code := code, exceptionTable := #[], attributes := #[] }
def k1m1 : Method := { name := "law", desc := "(JIJI)Z", sig := { parameters := [.long, .int, .long, .int], returnType := some .boolean }, accessFlags := 9, code := some k1c1 }
/-- com/example/firmeza/firmeza/settlement/RankingBeatsPinLaw -/
def k1 : Class := { plain "com/example/firmeza/firmeza/settlement/RankingBeatsPinLaw" (some 0) with
  accessFlags := 49
  interfaces := #[]
  cf := some (fileOf pool1 13 #[] #[{ accessFlags := 2, nameIndex := 5, descriptorIndex := 6, attributes := #[] }, { accessFlags := 9, nameIndex := 17, descriptorIndex := 12, attributes := #[] }] 49 2 #[] #[])
  fields := #[]
  methods := #[k1m0, k1m1]
  instanceTypes := #[]
  staticTypes := #[]
  resolved := Array.replicate 21 none
  statics := none }

def pool2 : Array CpInfo := pool [(2, .class_ 4), (1, u "java/lang/Object"), (0, u "<init>"), (0, u "()V"), (0, .class_ 8), (0, u "com/example/firmeza/firmeza/settlement/Ranking"), (2, u "beats"), (0, u "(JIJI)Z")] 3

def k2m0 : Method := { name := "<init>", desc := "()V", sig := { parameters := [], returnType := none }, accessFlags := 2, code := none }
def k2c1 : Code := { maxStack := 4, maxLocals := 6, code := prog_72_method_2_code, exceptionTable := #[], attributes := #[] }
def k2m1 : Method := { name := "beats", desc := "(JIJI)Z", sig := { parameters := [.long, .int, .long, .int], returnType := some .boolean }, accessFlags := 8, code := some k2c1 }
/-- com/example/firmeza/firmeza/settlement/Ranking -/
def k2 : Class := { plain "com/example/firmeza/firmeza/settlement/Ranking" (some 0) with
  accessFlags := 48
  interfaces := #[]
  cf := some (fileOf pool2 7 #[] #[{ accessFlags := 2, nameIndex := 5, descriptorIndex := 6, attributes := #[] }, { accessFlags := 8, nameIndex := 11, descriptorIndex := 12, attributes := #[] }] 48 2 #[] #[])
  fields := #[]
  methods := #[k2m0, k2m1]
  instanceTypes := #[]
  staticTypes := #[]
  resolved := Array.replicate 16 none
  statics := none }

def pool3 : Array CpInfo := pool [(1, u "java/lang/Cloneable"), (0, .class_ 1), (0, u "java/lang/Object"), (0, .class_ 3)] 3

/-- java/lang/Cloneable -/
def k3 : Class := { plain "java/lang/Cloneable" (some 0) with
  accessFlags := 1537
  interfaces := #[]
  cf := some (fileOf pool3 2 #[] #[] 1537 4 #[] #[])
  fields := #[]
  methods := #[]
  instanceTypes := #[]
  staticTypes := #[]
  resolved := Array.replicate 8 none
  statics := none }

def pool4 : Array CpInfo := pool [(1, u "java/io/Serializable"), (0, .class_ 1), (0, u "java/lang/Object"), (0, .class_ 3)] 3

/-- java/io/Serializable -/
def k4 : Class := { plain "java/io/Serializable" (some 0) with
  accessFlags := 1537
  interfaces := #[]
  cf := some (fileOf pool4 2 #[] #[] 1537 4 #[] #[])
  fields := #[]
  methods := #[]
  instanceTypes := #[]
  staticTypes := #[]
  resolved := Array.replicate 8 none
  statics := none }

/-- the primitive byte -/
def k5 : Class := { plain "byte" none with kind := .primitive 'B', accessFlags := 0x411 }
/-- [B -/
def k6 : Class := { plain "[B" (some 0) with kind := .array 5 .byte, interfaces := #[3, 4], accessFlags := 1041 }

/-- the primitive int -/
def k7 : Class := { plain "int" none with kind := .primitive 'I', accessFlags := 0x411 }
/-- [I -/
def k8 : Class := { plain "[I" (some 0) with kind := .array 7 .int, interfaces := #[3, 4], accessFlags := 1041 }

def heap : Heap := #[]
def classes : Array Class := #[k0, k1, k2, k3, k4, k5, k6, k7, k8]
def interned : List (Array UInt16 × Addr) := []
def slotsUsed : Nat := 0
def theMethod : MethodId := ⟨1, 1⟩
def args0 : Array Value := #[.long 5, .int 3, .long 4, .int 9]
def aboutOver (below : List Frame) : State where
  vm := { classes := classes, interned := interned.toArray }
  heap := heap
  slotsUsed := slotsUsed
  threads := #[{ frames := .invoking theMethod args0 :: below }]
def below0 : List Frame := [.native { method := ⟨0, 0⟩, args := #[] }]
def about1 : State := aboutOver below0
def p0 : Program := .bare "" "" ""
def e0 : Env := launch0.env 0 0 0
theorem w_frames : about1.frames = Frame.invoking theMethod args0 :: below0 := rfl
set_option maxRecDepth 65536 in
theorem w_args : argsFit about1.vm theMethod args0 = true := by decide +kernel
set_option maxRecDepth 65536 in
theorem w_heap : heapFits about1 = true := by decide +kernel
set_option maxRecDepth 65536 in
theorem w_runnable : about1.curStatus? = some .runnable := by decide +kernel
set_option maxRecDepth 65536 in
theorem w_alone : about1.alone = true := by decide +kernel
set_option maxRecDepth 65536 in
theorem w_named : about1.methodNamed? x = some theMethod := by decide +kernel
set_option maxRecDepth 65536 in
theorem w_hears : about1.hears theMethod below0 = true := by decide +kernel
set_option maxRecDepth 65536 in
theorem w_ripe : about1.ripe theMethod args0 below0 = true := by decide +kernel
theorem w_running : about1.status = .running := rfl
set_option maxRecDepth 65536 in
theorem w_room : about1.hasRoom e0.platform room_1 = true :=
  launch0.hasRoom_least _ room_1 (by decide +kernel) (by decide +kernel) (by decide +kernel) (by decide +kernel) (by decide +kernel) (by decide +kernel)
theorem allAtoms_all (ts : List Jvm.Cond) (a : Array Jvm.Value) (st : Jvm.State) : (allAtoms ts).before a st = ts.all (fun c => c.before a st) := by
  induction ts with
  | nil => rfl
  | cons c t ih =>
    show (Jvm.Cond.and c (allAtoms t)).before a st = _
    rw [Jvm.Cond.before_and, ih, List.all_cons]
def words1 : List Jvm.Cond := Jvm.Cond.code x code maxLocals ret :: tables_1
/-- a 'code' word, met by the world's own term for the bytes: nothing is compared byte by byte -/
theorem code_word {y : MethodName} {bytes : ByteArray} {mx : Nat} {rt : Option FieldType} {a : Array Value} {s : State} {m : MethodId} {meth : Method} {c : Code} (h1 : s.methodNamed? y = some m) (h2 : s.vm.method? m = some meth) (h3 : meth.code = some c) (h4 : c.code = bytes)
    (h5 : (c.maxLocals == mx && c.exceptionTable.isEmpty && decide (c.maxStack ≤ mostOperands) && decide (meth.sig.returnType = rt) && !meth.locks && decide (parseMethodDescriptor y.desc = some meth.sig)) = true) : (Jvm.Cond.code y bytes mx rt).before a s = true := by
  simp only [Bool.and_eq_true, beq_iff_eq, Bool.not_eq_true', decide_eq_true_eq] at h5
  obtain ⟨⟨⟨⟨⟨g1, g2⟩, g3⟩, g4⟩, g5⟩, g6⟩ := h5
  simp [Cond.before, Cond.holds, Cond.value, h1, h2, h3, h4, g1, g2, g3, g4, g5, g6]
def isCode : Jvm.Cond → Bool
  | .code _ _ _ _ => true
  | _ => false
theorem all_split {L : List Jvm.Cond} {P : Jvm.Cond → Bool} (h1 : L.all (fun c => isCode c || P c) = true) (h2 : ∀ c ∈ L.filter isCode, P c = true) : L.all P = true := by
  refine List.all_eq_true.mpr fun c hc => ?_
  have h := List.all_eq_true.mp h1 c hc
  rcases Bool.eq_false_or_eq_true (isCode c) with hi | hi
  · exact h2 c (List.mem_filter.mpr ⟨hc, hi⟩)
  · simpa [hi] using h
set_option maxRecDepth 65536 in
theorem w_c0 : (Jvm.Cond.code x code maxLocals ret).before args0 about1 = true := code_word (m := ⟨1, 1⟩) (meth := k1m1) (c := k1c1) (by decide +kernel) rfl rfl rfl (by decide +kernel)
set_option maxRecDepth 65536 in
theorem w_c1 : (Jvm.Cond.code ({ cls := "com/example/firmeza/firmeza/settlement/Ranking", name := "beats", desc := "(JIJI)Z" } : Jvm.MethodName) prog_72_method_2_code (6 : Nat) (Option.some Jvm.ClassFile.FieldType.boolean)).before args0 about1 = true := code_word (m := ⟨2, 1⟩) (meth := k2m1) (c := k2c1) (by decide +kernel) rfl rfl rfl (by decide +kernel)
def codes1 : List Jvm.Cond := [Jvm.Cond.code x code maxLocals ret, Jvm.Cond.code ({ cls := "com/example/firmeza/firmeza/settlement/Ranking", name := "beats", desc := "(JIJI)Z" } : Jvm.MethodName) prog_72_method_2_code (6 : Nat) (Option.some Jvm.ClassFile.FieldType.boolean)]
set_option maxRecDepth 65536 in
theorem codes_eq : words1.filter isCode = codes1 := rfl
theorem w_codes : ∀ c ∈ words1.filter isCode, c.before args0 about1 = true := by
  rw [codes_eq]
  intro c hc
  simp only [codes1, List.mem_cons, List.not_mem_nil, or_false] at hc
  rcases hc with rfl | rfl
  · exact w_c0
  · exact w_c1
set_option maxRecDepth 65536 in
theorem w_t1 : words1.all (fun c => isCode c || c.before args0 about1) = true := by decide +kernel
theorem w_tables : (allAtoms (Jvm.Cond.code x code maxLocals ret :: tables_1)).before args0 about1 = true := by
  rw [allAtoms_all]
  show words1.all (fun c => c.before args0 about1) = true
  refine all_split ?_ w_codes
  rw [w_t1]
set_option maxRecDepth 65536 in
theorem w_case : (Jvm.Cond.and given_1 narrow_1).before args0 about1 = true := by decide +kernel
theorem w_applies : (headSpec (Jvm.Cond.code x code maxLocals ret :: tables_1) room_1).applies x e0.platform about1 = true :=
  (Spec.applies_iff w_frames).mpr ⟨w_running, w_runnable, w_alone, w_named, w_hears, w_ripe, w_room, w_tables⟩
theorem atStart : AtStart classFile x code maxLocals ret World_1 tables_1 room_1 Calls_1 rest_1 Pre_1 launch0 p0 e0 about1 theMethod args0 below0 :=
  ⟨lists_1, trivial, launch0.admits_env _ _ _, launch0.least_env, fairChoices_fair.cas, fairChoices_fair.clock, w_frames, w_args, w_heap, w_applies, trivial, trivial, w_case⟩
end start1
theorem witness_1 : WitnessClaimed_1 := ⟨start1.p0, start1.e0, start1.about1, start1.theMethod, start1.args0, start1.below0, start1.atStart⟩
end Jvm.Pilot.@@N@@
