import JvmDerived
import JvmDerived.Pilot.@@N@@Statement
import JvmDerived.Pilot.@@N@@Code
set_option linter.unusedVariables false
set_option linter.unusedSimpArgs false
namespace Jvm.RoadKit
open Sem ClassFile Op Lib Jvm.Stand Jvm.Free Jvm.LawKit
section New
variable {p : Program} {l : Launch} {e : Env} {R : Room} {s : State} {m : MethodId} {args : Array Value} {below : List Frame} {meth : Method} {c : Code} {T : State} {locs : List Loc} {cells slots : Nat}
theorem retI (X : Stand p l e R s m args below meth c T locs cells slots) (hx : p.tables.exec = Jvm.exec) {pc : Nat} {Ls : Array Slot} {z : Int32} {rest : List Value} (hret : meth.sig.returnType = some .int) (hd : decode c.code pc = .ok (.ireturn, 1)) {fs : List Frame}
    (hl : ∀ (f : JFrame) (acts : List Action), f.method = m → f.locked = none → f.entered = [] → (doReturn e (T.setTop f) acts (some (.int z))).1 = T.setFrames fs) : Steps p.tables e below (T.setTop (mkF m pc Ls (.int z :: rest))) (T.setFrames fs) := by
  have hm' : T.vm.method? m = some meth := X.method'
  have hn : narrow .int (.int z) = .int z := rfl
  show Steps p.tables e below (T.setTop { method := m, pc := pc, locals := Ls, stack := _ :: rest, locked := none }) _
  jvm_step X.here [X.here.top, hx, hd, hm', hret, hn]
  first | (intro acts; rw [hl _ acts rfl rfl rfl]) | rw [hl _ _ rfl rfl rfl]
  exact Steps.refl _
end New
end Jvm.RoadKit
namespace Jvm.Pilot.@@N@@
open Jvm Jvm.ClassFile Sem Op Lib Jvm.Free Jvm.Stand Jvm.LawKit Jvm.RoadKit Bundle Jvm.Pilot.@@N@@.Jvm.D
def own_Q (r : Option Value) (n0 : Nat) (h0 : Heap) (v : Option Value) (h : Heap) (L : List Loc) : Prop := v = r ∧ Fr n0 L ∧ h = h0
theorem d1_0 : decode prog_1_method_2_code 0 = .ok (.lload_n 2, 1) := by decide +kernel
theorem d1_1 : decode prog_1_method_2_code 1 = .ok (.lconst 0, 1) := by decide +kernel
theorem d1_2 : decode prog_1_method_2_code 2 = .ok (.lcmp, 1) := by decide +kernel
theorem d1_3 : decode prog_1_method_2_code 3 = .ok (.ifCond .gt 9, 3) := by decide +kernel
theorem d1_12 : decode prog_1_method_2_code 12 = .ok (.lload_n 0, 1) := by decide +kernel
theorem d1_13 : decode prog_1_method_2_code 13 = .ok (.ldc2_w 9, 3) := by decide +kernel
theorem d1_16 : decode prog_1_method_2_code 16 = .ok (.lload_n 2, 1) := by decide +kernel
theorem d1_17 : decode prog_1_method_2_code 17 = .ok (.lsub, 1) := by decide +kernel
theorem d1_18 : decode prog_1_method_2_code 18 = .ok (.lcmp, 1) := by decide +kernel
theorem d1_19 : decode prog_1_method_2_code 19 = .ok (.ifCond .le 11, 3) := by decide +kernel
theorem d1_22 : decode prog_1_method_2_code 22 = .ok (.ldc2_w 9, 3) := by decide +kernel
theorem d1_25 : decode prog_1_method_2_code 25 = .ok (.lstore 4, 2) := by decide +kernel
theorem d1_27 : decode prog_1_method_2_code 27 = .ok (.goto 8, 3) := by decide +kernel
theorem d1_35 : decode prog_1_method_2_code 35 = .ok (.lload 4, 2) := by decide +kernel
theorem d1_37 : decode prog_1_method_2_code 37 = .ok (.lreturn, 1) := by decide +kernel
theorem d1_30 : decode prog_1_method_2_code 30 = .ok (.lload_n 0, 1) := by decide +kernel
theorem d1_31 : decode prog_1_method_2_code 31 = .ok (.lload_n 2, 1) := by decide +kernel
theorem d1_32 : decode prog_1_method_2_code 32 = .ok (.ladd, 1) := by decide +kernel
theorem d1_33 : decode prog_1_method_2_code 33 = .ok (.lstore 4, 2) := by decide +kernel
theorem d1_6 : decode prog_1_method_2_code 6 = .ok (.lload_n 0, 1) := by decide +kernel
theorem d1_7 : decode prog_1_method_2_code 7 = .ok (.lstore 4, 2) := by decide +kernel
theorem d1_9 : decode prog_1_method_2_code 9 = .ok (.goto 26, 3) := by decide +kernel
def own_t1_F (n : Int64) (y : Int64) : Int64 := (if (0 : Int64) < y then (if ((9223372036854775807 : Int64) - y) < n then (9223372036854775807 : Int64) else (n + y)) else n)
set_option maxRecDepth 65536 in
set_option maxHeartbeats 40000000 in
theorem own_t1 {p : Program} {l : Launch} {e : Env} {R : Room} {s : State} {m : MethodId} {args : Array Value} {below : List Frame} {meth : Method} {c : Code} {T0 : State} {locs : List Loc} {cells slots : Nat} {Z : State} {a0 : Array Value} (X : Stand p l e R s m args below meth c T0 locs cells slots) (hx : p.tables.exec = Jvm.exec) (hZ : Z.Warmed39 s.vm) (hw : ∀ d ∈ tables_1, d.before a0 Z = true) (hby : c.code = prog_1_method_2_code) (hown : s.vm.findClass "com/example/blunt_clock/bluntclock/Deadlines" = some m.cls) (hret : meth.sig.returnType = some .long) (n : Int64) (y : Int64) {fs : List Frame}
    (hr : ∀ (f : JFrame) (acts : List Action), f.method = m → f.locked = none → f.entered = [] → (doReturn e (T0.setTop f) acts (some (.long (own_t1_F n y)))).1 = T0.setFrames fs) :
    Steps p.tables e below (T0.setTop (mkF m 0 #[.val (.long n), .second, .val (.long y), .second, .unset, .unset] [])) (T0.setFrames fs) := by
  show Steps p.tables e below (T0.setTop (mkF m 0 #[.val (.long n), .second, .val (.long y), .second, .unset, .unset] [])) _
  refine XS.lloadN X.here hx rfl (hb hby d1_0) rfl ?_
  show Steps p.tables e below (T0.setTop (mkF m 1 #[.val (.long n), .second, .val (.long y), .second, .unset, .unset] [(.long y)])) _
  refine XS.lconst X.here hx rfl (hb hby d1_1) ?_
  show Steps p.tables e below (T0.setTop (mkF m 2 #[.val (.long n), .second, .val (.long y), .second, .unset, .unset] [(.long (0 : Int64)), (.long y)])) _
  refine XS.lcmp X.here hx rfl (hb hby d1_2) rfl ?_
  show Steps p.tables e below (T0.setTop (mkF m 3 #[.val (.long n), .second, .val (.long y), .second, .unset, .unset] [(.int (lcmpW y (0 : Int64)))])) _
  by_cases hc3_1 : (0 : Int64) < y
  · refine XS.ifYes X.here hx rfl (pc0 := 3) (pc' := 12) rfl (hb hby d1_3) rfl ((if0 _ _).trans (tlt ((lw_gt y (0 : Int64)).mpr hc3_1)).2.2.1) (by decide) (by decide) ?_
    show Steps p.tables e below (T0.setTop (mkF m 12 #[.val (.long n), .second, .val (.long y), .second, .unset, .unset] [])) _
    refine XS.lloadN X.here hx rfl (hb hby d1_12) rfl ?_
    show Steps p.tables e below (T0.setTop (mkF m 13 #[.val (.long n), .second, .val (.long y), .second, .unset, .unset] [(.long n)])) _
    refine X.ldc2Long hx hown (mvT hZ (hw _ (List.mem_of_getElem? (i := 4) rfl))) (g := (mkF m 13 #[.val (.long n), .second, .val (.long y), .second, .unset, .unset] [(.long n)])) rfl (hb hby d1_13) _ ?_
    show Steps p.tables e below (T0.setTop (mkF m 16 #[.val (.long n), .second, .val (.long y), .second, .unset, .unset] [(.long (9223372036854775807 : Int64)), (.long n)])) _
    refine XS.lloadN X.here hx rfl (hb hby d1_16) rfl ?_
    show Steps p.tables e below (T0.setTop (mkF m 17 #[.val (.long n), .second, .val (.long y), .second, .unset, .unset] [(.long y), (.long (9223372036854775807 : Int64)), (.long n)])) _
    refine XS.lsub X.here hx rfl (hb hby d1_17) rfl ?_
    show Steps p.tables e below (T0.setTop (mkF m 18 #[.val (.long n), .second, .val (.long y), .second, .unset, .unset] [(.long ((9223372036854775807 : Int64) - y)), (.long n)])) _
    refine XS.lcmp X.here hx rfl (hb hby d1_18) rfl ?_
    show Steps p.tables e below (T0.setTop (mkF m 19 #[.val (.long n), .second, .val (.long y), .second, .unset, .unset] [(.int (lcmpW n ((9223372036854775807 : Int64) - y)))])) _
    by_cases hc19_2 : ((9223372036854775807 : Int64) - y) < n
    · refine XS.ifNo X.here hx rfl (hb hby d1_19) rfl ((if0 _ _).trans (tlt ((lw_gt n ((9223372036854775807 : Int64) - y)).mpr hc19_2)).2.2.2) ?_
      show Steps p.tables e below (T0.setTop (mkF m 22 #[.val (.long n), .second, .val (.long y), .second, .unset, .unset] [])) _
      refine X.ldc2Long hx hown (mvT hZ (hw _ (List.mem_of_getElem? (i := 4) rfl))) (g := (mkF m 22 #[.val (.long n), .second, .val (.long y), .second, .unset, .unset] [])) rfl (hb hby d1_22) _ ?_
      show Steps p.tables e below (T0.setTop (mkF m 25 #[.val (.long n), .second, .val (.long y), .second, .unset, .unset] [(.long (9223372036854775807 : Int64))])) _
      refine XS.lstore X.here hx rfl (hb hby d1_25) rfl (l' := #[.val (.long n), .second, .val (.long y), .second, .val (.long (9223372036854775807 : Int64)), .second]) rfl ?_
      show Steps p.tables e below (T0.setTop (mkF m 27 #[.val (.long n), .second, .val (.long y), .second, .val (.long (9223372036854775807 : Int64)), .second] [])) _
      refine XS.goto X.here hx rfl (pc0 := 27) (pc' := 35) rfl (hb hby d1_27) (by decide) (by decide) ?_
      show Steps p.tables e below (T0.setTop (mkF m 35 #[.val (.long n), .second, .val (.long y), .second, .val (.long (9223372036854775807 : Int64)), .second] [])) _
      refine XS.lload X.here hx rfl (hb hby d1_35) rfl ?_
      show Steps p.tables e below (T0.setTop (mkF m 37 #[.val (.long n), .second, .val (.long y), .second, .val (.long (9223372036854775807 : Int64)), .second] [(.long (9223372036854775807 : Int64))])) _
      have hF : own_t1_F n y = (9223372036854775807 : Int64) := by unfold own_t1_F; simp only [if_pos hc3_1, if_pos hc19_2]
      rw [hF] at hr
      exact X.lreturnOut hx hret (hb hby d1_37) hr
    · refine XS.ifYes X.here hx rfl (pc0 := 19) (pc' := 30) rfl (hb hby d1_19) rfl ((if0 _ _).trans (flt (fun z_ => hc19_2 ((lw_gt n ((9223372036854775807 : Int64) - y)).mp z_))).2.2.2) (by decide) (by decide) ?_
      show Steps p.tables e below (T0.setTop (mkF m 30 #[.val (.long n), .second, .val (.long y), .second, .unset, .unset] [])) _
      refine XS.lloadN X.here hx rfl (hb hby d1_30) rfl ?_
      show Steps p.tables e below (T0.setTop (mkF m 31 #[.val (.long n), .second, .val (.long y), .second, .unset, .unset] [(.long n)])) _
      refine XS.lloadN X.here hx rfl (hb hby d1_31) rfl ?_
      show Steps p.tables e below (T0.setTop (mkF m 32 #[.val (.long n), .second, .val (.long y), .second, .unset, .unset] [(.long y), (.long n)])) _
      refine XS.ladd X.here hx rfl (hb hby d1_32) rfl ?_
      show Steps p.tables e below (T0.setTop (mkF m 33 #[.val (.long n), .second, .val (.long y), .second, .unset, .unset] [(.long (n + y))])) _
      refine XS.lstore X.here hx rfl (hb hby d1_33) rfl (l' := #[.val (.long n), .second, .val (.long y), .second, .val (.long (n + y)), .second]) rfl ?_
      show Steps p.tables e below (T0.setTop (mkF m 35 #[.val (.long n), .second, .val (.long y), .second, .val (.long (n + y)), .second] [])) _
      refine XS.lload X.here hx rfl (hb hby d1_35) rfl ?_
      show Steps p.tables e below (T0.setTop (mkF m 37 #[.val (.long n), .second, .val (.long y), .second, .val (.long (n + y)), .second] [(.long (n + y))])) _
      have hF : own_t1_F n y = (n + y) := by unfold own_t1_F; simp only [if_pos hc3_1, if_neg hc19_2]
      rw [hF] at hr
      exact X.lreturnOut hx hret (hb hby d1_37) hr
  · refine XS.ifNo X.here hx rfl (hb hby d1_3) rfl ((if0 _ _).trans (flt (fun z_ => hc3_1 ((lw_gt y (0 : Int64)).mp z_))).2.2.1) ?_
    show Steps p.tables e below (T0.setTop (mkF m 6 #[.val (.long n), .second, .val (.long y), .second, .unset, .unset] [])) _
    refine XS.lloadN X.here hx rfl (hb hby d1_6) rfl ?_
    show Steps p.tables e below (T0.setTop (mkF m 7 #[.val (.long n), .second, .val (.long y), .second, .unset, .unset] [(.long n)])) _
    refine XS.lstore X.here hx rfl (hb hby d1_7) rfl (l' := #[.val (.long n), .second, .val (.long y), .second, .val (.long n), .second]) rfl ?_
    show Steps p.tables e below (T0.setTop (mkF m 9 #[.val (.long n), .second, .val (.long y), .second, .val (.long n), .second] [])) _
    refine XS.goto X.here hx rfl (pc0 := 9) (pc' := 35) rfl (hb hby d1_9) (by decide) (by decide) ?_
    show Steps p.tables e below (T0.setTop (mkF m 35 #[.val (.long n), .second, .val (.long y), .second, .val (.long n), .second] [])) _
    refine XS.lload X.here hx rfl (hb hby d1_35) rfl ?_
    show Steps p.tables e below (T0.setTop (mkF m 37 #[.val (.long n), .second, .val (.long y), .second, .val (.long n), .second] [(.long n)])) _
    have hF : own_t1_F n y = n := by unfold own_t1_F; simp only [if_neg hc3_1]
    rw [hF] at hr
    exact X.lreturnOut hx hret (hb hby d1_37) hr
theorem pn_1 : plainName "com/example/blunt_clock/bluntclock/Deadlines" = true := by first | (simp [plainName, overriddenIn]; done) | decide +kernel
theorem ef_1 (m : MethodId) (q1 : Int64) (q2 : Int64) : entryFrame m #[(.long q1), (.long q2)] 6 = mkF m 0 #[.val (.long q1), .second, .val (.long q2), .second, .unset, .unset] [] := by first | (simp [entryFrame, mkF, argsToLocals, Value.category]; done) | rfl
def own_rm1_F (q1 : Int64) (q2 : Int64) : Int64 := (own_t1_F q1 q2)
set_option maxRecDepth 65536 in
set_option maxHeartbeats 40000000 in
theorem own_rm1 (l : Launch) (Z : State) (a0 : Array Value) (hw : ∀ d ∈ tables_1, d.before a0 Z = true) (ws : List Jvm.Cond) (q1 : Int64) (q2 : Int64) (h0 : Heap) (n0 : Nat) (Z0 : n0 ≤ h0.size) :
    MetFree l (⟨"com/example/blunt_clock/bluntclock/Deadlines", "deadline", "(JJ)J"⟩ : MethodName) (head1 (Jvm.Cond.code (⟨"com/example/blunt_clock/bluntclock/Deadlines", "deadline", "(JJ)J"⟩ : MethodName) prog_1_method_2_code 6 (some .long) :: ws) ({ frames := 0, cells := 0, slots := 0, locals := 0 } : Room)) (fun a U => a = #[(.long q1), (.long q2)] ∧ Z.Warmed39 U.vm ∧ U.heap = h0) (fun _ _ _ _ _ => True) (fun _ U o U' => ∃ v L, o = .returned v ∧ (own_Q (some (.long (own_rm1_F q1 q2))) n0 h0 v U'.heap L) ∧ FrameEnd U o U' L ({ frames := 0, cells := 0, slots := 0, locals := 0 } : Room).cells ({ frames := 0, cells := 0, slots := 0, locals := 0 } : Room).slots) := by
  refine MetFree.of_bodySF (plainFor_of_name pn_1) hisR ?_
  intro p e s m args below meth c s₁ Bd hml0 hP hK
  obtain ⟨rfl, hZ, hh⟩ := hP
  have hx := Bd.exec
  have hby := Bd.bytes
  have hml : c.maxLocals = 6 := hml0
  have hown : s.vm.findClass "com/example/blunt_clock/bluntclock/Deadlines" = some m.cls := findClass_of_methodNamed Bd.named
  have X0 : Stand p l e ({ frames := 0, cells := 0, slots := 0, locals := 0 } : Room) s m #[(.long q1), (.long q2)] below meth c s₁ [] 0 0 := Stand.of_body Bd
  have e0 : s₁.heap = h0 := by rw [← hh, Bd.state]; rfl
  have N0 := Fr.nil n0
  have pre0 : ∀ t, Steps p.tables e below (s₁.setTop (mkF m 0 #[.val (.long q1), .second, .val (.long q2), .second, .unset, .unset] [])) t → Steps p.tables e below (s₁.setTop (entryFrame m #[(.long q1), (.long q2)] 6)) t := fun t k => castTop (ef_1 m q1 q2) k
  obtain ⟨fs, hr, hrun, hended, hW, hsame⟩ := X0.leave (v := some (.long (own_t1_F q1 q2))) (fun h => by rw [Bd.returns] at h; cases h)
  refine ⟨_, _, pre0 _ ?_, hrun, hended, _, _, rfl, ?_, ⟨_, rfl⟩, hW, hsame.mono (by decide) (by decide)⟩
  · exact own_t1 X0 hx hZ hw hby hown Bd.returns q1 q2 hr
  · exact ⟨rfl, N0, e0⟩
theorem d2_0 : decode method_2_code 0 = .ok (.lload_n 2, 1) := by decide +kernel
theorem d2_1 : decode method_2_code 1 = .ok (.lconst 0, 1) := by decide +kernel
theorem d2_2 : decode method_2_code 2 = .ok (.lcmp, 1) := by decide +kernel
theorem d2_3 : decode method_2_code 3 = .ok (.ifCond .gt 5, 3) := by decide +kernel
theorem d2_8 : decode method_2_code 8 = .ok (.lload_n 0, 1) := by decide +kernel
theorem d2_9 : decode method_2_code 9 = .ok (.lload_n 2, 1) := by decide +kernel
theorem d2_10 : decode method_2_code 10 = .ok (.ladd, 1) := by decide +kernel
theorem d2_11 : decode method_2_code 11 = .ok (.lstore 4, 2) := by decide +kernel
theorem d2_13 : decode method_2_code 13 = .ok (.lload 4, 2) := by decide +kernel
theorem d2_15 : decode method_2_code 15 = .ok (.lload_n 0, 1) := by decide +kernel
theorem d2_16 : decode method_2_code 16 = .ok (.lcmp, 1) := by decide +kernel
theorem d2_17 : decode method_2_code 17 = .ok (.ifCond .ge 7, 3) := by decide +kernel
theorem d2_20 : decode method_2_code 20 = .ok (.ldc2_w 9, 3) := by decide +kernel
theorem d2_23 : decode method_2_code 23 = .ok (.lreturn, 1) := by decide +kernel
theorem d2_24 : decode method_2_code 24 = .ok (.lload 4, 2) := by decide +kernel
theorem d2_26 : decode method_2_code 26 = .ok (.lreturn, 1) := by decide +kernel
theorem d2_6 : decode method_2_code 6 = .ok (.lload_n 0, 1) := by decide +kernel
theorem d2_7 : decode method_2_code 7 = .ok (.lreturn, 1) := by decide +kernel
def own_t2_F (n : Int64) (y : Int64) : Int64 := (if (0 : Int64) < y then (if (n + y) < n then (9223372036854775807 : Int64) else (n + y)) else n)
set_option maxRecDepth 65536 in
set_option maxHeartbeats 40000000 in
theorem own_t2 {p : Program} {l : Launch} {e : Env} {R : Room} {s : State} {m : MethodId} {args : Array Value} {below : List Frame} {meth : Method} {c : Code} {T0 : State} {locs : List Loc} {cells slots : Nat} {Z : State} {a0 : Array Value} (X : Stand p l e R s m args below meth c T0 locs cells slots) (hx : p.tables.exec = Jvm.exec) (hZ : Z.Warmed39 s.vm) (hw : ∀ d ∈ tables_1, d.before a0 Z = true) (hby : c.code = method_2_code) (hown : s.vm.findClass "com/example/blunt_clock/bluntclock/DeadlinesDeadlinePinLaw" = some m.cls) (hret : meth.sig.returnType = some .long) (n : Int64) (y : Int64) {fs : List Frame}
    (hr : ∀ (f : JFrame) (acts : List Action), f.method = m → f.locked = none → f.entered = [] → (doReturn e (T0.setTop f) acts (some (.long (own_t2_F n y)))).1 = T0.setFrames fs) :
    Steps p.tables e below (T0.setTop (mkF m 0 #[.val (.long n), .second, .val (.long y), .second, .unset, .unset] [])) (T0.setFrames fs) := by
  show Steps p.tables e below (T0.setTop (mkF m 0 #[.val (.long n), .second, .val (.long y), .second, .unset, .unset] [])) _
  refine XS.lloadN X.here hx rfl (hb hby d2_0) rfl ?_
  show Steps p.tables e below (T0.setTop (mkF m 1 #[.val (.long n), .second, .val (.long y), .second, .unset, .unset] [(.long y)])) _
  refine XS.lconst X.here hx rfl (hb hby d2_1) ?_
  show Steps p.tables e below (T0.setTop (mkF m 2 #[.val (.long n), .second, .val (.long y), .second, .unset, .unset] [(.long (0 : Int64)), (.long y)])) _
  refine XS.lcmp X.here hx rfl (hb hby d2_2) rfl ?_
  show Steps p.tables e below (T0.setTop (mkF m 3 #[.val (.long n), .second, .val (.long y), .second, .unset, .unset] [(.int (lcmpW y (0 : Int64)))])) _
  by_cases hc3_1 : (0 : Int64) < y
  · refine XS.ifYes X.here hx rfl (pc0 := 3) (pc' := 8) rfl (hb hby d2_3) rfl ((if0 _ _).trans (tlt ((lw_gt y (0 : Int64)).mpr hc3_1)).2.2.1) (by decide) (by decide) ?_
    show Steps p.tables e below (T0.setTop (mkF m 8 #[.val (.long n), .second, .val (.long y), .second, .unset, .unset] [])) _
    refine XS.lloadN X.here hx rfl (hb hby d2_8) rfl ?_
    show Steps p.tables e below (T0.setTop (mkF m 9 #[.val (.long n), .second, .val (.long y), .second, .unset, .unset] [(.long n)])) _
    refine XS.lloadN X.here hx rfl (hb hby d2_9) rfl ?_
    show Steps p.tables e below (T0.setTop (mkF m 10 #[.val (.long n), .second, .val (.long y), .second, .unset, .unset] [(.long y), (.long n)])) _
    refine XS.ladd X.here hx rfl (hb hby d2_10) rfl ?_
    show Steps p.tables e below (T0.setTop (mkF m 11 #[.val (.long n), .second, .val (.long y), .second, .unset, .unset] [(.long (n + y))])) _
    refine XS.lstore X.here hx rfl (hb hby d2_11) rfl (l' := #[.val (.long n), .second, .val (.long y), .second, .val (.long (n + y)), .second]) rfl ?_
    show Steps p.tables e below (T0.setTop (mkF m 13 #[.val (.long n), .second, .val (.long y), .second, .val (.long (n + y)), .second] [])) _
    refine XS.lload X.here hx rfl (hb hby d2_13) rfl ?_
    show Steps p.tables e below (T0.setTop (mkF m 15 #[.val (.long n), .second, .val (.long y), .second, .val (.long (n + y)), .second] [(.long (n + y))])) _
    refine XS.lloadN X.here hx rfl (hb hby d2_15) rfl ?_
    show Steps p.tables e below (T0.setTop (mkF m 16 #[.val (.long n), .second, .val (.long y), .second, .val (.long (n + y)), .second] [(.long n), (.long (n + y))])) _
    refine XS.lcmp X.here hx rfl (hb hby d2_16) rfl ?_
    show Steps p.tables e below (T0.setTop (mkF m 17 #[.val (.long n), .second, .val (.long y), .second, .val (.long (n + y)), .second] [(.int (lcmpW (n + y) n))])) _
    by_cases hc17_2 : (n + y) < n
    · refine XS.ifNo X.here hx rfl (hb hby d2_17) rfl ((if0 _ _).trans (tlt ((lw_lt (n + y) n).mpr hc17_2)).2.1) ?_
      show Steps p.tables e below (T0.setTop (mkF m 20 #[.val (.long n), .second, .val (.long y), .second, .val (.long (n + y)), .second] [])) _
      refine X.ldc2Long hx hown (mvT hZ (hw _ (List.mem_of_getElem? (i := 9) rfl))) (g := (mkF m 20 #[.val (.long n), .second, .val (.long y), .second, .val (.long (n + y)), .second] [])) rfl (hb hby d2_20) _ ?_
      show Steps p.tables e below (T0.setTop (mkF m 23 #[.val (.long n), .second, .val (.long y), .second, .val (.long (n + y)), .second] [(.long (9223372036854775807 : Int64))])) _
      have hF : own_t2_F n y = (9223372036854775807 : Int64) := by unfold own_t2_F; simp only [if_pos hc3_1, if_pos hc17_2]
      rw [hF] at hr
      exact X.lreturnOut hx hret (hb hby d2_23) hr
    · refine XS.ifYes X.here hx rfl (pc0 := 17) (pc' := 24) rfl (hb hby d2_17) rfl ((if0 _ _).trans (flt (fun z_ => hc17_2 ((lw_lt (n + y) n).mp z_))).2.1) (by decide) (by decide) ?_
      show Steps p.tables e below (T0.setTop (mkF m 24 #[.val (.long n), .second, .val (.long y), .second, .val (.long (n + y)), .second] [])) _
      refine XS.lload X.here hx rfl (hb hby d2_24) rfl ?_
      show Steps p.tables e below (T0.setTop (mkF m 26 #[.val (.long n), .second, .val (.long y), .second, .val (.long (n + y)), .second] [(.long (n + y))])) _
      have hF : own_t2_F n y = (n + y) := by unfold own_t2_F; simp only [if_pos hc3_1, if_neg hc17_2]
      rw [hF] at hr
      exact X.lreturnOut hx hret (hb hby d2_26) hr
  · refine XS.ifNo X.here hx rfl (hb hby d2_3) rfl ((if0 _ _).trans (flt (fun z_ => hc3_1 ((lw_gt y (0 : Int64)).mp z_))).2.2.1) ?_
    show Steps p.tables e below (T0.setTop (mkF m 6 #[.val (.long n), .second, .val (.long y), .second, .unset, .unset] [])) _
    refine XS.lloadN X.here hx rfl (hb hby d2_6) rfl ?_
    show Steps p.tables e below (T0.setTop (mkF m 7 #[.val (.long n), .second, .val (.long y), .second, .unset, .unset] [(.long n)])) _
    have hF : own_t2_F n y = n := by unfold own_t2_F; simp only [if_neg hc3_1]
    rw [hF] at hr
    exact X.lreturnOut hx hret (hb hby d2_7) hr
theorem pn_2 : plainName "com/example/blunt_clock/bluntclock/DeadlinesDeadlinePinLaw" = true := by first | (simp [plainName, overriddenIn]; done) | decide +kernel
theorem ef_2 (m : MethodId) (q1 : Int64) (q2 : Int64) : entryFrame m #[(.long q1), (.long q2)] 6 = mkF m 0 #[.val (.long q1), .second, .val (.long q2), .second, .unset, .unset] [] := by first | (simp [entryFrame, mkF, argsToLocals, Value.category]; done) | rfl
def own_rm2_F (q1 : Int64) (q2 : Int64) : Int64 := (own_t2_F q1 q2)
set_option maxRecDepth 65536 in
set_option maxHeartbeats 40000000 in
theorem own_rm2 (l : Launch) (Z : State) (a0 : Array Value) (hw : ∀ d ∈ tables_1, d.before a0 Z = true) (ws : List Jvm.Cond) (q1 : Int64) (q2 : Int64) (h0 : Heap) (n0 : Nat) (Z0 : n0 ≤ h0.size) :
    MetFree l (⟨"com/example/blunt_clock/bluntclock/DeadlinesDeadlinePinLaw", "expected", "(JJ)J"⟩ : MethodName) (head1 (Jvm.Cond.code (⟨"com/example/blunt_clock/bluntclock/DeadlinesDeadlinePinLaw", "expected", "(JJ)J"⟩ : MethodName) method_2_code 6 (some .long) :: ws) ({ frames := 0, cells := 0, slots := 0, locals := 0 } : Room)) (fun a U => a = #[(.long q1), (.long q2)] ∧ Z.Warmed39 U.vm ∧ U.heap = h0) (fun _ _ _ _ _ => True) (fun _ U o U' => ∃ v L, o = .returned v ∧ (own_Q (some (.long (own_rm2_F q1 q2))) n0 h0 v U'.heap L) ∧ FrameEnd U o U' L ({ frames := 0, cells := 0, slots := 0, locals := 0 } : Room).cells ({ frames := 0, cells := 0, slots := 0, locals := 0 } : Room).slots) := by
  refine MetFree.of_bodySF (plainFor_of_name pn_2) hisR ?_
  intro p e s m args below meth c s₁ Bd hml0 hP hK
  obtain ⟨rfl, hZ, hh⟩ := hP
  have hx := Bd.exec
  have hby := Bd.bytes
  have hml : c.maxLocals = 6 := hml0
  have hown : s.vm.findClass "com/example/blunt_clock/bluntclock/DeadlinesDeadlinePinLaw" = some m.cls := findClass_of_methodNamed Bd.named
  have X0 : Stand p l e ({ frames := 0, cells := 0, slots := 0, locals := 0 } : Room) s m #[(.long q1), (.long q2)] below meth c s₁ [] 0 0 := Stand.of_body Bd
  have e0 : s₁.heap = h0 := by rw [← hh, Bd.state]; rfl
  have N0 := Fr.nil n0
  have pre0 : ∀ t, Steps p.tables e below (s₁.setTop (mkF m 0 #[.val (.long q1), .second, .val (.long q2), .second, .unset, .unset] [])) t → Steps p.tables e below (s₁.setTop (entryFrame m #[(.long q1), (.long q2)] 6)) t := fun t k => castTop (ef_2 m q1 q2) k
  obtain ⟨fs, hr, hrun, hended, hW, hsame⟩ := X0.leave (v := some (.long (own_t2_F q1 q2))) (fun h => by rw [Bd.returns] at h; cases h)
  refine ⟨_, _, pre0 _ ?_, hrun, hended, _, _, rfl, ?_, ⟨_, rfl⟩, hW, hsame.mono (by decide) (by decide)⟩
  · exact own_t2 X0 hx hZ hw hby hown Bd.returns q1 q2 hr
  · exact ⟨rfl, N0, e0⟩
def own_to_F8 (a : Int64) (b : Int64) (k : Int32) : Int64 := (if (k &&& (3 : Int32)) = (1 : Int32) then (((9223372036854775807 : Int64) - b) + ((((k >>> ((2 : Int32) &&& 31)) &&& (3 : Int32)).toInt64) - (1 : Int64))) else (if (k &&& (3 : Int32)) = (2 : Int32) then a else (if (k &&& (3 : Int32)) = (3 : Int32) then a else a)))
def own_to_F10 (a : Int64) (b : Int64) (k : Int32) : Int64 := (if (k &&& (3 : Int32)) = (1 : Int32) then b else (if (k &&& (3 : Int32)) = (2 : Int32) then ((((k >>> ((2 : Int32) &&& 31)) &&& (3 : Int32)).toInt64) - (1 : Int64)) else (if (k &&& (3 : Int32)) = (3 : Int32) then (((9223372036854775807 : Int64) - a) + ((((k >>> ((2 : Int32) &&& 31)) &&& (3 : Int32)).toInt64) - (1 : Int64))) else b)))
set_option maxRecDepth 65536 in
set_option maxHeartbeats 40000000 in
theorem own_to {p : Program} {l : Launch} {e : Env} {R : Room} {s : State} {m : MethodId} {args : Array Value} {below : List Frame} {meth : Method} {c : Code} {T0 : State} {locs : List Loc} {cells slots : Nat} {Z : State} {a0 : Array Value} (X : Stand p l e R s m args below meth c T0 locs cells slots) (hx : p.tables.exec = Jvm.exec) (hZ : Z.Warmed39 s.vm) (hw : ∀ d ∈ tables_1, d.before a0 Z = true) (hby : c.code = code) (hown : s.vm.findClass "com/example/blunt_clock/bluntclock/DeadlinesDeadlinePinLaw" = some m.cls) (a : Int64) (b : Int64) (k : Int32)
    (t : State) (kt : Steps p.tables e below (T0.setTop (mkF m 83 #[.val (.long a), .second, .val (.long b), .second, .val (.int k), .val (.int (k &&& (3 : Int32))), .val (.long ((((k >>> ((2 : Int32) &&& 31)) &&& (3 : Int32)).toInt64) - (1 : Int64))), .second, .val (.long (own_to_F8 a b k)), .second, .val (.long (own_to_F10 a b k)), .second, .unset, .unset] [])) t) : Steps p.tables e below (T0.setTop (mkF m 0 #[.val (.long a), .second, .val (.long b), .second, .val (.int k), .unset, .unset, .unset, .unset, .unset, .unset, .unset, .unset, .unset] [])) t := by
  show Steps p.tables e below (T0.setTop (mkF m 0 #[.val (.long a), .second, .val (.long b), .second, .val (.int k), .unset, .unset, .unset, .unset, .unset, .unset, .unset, .unset, .unset] [])) _
  refine XS.iload X.here hx rfl (hb hby at_0) rfl ?_
  show Steps p.tables e below (T0.setTop (mkF m 2 #[.val (.long a), .second, .val (.long b), .second, .val (.int k), .unset, .unset, .unset, .unset, .unset, .unset, .unset, .unset, .unset] [(.int k)])) _
  refine XS.iconst X.here hx rfl (hb hby at_2) ?_
  show Steps p.tables e below (T0.setTop (mkF m 3 #[.val (.long a), .second, .val (.long b), .second, .val (.int k), .unset, .unset, .unset, .unset, .unset, .unset, .unset, .unset, .unset] [(.int (3 : Int32)), (.int k)])) _
  refine XS.iand X.here hx rfl (hb hby at_3) rfl ?_
  show Steps p.tables e below (T0.setTop (mkF m 4 #[.val (.long a), .second, .val (.long b), .second, .val (.int k), .unset, .unset, .unset, .unset, .unset, .unset, .unset, .unset, .unset] [(.int (k &&& (3 : Int32)))])) _
  refine XS.istore X.here hx rfl (hb hby at_4) rfl (l' := #[.val (.long a), .second, .val (.long b), .second, .val (.int k), .val (.int (k &&& (3 : Int32))), .unset, .unset, .unset, .unset, .unset, .unset, .unset, .unset]) rfl ?_
  show Steps p.tables e below (T0.setTop (mkF m 6 #[.val (.long a), .second, .val (.long b), .second, .val (.int k), .val (.int (k &&& (3 : Int32))), .unset, .unset, .unset, .unset, .unset, .unset, .unset, .unset] [])) _
  refine XS.iload X.here hx rfl (hb hby at_6) rfl ?_
  show Steps p.tables e below (T0.setTop (mkF m 8 #[.val (.long a), .second, .val (.long b), .second, .val (.int k), .val (.int (k &&& (3 : Int32))), .unset, .unset, .unset, .unset, .unset, .unset, .unset, .unset] [(.int k)])) _
  refine XS.iconst X.here hx rfl (hb hby at_8) ?_
  show Steps p.tables e below (T0.setTop (mkF m 9 #[.val (.long a), .second, .val (.long b), .second, .val (.int k), .val (.int (k &&& (3 : Int32))), .unset, .unset, .unset, .unset, .unset, .unset, .unset, .unset] [(.int (2 : Int32)), (.int k)])) _
  refine XS.ishr X.here hx rfl (hb hby at_9) rfl ?_
  show Steps p.tables e below (T0.setTop (mkF m 10 #[.val (.long a), .second, .val (.long b), .second, .val (.int k), .val (.int (k &&& (3 : Int32))), .unset, .unset, .unset, .unset, .unset, .unset, .unset, .unset] [(.int (k >>> ((2 : Int32) &&& 31)))])) _
  refine XS.iconst X.here hx rfl (hb hby at_10) ?_
  show Steps p.tables e below (T0.setTop (mkF m 11 #[.val (.long a), .second, .val (.long b), .second, .val (.int k), .val (.int (k &&& (3 : Int32))), .unset, .unset, .unset, .unset, .unset, .unset, .unset, .unset] [(.int (3 : Int32)), (.int (k >>> ((2 : Int32) &&& 31)))])) _
  refine XS.iand X.here hx rfl (hb hby at_11) rfl ?_
  show Steps p.tables e below (T0.setTop (mkF m 12 #[.val (.long a), .second, .val (.long b), .second, .val (.int k), .val (.int (k &&& (3 : Int32))), .unset, .unset, .unset, .unset, .unset, .unset, .unset, .unset] [(.int ((k >>> ((2 : Int32) &&& 31)) &&& (3 : Int32)))])) _
  refine XS.i2l X.here hx rfl (hb hby at_12) rfl ?_
  show Steps p.tables e below (T0.setTop (mkF m 13 #[.val (.long a), .second, .val (.long b), .second, .val (.int k), .val (.int (k &&& (3 : Int32))), .unset, .unset, .unset, .unset, .unset, .unset, .unset, .unset] [(.long (((k >>> ((2 : Int32) &&& 31)) &&& (3 : Int32)).toInt64))])) _
  refine XS.lconst X.here hx rfl (hb hby at_13) ?_
  show Steps p.tables e below (T0.setTop (mkF m 14 #[.val (.long a), .second, .val (.long b), .second, .val (.int k), .val (.int (k &&& (3 : Int32))), .unset, .unset, .unset, .unset, .unset, .unset, .unset, .unset] [(.long (1 : Int64)), (.long (((k >>> ((2 : Int32) &&& 31)) &&& (3 : Int32)).toInt64))])) _
  refine XS.lsub X.here hx rfl (hb hby at_14) rfl ?_
  show Steps p.tables e below (T0.setTop (mkF m 15 #[.val (.long a), .second, .val (.long b), .second, .val (.int k), .val (.int (k &&& (3 : Int32))), .unset, .unset, .unset, .unset, .unset, .unset, .unset, .unset] [(.long ((((k >>> ((2 : Int32) &&& 31)) &&& (3 : Int32)).toInt64) - (1 : Int64)))])) _
  refine XS.lstore X.here hx rfl (hb hby at_15) rfl (l' := #[.val (.long a), .second, .val (.long b), .second, .val (.int k), .val (.int (k &&& (3 : Int32))), .val (.long ((((k >>> ((2 : Int32) &&& 31)) &&& (3 : Int32)).toInt64) - (1 : Int64))), .second, .unset, .unset, .unset, .unset, .unset, .unset]) rfl ?_
  show Steps p.tables e below (T0.setTop (mkF m 17 #[.val (.long a), .second, .val (.long b), .second, .val (.int k), .val (.int (k &&& (3 : Int32))), .val (.long ((((k >>> ((2 : Int32) &&& 31)) &&& (3 : Int32)).toInt64) - (1 : Int64))), .second, .unset, .unset, .unset, .unset, .unset, .unset] [])) _
  refine XS.iload X.here hx rfl (hb hby at_17) rfl ?_
  show Steps p.tables e below (T0.setTop (mkF m 19 #[.val (.long a), .second, .val (.long b), .second, .val (.int k), .val (.int (k &&& (3 : Int32))), .val (.long ((((k >>> ((2 : Int32) &&& 31)) &&& (3 : Int32)).toInt64) - (1 : Int64))), .second, .unset, .unset, .unset, .unset, .unset, .unset] [(.int (k &&& (3 : Int32)))])) _
  refine XS.iconst X.here hx rfl (hb hby at_19) ?_
  show Steps p.tables e below (T0.setTop (mkF m 20 #[.val (.long a), .second, .val (.long b), .second, .val (.int k), .val (.int (k &&& (3 : Int32))), .val (.long ((((k >>> ((2 : Int32) &&& 31)) &&& (3 : Int32)).toInt64) - (1 : Int64))), .second, .unset, .unset, .unset, .unset, .unset, .unset] [(.int (1 : Int32)), (.int (k &&& (3 : Int32)))])) _
  by_cases hc20_1 : (k &&& (3 : Int32)) = (1 : Int32)
  · refine XS.icmpNo X.here hx rfl (hb hby at_20) rfl (teq hc20_1).2 ?_
    show Steps p.tables e below (T0.setTop (mkF m 23 #[.val (.long a), .second, .val (.long b), .second, .val (.int k), .val (.int (k &&& (3 : Int32))), .val (.long ((((k >>> ((2 : Int32) &&& 31)) &&& (3 : Int32)).toInt64) - (1 : Int64))), .second, .unset, .unset, .unset, .unset, .unset, .unset] [])) _
    refine XS.lloadN X.here hx rfl (hb hby at_23) rfl ?_
    show Steps p.tables e below (T0.setTop (mkF m 24 #[.val (.long a), .second, .val (.long b), .second, .val (.int k), .val (.int (k &&& (3 : Int32))), .val (.long ((((k >>> ((2 : Int32) &&& 31)) &&& (3 : Int32)).toInt64) - (1 : Int64))), .second, .unset, .unset, .unset, .unset, .unset, .unset] [(.long b)])) _
    refine XS.lstore X.here hx rfl (hb hby at_24) rfl (l' := #[.val (.long a), .second, .val (.long b), .second, .val (.int k), .val (.int (k &&& (3 : Int32))), .val (.long ((((k >>> ((2 : Int32) &&& 31)) &&& (3 : Int32)).toInt64) - (1 : Int64))), .second, .unset, .unset, .val (.long b), .second, .unset, .unset]) rfl ?_
    show Steps p.tables e below (T0.setTop (mkF m 26 #[.val (.long a), .second, .val (.long b), .second, .val (.int k), .val (.int (k &&& (3 : Int32))), .val (.long ((((k >>> ((2 : Int32) &&& 31)) &&& (3 : Int32)).toInt64) - (1 : Int64))), .second, .unset, .unset, .val (.long b), .second, .unset, .unset] [])) _
    refine X.ldc2Long hx hown (mvT hZ (hw _ (List.mem_of_getElem? (i := 9) rfl))) (g := (mkF m 26 #[.val (.long a), .second, .val (.long b), .second, .val (.int k), .val (.int (k &&& (3 : Int32))), .val (.long ((((k >>> ((2 : Int32) &&& 31)) &&& (3 : Int32)).toInt64) - (1 : Int64))), .second, .unset, .unset, .val (.long b), .second, .unset, .unset] [])) rfl (hb hby at_26) _ ?_
    show Steps p.tables e below (T0.setTop (mkF m 29 #[.val (.long a), .second, .val (.long b), .second, .val (.int k), .val (.int (k &&& (3 : Int32))), .val (.long ((((k >>> ((2 : Int32) &&& 31)) &&& (3 : Int32)).toInt64) - (1 : Int64))), .second, .unset, .unset, .val (.long b), .second, .unset, .unset] [(.long (9223372036854775807 : Int64))])) _
    refine XS.lloadN X.here hx rfl (hb hby at_29) rfl ?_
    show Steps p.tables e below (T0.setTop (mkF m 30 #[.val (.long a), .second, .val (.long b), .second, .val (.int k), .val (.int (k &&& (3 : Int32))), .val (.long ((((k >>> ((2 : Int32) &&& 31)) &&& (3 : Int32)).toInt64) - (1 : Int64))), .second, .unset, .unset, .val (.long b), .second, .unset, .unset] [(.long b), (.long (9223372036854775807 : Int64))])) _
    refine XS.lsub X.here hx rfl (hb hby at_30) rfl ?_
    show Steps p.tables e below (T0.setTop (mkF m 31 #[.val (.long a), .second, .val (.long b), .second, .val (.int k), .val (.int (k &&& (3 : Int32))), .val (.long ((((k >>> ((2 : Int32) &&& 31)) &&& (3 : Int32)).toInt64) - (1 : Int64))), .second, .unset, .unset, .val (.long b), .second, .unset, .unset] [(.long ((9223372036854775807 : Int64) - b))])) _
    refine XS.lload X.here hx rfl (hb hby at_31) rfl ?_
    show Steps p.tables e below (T0.setTop (mkF m 33 #[.val (.long a), .second, .val (.long b), .second, .val (.int k), .val (.int (k &&& (3 : Int32))), .val (.long ((((k >>> ((2 : Int32) &&& 31)) &&& (3 : Int32)).toInt64) - (1 : Int64))), .second, .unset, .unset, .val (.long b), .second, .unset, .unset] [(.long ((((k >>> ((2 : Int32) &&& 31)) &&& (3 : Int32)).toInt64) - (1 : Int64))), (.long ((9223372036854775807 : Int64) - b))])) _
    refine XS.ladd X.here hx rfl (hb hby at_33) rfl ?_
    show Steps p.tables e below (T0.setTop (mkF m 34 #[.val (.long a), .second, .val (.long b), .second, .val (.int k), .val (.int (k &&& (3 : Int32))), .val (.long ((((k >>> ((2 : Int32) &&& 31)) &&& (3 : Int32)).toInt64) - (1 : Int64))), .second, .unset, .unset, .val (.long b), .second, .unset, .unset] [(.long (((9223372036854775807 : Int64) - b) + ((((k >>> ((2 : Int32) &&& 31)) &&& (3 : Int32)).toInt64) - (1 : Int64))))])) _
    refine XS.lstore X.here hx rfl (hb hby at_34) rfl (l' := #[.val (.long a), .second, .val (.long b), .second, .val (.int k), .val (.int (k &&& (3 : Int32))), .val (.long ((((k >>> ((2 : Int32) &&& 31)) &&& (3 : Int32)).toInt64) - (1 : Int64))), .second, .val (.long (((9223372036854775807 : Int64) - b) + ((((k >>> ((2 : Int32) &&& 31)) &&& (3 : Int32)).toInt64) - (1 : Int64)))), .second, .val (.long b), .second, .unset, .unset]) rfl ?_
    show Steps p.tables e below (T0.setTop (mkF m 36 #[.val (.long a), .second, .val (.long b), .second, .val (.int k), .val (.int (k &&& (3 : Int32))), .val (.long ((((k >>> ((2 : Int32) &&& 31)) &&& (3 : Int32)).toInt64) - (1 : Int64))), .second, .val (.long (((9223372036854775807 : Int64) - b) + ((((k >>> ((2 : Int32) &&& 31)) &&& (3 : Int32)).toInt64) - (1 : Int64)))), .second, .val (.long b), .second, .unset, .unset] [])) _
    refine XS.goto X.here hx rfl (pc0 := 36) (pc' := 83) rfl (hb hby at_36) (by decide) (by decide) ?_
    have hF8 : own_to_F8 a b k = (((9223372036854775807 : Int64) - b) + ((((k >>> ((2 : Int32) &&& 31)) &&& (3 : Int32)).toInt64) - (1 : Int64))) := by unfold own_to_F8; simp only [if_pos hc20_1]
    have hF10 : own_to_F10 a b k = b := by unfold own_to_F10; simp only [if_pos hc20_1]
    rw [hF8, hF10] at kt
    exact kt
  · refine XS.icmpYes X.here hx rfl (pc0 := 20) (pc' := 39) rfl (hb hby at_20) rfl (feq hc20_1).2 (by decide) (by decide) ?_
    show Steps p.tables e below (T0.setTop (mkF m 39 #[.val (.long a), .second, .val (.long b), .second, .val (.int k), .val (.int (k &&& (3 : Int32))), .val (.long ((((k >>> ((2 : Int32) &&& 31)) &&& (3 : Int32)).toInt64) - (1 : Int64))), .second, .unset, .unset, .unset, .unset, .unset, .unset] [])) _
    refine XS.iload X.here hx rfl (hb hby at_39) rfl ?_
    show Steps p.tables e below (T0.setTop (mkF m 41 #[.val (.long a), .second, .val (.long b), .second, .val (.int k), .val (.int (k &&& (3 : Int32))), .val (.long ((((k >>> ((2 : Int32) &&& 31)) &&& (3 : Int32)).toInt64) - (1 : Int64))), .second, .unset, .unset, .unset, .unset, .unset, .unset] [(.int (k &&& (3 : Int32)))])) _
    refine XS.iconst X.here hx rfl (hb hby at_41) ?_
    show Steps p.tables e below (T0.setTop (mkF m 42 #[.val (.long a), .second, .val (.long b), .second, .val (.int k), .val (.int (k &&& (3 : Int32))), .val (.long ((((k >>> ((2 : Int32) &&& 31)) &&& (3 : Int32)).toInt64) - (1 : Int64))), .second, .unset, .unset, .unset, .unset, .unset, .unset] [(.int (2 : Int32)), (.int (k &&& (3 : Int32)))])) _
    by_cases hc42_2 : (k &&& (3 : Int32)) = (2 : Int32)
    · refine XS.icmpNo X.here hx rfl (hb hby at_42) rfl (teq hc42_2).2 ?_
      show Steps p.tables e below (T0.setTop (mkF m 45 #[.val (.long a), .second, .val (.long b), .second, .val (.int k), .val (.int (k &&& (3 : Int32))), .val (.long ((((k >>> ((2 : Int32) &&& 31)) &&& (3 : Int32)).toInt64) - (1 : Int64))), .second, .unset, .unset, .unset, .unset, .unset, .unset] [])) _
      refine XS.lloadN X.here hx rfl (hb hby at_45) rfl ?_
      show Steps p.tables e below (T0.setTop (mkF m 46 #[.val (.long a), .second, .val (.long b), .second, .val (.int k), .val (.int (k &&& (3 : Int32))), .val (.long ((((k >>> ((2 : Int32) &&& 31)) &&& (3 : Int32)).toInt64) - (1 : Int64))), .second, .unset, .unset, .unset, .unset, .unset, .unset] [(.long a)])) _
      refine XS.lstore X.here hx rfl (hb hby at_46) rfl (l' := #[.val (.long a), .second, .val (.long b), .second, .val (.int k), .val (.int (k &&& (3 : Int32))), .val (.long ((((k >>> ((2 : Int32) &&& 31)) &&& (3 : Int32)).toInt64) - (1 : Int64))), .second, .val (.long a), .second, .unset, .unset, .unset, .unset]) rfl ?_
      show Steps p.tables e below (T0.setTop (mkF m 48 #[.val (.long a), .second, .val (.long b), .second, .val (.int k), .val (.int (k &&& (3 : Int32))), .val (.long ((((k >>> ((2 : Int32) &&& 31)) &&& (3 : Int32)).toInt64) - (1 : Int64))), .second, .val (.long a), .second, .unset, .unset, .unset, .unset] [])) _
      refine XS.lload X.here hx rfl (hb hby at_48) rfl ?_
      show Steps p.tables e below (T0.setTop (mkF m 50 #[.val (.long a), .second, .val (.long b), .second, .val (.int k), .val (.int (k &&& (3 : Int32))), .val (.long ((((k >>> ((2 : Int32) &&& 31)) &&& (3 : Int32)).toInt64) - (1 : Int64))), .second, .val (.long a), .second, .unset, .unset, .unset, .unset] [(.long ((((k >>> ((2 : Int32) &&& 31)) &&& (3 : Int32)).toInt64) - (1 : Int64)))])) _
      refine XS.lstore X.here hx rfl (hb hby at_50) rfl (l' := #[.val (.long a), .second, .val (.long b), .second, .val (.int k), .val (.int (k &&& (3 : Int32))), .val (.long ((((k >>> ((2 : Int32) &&& 31)) &&& (3 : Int32)).toInt64) - (1 : Int64))), .second, .val (.long a), .second, .val (.long ((((k >>> ((2 : Int32) &&& 31)) &&& (3 : Int32)).toInt64) - (1 : Int64))), .second, .unset, .unset]) rfl ?_
      show Steps p.tables e below (T0.setTop (mkF m 52 #[.val (.long a), .second, .val (.long b), .second, .val (.int k), .val (.int (k &&& (3 : Int32))), .val (.long ((((k >>> ((2 : Int32) &&& 31)) &&& (3 : Int32)).toInt64) - (1 : Int64))), .second, .val (.long a), .second, .val (.long ((((k >>> ((2 : Int32) &&& 31)) &&& (3 : Int32)).toInt64) - (1 : Int64))), .second, .unset, .unset] [])) _
      refine XS.goto X.here hx rfl (pc0 := 52) (pc' := 83) rfl (hb hby at_52) (by decide) (by decide) ?_
      have hF8 : own_to_F8 a b k = a := by unfold own_to_F8; simp only [if_neg hc20_1, if_pos hc42_2]
      have hF10 : own_to_F10 a b k = ((((k >>> ((2 : Int32) &&& 31)) &&& (3 : Int32)).toInt64) - (1 : Int64)) := by unfold own_to_F10; simp only [if_neg hc20_1, if_pos hc42_2]
      rw [hF8, hF10] at kt
      exact kt
    · refine XS.icmpYes X.here hx rfl (pc0 := 42) (pc' := 55) rfl (hb hby at_42) rfl (feq hc42_2).2 (by decide) (by decide) ?_
      show Steps p.tables e below (T0.setTop (mkF m 55 #[.val (.long a), .second, .val (.long b), .second, .val (.int k), .val (.int (k &&& (3 : Int32))), .val (.long ((((k >>> ((2 : Int32) &&& 31)) &&& (3 : Int32)).toInt64) - (1 : Int64))), .second, .unset, .unset, .unset, .unset, .unset, .unset] [])) _
      refine XS.iload X.here hx rfl (hb hby at_55) rfl ?_
      show Steps p.tables e below (T0.setTop (mkF m 57 #[.val (.long a), .second, .val (.long b), .second, .val (.int k), .val (.int (k &&& (3 : Int32))), .val (.long ((((k >>> ((2 : Int32) &&& 31)) &&& (3 : Int32)).toInt64) - (1 : Int64))), .second, .unset, .unset, .unset, .unset, .unset, .unset] [(.int (k &&& (3 : Int32)))])) _
      refine XS.iconst X.here hx rfl (hb hby at_57) ?_
      show Steps p.tables e below (T0.setTop (mkF m 58 #[.val (.long a), .second, .val (.long b), .second, .val (.int k), .val (.int (k &&& (3 : Int32))), .val (.long ((((k >>> ((2 : Int32) &&& 31)) &&& (3 : Int32)).toInt64) - (1 : Int64))), .second, .unset, .unset, .unset, .unset, .unset, .unset] [(.int (3 : Int32)), (.int (k &&& (3 : Int32)))])) _
      by_cases hc58_3 : (k &&& (3 : Int32)) = (3 : Int32)
      · refine XS.icmpNo X.here hx rfl (hb hby at_58) rfl (teq hc58_3).2 ?_
        show Steps p.tables e below (T0.setTop (mkF m 61 #[.val (.long a), .second, .val (.long b), .second, .val (.int k), .val (.int (k &&& (3 : Int32))), .val (.long ((((k >>> ((2 : Int32) &&& 31)) &&& (3 : Int32)).toInt64) - (1 : Int64))), .second, .unset, .unset, .unset, .unset, .unset, .unset] [])) _
        refine XS.lloadN X.here hx rfl (hb hby at_61) rfl ?_
        show Steps p.tables e below (T0.setTop (mkF m 62 #[.val (.long a), .second, .val (.long b), .second, .val (.int k), .val (.int (k &&& (3 : Int32))), .val (.long ((((k >>> ((2 : Int32) &&& 31)) &&& (3 : Int32)).toInt64) - (1 : Int64))), .second, .unset, .unset, .unset, .unset, .unset, .unset] [(.long a)])) _
        refine XS.lstore X.here hx rfl (hb hby at_62) rfl (l' := #[.val (.long a), .second, .val (.long b), .second, .val (.int k), .val (.int (k &&& (3 : Int32))), .val (.long ((((k >>> ((2 : Int32) &&& 31)) &&& (3 : Int32)).toInt64) - (1 : Int64))), .second, .val (.long a), .second, .unset, .unset, .unset, .unset]) rfl ?_
        show Steps p.tables e below (T0.setTop (mkF m 64 #[.val (.long a), .second, .val (.long b), .second, .val (.int k), .val (.int (k &&& (3 : Int32))), .val (.long ((((k >>> ((2 : Int32) &&& 31)) &&& (3 : Int32)).toInt64) - (1 : Int64))), .second, .val (.long a), .second, .unset, .unset, .unset, .unset] [])) _
        refine X.ldc2Long hx hown (mvT hZ (hw _ (List.mem_of_getElem? (i := 9) rfl))) (g := (mkF m 64 #[.val (.long a), .second, .val (.long b), .second, .val (.int k), .val (.int (k &&& (3 : Int32))), .val (.long ((((k >>> ((2 : Int32) &&& 31)) &&& (3 : Int32)).toInt64) - (1 : Int64))), .second, .val (.long a), .second, .unset, .unset, .unset, .unset] [])) rfl (hb hby at_64) _ ?_
        show Steps p.tables e below (T0.setTop (mkF m 67 #[.val (.long a), .second, .val (.long b), .second, .val (.int k), .val (.int (k &&& (3 : Int32))), .val (.long ((((k >>> ((2 : Int32) &&& 31)) &&& (3 : Int32)).toInt64) - (1 : Int64))), .second, .val (.long a), .second, .unset, .unset, .unset, .unset] [(.long (9223372036854775807 : Int64))])) _
        refine XS.lloadN X.here hx rfl (hb hby at_67) rfl ?_
        show Steps p.tables e below (T0.setTop (mkF m 68 #[.val (.long a), .second, .val (.long b), .second, .val (.int k), .val (.int (k &&& (3 : Int32))), .val (.long ((((k >>> ((2 : Int32) &&& 31)) &&& (3 : Int32)).toInt64) - (1 : Int64))), .second, .val (.long a), .second, .unset, .unset, .unset, .unset] [(.long a), (.long (9223372036854775807 : Int64))])) _
        refine XS.lsub X.here hx rfl (hb hby at_68) rfl ?_
        show Steps p.tables e below (T0.setTop (mkF m 69 #[.val (.long a), .second, .val (.long b), .second, .val (.int k), .val (.int (k &&& (3 : Int32))), .val (.long ((((k >>> ((2 : Int32) &&& 31)) &&& (3 : Int32)).toInt64) - (1 : Int64))), .second, .val (.long a), .second, .unset, .unset, .unset, .unset] [(.long ((9223372036854775807 : Int64) - a))])) _
        refine XS.lload X.here hx rfl (hb hby at_69) rfl ?_
        show Steps p.tables e below (T0.setTop (mkF m 71 #[.val (.long a), .second, .val (.long b), .second, .val (.int k), .val (.int (k &&& (3 : Int32))), .val (.long ((((k >>> ((2 : Int32) &&& 31)) &&& (3 : Int32)).toInt64) - (1 : Int64))), .second, .val (.long a), .second, .unset, .unset, .unset, .unset] [(.long ((((k >>> ((2 : Int32) &&& 31)) &&& (3 : Int32)).toInt64) - (1 : Int64))), (.long ((9223372036854775807 : Int64) - a))])) _
        refine XS.ladd X.here hx rfl (hb hby at_71) rfl ?_
        show Steps p.tables e below (T0.setTop (mkF m 72 #[.val (.long a), .second, .val (.long b), .second, .val (.int k), .val (.int (k &&& (3 : Int32))), .val (.long ((((k >>> ((2 : Int32) &&& 31)) &&& (3 : Int32)).toInt64) - (1 : Int64))), .second, .val (.long a), .second, .unset, .unset, .unset, .unset] [(.long (((9223372036854775807 : Int64) - a) + ((((k >>> ((2 : Int32) &&& 31)) &&& (3 : Int32)).toInt64) - (1 : Int64))))])) _
        refine XS.lstore X.here hx rfl (hb hby at_72) rfl (l' := #[.val (.long a), .second, .val (.long b), .second, .val (.int k), .val (.int (k &&& (3 : Int32))), .val (.long ((((k >>> ((2 : Int32) &&& 31)) &&& (3 : Int32)).toInt64) - (1 : Int64))), .second, .val (.long a), .second, .val (.long (((9223372036854775807 : Int64) - a) + ((((k >>> ((2 : Int32) &&& 31)) &&& (3 : Int32)).toInt64) - (1 : Int64)))), .second, .unset, .unset]) rfl ?_
        show Steps p.tables e below (T0.setTop (mkF m 74 #[.val (.long a), .second, .val (.long b), .second, .val (.int k), .val (.int (k &&& (3 : Int32))), .val (.long ((((k >>> ((2 : Int32) &&& 31)) &&& (3 : Int32)).toInt64) - (1 : Int64))), .second, .val (.long a), .second, .val (.long (((9223372036854775807 : Int64) - a) + ((((k >>> ((2 : Int32) &&& 31)) &&& (3 : Int32)).toInt64) - (1 : Int64)))), .second, .unset, .unset] [])) _
        refine XS.goto X.here hx rfl (pc0 := 74) (pc' := 83) rfl (hb hby at_74) (by decide) (by decide) ?_
        have hF8 : own_to_F8 a b k = a := by unfold own_to_F8; simp only [if_neg hc20_1, if_neg hc42_2, if_pos hc58_3]
        have hF10 : own_to_F10 a b k = (((9223372036854775807 : Int64) - a) + ((((k >>> ((2 : Int32) &&& 31)) &&& (3 : Int32)).toInt64) - (1 : Int64))) := by unfold own_to_F10; simp only [if_neg hc20_1, if_neg hc42_2, if_pos hc58_3]
        rw [hF8, hF10] at kt
        exact kt
      · refine XS.icmpYes X.here hx rfl (pc0 := 58) (pc' := 77) rfl (hb hby at_58) rfl (feq hc58_3).2 (by decide) (by decide) ?_
        show Steps p.tables e below (T0.setTop (mkF m 77 #[.val (.long a), .second, .val (.long b), .second, .val (.int k), .val (.int (k &&& (3 : Int32))), .val (.long ((((k >>> ((2 : Int32) &&& 31)) &&& (3 : Int32)).toInt64) - (1 : Int64))), .second, .unset, .unset, .unset, .unset, .unset, .unset] [])) _
        refine XS.lloadN X.here hx rfl (hb hby at_77) rfl ?_
        show Steps p.tables e below (T0.setTop (mkF m 78 #[.val (.long a), .second, .val (.long b), .second, .val (.int k), .val (.int (k &&& (3 : Int32))), .val (.long ((((k >>> ((2 : Int32) &&& 31)) &&& (3 : Int32)).toInt64) - (1 : Int64))), .second, .unset, .unset, .unset, .unset, .unset, .unset] [(.long a)])) _
        refine XS.lstore X.here hx rfl (hb hby at_78) rfl (l' := #[.val (.long a), .second, .val (.long b), .second, .val (.int k), .val (.int (k &&& (3 : Int32))), .val (.long ((((k >>> ((2 : Int32) &&& 31)) &&& (3 : Int32)).toInt64) - (1 : Int64))), .second, .val (.long a), .second, .unset, .unset, .unset, .unset]) rfl ?_
        show Steps p.tables e below (T0.setTop (mkF m 80 #[.val (.long a), .second, .val (.long b), .second, .val (.int k), .val (.int (k &&& (3 : Int32))), .val (.long ((((k >>> ((2 : Int32) &&& 31)) &&& (3 : Int32)).toInt64) - (1 : Int64))), .second, .val (.long a), .second, .unset, .unset, .unset, .unset] [])) _
        refine XS.lloadN X.here hx rfl (hb hby at_80) rfl ?_
        show Steps p.tables e below (T0.setTop (mkF m 81 #[.val (.long a), .second, .val (.long b), .second, .val (.int k), .val (.int (k &&& (3 : Int32))), .val (.long ((((k >>> ((2 : Int32) &&& 31)) &&& (3 : Int32)).toInt64) - (1 : Int64))), .second, .val (.long a), .second, .unset, .unset, .unset, .unset] [(.long b)])) _
        refine XS.lstore X.here hx rfl (hb hby at_81) rfl (l' := #[.val (.long a), .second, .val (.long b), .second, .val (.int k), .val (.int (k &&& (3 : Int32))), .val (.long ((((k >>> ((2 : Int32) &&& 31)) &&& (3 : Int32)).toInt64) - (1 : Int64))), .second, .val (.long a), .second, .val (.long b), .second, .unset, .unset]) rfl ?_
        have hF8 : own_to_F8 a b k = a := by unfold own_to_F8; simp only [if_neg hc20_1, if_neg hc42_2, if_neg hc58_3]
        have hF10 : own_to_F10 a b k = b := by unfold own_to_F10; simp only [if_neg hc20_1, if_neg hc42_2, if_neg hc58_3]
        rw [hF8, hF10] at kt
        exact kt
def own_t0_F (u : Int64) (v : Int64) : Int32 := (if v = u then (1 : Int32) else (0 : Int32))
set_option maxRecDepth 65536 in
set_option maxHeartbeats 40000000 in
theorem own_t0 {p : Program} {l : Launch} {e : Env} {R : Room} {s : State} {m : MethodId} {args : Array Value} {below : List Frame} {meth : Method} {c : Code} {T0 : State} {locs : List Loc} {cells slots : Nat} {Z : State} {a0 : Array Value} (X : Stand p l e R s m args below meth c T0 locs cells slots) (hx : p.tables.exec = Jvm.exec) (hZ : Z.Warmed39 s.vm) (hw : ∀ d ∈ tables_1, d.before a0 Z = true) (hby : c.code = code) (hown : s.vm.findClass "com/example/blunt_clock/bluntclock/DeadlinesDeadlinePinLaw" = some m.cls) (hret : meth.sig.returnType = some .boolean) (a : Int64) (b : Int64) (k : Int32) (m5 : Int32) (o6 : Int64) (n8 : Int64) (y10 : Int64) (g12 : Int64) (u : Int64) (v : Int64) {fs : List Frame}
    (hr : ∀ (f : JFrame) (acts : List Action), f.method = m → f.locked = none → f.entered = [] → (doReturn e (T0.setTop f) acts (some (.int (own_t0_F u v)))).1 = T0.setFrames fs) :
    Steps p.tables e below (T0.setTop (mkF m 101 #[.val (.long a), .second, .val (.long b), .second, .val (.int k), .val (.int m5), .val (.long o6), .second, .val (.long n8), .second, .val (.long y10), .second, .val (.long g12), .second] [(.long u), (.long v)])) (T0.setFrames fs) := by
  show Steps p.tables e below (T0.setTop (mkF m 101 #[.val (.long a), .second, .val (.long b), .second, .val (.int k), .val (.int m5), .val (.long o6), .second, .val (.long n8), .second, .val (.long y10), .second, .val (.long g12), .second] [(.long u), (.long v)])) _
  refine XS.lcmp X.here hx rfl (hb hby at_101) rfl ?_
  show Steps p.tables e below (T0.setTop (mkF m 102 #[.val (.long a), .second, .val (.long b), .second, .val (.int k), .val (.int m5), .val (.long o6), .second, .val (.long n8), .second, .val (.long y10), .second, .val (.long g12), .second] [(.int (lcmpW v u))])) _
  by_cases hc102_1 : v = u
  · refine XS.ifNo X.here hx rfl (hb hby at_102) rfl ((if0 _ _).trans (teq ((lw_eq v u).mpr hc102_1)).2) ?_
    show Steps p.tables e below (T0.setTop (mkF m 105 #[.val (.long a), .second, .val (.long b), .second, .val (.int k), .val (.int m5), .val (.long o6), .second, .val (.long n8), .second, .val (.long y10), .second, .val (.long g12), .second] [])) _
    refine XS.iconst X.here hx rfl (hb hby at_105) ?_
    show Steps p.tables e below (T0.setTop (mkF m 106 #[.val (.long a), .second, .val (.long b), .second, .val (.int k), .val (.int m5), .val (.long o6), .second, .val (.long n8), .second, .val (.long y10), .second, .val (.long g12), .second] [(.int (1 : Int32))])) _
    refine XS.goto X.here hx rfl (pc0 := 106) (pc' := 110) rfl (hb hby at_106) (by decide) (by decide) ?_
    show Steps p.tables e below (T0.setTop (mkF m 110 #[.val (.long a), .second, .val (.long b), .second, .val (.int k), .val (.int m5), .val (.long o6), .second, .val (.long n8), .second, .val (.long y10), .second, .val (.long g12), .second] [(.int (1 : Int32))])) _
    have hF : own_t0_F u v = (1 : Int32) := by unfold own_t0_F; simp only [if_pos hc102_1]
    rw [hF] at hr
    exact retN X hx (t := .boolean) hret (by simp) (hb hby at_110) hr
  · refine XS.ifYes X.here hx rfl (pc0 := 102) (pc' := 109) rfl (hb hby at_102) rfl ((if0 _ _).trans (feq (fun z_ => hc102_1 ((lw_eq v u).mp z_))).2) (by decide) (by decide) ?_
    show Steps p.tables e below (T0.setTop (mkF m 109 #[.val (.long a), .second, .val (.long b), .second, .val (.int k), .val (.int m5), .val (.long o6), .second, .val (.long n8), .second, .val (.long y10), .second, .val (.long g12), .second] [])) _
    refine XS.iconst X.here hx rfl (hb hby at_109) ?_
    show Steps p.tables e below (T0.setTop (mkF m 110 #[.val (.long a), .second, .val (.long b), .second, .val (.int k), .val (.int m5), .val (.long o6), .second, .val (.long n8), .second, .val (.long y10), .second, .val (.long g12), .second] [(.int (0 : Int32))])) _
    have hF : own_t0_F u v = (0 : Int32) := by unfold own_t0_F; simp only [if_neg hc102_1]
    rw [hF] at hr
    exact retN X hx (t := .boolean) hret (by simp) (hb hby at_110) hr
theorem pn_0 : plainName "com/example/blunt_clock/bluntclock/DeadlinesDeadlinePinLaw" = true := by first | (simp [plainName, overriddenIn]; done) | decide +kernel
theorem ef_0 (m : MethodId) (q1 : Int64) (q2 : Int64) (p3 : Int32) : entryFrame m #[(.long q1), (.long q2), (.int p3)] maxLocals = mkF m 0 #[.val (.long q1), .second, .val (.long q2), .second, .val (.int p3), .unset, .unset, .unset, .unset, .unset, .unset, .unset, .unset, .unset] [] := by first | (simp [entryFrame, mkF, argsToLocals, Value.category, maxLocals]; done) | rfl
theorem pd_0_11 : parseMethodDescriptor "(JJ)J" = some ⟨[.long, .long], some .long⟩ := by decide +kernel
theorem pd_0_17 : parseMethodDescriptor "(JJ)J" = some ⟨[.long, .long], some .long⟩ := by decide +kernel
def own_rm0_F (q1 : Int64) (q2 : Int64) (p3 : Int32) : Int32 := (own_t0_F (own_rm2_F (own_to_F8 q1 q2 p3) (own_to_F10 q1 q2 p3)) (own_rm1_F (own_to_F8 q1 q2 p3) (own_to_F10 q1 q2 p3)))
theorem own_both (n y : Int64) : own_rm1_F n y = own_rm2_F n y := by
  unfold own_rm1_F own_rm2_F own_t1_F own_t2_F
  have hM : (9223372036854775807 : Int64).toInt = 9223372036854775807 := by decide
  have h0 : (0 : Int64).toInt = 0 := by decide
  have n1 := Int64.toInt_lt n
  have n2 := Int64.le_toInt n
  have y1 := Int64.toInt_lt y
  have y2 := Int64.le_toInt y
  by_cases c : (0 : Int64) < y
  · simp only [if_pos c]
    have c' := Int64.lt_iff_toInt_lt.mp c
    rw [h0] at c'
    have s1 : ((9223372036854775807 : Int64) - y).toInt = 9223372036854775807 - y.toInt := by
      rw [Int64.toInt_sub, hM, Int.bmod_def]; omega
    have s2 : (n + y).toInt = if n.toInt + y.toInt < 9223372036854775808 then n.toInt + y.toInt else n.toInt + y.toInt - 18446744073709551616 := by
      rw [Int64.toInt_add, Int.bmod_def]; split <;> omega
    have e : (9223372036854775807 : Int64) - y < n ↔ n + y < n := by
      rw [Int64.lt_iff_toInt_lt, Int64.lt_iff_toInt_lt, s1, s2]
      split <;> omega
    by_cases d : n + y < n
    · rw [if_pos (e.mpr d), if_pos d]
    · rw [if_neg (fun z => d (e.mp z)), if_neg d]
  · simp only [if_neg c]
theorem own_law (a b : Int64) (k : Int32) : own_rm0_F a b k = 1 := by
  unfold own_rm0_F own_t0_F
  rw [own_both]
  exact if_pos rfl
set_option maxRecDepth 65536 in
set_option maxHeartbeats 40000000 in
theorem own_rm0 (l : Launch) (Z : State) (a0 : Array Value) (hw : ∀ d ∈ tables_1, d.before a0 Z = true) (ws : List Jvm.Cond) (q1 : Int64) (q2 : Int64) (p3 : Int32) (h0 : Heap) (n0 : Nat) (Z0 : n0 ≤ h0.size) :
    MetFree l x (head1 (Jvm.Cond.code x code maxLocals ret :: ws) room_1) (fun a U => a = #[(.long q1), (.long q2), (.int p3)] ∧ Z.Warmed39 U.vm ∧ U.heap = h0) (fun _ _ _ _ _ => True) (fun _ U o U' => ∃ v L, o = .returned v ∧ (v = some (.int 1) ∧ Fr n0 L) ∧ FrameEnd U o U' L room_1.cells room_1.slots) := by
  refine MetFree.of_bodySF (plainFor_of_name pn_0) hisR ?_
  intro p e s m args below meth c s₁ Bd hml0 hP hK
  obtain ⟨rfl, hZ, hh⟩ := hP
  have hx := Bd.exec
  have hby := Bd.bytes
  have hml : c.maxLocals = 14 := hml0
  have hown : s.vm.findClass "com/example/blunt_clock/bluntclock/DeadlinesDeadlinePinLaw" = some m.cls := findClass_of_methodNamed Bd.named
  have X0 : Stand p l e room_1 s m #[(.long q1), (.long q2), (.int p3)] below meth c s₁ [] 0 0 := Stand.of_body Bd
  have e0 : s₁.heap = h0 := by rw [← hh, Bd.state]; rfl
  have N0 := Fr.nil n0
  have pre0 : ∀ t, Steps p.tables e below (s₁.setTop (mkF m 0 #[.val (.long q1), .second, .val (.long q2), .second, .val (.int p3), .unset, .unset, .unset, .unset, .unset, .unset, .unset, .unset, .unset] [])) t → Steps p.tables e below (s₁.setTop (entryFrame m #[(.long q1), (.long q2), (.int p3)] maxLocals)) t := fun t k => castTop (ef_0 m q1 q2 p3) k
  obtain ⟨_, _, ⟨T1, L1, k1, n1⟩, -, X1, ⟨Lc1, hQ1, l1, y1, z1⟩, st1⟩ := Jvm.LawKit.callS X0 hx (y := (⟨"com/example/blunt_clock/bluntclock/Deadlines", "deadline", "(JJ)J"⟩ : MethodName)) hown (mvT hZ (hw _ (List.mem_of_getElem? (i := 0) rfl))) (mvT hZ (hw _ (List.mem_of_getElem? (i := 1) rfl))) (mvT hZ (hw _ (List.mem_of_getElem? (i := 2) rfl))) (mvT hZ (hw _ (List.mem_of_getElem? (i := 3) rfl))) (by decide) (backOf (W := 0) (own_rm1 l Z a0 hw [] (own_to_F8 q1 q2 p3) (own_to_F10 q1 q2 p3) h0 n0 Z0) hZ (hw _ (List.mem_of_getElem? (i := 3) rfl)) (hw _ (List.mem_of_getElem? (i := 2) rfl)) (by decide) (by decide)) (g := (mkF m 87 #[.val (.long q1), .second, .val (.long q2), .second, .val (.int p3), .val (.int (p3 &&& (3 : Int32))), .val (.long ((((p3 >>> ((2 : Int32) &&& 31)) &&& (3 : Int32)).toInt64) - (1 : Int64))), .second, .val (.long (own_to_F8 q1 q2 p3)), .second, .val (.long (own_to_F10 q1 q2 p3)), .second, .unset, .unset] [(.long (own_to_F10 q1 q2 p3)), (.long (own_to_F8 q1 q2 p3))])) rfl (by rw [hml]; rfl) (argsL := [(.long (own_to_F8 q1 q2 p3)), (.long (own_to_F10 q1 q2 p3))]) (rest := []) (lenOf pd_0_11 rfl) rfl (by show 2 * 0 + _ ≤ _; exact Nat.le_of_eq rfl) (hb hby at_87) (fun _ _ => ⟨rfl, e0, (by decide : 0 + 0 ≤ _), (by decide : 0 + 0 ≤ _)⟩)
  dsimp only [Pt.U, Pt.locs, Pt.cells, Pt.slots] at X1 l1 y1 z1 st1 hQ1
  subst l1 y1 z1
  obtain ⟨rfl, N1q, e1⟩ := hQ1
  have N1 := Fr.app N0 N1q
  obtain ⟨_, _, ⟨T2, L2, k2, n2⟩, -, X2, ⟨Lc2, hQ2, l2, y2, z2⟩, st2⟩ := Jvm.LawKit.callS X1 hx (y := (⟨"com/example/blunt_clock/bluntclock/DeadlinesDeadlinePinLaw", "expected", "(JJ)J"⟩ : MethodName)) hown (mvT hZ (hw _ (List.mem_of_getElem? (i := 5) rfl))) (mvT hZ (hw _ (List.mem_of_getElem? (i := 6) rfl))) (mvT hZ (hw _ (List.mem_of_getElem? (i := 7) rfl))) (mvT hZ (hw _ (List.mem_of_getElem? (i := 8) rfl))) (by decide) (backOf (W := 2) (own_rm2 l Z a0 hw [] (own_to_F8 q1 q2 p3) (own_to_F10 q1 q2 p3) h0 n0 Z0) hZ (hw _ (List.mem_of_getElem? (i := 8) rfl)) (hw _ (List.mem_of_getElem? (i := 7) rfl)) (by decide) (by decide)) (g := (mkF m 98 #[.val (.long q1), .second, .val (.long q2), .second, .val (.int p3), .val (.int (p3 &&& (3 : Int32))), .val (.long ((((p3 >>> ((2 : Int32) &&& 31)) &&& (3 : Int32)).toInt64) - (1 : Int64))), .second, .val (.long (own_to_F8 q1 q2 p3)), .second, .val (.long (own_to_F10 q1 q2 p3)), .second, .val (.long (own_rm1_F (own_to_F8 q1 q2 p3) (own_to_F10 q1 q2 p3))), .second] [(.long (own_to_F10 q1 q2 p3)), (.long (own_to_F8 q1 q2 p3)), (.long (own_rm1_F (own_to_F8 q1 q2 p3) (own_to_F10 q1 q2 p3)))])) rfl (by rw [hml]; rfl) (argsL := [(.long (own_to_F8 q1 q2 p3)), (.long (own_to_F10 q1 q2 p3))]) (rest := [(.long (own_rm1_F (own_to_F8 q1 q2 p3) (own_to_F10 q1 q2 p3)))]) (lenOf pd_0_17 rfl) rfl (by show 2 * 0 + _ ≤ _; exact Nat.le_of_eq rfl) (hb hby at_98) (fun _ _ => ⟨rfl, e1, (by decide : 0 + 0 ≤ _), (by decide : 0 + 0 ≤ _)⟩)
  dsimp only [Pt.U, Pt.locs, Pt.cells, Pt.slots] at X2 l2 y2 z2 st2 hQ2
  subst l2 y2 z2
  obtain ⟨rfl, N2q, e2⟩ := hQ2
  have N2 := Fr.app N1 N2q
  obtain ⟨fs, hr, hrun, hended, hW, hsame⟩ := X2.leave (v := some (.int (own_t0_F (own_rm2_F (own_to_F8 q1 q2 p3) (own_to_F10 q1 q2 p3)) (own_rm1_F (own_to_F8 q1 q2 p3) (own_to_F10 q1 q2 p3))))) (fun h => by rw [Bd.returns] at h; cases h)
  refine ⟨_, _, pre0 _ ?_, hrun, hended, _, _, rfl, ?_, ⟨_, rfl⟩, hW, hsame.mono (by decide) (by decide)⟩
  · show Steps p.tables e below (s₁.setTop (mkF m 0 #[.val (.long q1), .second, .val (.long q2), .second, .val (.int p3), .unset, .unset, .unset, .unset, .unset, .unset, .unset, .unset, .unset] [])) _
    refine own_to X0 hx hZ hw hby hown q1 q2 p3 _ ?_
    show Steps p.tables e below (s₁.setTop (mkF m 83 #[.val (.long q1), .second, .val (.long q2), .second, .val (.int p3), .val (.int (p3 &&& (3 : Int32))), .val (.long ((((p3 >>> ((2 : Int32) &&& 31)) &&& (3 : Int32)).toInt64) - (1 : Int64))), .second, .val (.long (own_to_F8 q1 q2 p3)), .second, .val (.long (own_to_F10 q1 q2 p3)), .second, .unset, .unset] [])) _
    refine XS.lload X0.here hx rfl (hb hby at_83) rfl ?_
    show Steps p.tables e below (s₁.setTop (mkF m 85 #[.val (.long q1), .second, .val (.long q2), .second, .val (.int p3), .val (.int (p3 &&& (3 : Int32))), .val (.long ((((p3 >>> ((2 : Int32) &&& 31)) &&& (3 : Int32)).toInt64) - (1 : Int64))), .second, .val (.long (own_to_F8 q1 q2 p3)), .second, .val (.long (own_to_F10 q1 q2 p3)), .second, .unset, .unset] [(.long (own_to_F8 q1 q2 p3))])) _
    refine XS.lload X0.here hx rfl (hb hby at_85) rfl ?_
    show Steps p.tables e below (s₁.setTop (mkF m 87 #[.val (.long q1), .second, .val (.long q2), .second, .val (.int p3), .val (.int (p3 &&& (3 : Int32))), .val (.long ((((p3 >>> ((2 : Int32) &&& 31)) &&& (3 : Int32)).toInt64) - (1 : Int64))), .second, .val (.long (own_to_F8 q1 q2 p3)), .second, .val (.long (own_to_F10 q1 q2 p3)), .second, .unset, .unset] [(.long (own_to_F10 q1 q2 p3)), (.long (own_to_F8 q1 q2 p3))])) _
    refine st1 _ ?_
    show Steps p.tables e below (T1.setTop (mkF m 90 #[.val (.long q1), .second, .val (.long q2), .second, .val (.int p3), .val (.int (p3 &&& (3 : Int32))), .val (.long ((((p3 >>> ((2 : Int32) &&& 31)) &&& (3 : Int32)).toInt64) - (1 : Int64))), .second, .val (.long (own_to_F8 q1 q2 p3)), .second, .val (.long (own_to_F10 q1 q2 p3)), .second, .unset, .unset] [(.long (own_rm1_F (own_to_F8 q1 q2 p3) (own_to_F10 q1 q2 p3)))])) _
    refine XS.lstore X1.here hx rfl (hb hby at_90) rfl (l' := #[.val (.long q1), .second, .val (.long q2), .second, .val (.int p3), .val (.int (p3 &&& (3 : Int32))), .val (.long ((((p3 >>> ((2 : Int32) &&& 31)) &&& (3 : Int32)).toInt64) - (1 : Int64))), .second, .val (.long (own_to_F8 q1 q2 p3)), .second, .val (.long (own_to_F10 q1 q2 p3)), .second, .val (.long (own_rm1_F (own_to_F8 q1 q2 p3) (own_to_F10 q1 q2 p3))), .second]) rfl ?_
    show Steps p.tables e below (T1.setTop (mkF m 92 #[.val (.long q1), .second, .val (.long q2), .second, .val (.int p3), .val (.int (p3 &&& (3 : Int32))), .val (.long ((((p3 >>> ((2 : Int32) &&& 31)) &&& (3 : Int32)).toInt64) - (1 : Int64))), .second, .val (.long (own_to_F8 q1 q2 p3)), .second, .val (.long (own_to_F10 q1 q2 p3)), .second, .val (.long (own_rm1_F (own_to_F8 q1 q2 p3) (own_to_F10 q1 q2 p3))), .second] [])) _
    refine XS.lload X1.here hx rfl (hb hby at_92) rfl ?_
    show Steps p.tables e below (T1.setTop (mkF m 94 #[.val (.long q1), .second, .val (.long q2), .second, .val (.int p3), .val (.int (p3 &&& (3 : Int32))), .val (.long ((((p3 >>> ((2 : Int32) &&& 31)) &&& (3 : Int32)).toInt64) - (1 : Int64))), .second, .val (.long (own_to_F8 q1 q2 p3)), .second, .val (.long (own_to_F10 q1 q2 p3)), .second, .val (.long (own_rm1_F (own_to_F8 q1 q2 p3) (own_to_F10 q1 q2 p3))), .second] [(.long (own_rm1_F (own_to_F8 q1 q2 p3) (own_to_F10 q1 q2 p3)))])) _
    refine XS.lload X1.here hx rfl (hb hby at_94) rfl ?_
    show Steps p.tables e below (T1.setTop (mkF m 96 #[.val (.long q1), .second, .val (.long q2), .second, .val (.int p3), .val (.int (p3 &&& (3 : Int32))), .val (.long ((((p3 >>> ((2 : Int32) &&& 31)) &&& (3 : Int32)).toInt64) - (1 : Int64))), .second, .val (.long (own_to_F8 q1 q2 p3)), .second, .val (.long (own_to_F10 q1 q2 p3)), .second, .val (.long (own_rm1_F (own_to_F8 q1 q2 p3) (own_to_F10 q1 q2 p3))), .second] [(.long (own_to_F8 q1 q2 p3)), (.long (own_rm1_F (own_to_F8 q1 q2 p3) (own_to_F10 q1 q2 p3)))])) _
    refine XS.lload X1.here hx rfl (hb hby at_96) rfl ?_
    show Steps p.tables e below (T1.setTop (mkF m 98 #[.val (.long q1), .second, .val (.long q2), .second, .val (.int p3), .val (.int (p3 &&& (3 : Int32))), .val (.long ((((p3 >>> ((2 : Int32) &&& 31)) &&& (3 : Int32)).toInt64) - (1 : Int64))), .second, .val (.long (own_to_F8 q1 q2 p3)), .second, .val (.long (own_to_F10 q1 q2 p3)), .second, .val (.long (own_rm1_F (own_to_F8 q1 q2 p3) (own_to_F10 q1 q2 p3))), .second] [(.long (own_to_F10 q1 q2 p3)), (.long (own_to_F8 q1 q2 p3)), (.long (own_rm1_F (own_to_F8 q1 q2 p3) (own_to_F10 q1 q2 p3)))])) _
    refine st2 _ ?_
    exact own_t0 X2 hx hZ hw hby hown Bd.returns q1 q2 p3 (p3 &&& (3 : Int32)) ((((p3 >>> ((2 : Int32) &&& 31)) &&& (3 : Int32)).toInt64) - (1 : Int64)) (own_to_F8 q1 q2 p3) (own_to_F10 q1 q2 p3) (own_rm1_F (own_to_F8 q1 q2 p3) (own_to_F10 q1 q2 p3)) (own_rm2_F (own_to_F8 q1 q2 p3) (own_to_F10 q1 q2 p3)) (own_rm1_F (own_to_F8 q1 q2 p3) (own_to_F10 q1 q2 p3)) hr
  · exact ⟨congrArg (fun z => some (Value.int z)) (own_law q1 q2 p3), N2⟩
set_option maxRecDepth 65536 in
set_option maxHeartbeats 40000000 in
theorem comes_1 {Post : Tables → Env → Array Value → State → Outcome → State → Prop} (hpost : ∀ tb e args s v u, (limb_1_1.after args s (.returned v) u = true ∧ limb_1_2.after args s (.returned v) u = true ∧ True) → FrameEnd s (.returned v) u (Jvm.fieldLocs frame_1_writes args s ++ Jvm.arrayLocs frame_1_arrays args s ++ Jvm.staticLocs frame_1_statics s) 0 0 → Post tb e args s (.returned v) u) :
    ArmFor flags0 classFile x code maxLocals ret World_1 tables_1 room_1 Calls_1 rest_1 Pre_1 Post := by
  intro l hfl _ _ p e ha hc hk s m args below hf hA hF happ hP
  obtain ⟨hcalls, hrest, hpre⟩ := hP
  obtain ⟨-, -, -, hnamed, -, -, -, hat⟩ := (Spec.applies_iff hf).mp happ
  obtain ⟨hg, hn⟩ := and_e (Cond.before_iff.mp (show (Jvm.Cond.and given_1 narrow_1).before args s = true from hpre))
  obtain ⟨gc, g0⟩ := and_e hg
  obtain ⟨b0, g1⟩ := and_e g0
  obtain ⟨b1, g2⟩ := and_e g1
  obtain ⟨w0, w1, w2, rfl⟩ : ∃ w0 w1 w2 : Value, args = #[w0, w1, w2] := by
    have hs : args.size = 3 := by simpa [Cond.value, given_1] using gc
    obtain ⟨L⟩ := args
    match L, hs with
    | [w0, w1, w2], _ => exact ⟨w0, w1, w2, rfl⟩
  have hw := fun d (hd : d ∈ tables_1) => atoms_spec (ws := Jvm.Cond.code x code maxLocals ret :: tables_1) hat d (List.mem_cons_of_mem _ hd)
  obtain ⟨i0, ei0⟩ := isL_v b0
  obtain rfl : w0 = (.long i0) := Option.some.inj ei0
  obtain ⟨i1, ei1⟩ := isL_v b1
  obtain rfl : w1 = (.long i1) := Option.some.inj ei1
  obtain ⟨i2, ei2⟩ := is_v g2
  obtain rfl : w2 = (.int i2) := Option.some.inj ei2
  obtain ⟨n, o, h1, h2, h3, _, L, rfl, ⟨rfl, N⟩, hq⟩ := own_rm0 l s _ hw tables_1 i0 i1 i2 s.heap s.heap.size (Nat.le_refl _) p e ha hc hk s m _ below hf ((Spec.applies_iff_loose hf).mp happ).1 ⟨rfl, State.Warmed39.refl s, rfl⟩ trivial
  refine ⟨n, _, h1, h2, h3, hpost _ _ _ _ _ _ ⟨Cond.after_iff.mpr rfl, Cond.after_iff.mpr (eq_i res_at (Term.int_eval (1)) rfl), trivial⟩ ⟨hq.1, hq.2.1, (hq.2.2.sift fun y hy => Or.inr (N y hy)).mono (by decide) (by decide)⟩⟩
theorem main_1_1 : Claimed_1_1 := comes_1 fun _ _ _ _ _ _ h hF => ⟨h.1, hF⟩
theorem main_1_2 : Claimed_1_2 := comes_1 fun _ _ _ _ _ _ h hF => ⟨h.2.1, hF⟩
end Jvm.Pilot.@@N@@
namespace Jvm.Pilot.@@N@@
open Jvm Jvm.ClassFile Sem Op Lib Jvm.Free Jvm.Stand Jvm.Pilot.@@N@@.Jvm.D
/-! MADE BY PROGRAM (witnessworld.py) out of the Statement's table words and the real class files: 9 classes; the members and pool entries that the words name. The judged class is class 1, her method 2. -/
namespace start1
open Jvm.ClassFile
def u (s : String) : CpInfo := .utf8 (stringToUtf16 s)
/-- a pool by its gaps: so many unusable entries, then the entry; so many at the end -/
def gap : Nat → List CpInfo → List CpInfo
  | 0, r => r
  | n + 1, r => .unusable :: gap n r
def poolList (es : List (Nat × CpInfo)) (last : Nat) : List CpInfo := es.foldr (fun e r => gap e.1 (e.2 :: r)) (gap last [])
def pool (es : List (Nat × CpInfo)) (last : Nat) : Array CpInfo := ⟨poolList es last⟩
def fileOf (pool : Array CpInfo) (this : Nat) (attrs : Array Attribute := #[]) (ms : Array MethodInfo := #[]) (fl : Nat := 33) (sup : Nat := 0) (ifs : Array Nat := #[]) (fds : Array FieldInfo := #[]) : ClassFile where
  minorVersion := 0
  majorVersion := 65
  constantPool := pool
  accessFlags := fl
  thisClass := this
  superClass := sup
  interfaces := ifs
  fields := fds
  methods := ms
  attributes := attrs
def plain (name : String) (sup : Option ClassId) : Class where
  name := name
  kind := .ordinary
  loader := none
  accessFlags := 33
  super := sup
  interfaces := #[]
  cf := none
  fields := #[]
  methods := #[]
  instanceTypes := #[]
  staticTypes := #[]
  resolved := #[]
  callSites := []
  init := .initialized
  statics := none
  mirror := none

def pool0 : Array CpInfo := pool [(5, u "<init>"), (0, u "()V"), (1, .class_ 10), (1, u "java/lang/Object")] 113

def k0m0 : Method := { name := "<init>", desc := "()V", sig := { parameters := [], returnType := none }, accessFlags := 1, code := none }
/-- java/lang/Object -/
def k0 : Class := { plain "java/lang/Object" none with
  accessFlags := 33
  interfaces := #[]
  cf := some (fileOf pool0 8 #[] #[{ accessFlags := 1, nameIndex := 5, descriptorIndex := 6, attributes := #[] }] 33 0 #[] #[])
  fields := #[]
  methods := #[k0m0]
  instanceTypes := #[]
  staticTypes := #[]
  resolved := Array.replicate 124 none
  statics := none }

def pool1 : Array CpInfo := pool [(2, .class_ 4), (1, u "java/lang/Object"), (0, u "<init>"), (0, u "()V"), (2, .long 9223372036854775807), (1, .methodref 12 13), (0, .class_ 14), (0, .nameAndType 15 16), (0, u "com/example/blunt_clock/bluntclock/Deadlines"), (0, u "deadline"), (0, u "(JJ)J"), (0, .methodref 18 19), (0, .class_ 20), (0, .nameAndType 21 16), (0, u "com/example/blunt_clock/bluntclock/DeadlinesDeadlinePinLaw"), (0, u "expected"), (3, u "law"), (0, u "(JJI)Z")] 2

def k1m0 : Method := { name := "<init>", desc := "()V", sig := { parameters := [], returnType := none }, accessFlags := 2, code := none }
def k1c1 : Code := { maxStack := 4, maxLocals := 6, code := method_2_code, exceptionTable := #[], attributes := #[] }
def k1m1 : Method := { name := "expected", desc := "(JJ)J", sig := { parameters := [.long, .long], returnType := some .long }, accessFlags := 10, code := some k1c1 }
def k1c2 : Code := { maxStack := 6, maxLocals := 14, code := code, exceptionTable := #[], attributes := #[] }
def k1m2 : Method := { name := "law", desc := "(JJI)Z", sig := { parameters := [.long, .long, .int], returnType := some .boolean }, accessFlags := 9, code := some k1c2 }
/-- com/example/blunt_clock/bluntclock/DeadlinesDeadlinePinLaw -/
def k1 : Class := { plain "com/example/blunt_clock/bluntclock/DeadlinesDeadlinePinLaw" (some 0) with
  accessFlags := 49
  interfaces := #[]
  cf := some (fileOf pool1 18 #[] #[{ accessFlags := 2, nameIndex := 5, descriptorIndex := 6, attributes := #[] }, { accessFlags := 10, nameIndex := 21, descriptorIndex := 16, attributes := #[] }, { accessFlags := 9, nameIndex := 25, descriptorIndex := 26, attributes := #[] }] 49 2 #[] #[])
  fields := #[]
  methods := #[k1m0, k1m1, k1m2]
  instanceTypes := #[]
  staticTypes := #[]
  resolved := Array.replicate 29 none
  statics := none }

def pool2 : Array CpInfo := pool [(2, .class_ 4), (1, u "java/lang/Object"), (0, u "<init>"), (0, u "()V"), (2, .long 9223372036854775807), (4, .class_ 16), (1, u "com/example/blunt_clock/bluntclock/Deadlines"), (12, u "(JJ)J"), (15, u "deadline")] 21

def k2m0 : Method := { name := "<init>", desc := "()V", sig := { parameters := [], returnType := none }, accessFlags := 2, code := none }
def k2c1 : Code := { maxStack := 6, maxLocals := 6, code := prog_1_method_2_code, exceptionTable := #[], attributes := #[] }
def k2m1 : Method := { name := "deadline", desc := "(JJ)J", sig := { parameters := [.long, .long], returnType := some .long }, accessFlags := 9, code := some k2c1 }
/-- com/example/blunt_clock/bluntclock/Deadlines -/
def k2 : Class := { plain "com/example/blunt_clock/bluntclock/Deadlines" (some 0) with
  accessFlags := 33
  interfaces := #[]
  cf := some (fileOf pool2 14 #[] #[{ accessFlags := 2, nameIndex := 5, descriptorIndex := 6, attributes := #[] }, { accessFlags := 9, nameIndex := 45, descriptorIndex := 29, attributes := #[] }] 33 2 #[] #[])
  fields := #[]
  methods := #[k2m0, k2m1]
  instanceTypes := #[]
  staticTypes := #[]
  resolved := Array.replicate 67 none
  statics := none }

def pool3 : Array CpInfo := pool [(1, u "java/lang/Cloneable"), (0, .class_ 1), (0, u "java/lang/Object"), (0, .class_ 3)] 3

/-- java/lang/Cloneable -/
def k3 : Class := { plain "java/lang/Cloneable" (some 0) with
  accessFlags := 1537
  interfaces := #[]
  cf := some (fileOf pool3 2 #[] #[] 1537 4 #[] #[])
  fields := #[]
  methods := #[]
  instanceTypes := #[]
  staticTypes := #[]
  resolved := Array.replicate 8 none
  statics := none }

def pool4 : Array CpInfo := pool [(1, u "java/io/Serializable"), (0, .class_ 1), (0, u "java/lang/Object"), (0, .class_ 3)] 3

/-- java/io/Serializable -/
def k4 : Class := { plain "java/io/Serializable" (some 0) with
  accessFlags := 1537
  interfaces := #[]
  cf := some (fileOf pool4 2 #[] #[] 1537 4 #[] #[])
  fields := #[]
  methods := #[]
  instanceTypes := #[]
  staticTypes := #[]
  resolved := Array.replicate 8 none
  statics := none }

/-- the primitive byte -/
def k5 : Class := { plain "byte" none with kind := .primitive 'B', accessFlags := 0x411 }
/-- [B -/
def k6 : Class := { plain "[B" (some 0) with kind := .array 5 .byte, interfaces := #[3, 4], accessFlags := 1041 }

/-- the primitive int -/
def k7 : Class := { plain "int" none with kind := .primitive 'I', accessFlags := 0x411 }
/-- [I -/
def k8 : Class := { plain "[I" (some 0) with kind := .array 7 .int, interfaces := #[3, 4], accessFlags := 1041 }

def heap : Heap := #[]
def classes : Array Class := #[k0, k1, k2, k3, k4, k5, k6, k7, k8]
def interned : List (Array UInt16 × Addr) := []
def slotsUsed : Nat := 0
def theMethod : MethodId := ⟨1, 2⟩
def args0 : Array Value := #[.long 5, .long 7, .int 1]
def aboutOver (below : List Frame) : State where
  vm := { classes := classes, interned := interned.toArray }
  heap := heap
  slotsUsed := slotsUsed
  threads := #[{ frames := .invoking theMethod args0 :: below }]
def below0 : List Frame := [.native { method := ⟨0, 0⟩, args := #[] }]
def about1 : State := aboutOver below0
def p0 : Program := .bare "" "" ""
def e0 : Env := launch0.env 0 0 0
theorem w_frames : about1.frames = Frame.invoking theMethod args0 :: below0 := rfl
set_option maxRecDepth 65536 in
theorem w_args : argsFit about1.vm theMethod args0 = true := by decide +kernel
set_option maxRecDepth 65536 in
theorem w_heap : heapFits about1 = true := by decide +kernel
set_option maxRecDepth 65536 in
theorem w_runnable : about1.curStatus? = some .runnable := by decide +kernel
set_option maxRecDepth 65536 in
theorem w_alone : about1.alone = true := by decide +kernel
set_option maxRecDepth 65536 in
theorem w_named : about1.methodNamed? x = some theMethod := by decide +kernel
set_option maxRecDepth 65536 in
theorem w_hears : about1.hears theMethod below0 = true := by decide +kernel
set_option maxRecDepth 65536 in
theorem w_ripe : about1.ripe theMethod args0 below0 = true := by decide +kernel
theorem w_running : about1.status = .running := rfl
set_option maxRecDepth 65536 in
theorem w_room : about1.hasRoom e0.platform room_1 = true :=
  launch0.hasRoom_least _ room_1 (by decide +kernel) (by decide +kernel) (by decide +kernel) (by decide +kernel) (by decide +kernel) (by decide +kernel)
theorem allAtoms_all (ts : List Jvm.Cond) (a : Array Jvm.Value) (st : Jvm.State) : (allAtoms ts).before a st = ts.all (fun c => c.before a st) := by
  induction ts with
  | nil => rfl
  | cons c t ih =>
    show (Jvm.Cond.and c (allAtoms t)).before a st = _
    rw [Jvm.Cond.before_and, ih, List.all_cons]
def words1 : List Jvm.Cond := Jvm.Cond.code x code maxLocals ret :: tables_1
/-- a 'code' word, met by the world's own term for the bytes: nothing is compared byte by byte -/
theorem code_word {y : MethodName} {bytes : ByteArray} {mx : Nat} {rt : Option FieldType} {a : Array Value} {s : State} {m : MethodId} {meth : Method} {c : Code} (h1 : s.methodNamed? y = some m) (h2 : s.vm.method? m = some meth) (h3 : meth.code = some c) (h4 : c.code = bytes)
    (h5 : (c.maxLocals == mx && c.exceptionTable.isEmpty && decide (c.maxStack ≤ mostOperands) && decide (meth.sig.returnType = rt) && !meth.locks && decide (parseMethodDescriptor y.desc = some meth.sig)) = true) : (Jvm.Cond.code y bytes mx rt).before a s = true := by
  simp only [Bool.and_eq_true, beq_iff_eq, Bool.not_eq_true', decide_eq_true_eq] at h5
  obtain ⟨⟨⟨⟨⟨g1, g2⟩, g3⟩, g4⟩, g5⟩, g6⟩ := h5
  simp [Cond.before, Cond.holds, Cond.value, h1, h2, h3, h4, g1, g2, g3, g4, g5, g6]
def isCode : Jvm.Cond → Bool
  | .code _ _ _ _ => true
  | _ => false
theorem all_split {L : List Jvm.Cond} {P : Jvm.Cond → Bool} (h1 : L.all (fun c => isCode c || P c) = true) (h2 : ∀ c ∈ L.filter isCode, P c = true) : L.all P = true := by
  refine List.all_eq_true.mpr fun c hc => ?_
  have h := List.all_eq_true.mp h1 c hc
  rcases Bool.eq_false_or_eq_true (isCode c) with hi | hi
  · exact h2 c (List.mem_filter.mpr ⟨hc, hi⟩)
  · simpa [hi] using h
set_option maxRecDepth 65536 in
theorem w_c0 : (Jvm.Cond.code x code maxLocals ret).before args0 about1 = true := code_word (m := ⟨1, 2⟩) (meth := k1m2) (c := k1c2) (by decide +kernel) rfl rfl rfl (by decide +kernel)
set_option maxRecDepth 65536 in
theorem w_c1 : (Jvm.Cond.code ({ cls := "com/example/blunt_clock/bluntclock/Deadlines", name := "deadline", desc := "(JJ)J" } : Jvm.MethodName) prog_1_method_2_code (6 : Nat) (Option.some Jvm.ClassFile.FieldType.long)).before args0 about1 = true := code_word (m := ⟨2, 1⟩) (meth := k2m1) (c := k2c1) (by decide +kernel) rfl rfl rfl (by decide +kernel)
set_option maxRecDepth 65536 in
theorem w_c2 : (Jvm.Cond.code ({ cls := "com/example/blunt_clock/bluntclock/DeadlinesDeadlinePinLaw", name := "expected", desc := "(JJ)J" } : Jvm.MethodName) method_2_code (6 : Nat) (Option.some Jvm.ClassFile.FieldType.long)).before args0 about1 = true := code_word (m := ⟨1, 1⟩) (meth := k1m1) (c := k1c1) (by decide +kernel) rfl rfl rfl (by decide +kernel)
def codes1 : List Jvm.Cond := [Jvm.Cond.code x code maxLocals ret, Jvm.Cond.code ({ cls := "com/example/blunt_clock/bluntclock/Deadlines", name := "deadline", desc := "(JJ)J" } : Jvm.MethodName) prog_1_method_2_code (6 : Nat) (Option.some Jvm.ClassFile.FieldType.long), Jvm.Cond.code ({ cls := "com/example/blunt_clock/bluntclock/DeadlinesDeadlinePinLaw", name := "expected", desc := "(JJ)J" } : Jvm.MethodName) method_2_code (6 : Nat) (Option.some Jvm.ClassFile.FieldType.long)]
set_option maxRecDepth 65536 in
theorem codes_eq : words1.filter isCode = codes1 := rfl
theorem w_codes : ∀ c ∈ words1.filter isCode, c.before args0 about1 = true := by
  rw [codes_eq]
  intro c hc
  simp only [codes1, List.mem_cons, List.not_mem_nil, or_false] at hc
  rcases hc with rfl | rfl | rfl
  · exact w_c0
  · exact w_c1
  · exact w_c2
set_option maxRecDepth 65536 in
theorem w_t1 : words1.all (fun c => isCode c || c.before args0 about1) = true := by decide +kernel
theorem w_tables : (allAtoms (Jvm.Cond.code x code maxLocals ret :: tables_1)).before args0 about1 = true := by
  rw [allAtoms_all]
  show words1.all (fun c => c.before args0 about1) = true
  refine all_split ?_ w_codes
  rw [w_t1]
set_option maxRecDepth 65536 in
theorem w_case : (Jvm.Cond.and given_1 narrow_1).before args0 about1 = true := by decide +kernel
theorem w_applies : (headSpec (Jvm.Cond.code x code maxLocals ret :: tables_1) room_1).applies x e0.platform about1 = true :=
  (Spec.applies_iff w_frames).mpr ⟨w_running, w_runnable, w_alone, w_named, w_hears, w_ripe, w_room, w_tables⟩
theorem atStart : AtStart classFile x code maxLocals ret World_1 tables_1 room_1 Calls_1 rest_1 Pre_1 launch0 p0 e0 about1 theMethod args0 below0 :=
  ⟨lists_1, trivial, launch0.admits_env _ _ _, launch0.least_env, fairChoices_fair.cas, fairChoices_fair.clock, w_frames, w_args, w_heap, w_applies, trivial, trivial, w_case⟩
end start1
theorem witness_1 : WitnessClaimed_1 := ⟨start1.p0, start1.e0, start1.about1, start1.theMethod, start1.args0, start1.below0, start1.atStart⟩
end Jvm.Pilot.@@N@@
