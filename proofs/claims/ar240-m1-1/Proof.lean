import JvmDerived
import JvmDerived.Pilot.@@N@@Statement
import JvmDerived.Pilot.@@N@@Code
set_option linter.unusedVariables false
set_option linter.unusedSimpArgs false
namespace Jvm.RoadKit
open Sem ClassFile Op Lib Jvm.Stand Jvm.Free Jvm.LawKit
section New
variable {p : Program} {l : Launch} {e : Env} {R : Room} {s : State} {m : MethodId} {args : Array Value} {below : List Frame} {meth : Method} {c : Code} {T : State} {locs : List Loc} {cells slots : Nat}
theorem retI (X : Stand p l e R s m args below meth c T locs cells slots) (hx : p.tables.exec = Jvm.exec) {pc : Nat} {Ls : Array Slot} {z : Int32} {rest : List Value} (hret : meth.sig.returnType = some .int) (hd : decode c.code pc = .ok (.ireturn, 1)) {fs : List Frame}
    (hl : ∀ (f : JFrame) (acts : List Action), f.method = m → f.locked = none → f.entered = [] → (doReturn e (T.setTop f) acts (some (.int z))).1 = T.setFrames fs) : Steps p.tables e below (T.setTop (mkF m pc Ls (.int z :: rest))) (T.setFrames fs) := by
  have hm' : T.vm.method? m = some meth := X.method'
  have hn : narrow .int (.int z) = .int z := rfl
  show Steps p.tables e below (T.setTop { method := m, pc := pc, locals := Ls, stack := _ :: rest, locked := none }) _
  jvm_step X.here [X.here.top, hx, hd, hm', hret, hn]
  first | (intro acts; rw [hl _ acts rfl rfl rfl]) | rw [hl _ _ rfl rfl rfl]
  exact Steps.refl _
end New
end Jvm.RoadKit
namespace Jvm.Pilot.@@N@@
open Jvm Jvm.ClassFile Sem Op Lib Jvm.Free Jvm.Stand Jvm.LawKit Jvm.RoadKit Bundle Jvm.Pilot.@@N@@.Jvm.D
def own_Q (r : Option Value) (n0 : Nat) (h0 : Heap) (v : Option Value) (h : Heap) (L : List Loc) : Prop := v = r ∧ Fr n0 L ∧ h = h0
def own_fib : Nat → Int64
  | 0 => 0
  | 1 => 1
  | n + 2 => own_fib (n + 1) + own_fib n
abbrev own_room (n : Nat) : Room := ({ frames := n, cells := 0, slots := 0, locals := 16 * n } : Room)
theorem own_sub1 (k : Nat) : Int32.ofNat (k + 2) - (1 : Int32) = Int32.ofNat (k + 1) := by
  rw [show k + 2 = (k + 1) + 1 from rfl, Int32.ofNat_add]
  exact Int32.add_sub_cancel _ _
theorem own_sub2 (k : Nat) : Int32.ofNat (k + 2) - (2 : Int32) = Int32.ofNat k := by
  rw [Int32.ofNat_add]
  exact Int32.add_sub_cancel _ _
theorem own_gt : ∀ n : Fin 21, ((1 : Int32) < Int32.ofNat n.val ↔ 1 < n.val) := by decide +kernel
theorem own_base : ∀ n : Fin 2, (Int32.ofNat n.val).toInt64 = own_fib n.val := by decide +kernel
theorem own_place : ∀ n : Fin 21, ¬ Int32.ofNat n.val < 0 ∧ (Int32.ofNat n.val).toNatClampNeg = n.val := by decide +kernel
theorem pn_1 : plainName "com/example/mure/mure/bench/ForkJoinScaling$Fib" = true := by first | (simp [plainName, overriddenIn]; done) | decide +kernel
theorem ef_1 (m : MethodId) (x0 : Int32) : entryFrame m #[(.int x0)] 1 = mkF m 0 #[.val (.int x0)] [] := by first | (simp [entryFrame, mkF, argsToLocals, Value.category]; done) | rfl
theorem d1_0 : decode prog_24_method_3_code 0 = .ok (.iload_n 0, 1) := by decide +kernel
theorem d1_1 : decode prog_24_method_3_code 1 = .ok (.iconst 1, 1) := by decide +kernel
theorem d1_2 : decode prog_24_method_3_code 2 = .ok (.if_icmp .gt 8, 3) := by decide +kernel
theorem d1_5 : decode prog_24_method_3_code 5 = .ok (.iload_n 0, 1) := by decide +kernel
theorem d1_6 : decode prog_24_method_3_code 6 = .ok (.i2l, 1) := by decide +kernel
theorem d1_7 : decode prog_24_method_3_code 7 = .ok (.goto 16, 3) := by decide +kernel
theorem d1_23 : decode prog_24_method_3_code 23 = .ok (.lreturn, 1) := by decide +kernel
set_option maxRecDepth 65536 in
set_option maxHeartbeats 40000000 in
theorem own_rm1a (l : Launch) (Z : State) (a0 : Array Value) (hw : ∀ d ∈ tables_1, d.before a0 Z = true) (ws : List Jvm.Cond) (n : Nat) (hc : ¬ ((1 : Int32) < Int32.ofNat n)) (hb1 : (Int32.ofNat n).toInt64 = own_fib n) (h0 : Heap) (n0 : Nat) :
    MetFree l (⟨"com/example/mure/mure/bench/ForkJoinScaling$Fib", "recursive", "(I)J"⟩ : MethodName) (head1 (Jvm.Cond.code (⟨"com/example/mure/mure/bench/ForkJoinScaling$Fib", "recursive", "(I)J"⟩ : MethodName) prog_24_method_3_code 1 (some .long) :: ws) (own_room n)) (fun a U => a = #[(.int (Int32.ofNat n))] ∧ Z.Warmed39 U.vm ∧ U.heap = h0) (fun _ _ _ _ _ => True) (fun _ U o U' => ∃ v L, o = .returned v ∧ (own_Q (some (.long (own_fib n))) n0 h0 v U'.heap L) ∧ FrameEnd U o U' L (own_room n).cells (own_room n).slots) := by
  refine MetFree.of_bodySF (plainFor_of_name pn_1) hisR ?_
  intro p e s m args below meth c s₁ Bd hml0 hP hK
  obtain ⟨rfl, hZ, hh⟩ := hP
  have hx := Bd.exec
  have hby := Bd.bytes
  have hml : c.maxLocals = 1 := hml0
  have hown : s.vm.findClass "com/example/mure/mure/bench/ForkJoinScaling$Fib" = some m.cls := findClass_of_methodNamed Bd.named
  have X0 : Stand p l e (own_room n) s m #[(.int (Int32.ofNat n))] below meth c s₁ [] 0 0 := Stand.of_body Bd
  have e0 : s₁.heap = h0 := by rw [← hh, Bd.state]; rfl
  have N0 := Fr.nil n0
  have pre0 : ∀ t, Steps p.tables e below (s₁.setTop (mkF m 0 #[.val (.int (Int32.ofNat n))] [])) t → Steps p.tables e below (s₁.setTop (entryFrame m #[(.int (Int32.ofNat n))] 1)) t := fun t kt_ => castTop (ef_1 m (Int32.ofNat n)) kt_
  obtain ⟨fs, hr, hrun, hended, hW, hsame⟩ := X0.leave (v := some (.long (own_fib n))) (fun h => by rw [Bd.returns] at h; cases h)
  refine ⟨_, _, pre0 _ ?_, hrun, hended, _, _, rfl, ?_, ⟨_, rfl⟩, hW, hsame.mono (Nat.zero_le _) (Nat.zero_le _)⟩
  · show Steps p.tables e below (s₁.setTop (mkF m 0 #[.val (.int (Int32.ofNat n))] [])) _
    refine XS.iloadN X0.here hx rfl (hb hby d1_0) rfl ?_
    show Steps p.tables e below (s₁.setTop (mkF m 1 #[.val (.int (Int32.ofNat n))] [(.int (Int32.ofNat n))])) _
    refine XS.iconst X0.here hx rfl (hb hby d1_1) ?_
    show Steps p.tables e below (s₁.setTop (mkF m 2 #[.val (.int (Int32.ofNat n))] [(.int (1 : Int32)), (.int (Int32.ofNat n))])) _
    refine XS.icmpNo X0.here hx rfl (hb hby d1_2) rfl (flt hc).2.2.1 ?_
    show Steps p.tables e below (s₁.setTop (mkF m 5 #[.val (.int (Int32.ofNat n))] [])) _
    refine XS.iloadN X0.here hx rfl (hb hby d1_5) rfl ?_
    show Steps p.tables e below (s₁.setTop (mkF m 6 #[.val (.int (Int32.ofNat n))] [(.int (Int32.ofNat n))])) _
    refine XS.i2l X0.here hx rfl (hb hby d1_6) rfl ?_
    show Steps p.tables e below (s₁.setTop (mkF m 7 #[.val (.int (Int32.ofNat n))] [(.long ((Int32.ofNat n).toInt64))])) _
    rw [hb1]
    refine XS.goto X0.here hx rfl (pc0 := 7) (pc' := 23) rfl (hb hby d1_7) (by decide) (by decide) ?_
    show Steps p.tables e below (s₁.setTop (mkF m 23 #[.val (.int (Int32.ofNat n))] [(.long (own_fib n))])) _
    exact X0.lreturnOut hx Bd.returns (hb hby d1_23) hr
  · exact ⟨rfl, N0, e0⟩
theorem d1_10 : decode prog_24_method_3_code 10 = .ok (.iload_n 0, 1) := by decide +kernel
theorem d1_11 : decode prog_24_method_3_code 11 = .ok (.iconst 1, 1) := by decide +kernel
theorem d1_12 : decode prog_24_method_3_code 12 = .ok (.isub, 1) := by decide +kernel
theorem pd_1_13 : parseMethodDescriptor "(I)J" = some ⟨[.int], some .long⟩ := by decide +kernel
theorem d1_13 : decode prog_24_method_3_code 13 = .ok (.invokestatic 13, 3) := by decide +kernel
theorem d1_16 : decode prog_24_method_3_code 16 = .ok (.iload_n 0, 1) := by decide +kernel
theorem d1_17 : decode prog_24_method_3_code 17 = .ok (.iconst 2, 1) := by decide +kernel
theorem d1_18 : decode prog_24_method_3_code 18 = .ok (.isub, 1) := by decide +kernel
theorem d1_19 : decode prog_24_method_3_code 19 = .ok (.invokestatic 13, 3) := by decide +kernel
theorem d1_22 : decode prog_24_method_3_code 22 = .ok (.ladd, 1) := by decide +kernel
set_option maxRecDepth 65536 in
set_option maxHeartbeats 40000000 in
theorem own_rm1b (l : Launch) (Z : State) (a0 : Array Value) (hw : ∀ d ∈ tables_1, d.before a0 Z = true) (ws : List Jvm.Cond) (k : Nat) (hc : (1 : Int32) < Int32.ofNat (k + 2)) (ih1 : ∀ (ws : List Jvm.Cond) (h0 : Heap) (n0 : Nat), MetFree l (⟨"com/example/mure/mure/bench/ForkJoinScaling$Fib", "recursive", "(I)J"⟩ : MethodName) (head1 (Jvm.Cond.code (⟨"com/example/mure/mure/bench/ForkJoinScaling$Fib", "recursive", "(I)J"⟩ : MethodName) prog_24_method_3_code 1 (some .long) :: ws) (own_room (k + 1))) (fun a U => a = #[(.int (Int32.ofNat (k + 1)))] ∧ Z.Warmed39 U.vm ∧ U.heap = h0) (fun _ _ _ _ _ => True) (fun _ U o U' => ∃ v L, o = .returned v ∧ (own_Q (some (.long (own_fib (k + 1)))) n0 h0 v U'.heap L) ∧ FrameEnd U o U' L (own_room (k + 1)).cells (own_room (k + 1)).slots)) (ih0 : ∀ (ws : List Jvm.Cond) (h0 : Heap) (n0 : Nat), MetFree l (⟨"com/example/mure/mure/bench/ForkJoinScaling$Fib", "recursive", "(I)J"⟩ : MethodName) (head1 (Jvm.Cond.code (⟨"com/example/mure/mure/bench/ForkJoinScaling$Fib", "recursive", "(I)J"⟩ : MethodName) prog_24_method_3_code 1 (some .long) :: ws) (own_room k)) (fun a U => a = #[(.int (Int32.ofNat k))] ∧ Z.Warmed39 U.vm ∧ U.heap = h0) (fun _ _ _ _ _ => True) (fun _ U o U' => ∃ v L, o = .returned v ∧ (own_Q (some (.long (own_fib k))) n0 h0 v U'.heap L) ∧ FrameEnd U o U' L (own_room k).cells (own_room k).slots)) (h0 : Heap) (n0 : Nat) :
    MetFree l (⟨"com/example/mure/mure/bench/ForkJoinScaling$Fib", "recursive", "(I)J"⟩ : MethodName) (head1 (Jvm.Cond.code (⟨"com/example/mure/mure/bench/ForkJoinScaling$Fib", "recursive", "(I)J"⟩ : MethodName) prog_24_method_3_code 1 (some .long) :: ws) (own_room (k + 2))) (fun a U => a = #[(.int (Int32.ofNat (k + 2)))] ∧ Z.Warmed39 U.vm ∧ U.heap = h0) (fun _ _ _ _ _ => True) (fun _ U o U' => ∃ v L, o = .returned v ∧ (own_Q (some (.long (own_fib (k + 2)))) n0 h0 v U'.heap L) ∧ FrameEnd U o U' L (own_room (k + 2)).cells (own_room (k + 2)).slots) := by
  refine MetFree.of_bodySF (plainFor_of_name pn_1) hisR ?_
  intro p e s m args below meth c s₁ Bd hml0 hP hK
  obtain ⟨rfl, hZ, hh⟩ := hP
  have hx := Bd.exec
  have hby := Bd.bytes
  have hml : c.maxLocals = 1 := hml0
  have hown : s.vm.findClass "com/example/mure/mure/bench/ForkJoinScaling$Fib" = some m.cls := findClass_of_methodNamed Bd.named
  have X0 : Stand p l e (own_room (k + 2)) s m #[(.int (Int32.ofNat (k + 2)))] below meth c s₁ [] 0 0 := Stand.of_body Bd
  have e0 : s₁.heap = h0 := by rw [← hh, Bd.state]; rfl
  have N0 := Fr.nil n0
  have pre0 : ∀ t, Steps p.tables e below (s₁.setTop (mkF m 0 #[.val (.int (Int32.ofNat (k + 2)))] [])) t → Steps p.tables e below (s₁.setTop (entryFrame m #[(.int (Int32.ofNat (k + 2)))] 1)) t := fun t kt_ => castTop (ef_1 m (Int32.ofNat (k + 2))) kt_
  obtain ⟨_, _, ⟨T1, L1, k1, n1⟩, -, X1, ⟨Lc1, hQ1, l1, y1, z1⟩, st1⟩ := Jvm.LawKit.callS X0 hx (y := (⟨"com/example/mure/mure/bench/ForkJoinScaling$Fib", "recursive", "(I)J"⟩ : MethodName)) hown (mvT hZ (hw _ (List.mem_of_getElem? (i := 24) rfl))) (mvT hZ (hw _ (List.mem_of_getElem? (i := 21) rfl))) (mvT hZ (hw _ (List.mem_of_getElem? (i := 22) rfl))) (mvT hZ (hw _ (List.mem_of_getElem? (i := 23) rfl))) (by decide) (backOf (W := 0) (ih1 [] h0 n0) hZ (hw _ (List.mem_of_getElem? (i := 23) rfl)) (hw _ (List.mem_of_getElem? (i := 22) rfl)) (by simp only [own_room]; omega) (by simp only [own_room]; omega)) (g := (mkF m 13 #[.val (.int (Int32.ofNat (k + 2)))] [(.int (Int32.ofNat (k + 1)))])) rfl (by rw [hml]; rfl) (argsL := [(.int (Int32.ofNat (k + 1)))]) (rest := []) (lenOf pd_1_13 rfl) rfl (by show 2 * 0 + _ ≤ _; exact Nat.le_of_eq rfl) (hb hby d1_13) (fun _ _ => ⟨rfl, e0, (Nat.le_refl _), (Nat.le_refl _)⟩)
  dsimp only [Pt.U, Pt.locs, Pt.cells, Pt.slots] at X1 l1 y1 z1 st1 hQ1
  subst l1 y1 z1
  obtain ⟨rfl, N1q, e1⟩ := hQ1
  have N1 := Fr.app N0 N1q
  obtain ⟨_, _, ⟨T2, L2, k2, n2⟩, -, X2, ⟨Lc2, hQ2, l2, y2, z2⟩, st2⟩ := Jvm.LawKit.callS X1 hx (y := (⟨"com/example/mure/mure/bench/ForkJoinScaling$Fib", "recursive", "(I)J"⟩ : MethodName)) hown (mvT hZ (hw _ (List.mem_of_getElem? (i := 24) rfl))) (mvT hZ (hw _ (List.mem_of_getElem? (i := 21) rfl))) (mvT hZ (hw _ (List.mem_of_getElem? (i := 22) rfl))) (mvT hZ (hw _ (List.mem_of_getElem? (i := 23) rfl))) (by decide) (backOf (W := 2) (ih0 [] h0 n0) hZ (hw _ (List.mem_of_getElem? (i := 23) rfl)) (hw _ (List.mem_of_getElem? (i := 22) rfl)) (by simp only [own_room]; omega) (by simp only [own_room]; omega)) (g := (mkF m 19 #[.val (.int (Int32.ofNat (k + 2)))] [(.int (Int32.ofNat k)), (.long (own_fib (k + 1)))])) rfl (by rw [hml]; rfl) (argsL := [(.int (Int32.ofNat k))]) (rest := [(.long (own_fib (k + 1)))]) (lenOf pd_1_13 rfl) rfl (by show 2 * 0 + _ ≤ _; exact Nat.le_of_eq rfl) (hb hby d1_19) (fun _ _ => ⟨rfl, e1, (Nat.le_refl _), (Nat.le_refl _)⟩)
  dsimp only [Pt.U, Pt.locs, Pt.cells, Pt.slots] at X2 l2 y2 z2 st2 hQ2
  subst l2 y2 z2
  obtain ⟨rfl, N2q, e2⟩ := hQ2
  have N2 := Fr.app N1 N2q
  obtain ⟨fs, hr, hrun, hended, hW, hsame⟩ := X2.leave (v := some (.long ((own_fib (k + 1)) + (own_fib k)))) (fun h => by rw [Bd.returns] at h; cases h)
  refine ⟨_, _, pre0 _ ?_, hrun, hended, _, _, rfl, ?_, ⟨_, rfl⟩, hW, hsame.mono (Nat.le_refl _) (Nat.le_refl _)⟩
  · show Steps p.tables e below (s₁.setTop (mkF m 0 #[.val (.int (Int32.ofNat (k + 2)))] [])) _
    refine XS.iloadN X0.here hx rfl (hb hby d1_0) rfl ?_
    show Steps p.tables e below (s₁.setTop (mkF m 1 #[.val (.int (Int32.ofNat (k + 2)))] [(.int (Int32.ofNat (k + 2)))])) _
    refine XS.iconst X0.here hx rfl (hb hby d1_1) ?_
    show Steps p.tables e below (s₁.setTop (mkF m 2 #[.val (.int (Int32.ofNat (k + 2)))] [(.int (1 : Int32)), (.int (Int32.ofNat (k + 2)))])) _
    refine XS.icmpYes X0.here hx rfl (pc0 := 2) (pc' := 10) rfl (hb hby d1_2) rfl (tlt hc).2.2.1 (by decide) (by decide) ?_
    show Steps p.tables e below (s₁.setTop (mkF m 10 #[.val (.int (Int32.ofNat (k + 2)))] [])) _
    refine XS.iloadN X0.here hx rfl (hb hby d1_10) rfl ?_
    show Steps p.tables e below (s₁.setTop (mkF m 11 #[.val (.int (Int32.ofNat (k + 2)))] [(.int (Int32.ofNat (k + 2)))])) _
    refine XS.iconst X0.here hx rfl (hb hby d1_11) ?_
    show Steps p.tables e below (s₁.setTop (mkF m 12 #[.val (.int (Int32.ofNat (k + 2)))] [(.int (1 : Int32)), (.int (Int32.ofNat (k + 2)))])) _
    refine XS.isub X0.here hx rfl (hb hby d1_12) rfl ?_
    show Steps p.tables e below (s₁.setTop (mkF m 13 #[.val (.int (Int32.ofNat (k + 2)))] [(.int ((Int32.ofNat (k + 2)) - (1 : Int32)))])) _
    rw [own_sub1]
    show Steps p.tables e below (s₁.setTop (mkF m 13 #[.val (.int (Int32.ofNat (k + 2)))] [(.int (Int32.ofNat (k + 1)))])) _
    refine st1 _ ?_
    show Steps p.tables e below (T1.setTop (mkF m 16 #[.val (.int (Int32.ofNat (k + 2)))] [(.long (own_fib (k + 1)))])) _
    refine XS.iloadN X1.here hx rfl (hb hby d1_16) rfl ?_
    show Steps p.tables e below (T1.setTop (mkF m 17 #[.val (.int (Int32.ofNat (k + 2)))] [(.int (Int32.ofNat (k + 2))), (.long (own_fib (k + 1)))])) _
    refine XS.iconst X1.here hx rfl (hb hby d1_17) ?_
    show Steps p.tables e below (T1.setTop (mkF m 18 #[.val (.int (Int32.ofNat (k + 2)))] [(.int (2 : Int32)), (.int (Int32.ofNat (k + 2))), (.long (own_fib (k + 1)))])) _
    refine XS.isub X1.here hx rfl (hb hby d1_18) rfl ?_
    show Steps p.tables e below (T1.setTop (mkF m 19 #[.val (.int (Int32.ofNat (k + 2)))] [(.int ((Int32.ofNat (k + 2)) - (2 : Int32))), (.long (own_fib (k + 1)))])) _
    rw [own_sub2]
    show Steps p.tables e below (T1.setTop (mkF m 19 #[.val (.int (Int32.ofNat (k + 2)))] [(.int (Int32.ofNat k)), (.long (own_fib (k + 1)))])) _
    refine st2 _ ?_
    show Steps p.tables e below (T2.setTop (mkF m 22 #[.val (.int (Int32.ofNat (k + 2)))] [(.long (own_fib k)), (.long (own_fib (k + 1)))])) _
    refine XS.ladd X2.here hx rfl (hb hby d1_22) rfl ?_
    show Steps p.tables e below (T2.setTop (mkF m 23 #[.val (.int (Int32.ofNat (k + 2)))] [(.long ((own_fib (k + 1)) + (own_fib k)))])) _
    exact X2.lreturnOut hx Bd.returns (hb hby d1_23) hr
  · exact ⟨rfl, N2, e2⟩
theorem own_rm1 (l : Launch) (Z : State) (a0 : Array Value) (hw : ∀ d ∈ tables_1, d.before a0 Z = true) (n : Nat) : n ≤ 20 → ∀ (ws : List Jvm.Cond) (h0 : Heap) (n0 : Nat), MetFree l (⟨"com/example/mure/mure/bench/ForkJoinScaling$Fib", "recursive", "(I)J"⟩ : MethodName) (head1 (Jvm.Cond.code (⟨"com/example/mure/mure/bench/ForkJoinScaling$Fib", "recursive", "(I)J"⟩ : MethodName) prog_24_method_3_code 1 (some .long) :: ws) (own_room n)) (fun a U => a = #[(.int (Int32.ofNat n))] ∧ Z.Warmed39 U.vm ∧ U.heap = h0) (fun _ _ _ _ _ => True) (fun _ U o U' => ∃ v L, o = .returned v ∧ (own_Q (some (.long (own_fib n))) n0 h0 v U'.heap L) ∧ FrameEnd U o U' L (own_room n).cells (own_room n).slots) := by
  induction n using Nat.strongRecOn with
  | _ n ih =>
    intro hn ws h0 n0
    match n, ih, hn with
    | 0, _, _ => exact own_rm1a l Z a0 hw ws 0 (by decide) (by decide) h0 n0
    | 1, _, _ => exact own_rm1a l Z a0 hw ws 1 (by decide) (by decide) h0 n0
    | k + 2, ih, hn => exact own_rm1b l Z a0 hw ws k ((own_gt ⟨k + 2, by omega⟩).mpr (by show 1 < k + 2; omega)) (ih (k + 1) (by omega) (by omega)) (ih k (by omega) (by omega)) h0 n0
def own_J (Z : State) (h : Heap) (a : Addr) (n : Nat) (f : Nat → Int64) : Prop := ∃ c : Cell, Arr Z h a c .long ∧ c.slots.size = n ∧ ∀ j, j < n → c.slots[j]? = some (.long (f j))
theorem own_J_in {Z : State} {h : Heap} {a : Addr} {c : Cell} {n k : Nat} {j : Int32} (hs : c.slots.size = n) (hj : ¬ j < 0) (hk : j.toNatClampNeg = k) (hlt : k < n) : ¬ (j < 0 ∨ c.slots.size ≤ j.toNatClampNeg) := by
  rintro (q | q)
  · exact hj q
  · omega
theorem own_J_new {Z : State} {h : Heap} {a : Addr} {cA : ClassId} {z : Int32} {n : Nat} (A : Arr Z h a (newA cA .long z) .long) (hn : z.toNatClampNeg = n) : own_J Z h a n (fun _ => 0) := by
  subst hn
  refine ⟨_, A, by simp [newA], fun j hj => ?_⟩
  simp only [newA]
  rw [Array.getElem?_eq_getElem (by simpa using hj), Array.getElem_replicate]
  rfl
theorem own_J_wr {Z : State} {h h' : Heap} {a : Addr} {n k : Nat} {f : Nat → Int64} {v : Int64} (V : own_J Z h a n f) (W : Wr h h' a k (.long v)) : own_J Z h' a n (fun i => if i = k then v else f i) := by
  obtain ⟨c, A, hs, hf⟩ := V
  refine ⟨_, Arr.same W A, by rw [sz_set, hs], fun j hj => ?_⟩
  show (c.slots.setIfInBounds k (.long v))[j]? = some (.long (if j = k then v else f j))
  by_cases e : j = k
  · subst e
    rw [if_pos rfl, Array.getElem?_setIfInBounds_self_of_lt (by omega)]
  · rw [if_neg e, Array.getElem?_setIfInBounds_ne (fun q => e q.symm)]
    exact hf j hj
theorem own_J_st {p : Program} {l : Launch} {e : Env} {R : Room} {s : State} {m : MethodId} {args : Array Value} {below : List Frame} {meth : Method} {c : Code} {T : State} {locs : List Loc} {cells slots : Nat} {Z : State} {h : Heap}
    (X : Stand p l e R s m args below meth c T locs cells slots) (hx : p.tables.exec = Jvm.exec) (hZ : Z.Warmed39 s.vm) (eT : T.heap = h) {a : Addr} {n k : Nat} {f : Nat → Int64} (V : own_J Z h a n f) {j : Int32} {x : Int64} (hj : ¬ j < 0) (hk : j.toNatClampNeg = k) (hlt : k < n)
    {g : JFrame} (hg : g.method = m) {rest : List Value} (hs : g.stack = .long x :: .int j :: .ref a :: rest) (hd : decode c.code g.pc = .ok (.lastore, 1)) :
    ∃ T' h', Stand p l e R s m args below meth c T' (locs ++ [⟨a, k⟩]) cells slots ∧ T'.heap = h' ∧ own_J Z h' a n (fun i => if i = k then x else f i) ∧ ∀ target, Steps p.tables e below (T'.setTop { g with pc := g.pc + 1, stack := rest }) target → Steps p.tables e below (T.setTop g) target := by
  obtain ⟨cl, A, hsz, hf⟩ := V
  obtain ⟨T', h', X', e', W, st⟩ := stJ X hx hZ eT A (j := j) (x := x) (own_J_in (Z := Z) (h := h) (a := a) hsz hj hk hlt) hg hs hd
  subst hk
  exact ⟨T', h', X', e', own_J_wr ⟨cl, A, hsz, hf⟩ W, st⟩

theorem pn_0 : plainName "com/example/mure/mure/bench/FibRecursivePinLaw" = true := by first | (simp [plainName, overriddenIn]; done) | decide +kernel
theorem ef_0 (m : MethodId) (x0 : Int32) : entryFrame m #[(.int x0)] maxLocals = mkF m 0 #[.val (.int x0), .unset, .unset] [] := by first | (simp [entryFrame, mkF, argsToLocals, Value.category, maxLocals]; done) | rfl
theorem pd_0_44 : parseMethodDescriptor "(I)J" = some ⟨[.int], some .long⟩ := by decide +kernel
theorem own_tab : ∀ n : Fin 21, (fun i : Nat => (if i = 20 then (6765 : Int64) else (if i = 19 then (4181 : Int64) else (if i = 18 then (2584 : Int64) else (if i = 17 then (1597 : Int64) else (if i = 16 then (987 : Int64) else (if i = 15 then (610 : Int64) else (if i = 14 then (377 : Int64) else (if i = 13 then (233 : Int64) else (if i = 12 then (144 : Int64) else (if i = 11 then (89 : Int64) else (if i = 10 then (55 : Int64) else (if i = 9 then (34 : Int64) else (if i = 8 then (21 : Int64) else (if i = 7 then (13 : Int64) else (if i = 6 then (8 : Int64) else (if i = 5 then (5 : Int64) else (if i = 4 then (3 : Int64) else (if i = 3 then (2 : Int64) else (if i = 2 then (1 : Int64) else (if i = 1 then (1 : Int64) else (if i = 0 then (0 : Int64) else (0 : Int64))))))))))))))))))))))) n.val = own_fib n.val := by decide +kernel
set_option maxRecDepth 65536 in
set_option maxHeartbeats 40000000 in
theorem own_rm0c (l : Launch) (Z : State) (a0 : Array Value) (hw : ∀ d ∈ tables_1, d.before a0 Z = true) (ws : List Jvm.Cond) (p1 : Int32) (n : Nat) (hn : n ≤ 20) (hnn : ((p1 &&& (2147483647 : Int32)) - ((p1 &&& (2147483647 : Int32)) / (21 : Int32)) * (21 : Int32)) = Int32.ofNat n) (h0 : Heap) (n0 : Nat) (Z0 : n0 ≤ h0.size) :
    MetFree l x (head1 (Jvm.Cond.code x code maxLocals ret :: ws) room_1) (fun a U => a = #[(.int p1)] ∧ Z.Warmed39 U.vm ∧ U.heap = h0) (fun _ _ _ _ _ => True) (fun _ U o U' => ∃ v L, o = .returned v ∧ (v = some (.int 1) ∧ Fr n0 L) ∧ FrameEnd U o U' L room_1.cells room_1.slots) := by
  refine MetFree.of_bodySF (plainFor_of_name pn_0) hisR ?_
  intro p e s m args below meth c s₁ Bd hml0 hP hK
  obtain ⟨rfl, hZ, hh⟩ := hP
  have hx := Bd.exec
  have hby := Bd.bytes
  have hml : c.maxLocals = 3 := hml0
  have hown : s.vm.findClass "com/example/mure/mure/bench/FibRecursivePinLaw" = some m.cls := findClass_of_methodNamed Bd.named
  have X0 : Stand p l e room_1 s m #[(.int p1)] below meth c s₁ [] 0 0 := Stand.of_body Bd
  have e0 : s₁.heap = h0 := by rw [← hh, Bd.state]; rfl
  have N0 := Fr.nil n0
  have pre0 : ∀ t, Steps p.tables e below (s₁.setTop (mkF m 0 #[.val (.int p1), .unset, .unset] [])) t → Steps p.tables e below (s₁.setTop (entryFrame m #[(.int p1)] maxLocals)) t := fun t kt_ => castTop (ef_0 m p1) kt_
  obtain ⟨T1, h1, cA1, X1, e1, E1, A1, st1⟩ := newP X0 hx hZ (hw _ (List.mem_of_getElem? (i := 1) rfl)) e0 (g := (mkF m 10 #[.val (.int p1), .val (.int (Int32.ofNat n)), .unset] [(.int (21 : Int32))])) rfl (hb hby at_10) rfl (by decide) (cap := 21) (by decide) (by decide) (by decide) (by decide)
  obtain ⟨b1, g1⟩ : ∃ z, z = h0.size := ⟨_, rfl⟩
  rw [← g1] at A1 st1
  have V1 := own_J_new A1 (n := 21) (by decide)
  have gb1 : n0 ≤ b1 := Nat.le_trans Z0 (Nat.le_of_eq g1.symm)
  obtain ⟨T2, h2, X2, e2, V2, st2⟩ := own_J_st X1 hx hZ e1 V1 (k := 0) (by decide) (by decide) (by decide) (g := (mkF m 15 #[.val (.int p1), .val (.int (Int32.ofNat n)), .unset] [(.long (0 : Int64)), (.int (0 : Int32)), (.ref b1), (.ref b1)])) rfl rfl (hb hby at_15)
  have N2 := Fr.snoc X2 N0 gb1
  obtain ⟨T3, h3, X3, e3, V3, st3⟩ := own_J_st X2 hx hZ e2 V2 (k := 1) (by decide) (by decide) (by decide) (g := (mkF m 19 #[.val (.int p1), .val (.int (Int32.ofNat n)), .unset] [(.long (1 : Int64)), (.int (1 : Int32)), (.ref b1), (.ref b1)])) rfl rfl (hb hby at_19)
  have N3 := Fr.snoc X3 N2 gb1
  obtain ⟨T4, h4, X4, e4, V4, st4⟩ := own_J_st X3 hx hZ e3 V3 (k := 2) (by decide) (by decide) (by decide) (g := (mkF m 23 #[.val (.int p1), .val (.int (Int32.ofNat n)), .unset] [(.long (1 : Int64)), (.int (2 : Int32)), (.ref b1), (.ref b1)])) rfl rfl (hb hby at_23)
  have N4 := Fr.snoc X4 N3 gb1
  obtain ⟨T5, h5, X5, e5, V5, st5⟩ := own_J_st X4 hx hZ e4 V4 (k := 3) (by decide) (by decide) (by decide) (g := (mkF m 29 #[.val (.int p1), .val (.int (Int32.ofNat n)), .unset] [(.long (2 : Int64)), (.int (3 : Int32)), (.ref b1), (.ref b1)])) rfl rfl (hb hby at_29)
  have N5 := Fr.snoc X5 N4 gb1
  obtain ⟨T6, h6, X6, e6, V6, st6⟩ := own_J_st X5 hx hZ e5 V5 (k := 4) (by decide) (by decide) (by decide) (g := (mkF m 35 #[.val (.int p1), .val (.int (Int32.ofNat n)), .unset] [(.long (3 : Int64)), (.int (4 : Int32)), (.ref b1), (.ref b1)])) rfl rfl (hb hby at_35)
  have N6 := Fr.snoc X6 N5 gb1
  obtain ⟨T7, h7, X7, e7, V7, st7⟩ := own_J_st X6 hx hZ e6 V6 (k := 5) (by decide) (by decide) (by decide) (g := (mkF m 41 #[.val (.int p1), .val (.int (Int32.ofNat n)), .unset] [(.long (5 : Int64)), (.int (5 : Int32)), (.ref b1), (.ref b1)])) rfl rfl (hb hby at_41)
  have N7 := Fr.snoc X7 N6 gb1
  obtain ⟨T8, h8, X8, e8, V8, st8⟩ := own_J_st X7 hx hZ e7 V7 (k := 6) (by decide) (by decide) (by decide) (g := (mkF m 48 #[.val (.int p1), .val (.int (Int32.ofNat n)), .unset] [(.long (8 : Int64)), (.int (6 : Int32)), (.ref b1), (.ref b1)])) rfl rfl (hb hby at_48)
  have N8 := Fr.snoc X8 N7 gb1
  obtain ⟨T9, h9, X9, e9, V9, st9⟩ := own_J_st X8 hx hZ e8 V8 (k := 7) (by decide) (by decide) (by decide) (g := (mkF m 55 #[.val (.int p1), .val (.int (Int32.ofNat n)), .unset] [(.long (13 : Int64)), (.int (7 : Int32)), (.ref b1), (.ref b1)])) rfl rfl (hb hby at_55)
  have N9 := Fr.snoc X9 N8 gb1
  obtain ⟨T10, h10, X10, e10, V10, st10⟩ := own_J_st X9 hx hZ e9 V9 (k := 8) (by decide) (by decide) (by decide) (g := (mkF m 62 #[.val (.int p1), .val (.int (Int32.ofNat n)), .unset] [(.long (21 : Int64)), (.int (8 : Int32)), (.ref b1), (.ref b1)])) rfl rfl (hb hby at_62)
  have N10 := Fr.snoc X10 N9 gb1
  obtain ⟨T11, h11, X11, e11, V11, st11⟩ := own_J_st X10 hx hZ e10 V10 (k := 9) (by decide) (by decide) (by decide) (g := (mkF m 69 #[.val (.int p1), .val (.int (Int32.ofNat n)), .unset] [(.long (34 : Int64)), (.int (9 : Int32)), (.ref b1), (.ref b1)])) rfl rfl (hb hby at_69)
  have N11 := Fr.snoc X11 N10 gb1
  obtain ⟨T12, h12, X12, e12, V12, st12⟩ := own_J_st X11 hx hZ e11 V11 (k := 10) (by decide) (by decide) (by decide) (g := (mkF m 76 #[.val (.int p1), .val (.int (Int32.ofNat n)), .unset] [(.long (55 : Int64)), (.int (10 : Int32)), (.ref b1), (.ref b1)])) rfl rfl (hb hby at_76)
  have N12 := Fr.snoc X12 N11 gb1
  obtain ⟨T13, h13, X13, e13, V13, st13⟩ := own_J_st X12 hx hZ e12 V12 (k := 11) (by decide) (by decide) (by decide) (g := (mkF m 83 #[.val (.int p1), .val (.int (Int32.ofNat n)), .unset] [(.long (89 : Int64)), (.int (11 : Int32)), (.ref b1), (.ref b1)])) rfl rfl (hb hby at_83)
  have N13 := Fr.snoc X13 N12 gb1
  obtain ⟨T14, h14, X14, e14, V14, st14⟩ := own_J_st X13 hx hZ e13 V13 (k := 12) (by decide) (by decide) (by decide) (g := (mkF m 90 #[.val (.int p1), .val (.int (Int32.ofNat n)), .unset] [(.long (144 : Int64)), (.int (12 : Int32)), (.ref b1), (.ref b1)])) rfl rfl (hb hby at_90)
  have N14 := Fr.snoc X14 N13 gb1
  obtain ⟨T15, h15, X15, e15, V15, st15⟩ := own_J_st X14 hx hZ e14 V14 (k := 13) (by decide) (by decide) (by decide) (g := (mkF m 97 #[.val (.int p1), .val (.int (Int32.ofNat n)), .unset] [(.long (233 : Int64)), (.int (13 : Int32)), (.ref b1), (.ref b1)])) rfl rfl (hb hby at_97)
  have N15 := Fr.snoc X15 N14 gb1
  obtain ⟨T16, h16, X16, e16, V16, st16⟩ := own_J_st X15 hx hZ e15 V15 (k := 14) (by decide) (by decide) (by decide) (g := (mkF m 104 #[.val (.int p1), .val (.int (Int32.ofNat n)), .unset] [(.long (377 : Int64)), (.int (14 : Int32)), (.ref b1), (.ref b1)])) rfl rfl (hb hby at_104)
  have N16 := Fr.snoc X16 N15 gb1
  obtain ⟨T17, h17, X17, e17, V17, st17⟩ := own_J_st X16 hx hZ e16 V16 (k := 15) (by decide) (by decide) (by decide) (g := (mkF m 111 #[.val (.int p1), .val (.int (Int32.ofNat n)), .unset] [(.long (610 : Int64)), (.int (15 : Int32)), (.ref b1), (.ref b1)])) rfl rfl (hb hby at_111)
  have N17 := Fr.snoc X17 N16 gb1
  obtain ⟨T18, h18, X18, e18, V18, st18⟩ := own_J_st X17 hx hZ e17 V17 (k := 16) (by decide) (by decide) (by decide) (g := (mkF m 118 #[.val (.int p1), .val (.int (Int32.ofNat n)), .unset] [(.long (987 : Int64)), (.int (16 : Int32)), (.ref b1), (.ref b1)])) rfl rfl (hb hby at_118)
  have N18 := Fr.snoc X18 N17 gb1
  obtain ⟨T19, h19, X19, e19, V19, st19⟩ := own_J_st X18 hx hZ e18 V18 (k := 17) (by decide) (by decide) (by decide) (g := (mkF m 125 #[.val (.int p1), .val (.int (Int32.ofNat n)), .unset] [(.long (1597 : Int64)), (.int (17 : Int32)), (.ref b1), (.ref b1)])) rfl rfl (hb hby at_125)
  have N19 := Fr.snoc X19 N18 gb1
  obtain ⟨T20, h20, X20, e20, V20, st20⟩ := own_J_st X19 hx hZ e19 V19 (k := 18) (by decide) (by decide) (by decide) (g := (mkF m 132 #[.val (.int p1), .val (.int (Int32.ofNat n)), .unset] [(.long (2584 : Int64)), (.int (18 : Int32)), (.ref b1), (.ref b1)])) rfl rfl (hb hby at_132)
  have N20 := Fr.snoc X20 N19 gb1
  obtain ⟨T21, h21, X21, e21, V21, st21⟩ := own_J_st X20 hx hZ e20 V20 (k := 19) (by decide) (by decide) (by decide) (g := (mkF m 139 #[.val (.int p1), .val (.int (Int32.ofNat n)), .unset] [(.long (4181 : Int64)), (.int (19 : Int32)), (.ref b1), (.ref b1)])) rfl rfl (hb hby at_139)
  have N21 := Fr.snoc X21 N20 gb1
  obtain ⟨T22, h22, X22, e22, V22, st22⟩ := own_J_st X21 hx hZ e21 V21 (k := 20) (by decide) (by decide) (by decide) (g := (mkF m 146 #[.val (.int p1), .val (.int (Int32.ofNat n)), .unset] [(.long (6765 : Int64)), (.int (20 : Int32)), (.ref b1), (.ref b1)])) rfl rfl (hb hby at_146)
  have N22 := Fr.snoc X22 N21 gb1
  have hcl : 0 + 1 + (own_room n).cells ≤ room_1.cells := by simp only [own_room, room_1]; omega
  have hsl : 0 + 21 + (own_room n).slots ≤ room_1.slots := by simp only [own_room, room_1]; omega
  obtain ⟨_, _, ⟨T23, L23, k23, n23⟩, -, X23, ⟨Lc23, hQ23, l23, y23, z23⟩, st23⟩ := Jvm.LawKit.callS X22 hx (y := (⟨"com/example/mure/mure/bench/ForkJoinScaling$Fib", "recursive", "(I)J"⟩ : MethodName)) hown (mvT hZ (hw _ (List.mem_of_getElem? (i := 20) rfl))) (mvT hZ (hw _ (List.mem_of_getElem? (i := 21) rfl))) (mvT hZ (hw _ (List.mem_of_getElem? (i := 22) rfl))) (mvT hZ (hw _ (List.mem_of_getElem? (i := 23) rfl))) (by decide) (backOf (W := 0) (own_rm1 l Z a0 hw n hn [] h22 n0) hZ (hw _ (List.mem_of_getElem? (i := 23) rfl)) (hw _ (List.mem_of_getElem? (i := 22) rfl)) (by simp only [own_room, room_1]; omega) (by simp only [own_room, room_1]; omega)) (g := (mkF m 149 #[.val (.int p1), .val (.int (Int32.ofNat n)), .val (.ref b1)] [(.int (Int32.ofNat n))])) rfl (by rw [hml]; rfl) (argsL := [(.int (Int32.ofNat n))]) (rest := []) (lenOf pd_0_44 rfl) rfl (by show 2 * 0 + _ ≤ _; exact Nat.le_of_eq rfl) (hb hby at_149) (fun _ _ => ⟨rfl, e22, hcl, hsl⟩)
  dsimp only [Pt.U, Pt.locs, Pt.cells, Pt.slots] at X23 l23 y23 z23 st23 hQ23
  subst l23 y23 z23
  obtain ⟨rfl, N23q, e23⟩ := hQ23
  have N23 := Fr.app N22 N23q
  obtain ⟨cl, Ar, Sz, Hf⟩ := V22
  have hpl := own_place ⟨n, by omega⟩
  have hin := own_J_in (Z := Z) (h := h22) (a := b1) Sz hpl.1 hpl.2 (show n < 21 by omega)
  have hat : cl.slots[(Int32.ofNat n).toNatClampNeg]? = some (.long (own_fib n)) := by
    rw [show (Int32.ofNat n).toNatClampNeg = n from hpl.2, Hf n (by omega)]
    exact congrArg (fun z => some (Value.long z)) (own_tab ⟨n, by omega⟩)
  obtain ⟨fs, hr, hrun, hended, hW, hsame⟩ := X23.leave (v := some (.int (1 : Int32))) (fun h => by rw [Bd.returns] at h; cases h)
  refine ⟨_, _, pre0 _ ?_, hrun, hended, _, _, rfl, ?_, ⟨_, rfl⟩, hW, hsame.mono (by decide) (by decide)⟩
  · show Steps p.tables e below (s₁.setTop (mkF m 0 #[.val (.int p1), .unset, .unset] [])) _
    refine XS.iloadN X0.here hx rfl (hb hby at_0) rfl ?_
    show Steps p.tables e below (s₁.setTop (mkF m 1 #[.val (.int p1), .unset, .unset] [(.int p1)])) _
    refine X0.ldcInt hx hown (mvT hZ (hw _ (List.mem_of_getElem? (i := 0) rfl))) (g := (mkF m 1 #[.val (.int p1), .unset, .unset] [(.int p1)])) rfl (hb hby at_1) _ ?_
    show Steps p.tables e below (s₁.setTop (mkF m 3 #[.val (.int p1), .unset, .unset] [(.int (2147483647 : Int32)), (.int p1)])) _
    refine XS.iand X0.here hx rfl (hb hby at_3) rfl ?_
    show Steps p.tables e below (s₁.setTop (mkF m 4 #[.val (.int p1), .unset, .unset] [(.int (p1 &&& (2147483647 : Int32)))])) _
    refine XS.bipush X0.here hx rfl (hb hby at_4) ?_
    show Steps p.tables e below (s₁.setTop (mkF m 6 #[.val (.int p1), .unset, .unset] [(.int (21 : Int32)), (.int (p1 &&& (2147483647 : Int32)))])) _
    refine XS.irem X0.here hx rfl (hb hby at_6) rfl (by decide) ?_
    show Steps p.tables e below (s₁.setTop (mkF m 7 #[.val (.int p1), .unset, .unset] [(.int ((p1 &&& (2147483647 : Int32)) - ((p1 &&& (2147483647 : Int32)) / (21 : Int32)) * (21 : Int32)))])) _
    rw [hnn]
    show Steps p.tables e below (s₁.setTop (mkF m 7 #[.val (.int p1), .unset, .unset] [(.int (Int32.ofNat n))])) _
    refine XS.istoreN X0.here hx rfl (hb hby at_7) rfl (l' := #[.val (.int p1), .val (.int (Int32.ofNat n)), .unset]) rfl ?_
    show Steps p.tables e below (s₁.setTop (mkF m 8 #[.val (.int p1), .val (.int (Int32.ofNat n)), .unset] [])) _
    refine XS.bipush X0.here hx rfl (hb hby at_8) ?_
    show Steps p.tables e below (s₁.setTop (mkF m 10 #[.val (.int p1), .val (.int (Int32.ofNat n)), .unset] [(.int (21 : Int32))])) _
    refine st1 _ ?_
    show Steps p.tables e below (T1.setTop (mkF m 12 #[.val (.int p1), .val (.int (Int32.ofNat n)), .unset] [(.ref b1)])) _
    refine XS.dup X1.here hx rfl (hb hby at_12) rfl rfl ?_
    show Steps p.tables e below (T1.setTop (mkF m 13 #[.val (.int p1), .val (.int (Int32.ofNat n)), .unset] [(.ref b1), (.ref b1)])) _
    refine XS.iconst X1.here hx rfl (hb hby at_13) ?_
    show Steps p.tables e below (T1.setTop (mkF m 14 #[.val (.int p1), .val (.int (Int32.ofNat n)), .unset] [(.int (0 : Int32)), (.ref b1), (.ref b1)])) _
    refine XS.lconst X1.here hx rfl (hb hby at_14) ?_
    show Steps p.tables e below (T1.setTop (mkF m 15 #[.val (.int p1), .val (.int (Int32.ofNat n)), .unset] [(.long (0 : Int64)), (.int (0 : Int32)), (.ref b1), (.ref b1)])) _
    refine st2 _ ?_
    show Steps p.tables e below (T2.setTop (mkF m 16 #[.val (.int p1), .val (.int (Int32.ofNat n)), .unset] [(.ref b1)])) _
    refine XS.dup X2.here hx rfl (hb hby at_16) rfl rfl ?_
    show Steps p.tables e below (T2.setTop (mkF m 17 #[.val (.int p1), .val (.int (Int32.ofNat n)), .unset] [(.ref b1), (.ref b1)])) _
    refine XS.iconst X2.here hx rfl (hb hby at_17) ?_
    show Steps p.tables e below (T2.setTop (mkF m 18 #[.val (.int p1), .val (.int (Int32.ofNat n)), .unset] [(.int (1 : Int32)), (.ref b1), (.ref b1)])) _
    refine XS.lconst X2.here hx rfl (hb hby at_18) ?_
    show Steps p.tables e below (T2.setTop (mkF m 19 #[.val (.int p1), .val (.int (Int32.ofNat n)), .unset] [(.long (1 : Int64)), (.int (1 : Int32)), (.ref b1), (.ref b1)])) _
    refine st3 _ ?_
    show Steps p.tables e below (T3.setTop (mkF m 20 #[.val (.int p1), .val (.int (Int32.ofNat n)), .unset] [(.ref b1)])) _
    refine XS.dup X3.here hx rfl (hb hby at_20) rfl rfl ?_
    show Steps p.tables e below (T3.setTop (mkF m 21 #[.val (.int p1), .val (.int (Int32.ofNat n)), .unset] [(.ref b1), (.ref b1)])) _
    refine XS.iconst X3.here hx rfl (hb hby at_21) ?_
    show Steps p.tables e below (T3.setTop (mkF m 22 #[.val (.int p1), .val (.int (Int32.ofNat n)), .unset] [(.int (2 : Int32)), (.ref b1), (.ref b1)])) _
    refine XS.lconst X3.here hx rfl (hb hby at_22) ?_
    show Steps p.tables e below (T3.setTop (mkF m 23 #[.val (.int p1), .val (.int (Int32.ofNat n)), .unset] [(.long (1 : Int64)), (.int (2 : Int32)), (.ref b1), (.ref b1)])) _
    refine st4 _ ?_
    show Steps p.tables e below (T4.setTop (mkF m 24 #[.val (.int p1), .val (.int (Int32.ofNat n)), .unset] [(.ref b1)])) _
    refine XS.dup X4.here hx rfl (hb hby at_24) rfl rfl ?_
    show Steps p.tables e below (T4.setTop (mkF m 25 #[.val (.int p1), .val (.int (Int32.ofNat n)), .unset] [(.ref b1), (.ref b1)])) _
    refine XS.iconst X4.here hx rfl (hb hby at_25) ?_
    show Steps p.tables e below (T4.setTop (mkF m 26 #[.val (.int p1), .val (.int (Int32.ofNat n)), .unset] [(.int (3 : Int32)), (.ref b1), (.ref b1)])) _
    refine X4.ldc2Long hx hown (mvT hZ (hw _ (List.mem_of_getElem? (i := 2) rfl))) (g := (mkF m 26 #[.val (.int p1), .val (.int (Int32.ofNat n)), .unset] [(.int (3 : Int32)), (.ref b1), (.ref b1)])) rfl (hb hby at_26) _ ?_
    show Steps p.tables e below (T4.setTop (mkF m 29 #[.val (.int p1), .val (.int (Int32.ofNat n)), .unset] [(.long (2 : Int64)), (.int (3 : Int32)), (.ref b1), (.ref b1)])) _
    refine st5 _ ?_
    show Steps p.tables e below (T5.setTop (mkF m 30 #[.val (.int p1), .val (.int (Int32.ofNat n)), .unset] [(.ref b1)])) _
    refine XS.dup X5.here hx rfl (hb hby at_30) rfl rfl ?_
    show Steps p.tables e below (T5.setTop (mkF m 31 #[.val (.int p1), .val (.int (Int32.ofNat n)), .unset] [(.ref b1), (.ref b1)])) _
    refine XS.iconst X5.here hx rfl (hb hby at_31) ?_
    show Steps p.tables e below (T5.setTop (mkF m 32 #[.val (.int p1), .val (.int (Int32.ofNat n)), .unset] [(.int (4 : Int32)), (.ref b1), (.ref b1)])) _
    refine X5.ldc2Long hx hown (mvT hZ (hw _ (List.mem_of_getElem? (i := 3) rfl))) (g := (mkF m 32 #[.val (.int p1), .val (.int (Int32.ofNat n)), .unset] [(.int (4 : Int32)), (.ref b1), (.ref b1)])) rfl (hb hby at_32) _ ?_
    show Steps p.tables e below (T5.setTop (mkF m 35 #[.val (.int p1), .val (.int (Int32.ofNat n)), .unset] [(.long (3 : Int64)), (.int (4 : Int32)), (.ref b1), (.ref b1)])) _
    refine st6 _ ?_
    show Steps p.tables e below (T6.setTop (mkF m 36 #[.val (.int p1), .val (.int (Int32.ofNat n)), .unset] [(.ref b1)])) _
    refine XS.dup X6.here hx rfl (hb hby at_36) rfl rfl ?_
    show Steps p.tables e below (T6.setTop (mkF m 37 #[.val (.int p1), .val (.int (Int32.ofNat n)), .unset] [(.ref b1), (.ref b1)])) _
    refine XS.iconst X6.here hx rfl (hb hby at_37) ?_
    show Steps p.tables e below (T6.setTop (mkF m 38 #[.val (.int p1), .val (.int (Int32.ofNat n)), .unset] [(.int (5 : Int32)), (.ref b1), (.ref b1)])) _
    refine X6.ldc2Long hx hown (mvT hZ (hw _ (List.mem_of_getElem? (i := 4) rfl))) (g := (mkF m 38 #[.val (.int p1), .val (.int (Int32.ofNat n)), .unset] [(.int (5 : Int32)), (.ref b1), (.ref b1)])) rfl (hb hby at_38) _ ?_
    show Steps p.tables e below (T6.setTop (mkF m 41 #[.val (.int p1), .val (.int (Int32.ofNat n)), .unset] [(.long (5 : Int64)), (.int (5 : Int32)), (.ref b1), (.ref b1)])) _
    refine st7 _ ?_
    show Steps p.tables e below (T7.setTop (mkF m 42 #[.val (.int p1), .val (.int (Int32.ofNat n)), .unset] [(.ref b1)])) _
    refine XS.dup X7.here hx rfl (hb hby at_42) rfl rfl ?_
    show Steps p.tables e below (T7.setTop (mkF m 43 #[.val (.int p1), .val (.int (Int32.ofNat n)), .unset] [(.ref b1), (.ref b1)])) _
    refine XS.bipush X7.here hx rfl (hb hby at_43) ?_
    show Steps p.tables e below (T7.setTop (mkF m 45 #[.val (.int p1), .val (.int (Int32.ofNat n)), .unset] [(.int (6 : Int32)), (.ref b1), (.ref b1)])) _
    refine X7.ldc2Long hx hown (mvT hZ (hw _ (List.mem_of_getElem? (i := 5) rfl))) (g := (mkF m 45 #[.val (.int p1), .val (.int (Int32.ofNat n)), .unset] [(.int (6 : Int32)), (.ref b1), (.ref b1)])) rfl (hb hby at_45) _ ?_
    show Steps p.tables e below (T7.setTop (mkF m 48 #[.val (.int p1), .val (.int (Int32.ofNat n)), .unset] [(.long (8 : Int64)), (.int (6 : Int32)), (.ref b1), (.ref b1)])) _
    refine st8 _ ?_
    show Steps p.tables e below (T8.setTop (mkF m 49 #[.val (.int p1), .val (.int (Int32.ofNat n)), .unset] [(.ref b1)])) _
    refine XS.dup X8.here hx rfl (hb hby at_49) rfl rfl ?_
    show Steps p.tables e below (T8.setTop (mkF m 50 #[.val (.int p1), .val (.int (Int32.ofNat n)), .unset] [(.ref b1), (.ref b1)])) _
    refine XS.bipush X8.here hx rfl (hb hby at_50) ?_
    show Steps p.tables e below (T8.setTop (mkF m 52 #[.val (.int p1), .val (.int (Int32.ofNat n)), .unset] [(.int (7 : Int32)), (.ref b1), (.ref b1)])) _
    refine X8.ldc2Long hx hown (mvT hZ (hw _ (List.mem_of_getElem? (i := 6) rfl))) (g := (mkF m 52 #[.val (.int p1), .val (.int (Int32.ofNat n)), .unset] [(.int (7 : Int32)), (.ref b1), (.ref b1)])) rfl (hb hby at_52) _ ?_
    show Steps p.tables e below (T8.setTop (mkF m 55 #[.val (.int p1), .val (.int (Int32.ofNat n)), .unset] [(.long (13 : Int64)), (.int (7 : Int32)), (.ref b1), (.ref b1)])) _
    refine st9 _ ?_
    show Steps p.tables e below (T9.setTop (mkF m 56 #[.val (.int p1), .val (.int (Int32.ofNat n)), .unset] [(.ref b1)])) _
    refine XS.dup X9.here hx rfl (hb hby at_56) rfl rfl ?_
    show Steps p.tables e below (T9.setTop (mkF m 57 #[.val (.int p1), .val (.int (Int32.ofNat n)), .unset] [(.ref b1), (.ref b1)])) _
    refine XS.bipush X9.here hx rfl (hb hby at_57) ?_
    show Steps p.tables e below (T9.setTop (mkF m 59 #[.val (.int p1), .val (.int (Int32.ofNat n)), .unset] [(.int (8 : Int32)), (.ref b1), (.ref b1)])) _
    refine X9.ldc2Long hx hown (mvT hZ (hw _ (List.mem_of_getElem? (i := 7) rfl))) (g := (mkF m 59 #[.val (.int p1), .val (.int (Int32.ofNat n)), .unset] [(.int (8 : Int32)), (.ref b1), (.ref b1)])) rfl (hb hby at_59) _ ?_
    show Steps p.tables e below (T9.setTop (mkF m 62 #[.val (.int p1), .val (.int (Int32.ofNat n)), .unset] [(.long (21 : Int64)), (.int (8 : Int32)), (.ref b1), (.ref b1)])) _
    refine st10 _ ?_
    show Steps p.tables e below (T10.setTop (mkF m 63 #[.val (.int p1), .val (.int (Int32.ofNat n)), .unset] [(.ref b1)])) _
    refine XS.dup X10.here hx rfl (hb hby at_63) rfl rfl ?_
    show Steps p.tables e below (T10.setTop (mkF m 64 #[.val (.int p1), .val (.int (Int32.ofNat n)), .unset] [(.ref b1), (.ref b1)])) _
    refine XS.bipush X10.here hx rfl (hb hby at_64) ?_
    show Steps p.tables e below (T10.setTop (mkF m 66 #[.val (.int p1), .val (.int (Int32.ofNat n)), .unset] [(.int (9 : Int32)), (.ref b1), (.ref b1)])) _
    refine X10.ldc2Long hx hown (mvT hZ (hw _ (List.mem_of_getElem? (i := 8) rfl))) (g := (mkF m 66 #[.val (.int p1), .val (.int (Int32.ofNat n)), .unset] [(.int (9 : Int32)), (.ref b1), (.ref b1)])) rfl (hb hby at_66) _ ?_
    show Steps p.tables e below (T10.setTop (mkF m 69 #[.val (.int p1), .val (.int (Int32.ofNat n)), .unset] [(.long (34 : Int64)), (.int (9 : Int32)), (.ref b1), (.ref b1)])) _
    refine st11 _ ?_
    show Steps p.tables e below (T11.setTop (mkF m 70 #[.val (.int p1), .val (.int (Int32.ofNat n)), .unset] [(.ref b1)])) _
    refine XS.dup X11.here hx rfl (hb hby at_70) rfl rfl ?_
    show Steps p.tables e below (T11.setTop (mkF m 71 #[.val (.int p1), .val (.int (Int32.ofNat n)), .unset] [(.ref b1), (.ref b1)])) _
    refine XS.bipush X11.here hx rfl (hb hby at_71) ?_
    show Steps p.tables e below (T11.setTop (mkF m 73 #[.val (.int p1), .val (.int (Int32.ofNat n)), .unset] [(.int (10 : Int32)), (.ref b1), (.ref b1)])) _
    refine X11.ldc2Long hx hown (mvT hZ (hw _ (List.mem_of_getElem? (i := 9) rfl))) (g := (mkF m 73 #[.val (.int p1), .val (.int (Int32.ofNat n)), .unset] [(.int (10 : Int32)), (.ref b1), (.ref b1)])) rfl (hb hby at_73) _ ?_
    show Steps p.tables e below (T11.setTop (mkF m 76 #[.val (.int p1), .val (.int (Int32.ofNat n)), .unset] [(.long (55 : Int64)), (.int (10 : Int32)), (.ref b1), (.ref b1)])) _
    refine st12 _ ?_
    show Steps p.tables e below (T12.setTop (mkF m 77 #[.val (.int p1), .val (.int (Int32.ofNat n)), .unset] [(.ref b1)])) _
    refine XS.dup X12.here hx rfl (hb hby at_77) rfl rfl ?_
    show Steps p.tables e below (T12.setTop (mkF m 78 #[.val (.int p1), .val (.int (Int32.ofNat n)), .unset] [(.ref b1), (.ref b1)])) _
    refine XS.bipush X12.here hx rfl (hb hby at_78) ?_
    show Steps p.tables e below (T12.setTop (mkF m 80 #[.val (.int p1), .val (.int (Int32.ofNat n)), .unset] [(.int (11 : Int32)), (.ref b1), (.ref b1)])) _
    refine X12.ldc2Long hx hown (mvT hZ (hw _ (List.mem_of_getElem? (i := 10) rfl))) (g := (mkF m 80 #[.val (.int p1), .val (.int (Int32.ofNat n)), .unset] [(.int (11 : Int32)), (.ref b1), (.ref b1)])) rfl (hb hby at_80) _ ?_
    show Steps p.tables e below (T12.setTop (mkF m 83 #[.val (.int p1), .val (.int (Int32.ofNat n)), .unset] [(.long (89 : Int64)), (.int (11 : Int32)), (.ref b1), (.ref b1)])) _
    refine st13 _ ?_
    show Steps p.tables e below (T13.setTop (mkF m 84 #[.val (.int p1), .val (.int (Int32.ofNat n)), .unset] [(.ref b1)])) _
    refine XS.dup X13.here hx rfl (hb hby at_84) rfl rfl ?_
    show Steps p.tables e below (T13.setTop (mkF m 85 #[.val (.int p1), .val (.int (Int32.ofNat n)), .unset] [(.ref b1), (.ref b1)])) _
    refine XS.bipush X13.here hx rfl (hb hby at_85) ?_
    show Steps p.tables e below (T13.setTop (mkF m 87 #[.val (.int p1), .val (.int (Int32.ofNat n)), .unset] [(.int (12 : Int32)), (.ref b1), (.ref b1)])) _
    refine X13.ldc2Long hx hown (mvT hZ (hw _ (List.mem_of_getElem? (i := 11) rfl))) (g := (mkF m 87 #[.val (.int p1), .val (.int (Int32.ofNat n)), .unset] [(.int (12 : Int32)), (.ref b1), (.ref b1)])) rfl (hb hby at_87) _ ?_
    show Steps p.tables e below (T13.setTop (mkF m 90 #[.val (.int p1), .val (.int (Int32.ofNat n)), .unset] [(.long (144 : Int64)), (.int (12 : Int32)), (.ref b1), (.ref b1)])) _
    refine st14 _ ?_
    show Steps p.tables e below (T14.setTop (mkF m 91 #[.val (.int p1), .val (.int (Int32.ofNat n)), .unset] [(.ref b1)])) _
    refine XS.dup X14.here hx rfl (hb hby at_91) rfl rfl ?_
    show Steps p.tables e below (T14.setTop (mkF m 92 #[.val (.int p1), .val (.int (Int32.ofNat n)), .unset] [(.ref b1), (.ref b1)])) _
    refine XS.bipush X14.here hx rfl (hb hby at_92) ?_
    show Steps p.tables e below (T14.setTop (mkF m 94 #[.val (.int p1), .val (.int (Int32.ofNat n)), .unset] [(.int (13 : Int32)), (.ref b1), (.ref b1)])) _
    refine X14.ldc2Long hx hown (mvT hZ (hw _ (List.mem_of_getElem? (i := 12) rfl))) (g := (mkF m 94 #[.val (.int p1), .val (.int (Int32.ofNat n)), .unset] [(.int (13 : Int32)), (.ref b1), (.ref b1)])) rfl (hb hby at_94) _ ?_
    show Steps p.tables e below (T14.setTop (mkF m 97 #[.val (.int p1), .val (.int (Int32.ofNat n)), .unset] [(.long (233 : Int64)), (.int (13 : Int32)), (.ref b1), (.ref b1)])) _
    refine st15 _ ?_
    show Steps p.tables e below (T15.setTop (mkF m 98 #[.val (.int p1), .val (.int (Int32.ofNat n)), .unset] [(.ref b1)])) _
    refine XS.dup X15.here hx rfl (hb hby at_98) rfl rfl ?_
    show Steps p.tables e below (T15.setTop (mkF m 99 #[.val (.int p1), .val (.int (Int32.ofNat n)), .unset] [(.ref b1), (.ref b1)])) _
    refine XS.bipush X15.here hx rfl (hb hby at_99) ?_
    show Steps p.tables e below (T15.setTop (mkF m 101 #[.val (.int p1), .val (.int (Int32.ofNat n)), .unset] [(.int (14 : Int32)), (.ref b1), (.ref b1)])) _
    refine X15.ldc2Long hx hown (mvT hZ (hw _ (List.mem_of_getElem? (i := 13) rfl))) (g := (mkF m 101 #[.val (.int p1), .val (.int (Int32.ofNat n)), .unset] [(.int (14 : Int32)), (.ref b1), (.ref b1)])) rfl (hb hby at_101) _ ?_
    show Steps p.tables e below (T15.setTop (mkF m 104 #[.val (.int p1), .val (.int (Int32.ofNat n)), .unset] [(.long (377 : Int64)), (.int (14 : Int32)), (.ref b1), (.ref b1)])) _
    refine st16 _ ?_
    show Steps p.tables e below (T16.setTop (mkF m 105 #[.val (.int p1), .val (.int (Int32.ofNat n)), .unset] [(.ref b1)])) _
    refine XS.dup X16.here hx rfl (hb hby at_105) rfl rfl ?_
    show Steps p.tables e below (T16.setTop (mkF m 106 #[.val (.int p1), .val (.int (Int32.ofNat n)), .unset] [(.ref b1), (.ref b1)])) _
    refine XS.bipush X16.here hx rfl (hb hby at_106) ?_
    show Steps p.tables e below (T16.setTop (mkF m 108 #[.val (.int p1), .val (.int (Int32.ofNat n)), .unset] [(.int (15 : Int32)), (.ref b1), (.ref b1)])) _
    refine X16.ldc2Long hx hown (mvT hZ (hw _ (List.mem_of_getElem? (i := 14) rfl))) (g := (mkF m 108 #[.val (.int p1), .val (.int (Int32.ofNat n)), .unset] [(.int (15 : Int32)), (.ref b1), (.ref b1)])) rfl (hb hby at_108) _ ?_
    show Steps p.tables e below (T16.setTop (mkF m 111 #[.val (.int p1), .val (.int (Int32.ofNat n)), .unset] [(.long (610 : Int64)), (.int (15 : Int32)), (.ref b1), (.ref b1)])) _
    refine st17 _ ?_
    show Steps p.tables e below (T17.setTop (mkF m 112 #[.val (.int p1), .val (.int (Int32.ofNat n)), .unset] [(.ref b1)])) _
    refine XS.dup X17.here hx rfl (hb hby at_112) rfl rfl ?_
    show Steps p.tables e below (T17.setTop (mkF m 113 #[.val (.int p1), .val (.int (Int32.ofNat n)), .unset] [(.ref b1), (.ref b1)])) _
    refine XS.bipush X17.here hx rfl (hb hby at_113) ?_
    show Steps p.tables e below (T17.setTop (mkF m 115 #[.val (.int p1), .val (.int (Int32.ofNat n)), .unset] [(.int (16 : Int32)), (.ref b1), (.ref b1)])) _
    refine X17.ldc2Long hx hown (mvT hZ (hw _ (List.mem_of_getElem? (i := 15) rfl))) (g := (mkF m 115 #[.val (.int p1), .val (.int (Int32.ofNat n)), .unset] [(.int (16 : Int32)), (.ref b1), (.ref b1)])) rfl (hb hby at_115) _ ?_
    show Steps p.tables e below (T17.setTop (mkF m 118 #[.val (.int p1), .val (.int (Int32.ofNat n)), .unset] [(.long (987 : Int64)), (.int (16 : Int32)), (.ref b1), (.ref b1)])) _
    refine st18 _ ?_
    show Steps p.tables e below (T18.setTop (mkF m 119 #[.val (.int p1), .val (.int (Int32.ofNat n)), .unset] [(.ref b1)])) _
    refine XS.dup X18.here hx rfl (hb hby at_119) rfl rfl ?_
    show Steps p.tables e below (T18.setTop (mkF m 120 #[.val (.int p1), .val (.int (Int32.ofNat n)), .unset] [(.ref b1), (.ref b1)])) _
    refine XS.bipush X18.here hx rfl (hb hby at_120) ?_
    show Steps p.tables e below (T18.setTop (mkF m 122 #[.val (.int p1), .val (.int (Int32.ofNat n)), .unset] [(.int (17 : Int32)), (.ref b1), (.ref b1)])) _
    refine X18.ldc2Long hx hown (mvT hZ (hw _ (List.mem_of_getElem? (i := 16) rfl))) (g := (mkF m 122 #[.val (.int p1), .val (.int (Int32.ofNat n)), .unset] [(.int (17 : Int32)), (.ref b1), (.ref b1)])) rfl (hb hby at_122) _ ?_
    show Steps p.tables e below (T18.setTop (mkF m 125 #[.val (.int p1), .val (.int (Int32.ofNat n)), .unset] [(.long (1597 : Int64)), (.int (17 : Int32)), (.ref b1), (.ref b1)])) _
    refine st19 _ ?_
    show Steps p.tables e below (T19.setTop (mkF m 126 #[.val (.int p1), .val (.int (Int32.ofNat n)), .unset] [(.ref b1)])) _
    refine XS.dup X19.here hx rfl (hb hby at_126) rfl rfl ?_
    show Steps p.tables e below (T19.setTop (mkF m 127 #[.val (.int p1), .val (.int (Int32.ofNat n)), .unset] [(.ref b1), (.ref b1)])) _
    refine XS.bipush X19.here hx rfl (hb hby at_127) ?_
    show Steps p.tables e below (T19.setTop (mkF m 129 #[.val (.int p1), .val (.int (Int32.ofNat n)), .unset] [(.int (18 : Int32)), (.ref b1), (.ref b1)])) _
    refine X19.ldc2Long hx hown (mvT hZ (hw _ (List.mem_of_getElem? (i := 17) rfl))) (g := (mkF m 129 #[.val (.int p1), .val (.int (Int32.ofNat n)), .unset] [(.int (18 : Int32)), (.ref b1), (.ref b1)])) rfl (hb hby at_129) _ ?_
    show Steps p.tables e below (T19.setTop (mkF m 132 #[.val (.int p1), .val (.int (Int32.ofNat n)), .unset] [(.long (2584 : Int64)), (.int (18 : Int32)), (.ref b1), (.ref b1)])) _
    refine st20 _ ?_
    show Steps p.tables e below (T20.setTop (mkF m 133 #[.val (.int p1), .val (.int (Int32.ofNat n)), .unset] [(.ref b1)])) _
    refine XS.dup X20.here hx rfl (hb hby at_133) rfl rfl ?_
    show Steps p.tables e below (T20.setTop (mkF m 134 #[.val (.int p1), .val (.int (Int32.ofNat n)), .unset] [(.ref b1), (.ref b1)])) _
    refine XS.bipush X20.here hx rfl (hb hby at_134) ?_
    show Steps p.tables e below (T20.setTop (mkF m 136 #[.val (.int p1), .val (.int (Int32.ofNat n)), .unset] [(.int (19 : Int32)), (.ref b1), (.ref b1)])) _
    refine X20.ldc2Long hx hown (mvT hZ (hw _ (List.mem_of_getElem? (i := 18) rfl))) (g := (mkF m 136 #[.val (.int p1), .val (.int (Int32.ofNat n)), .unset] [(.int (19 : Int32)), (.ref b1), (.ref b1)])) rfl (hb hby at_136) _ ?_
    show Steps p.tables e below (T20.setTop (mkF m 139 #[.val (.int p1), .val (.int (Int32.ofNat n)), .unset] [(.long (4181 : Int64)), (.int (19 : Int32)), (.ref b1), (.ref b1)])) _
    refine st21 _ ?_
    show Steps p.tables e below (T21.setTop (mkF m 140 #[.val (.int p1), .val (.int (Int32.ofNat n)), .unset] [(.ref b1)])) _
    refine XS.dup X21.here hx rfl (hb hby at_140) rfl rfl ?_
    show Steps p.tables e below (T21.setTop (mkF m 141 #[.val (.int p1), .val (.int (Int32.ofNat n)), .unset] [(.ref b1), (.ref b1)])) _
    refine XS.bipush X21.here hx rfl (hb hby at_141) ?_
    show Steps p.tables e below (T21.setTop (mkF m 143 #[.val (.int p1), .val (.int (Int32.ofNat n)), .unset] [(.int (20 : Int32)), (.ref b1), (.ref b1)])) _
    refine X21.ldc2Long hx hown (mvT hZ (hw _ (List.mem_of_getElem? (i := 19) rfl))) (g := (mkF m 143 #[.val (.int p1), .val (.int (Int32.ofNat n)), .unset] [(.int (20 : Int32)), (.ref b1), (.ref b1)])) rfl (hb hby at_143) _ ?_
    show Steps p.tables e below (T21.setTop (mkF m 146 #[.val (.int p1), .val (.int (Int32.ofNat n)), .unset] [(.long (6765 : Int64)), (.int (20 : Int32)), (.ref b1), (.ref b1)])) _
    refine st22 _ ?_
    show Steps p.tables e below (T22.setTop (mkF m 147 #[.val (.int p1), .val (.int (Int32.ofNat n)), .unset] [(.ref b1)])) _
    refine XS.astoreN X22.here hx rfl (hb hby at_147) rfl rfl (l' := #[.val (.int p1), .val (.int (Int32.ofNat n)), .val (.ref b1)]) rfl ?_
    show Steps p.tables e below (T22.setTop (mkF m 148 #[.val (.int p1), .val (.int (Int32.ofNat n)), .val (.ref b1)] [])) _
    refine XS.iloadN X22.here hx rfl (hb hby at_148) rfl ?_
    show Steps p.tables e below (T22.setTop (mkF m 149 #[.val (.int p1), .val (.int (Int32.ofNat n)), .val (.ref b1)] [(.int (Int32.ofNat n))])) _
    refine st23 _ ?_
    show Steps p.tables e below (T23.setTop (mkF m 152 #[.val (.int p1), .val (.int (Int32.ofNat n)), .val (.ref b1)] [(.long (own_fib n))])) _
    refine XS.aloadN X23.here hx rfl (hb hby at_152) rfl rfl ?_
    show Steps p.tables e below (T23.setTop (mkF m 153 #[.val (.int p1), .val (.int (Int32.ofNat n)), .val (.ref b1)] [(.ref b1), (.long (own_fib n))])) _
    refine XS.iloadN X23.here hx rfl (hb hby at_153) rfl ?_
    show Steps p.tables e below (T23.setTop (mkF m 154 #[.val (.int p1), .val (.int (Int32.ofNat n)), .val (.ref b1)] [(.int (Int32.ofNat n)), (.ref b1), (.long (own_fib n))])) _
    refine X23.laload hx (j := (Int32.ofNat n)) (v := (.long (own_fib n))) (by rw [e23]; exact Ar.1) (State.isArrayOf_alike hZ.alike Ar.2.1) Ar.2.2 hin hat (g := (mkF m 154 #[.val (.int p1), .val (.int (Int32.ofNat n)), .val (.ref b1)] [(.int (Int32.ofNat n)), (.ref b1), (.long (own_fib n))])) rfl rfl (hb hby at_154) _ ?_
    show Steps p.tables e below (T23.setTop (mkF m 155 #[.val (.int p1), .val (.int (Int32.ofNat n)), .val (.ref b1)] [(.long (own_fib n)), (.long (own_fib n))])) _
    refine XS.lcmp X23.here hx rfl (hb hby at_155) rfl ?_
    show Steps p.tables e below (T23.setTop (mkF m 156 #[.val (.int p1), .val (.int (Int32.ofNat n)), .val (.ref b1)] [(.int (lcmpW (own_fib n) (own_fib n)))])) _
    refine XS.ifNo X23.here hx rfl (hb hby at_156) rfl ((if0 _ _).trans (teq ((lw_eq (own_fib n) (own_fib n)).mpr rfl)).2) ?_
    show Steps p.tables e below (T23.setTop (mkF m 159 #[.val (.int p1), .val (.int (Int32.ofNat n)), .val (.ref b1)] [])) _
    refine XS.iconst X23.here hx rfl (hb hby at_159) ?_
    show Steps p.tables e below (T23.setTop (mkF m 160 #[.val (.int p1), .val (.int (Int32.ofNat n)), .val (.ref b1)] [(.int (1 : Int32))])) _
    refine XS.goto X23.here hx rfl (pc0 := 160) (pc' := 164) rfl (hb hby at_160) (by decide) (by decide) ?_
    show Steps p.tables e below (T23.setTop (mkF m 164 #[.val (.int p1), .val (.int (Int32.ofNat n)), .val (.ref b1)] [(.int (1 : Int32))])) _
    exact retN X23 hx (t := .boolean) Bd.returns (by simp) (hb hby at_164) hr
  · exact ⟨rfl, N23⟩
theorem own_rem (p1 : Int32) : ∃ n : Nat, n ≤ 20 ∧ ((p1 &&& (2147483647 : Int32)) - ((p1 &&& (2147483647 : Int32)) / (21 : Int32)) * (21 : Int32)) = Int32.ofNat n := by
  have hm : (p1 &&& (2147483647 : Int32)).toInt = p1.toInt % 2147483648 := by
    have e : (p1 &&& (2147483647 : Int32)).toBitVec = p1.toBitVec &&& 2147483647#32 := rfl
    have n1 : (p1.toBitVec &&& 2147483647#32).toNat = p1.toBitVec.toNat % 2147483648 := by
      rw [BitVec.toNat_and]
      exact Nat.and_two_pow_sub_one_eq_mod _ 31
    have l1 : (p1.toBitVec &&& 2147483647#32).toNat < 2147483648 := by rw [n1]; exact Nat.mod_lt _ (by decide)
    show (p1 &&& (2147483647 : Int32)).toBitVec.toInt = p1.toBitVec.toInt % 2147483648
    rw [e, BitVec.toInt_eq_toNat_cond, if_pos (by omega), n1, BitVec.toInt_eq_toNat_cond]
    have := p1.toBitVec.isLt
    split <;> omega
  have b0 : 0 ≤ (p1 &&& (2147483647 : Int32)).toInt := by rw [hm]; omega
  have b1 : (p1 &&& (2147483647 : Int32)).toInt < 2147483648 := by rw [hm]; omega
  generalize (p1 &&& (2147483647 : Int32)) = y at b0 b1 ⊢
  have e21 : (21 : Int32).toInt = 21 := by decide
  have hd : (y / (21 : Int32)).toInt = y.toInt / 21 := by
    rw [Int32.toInt_div, e21, Int.tdiv_eq_ediv_of_nonneg b0, Int.bmod_def]; omega
  have ht : (y - (y / (21 : Int32)) * (21 : Int32)).toInt = y.toInt % 21 := by
    rw [Int32.toInt_sub, Int32.toInt_mul, hd, e21]
    have q1 : (y.toInt / 21 * 21).bmod (2 ^ 32) = y.toInt / 21 * 21 := by rw [Int.bmod_def]; omega
    rw [q1, Int.bmod_def]; omega
  refine ⟨(y.toInt % 21).toNat, by omega, ?_⟩
  apply Int32.toInt_inj.mp
  rw [ht, Int32.toInt_ofNat_of_lt (by omega)]
  omega
theorem own_rm0 (l : Launch) (Z : State) (a0 : Array Value) (hw : ∀ d ∈ tables_1, d.before a0 Z = true) (ws : List Jvm.Cond) (p1 : Int32) (h0 : Heap) (n0 : Nat) (Z0 : n0 ≤ h0.size) :
    MetFree l x (head1 (Jvm.Cond.code x code maxLocals ret :: ws) room_1) (fun a U => a = #[(.int p1)] ∧ Z.Warmed39 U.vm ∧ U.heap = h0) (fun _ _ _ _ _ => True) (fun _ U o U' => ∃ v L, o = .returned v ∧ (v = some (.int 1) ∧ Fr n0 L) ∧ FrameEnd U o U' L room_1.cells room_1.slots) := by
  obtain ⟨n, hn, hnn⟩ := own_rem p1
  exact own_rm0c l Z a0 hw ws p1 n hn hnn h0 n0 Z0
set_option maxRecDepth 65536 in
set_option maxHeartbeats 40000000 in
theorem comes_1 {Post : Tables → Env → Array Value → State → Outcome → State → Prop} (hpost : ∀ tb e args s v u, (limb_1_1.after args s (.returned v) u = true ∧ limb_1_2.after args s (.returned v) u = true ∧ True) → FrameEnd s (.returned v) u (Jvm.fieldLocs frame_1_writes args s ++ Jvm.arrayLocs frame_1_arrays args s ++ Jvm.staticLocs frame_1_statics s) 16 128 → Post tb e args s (.returned v) u) :
    ArmFor flags0 classFile x code maxLocals ret World_1 tables_1 room_1 Calls_1 rest_1 Pre_1 Post := by
  intro l hfl _ _ p e ha hc hk s m args below hf hA hF happ hP
  obtain ⟨hcalls, hrest, hpre⟩ := hP
  obtain ⟨-, -, -, hnamed, -, -, -, hat⟩ := (Spec.applies_iff hf).mp happ
  obtain ⟨hg, hn⟩ := and_e (Cond.before_iff.mp (show (Jvm.Cond.and given_1 narrow_1).before args s = true from hpre))
  obtain ⟨gc, g0⟩ := and_e hg
  obtain ⟨w0, rfl⟩ : ∃ w0 : Value, args = #[w0] := by
    have hs : args.size = 1 := by simpa [Cond.value, given_1] using gc
    obtain ⟨L⟩ := args
    match L, hs with
    | [w0], _ => exact ⟨w0, rfl⟩
  have hw := fun d (hd : d ∈ tables_1) => atoms_spec (ws := Jvm.Cond.code x code maxLocals ret :: tables_1) hat d (List.mem_cons_of_mem _ hd)
  obtain ⟨i0, ei0⟩ := is_v g0
  obtain rfl : w0 = (.int i0) := Option.some.inj ei0
  obtain ⟨n, o, h1, h2, h3, _, L, rfl, ⟨rfl, N⟩, hq⟩ := own_rm0 l s _ hw tables_1 i0 s.heap s.heap.size (Nat.le_refl _) p e ha hc hk s m _ below hf ((Spec.applies_iff_loose hf).mp happ).1 ⟨rfl, State.Warmed39.refl s, rfl⟩ trivial
  refine ⟨n, _, h1, h2, h3, hpost _ _ _ _ _ _ ⟨Cond.after_iff.mpr rfl, Cond.after_iff.mpr (eq_i res_at (Term.int_eval (1)) rfl), trivial⟩ ⟨hq.1, hq.2.1, (hq.2.2.sift fun y hy => Or.inr (N y hy)).mono (by decide) (by decide)⟩⟩
theorem main_1_1 : Claimed_1_1 := comes_1 fun _ _ _ _ _ _ h hF => ⟨h.1, hF⟩
theorem main_1_2 : Claimed_1_2 := comes_1 fun _ _ _ _ _ _ h hF => ⟨h.2.1, hF⟩
end Jvm.Pilot.@@N@@
namespace Jvm.Pilot.@@N@@
open Jvm Jvm.ClassFile Sem Op Lib Jvm.Free Jvm.Stand Jvm.Pilot.@@N@@.Jvm.D
/-! MADE BY PROGRAM (witnessworld.py) out of the Statement's table words and the real class files: 12 classes; the members and pool entries that the words name. The judged class is class 1, her method 1. -/
namespace start1
open Jvm.ClassFile
def u (s : String) : CpInfo := .utf8 (stringToUtf16 s)
/-- a pool by its gaps: so many unusable entries, then the entry; so many at the end -/
def gap : Nat → List CpInfo → List CpInfo
  | 0, r => r
  | n + 1, r => .unusable :: gap n r
def poolList (es : List (Nat × CpInfo)) (last : Nat) : List CpInfo := es.foldr (fun e r => gap e.1 (e.2 :: r)) (gap last [])
def pool (es : List (Nat × CpInfo)) (last : Nat) : Array CpInfo := ⟨poolList es last⟩
def fileOf (pool : Array CpInfo) (this : Nat) (attrs : Array Attribute := #[]) (ms : Array MethodInfo := #[]) (fl : Nat := 33) (sup : Nat := 0) (ifs : Array Nat := #[]) (fds : Array FieldInfo := #[]) : ClassFile where
  minorVersion := 0
  majorVersion := 65
  constantPool := pool
  accessFlags := fl
  thisClass := this
  superClass := sup
  interfaces := ifs
  fields := fds
  methods := ms
  attributes := attrs
def plain (name : String) (sup : Option ClassId) : Class where
  name := name
  kind := .ordinary
  loader := none
  accessFlags := 33
  super := sup
  interfaces := #[]
  cf := none
  fields := #[]
  methods := #[]
  instanceTypes := #[]
  staticTypes := #[]
  resolved := #[]
  callSites := []
  init := .initialized
  statics := none
  mirror := none

def pool0 : Array CpInfo := pool [(5, u "<init>"), (0, u "()V"), (1, .class_ 10), (1, u "java/lang/Object")] 113

def k0m0 : Method := { name := "<init>", desc := "()V", sig := { parameters := [], returnType := none }, accessFlags := 1, code := none }
/-- java/lang/Object -/
def k0 : Class := { plain "java/lang/Object" none with
  accessFlags := 33
  interfaces := #[]
  cf := some (fileOf pool0 8 #[] #[{ accessFlags := 1, nameIndex := 5, descriptorIndex := 6, attributes := #[] }] 33 0 #[] #[])
  fields := #[]
  methods := #[k0m0]
  instanceTypes := #[]
  staticTypes := #[]
  resolved := Array.replicate 124 none
  statics := none }

def pool1 : Array CpInfo := pool [(2, .class_ 4), (1, u "java/lang/Object"), (0, u "<init>"), (0, u "()V"), (0, .integer 2147483647), (0, .long 2), (1, .long 3), (1, .long 5), (1, .long 8), (1, .long 13), (1, .long 21), (1, .long 34), (1, .long 55), (1, .long 89), (1, .long 144), (1, .long 233), (1, .long 377), (1, .long 610), (1, .long 987), (1, .long 1597), (1, .long 2584), (1, .long 4181), (1, .long 6765), (1, .methodref 45 46), (0, .class_ 47), (0, .nameAndType 48 49), (0, u "com/example/mure/mure/bench/ForkJoinScaling$Fib"), (0, u "recursive"), (0, u "(I)J"), (0, .class_ 51), (0, u "com/example/mure/mure/bench/FibRecursivePinLaw"), (2, u "law"), (0, u "(I)Z")] 9

def k1m0 : Method := { name := "<init>", desc := "()V", sig := { parameters := [], returnType := none }, accessFlags := 2, code := none }
def k1c1 : Code := { maxStack := 5, maxLocals := 3, code := code, exceptionTable := #[], attributes := #[] }
def k1m1 : Method := { name := "law", desc := "(I)Z", sig := { parameters := [.int], returnType := some .boolean }, accessFlags := 9, code := some k1c1 }
/-- com/example/mure/mure/bench/FibRecursivePinLaw -/
def k1 : Class := { plain "com/example/mure/mure/bench/FibRecursivePinLaw" (some 0) with
  accessFlags := 49
  interfaces := #[]
  cf := some (fileOf pool1 50 #[] #[{ accessFlags := 2, nameIndex := 5, descriptorIndex := 6, attributes := #[] }, { accessFlags := 9, nameIndex := 54, descriptorIndex := 55, attributes := #[] }] 49 2 #[] #[])
  fields := #[]
  methods := #[k1m0, k1m1]
  instanceTypes := #[]
  staticTypes := #[]
  resolved := Array.replicate 65 none
  statics := none }

def pool2 : Array CpInfo := pool [(2, .class_ 4), (1, u "java/lang/Object"), (0, u "<init>"), (0, u "()V"), (0, .class_ 8), (0, u "com/example/mure/mure/MureTask"), (2, u "state"), (0, u "I"), (87, u "STATE"), (0, u "Ljava/lang/invoke/VarHandle;"), (13, u "value"), (0, u "Ljava/lang/Object;"), (2, u "failure"), (0, u "Ljava/lang/Throwable;"), (5, u "monitor"), (16, u "MONITOR"), (49, u "NEW"), (2, u "RUNNING"), (1, u "SUCCEEDED"), (1, u "FAILED"), (1, u "CANCELLED")] 42

def k2m0 : Method := { name := "<init>", desc := "()V", sig := { parameters := [], returnType := none }, accessFlags := 4, code := none }
/-- com/example/mure/mure/MureTask -/
def k2 : Class := { plain "com/example/mure/mure/MureTask" (some 0) with
  accessFlags := 1057
  interfaces := #[]
  cf := some (fileOf pool2 7 #[] #[{ accessFlags := 4, nameIndex := 5, descriptorIndex := 6, attributes := #[] }] 1057 2 #[] #[{ accessFlags := 26, nameIndex := 193, descriptorIndex := 12, attributes := #[] }, { accessFlags := 26, nameIndex := 196, descriptorIndex := 12, attributes := #[] }, { accessFlags := 26, nameIndex := 198, descriptorIndex := 12, attributes := #[] }, { accessFlags := 26, nameIndex := 200, descriptorIndex := 12, attributes := #[] }, { accessFlags := 26, nameIndex := 202, descriptorIndex := 12, attributes := #[] }, { accessFlags := 26, nameIndex := 100, descriptorIndex := 101, attributes := #[] }, { accessFlags := 26, nameIndex := 143, descriptorIndex := 101, attributes := #[] }, { accessFlags := 66, nameIndex := 11, descriptorIndex := 12, attributes := #[] }, { accessFlags := 66, nameIndex := 126, descriptorIndex := 116, attributes := #[] }, { accessFlags := 2, nameIndex := 115, descriptorIndex := 116, attributes := #[] }, { accessFlags := 2, nameIndex := 119, descriptorIndex := 120, attributes := #[] }])
  fields := #[{ name := "NEW", type := .int, accessFlags := 26, slot := 0, constantValue := 0 }, { name := "RUNNING", type := .int, accessFlags := 26, slot := 1, constantValue := 0 }, { name := "SUCCEEDED", type := .int, accessFlags := 26, slot := 2, constantValue := 0 }, { name := "FAILED", type := .int, accessFlags := 26, slot := 3, constantValue := 0 }, { name := "CANCELLED", type := .int, accessFlags := 26, slot := 4, constantValue := 0 }, { name := "STATE", type := (.object "java/lang/invoke/VarHandle"), accessFlags := 26, slot := 5, constantValue := 0 }, { name := "MONITOR", type := (.object "java/lang/invoke/VarHandle"), accessFlags := 26, slot := 6, constantValue := 0 }, { name := "state", type := .int, accessFlags := 66, slot := 0, constantValue := 0 }, { name := "monitor", type := (.object "java/lang/Object"), accessFlags := 66, slot := 1, constantValue := 0 }, { name := "value", type := (.object "java/lang/Object"), accessFlags := 2, slot := 2, constantValue := 0 }, { name := "failure", type := (.object "java/lang/Throwable"), accessFlags := 2, slot := 3, constantValue := 0 }]
  methods := #[k2m0]
  instanceTypes := #[.int, (.object "java/lang/Object"), (.object "java/lang/Object"), (.object "java/lang/Throwable")]
  staticTypes := #[.int, .int, .int, .int, .int, (.object "java/lang/invoke/VarHandle"), (.object "java/lang/invoke/VarHandle")]
  resolved := Array.replicate 245 none
  statics := none }

def pool3 : Array CpInfo := pool [(2, .class_ 4), (1, u "com/example/mure/mure/MureTask"), (3, .class_ 10), (1, u "com/example/mure/mure/bench/ForkJoinScaling$Fib"), (0, u "n"), (0, u "I"), (0, .methodref 8 14), (0, .nameAndType 15 16), (0, u "recursive"), (0, u "(I)J"), (25, u "LEAF"), (10, .class_ 54), (0, u "com/example/mure/mure/bench/ForkJoinScaling")] 2

def k3c0 : Code := { maxStack := 4, maxLocals := 1, code := prog_24_method_3_code, exceptionTable := #[], attributes := #[] }
def k3m0 : Method := { name := "recursive", desc := "(I)J", sig := { parameters := [.int], returnType := some .long }, accessFlags := 8, code := some k3c0 }
/-- com/example/mure/mure/bench/ForkJoinScaling$Fib -/
def k3 : Class := { plain "com/example/mure/mure/bench/ForkJoinScaling$Fib" (some 2) with
  accessFlags := 48
  interfaces := #[]
  cf := some (fileOf pool3 8 #[.nestHost 53] #[{ accessFlags := 8, nameIndex := 15, descriptorIndex := 16, attributes := #[] }] 48 2 #[] #[{ accessFlags := 26, nameIndex := 42, descriptorIndex := 12, attributes := #[] }, { accessFlags := 18, nameIndex := 11, descriptorIndex := 12, attributes := #[] }])
  fields := #[{ name := "LEAF", type := .int, accessFlags := 26, slot := 0, constantValue := 0 }, { name := "n", type := .int, accessFlags := 18, slot := 4, constantValue := 0 }]
  methods := #[k3m0]
  instanceTypes := #[.int, (.object "java/lang/Object"), (.object "java/lang/Object"), (.object "java/lang/Throwable"), .int]
  staticTypes := #[.int]
  resolved := Array.replicate 57 none
  statics := none }

def pool4 : Array CpInfo := pool [(1, u "java/lang/Cloneable"), (0, .class_ 1), (0, u "java/lang/Object"), (0, .class_ 3)] 3

/-- java/lang/Cloneable -/
def k4 : Class := { plain "java/lang/Cloneable" (some 0) with
  accessFlags := 1537
  interfaces := #[]
  cf := some (fileOf pool4 2 #[] #[] 1537 4 #[] #[])
  fields := #[]
  methods := #[]
  instanceTypes := #[]
  staticTypes := #[]
  resolved := Array.replicate 8 none
  statics := none }

def pool5 : Array CpInfo := pool [(1, u "java/io/Serializable"), (0, .class_ 1), (0, u "java/lang/Object"), (0, .class_ 3)] 3

/-- java/io/Serializable -/
def k5 : Class := { plain "java/io/Serializable" (some 0) with
  accessFlags := 1537
  interfaces := #[]
  cf := some (fileOf pool5 2 #[] #[] 1537 4 #[] #[])
  fields := #[]
  methods := #[]
  instanceTypes := #[]
  staticTypes := #[]
  resolved := Array.replicate 8 none
  statics := none }

/-- the primitive byte -/
def k6 : Class := { plain "byte" none with kind := .primitive 'B', accessFlags := 0x411 }
/-- [B -/
def k7 : Class := { plain "[B" (some 0) with kind := .array 6 .byte, interfaces := #[4, 5], accessFlags := 1041 }

/-- the primitive int -/
def k8 : Class := { plain "int" none with kind := .primitive 'I', accessFlags := 0x411 }
/-- [I -/
def k9 : Class := { plain "[I" (some 0) with kind := .array 8 .int, interfaces := #[4, 5], accessFlags := 1041 }

/-- the primitive long -/
def k10 : Class := { plain "long" none with kind := .primitive 'J', accessFlags := 0x411 }
/-- [J -/
def k11 : Class := { plain "[J" (some 0) with kind := .array 10 .long, interfaces := #[4, 5], accessFlags := 1041 }

def heap : Heap := #[]
def classes : Array Class := #[k0, k1, k2, k3, k4, k5, k6, k7, k8, k9, k10, k11]
def interned : List (Array UInt16 × Addr) := []
def slotsUsed : Nat := 0
def theMethod : MethodId := ⟨1, 1⟩
def args0 : Array Value := #[.int 5]
def aboutOver (below : List Frame) : State where
  vm := { classes := classes, interned := interned.toArray }
  heap := heap
  slotsUsed := slotsUsed
  threads := #[{ frames := .invoking theMethod args0 :: below }]
def below0 : List Frame := [.native { method := ⟨0, 0⟩, args := #[] }]
def about1 : State := aboutOver below0
def p0 : Program := .bare "" "" ""
def e0 : Env := launch0.env 0 0 0
theorem w_frames : about1.frames = Frame.invoking theMethod args0 :: below0 := rfl
set_option maxRecDepth 65536 in
theorem w_args : argsFit about1.vm theMethod args0 = true := by decide +kernel
set_option maxRecDepth 65536 in
theorem w_heap : heapFits about1 = true := by decide +kernel
set_option maxRecDepth 65536 in
theorem w_runnable : about1.curStatus? = some .runnable := by decide +kernel
set_option maxRecDepth 65536 in
theorem w_alone : about1.alone = true := by decide +kernel
set_option maxRecDepth 65536 in
theorem w_named : about1.methodNamed? x = some theMethod := by decide +kernel
set_option maxRecDepth 65536 in
theorem w_hears : about1.hears theMethod below0 = true := by decide +kernel
set_option maxRecDepth 65536 in
theorem w_ripe : about1.ripe theMethod args0 below0 = true := by decide +kernel
theorem w_running : about1.status = .running := rfl
set_option maxRecDepth 65536 in
theorem w_room : about1.hasRoom e0.platform room_1 = true :=
  launch0.hasRoom_least _ room_1 (by decide +kernel) (by decide +kernel) (by decide +kernel) (by decide +kernel) (by decide +kernel) (by decide +kernel)
theorem allAtoms_all (ts : List Jvm.Cond) (a : Array Jvm.Value) (st : Jvm.State) : (allAtoms ts).before a st = ts.all (fun c => c.before a st) := by
  induction ts with
  | nil => rfl
  | cons c t ih =>
    show (Jvm.Cond.and c (allAtoms t)).before a st = _
    rw [Jvm.Cond.before_and, ih, List.all_cons]
def words1 : List Jvm.Cond := Jvm.Cond.code x code maxLocals ret :: tables_1
/-- a 'code' word, met by the world's own term for the bytes: nothing is compared byte by byte -/
theorem code_word {y : MethodName} {bytes : ByteArray} {mx : Nat} {rt : Option FieldType} {a : Array Value} {s : State} {m : MethodId} {meth : Method} {c : Code} (h1 : s.methodNamed? y = some m) (h2 : s.vm.method? m = some meth) (h3 : meth.code = some c) (h4 : c.code = bytes)
    (h5 : (c.maxLocals == mx && c.exceptionTable.isEmpty && decide (c.maxStack ≤ mostOperands) && decide (meth.sig.returnType = rt) && !meth.locks && decide (parseMethodDescriptor y.desc = some meth.sig)) = true) : (Jvm.Cond.code y bytes mx rt).before a s = true := by
  simp only [Bool.and_eq_true, beq_iff_eq, Bool.not_eq_true', decide_eq_true_eq] at h5
  obtain ⟨⟨⟨⟨⟨g1, g2⟩, g3⟩, g4⟩, g5⟩, g6⟩ := h5
  simp [Cond.before, Cond.holds, Cond.value, h1, h2, h3, h4, g1, g2, g3, g4, g5, g6]
def isCode : Jvm.Cond → Bool
  | .code _ _ _ _ => true
  | _ => false
theorem all_split {L : List Jvm.Cond} {P : Jvm.Cond → Bool} (h1 : L.all (fun c => isCode c || P c) = true) (h2 : ∀ c ∈ L.filter isCode, P c = true) : L.all P = true := by
  refine List.all_eq_true.mpr fun c hc => ?_
  have h := List.all_eq_true.mp h1 c hc
  rcases Bool.eq_false_or_eq_true (isCode c) with hi | hi
  · exact h2 c (List.mem_filter.mpr ⟨hc, hi⟩)
  · simpa [hi] using h
set_option maxRecDepth 65536 in
theorem w_c0 : (Jvm.Cond.code x code maxLocals ret).before args0 about1 = true := code_word (m := ⟨1, 1⟩) (meth := k1m1) (c := k1c1) (by decide +kernel) rfl rfl rfl (by decide +kernel)
set_option maxRecDepth 65536 in
theorem w_c1 : (Jvm.Cond.code ({ cls := "com/example/mure/mure/bench/ForkJoinScaling$Fib", name := "recursive", desc := "(I)J" } : Jvm.MethodName) prog_24_method_3_code (1 : Nat) (Option.some Jvm.ClassFile.FieldType.long)).before args0 about1 = true := code_word (m := ⟨3, 0⟩) (meth := k3m0) (c := k3c0) (by decide +kernel) rfl rfl rfl (by decide +kernel)
def codes1 : List Jvm.Cond := [Jvm.Cond.code x code maxLocals ret, Jvm.Cond.code ({ cls := "com/example/mure/mure/bench/ForkJoinScaling$Fib", name := "recursive", desc := "(I)J" } : Jvm.MethodName) prog_24_method_3_code (1 : Nat) (Option.some Jvm.ClassFile.FieldType.long)]
set_option maxRecDepth 65536 in
theorem codes_eq : words1.filter isCode = codes1 := rfl
theorem w_codes : ∀ c ∈ words1.filter isCode, c.before args0 about1 = true := by
  rw [codes_eq]
  intro c hc
  simp only [codes1, List.mem_cons, List.not_mem_nil, or_false] at hc
  rcases hc with rfl | rfl
  · exact w_c0
  · exact w_c1
set_option maxRecDepth 65536 in
theorem w_t1 : (words1.take 24).all (fun c => isCode c || c.before args0 about1) = true := by decide +kernel
set_option maxRecDepth 65536 in
theorem w_t2 : (words1.drop 24).all (fun c => isCode c || c.before args0 about1) = true := by decide +kernel
theorem w_tables : (allAtoms (Jvm.Cond.code x code maxLocals ret :: tables_1)).before args0 about1 = true := by
  rw [allAtoms_all]
  show words1.all (fun c => c.before args0 about1) = true
  refine all_split ?_ w_codes
  rw [← List.take_append_drop 24 words1, List.all_append, w_t1, w_t2]
  rfl
set_option maxRecDepth 65536 in
theorem w_case : (Jvm.Cond.and given_1 narrow_1).before args0 about1 = true := by decide +kernel
theorem w_applies : (headSpec (Jvm.Cond.code x code maxLocals ret :: tables_1) room_1).applies x e0.platform about1 = true :=
  (Spec.applies_iff w_frames).mpr ⟨w_running, w_runnable, w_alone, w_named, w_hears, w_ripe, w_room, w_tables⟩
theorem atStart : AtStart classFile x code maxLocals ret World_1 tables_1 room_1 Calls_1 rest_1 Pre_1 launch0 p0 e0 about1 theMethod args0 below0 :=
  ⟨lists_1, trivial, launch0.admits_env _ _ _, launch0.least_env, fairChoices_fair.cas, fairChoices_fair.clock, w_frames, w_args, w_heap, w_applies, trivial, trivial, w_case⟩
end start1
theorem witness_1 : WitnessClaimed_1 := ⟨start1.p0, start1.e0, start1.about1, start1.theMethod, start1.args0, start1.below0, start1.atStart⟩
end Jvm.Pilot.@@N@@
