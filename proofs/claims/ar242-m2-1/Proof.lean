import JvmDerived
import JvmDerived.Pilot.@@N@@Statement
import JvmDerived.Pilot.@@N@@Code
set_option linter.unusedVariables false
set_option linter.unusedSimpArgs false
namespace Jvm.RoadKit
open Sem ClassFile Op Lib Jvm.Stand Jvm.Free Jvm.LawKit
section New
variable {p : Program} {l : Launch} {e : Env} {R : Room} {s : State} {m : MethodId} {args : Array Value} {below : List Frame} {meth : Method} {c : Code} {T : State} {locs : List Loc} {cells slots : Nat}
theorem retI (X : Stand p l e R s m args below meth c T locs cells slots) (hx : p.tables.exec = Jvm.exec) {pc : Nat} {Ls : Array Slot} {z : Int32} {rest : List Value} (hret : meth.sig.returnType = some .int) (hd : decode c.code pc = .ok (.ireturn, 1)) {fs : List Frame}
    (hl : ∀ (f : JFrame) (acts : List Action), f.method = m → f.locked = none → f.entered = [] → (doReturn e (T.setTop f) acts (some (.int z))).1 = T.setFrames fs) : Steps p.tables e below (T.setTop (mkF m pc Ls (.int z :: rest))) (T.setFrames fs) := by
  have hm' : T.vm.method? m = some meth := X.method'
  have hn : narrow .int (.int z) = .int z := rfl
  show Steps p.tables e below (T.setTop { method := m, pc := pc, locals := Ls, stack := _ :: rest, locked := none }) _
  jvm_step X.here [X.here.top, hx, hd, hm', hret, hn]
  first | (intro acts; rw [hl _ acts rfl rfl rfl]) | rw [hl _ _ rfl rfl rfl]
  exact Steps.refl _
end New
end Jvm.RoadKit
namespace Jvm.Pilot.@@N@@
open Jvm Jvm.ClassFile Sem Op Lib Jvm.Free Jvm.Stand Jvm.LawKit Jvm.RoadKit Bundle Jvm.Pilot.@@N@@.Jvm.D
def own_Q (r : Option Value) (n0 : Nat) (h0 : Heap) (v : Option Value) (h : Heap) (L : List Loc) : Prop := v = r ∧ Fr n0 L ∧ h = h0
def own_I (Z : State) (h : Heap) (a : Addr) (n : Nat) (f : Nat → Int32) : Prop := ∃ c : Cell, Arr Z h a c .byte ∧ c.slots.size = n ∧ ∀ j, j < n → c.slots[j]? = some (.int (f j))
theorem own_I_in {Z : State} {h : Heap} {a : Addr} {c : Cell} {n k : Nat} {j : Int32} (hs : c.slots.size = n) (hj : ¬ j < 0) (hk : j.toNatClampNeg = k) (hlt : k < n) : ¬ (j < 0 ∨ c.slots.size ≤ j.toNatClampNeg) := by
  rintro (q | q)
  · exact hj q
  · omega
theorem own_I_new {Z : State} {h : Heap} {a : Addr} {cA : ClassId} {z : Int32} {n : Nat} (A : Arr Z h a (newA cA .byte z) .byte) (hn : z.toNatClampNeg = n) : own_I Z h a n (fun _ => 0) := by
  subst hn
  refine ⟨_, A, by simp [newA], fun j hj => ?_⟩
  simp only [newA]
  rw [Array.getElem?_eq_getElem (by simpa using hj), Array.getElem_replicate]
  rfl
theorem own_I_wr {Z : State} {h h' : Heap} {a : Addr} {n k : Nat} {f : Nat → Int32} {v : Int32} (V : own_I Z h a n f) (W : Wr h h' a k (.int v)) : own_I Z h' a n (fun i => if i = k then v else f i) := by
  obtain ⟨c, A, hs, hf⟩ := V
  refine ⟨_, Arr.same W A, by rw [sz_set, hs], fun j hj => ?_⟩
  show (c.slots.setIfInBounds k (.int v))[j]? = some (.int (if j = k then v else f j))
  by_cases e : j = k
  · subst e
    rw [if_pos rfl, Array.getElem?_setIfInBounds_self_of_lt (by omega)]
  · rw [if_neg e, Array.getElem?_setIfInBounds_ne (fun q => e q.symm)]
    exact hf j hj
theorem own_I_st {p : Program} {l : Launch} {e : Env} {R : Room} {s : State} {m : MethodId} {args : Array Value} {below : List Frame} {meth : Method} {c : Code} {T : State} {locs : List Loc} {cells slots : Nat} {Z : State} {h : Heap}
    (X : Stand p l e R s m args below meth c T locs cells slots) (hx : p.tables.exec = Jvm.exec) (hZ : Z.Warmed39 s.vm) (eT : T.heap = h) {a : Addr} {n k : Nat} {f : Nat → Int32} (V : own_I Z h a n f) {j : Int32} {x : Int32} (hj : ¬ j < 0) (hk : j.toNatClampNeg = k) (hlt : k < n)
    {g : JFrame} (hg : g.method = m) {rest : List Value} (hs : g.stack = .int x :: .int j :: .ref a :: rest) (hd : decode c.code g.pc = .ok (.bastore, 1)) :
    ∃ T' h', Stand p l e R s m args below meth c T' (locs ++ [⟨a, k⟩]) cells slots ∧ T'.heap = h' ∧ own_I Z h' a n (fun i => if i = k then nar .byte x else f i) ∧ ∀ target, Steps p.tables e below (T'.setTop { g with pc := g.pc + 1, stack := rest }) target → Steps p.tables e below (T.setTop g) target := by
  obtain ⟨cl, A, hsz, hf⟩ := V
  obtain ⟨T', h', X', e', W, st⟩ := stB X hx hZ eT A (j := j) (x := x) (own_I_in (Z := Z) (h := h) (a := a) hsz hj hk hlt) hg hs hd
  subst hk
  exact ⟨T', h', X', e', own_I_wr ⟨cl, A, hsz, hf⟩ W, st⟩

def own_to_F7 (v : Int32) (n6 : Int32) : Int32 := (if n6 = (0 : Int32) then (0 : Int32) else (if n6 = (1 : Int32) then (v &&& (255 : Int32)) else (if n6 = (2 : Int32) then (v &&& (65535 : Int32)) else (if n6 = (3 : Int32) then (v &&& (16777215 : Int32)) else v))))
set_option maxRecDepth 65536 in
set_option maxHeartbeats 40000000 in
theorem own_to {p : Program} {l : Launch} {e : Env} {R : Room} {s : State} {m : MethodId} {args : Array Value} {below : List Frame} {meth : Method} {c : Code} {T0 : State} {locs : List Loc} {cells slots : Nat} {Z : State} {a0 : Array Value} (X : Stand p l e R s m args below meth c T0 locs cells slots) (hx : p.tables.exec = Jvm.exec) (hZ : Z.Warmed39 s.vm) (hw : ∀ d ∈ tables_1, d.before a0 Z = true) (hby : c.code = code) (hown : s.vm.findClass "com/example/cinderwire/cinderwire/VaxIntegerReadPinLaw" = some m.cls) (v : Int32) (xf : Int32) (xg : Int32) (xs : Int32) (xa : Addr) (o5 : Int32) (n6 : Int32)
    (t : State) (kt : Steps p.tables e below (T0.setTop (mkF m 179 #[.val (.int v), .val (.int xf), .val (.int xg), .val (.int xs), .val (.ref xa), .val (.int o5), .val (.int n6), .val (.int (own_to_F7 v n6))] [])) t) : Steps p.tables e below (T0.setTop (mkF m 119 #[.val (.int v), .val (.int xf), .val (.int xg), .val (.int xs), .val (.ref xa), .val (.int o5), .val (.int n6), .unset] [])) t := by
  show Steps p.tables e below (T0.setTop (mkF m 119 #[.val (.int v), .val (.int xf), .val (.int xg), .val (.int xs), .val (.ref xa), .val (.int o5), .val (.int n6), .unset] [])) _
  refine XS.iload X.here hx rfl (hb hby at_119) rfl ?_
  show Steps p.tables e below (T0.setTop (mkF m 121 #[.val (.int v), .val (.int xf), .val (.int xg), .val (.int xs), .val (.ref xa), .val (.int o5), .val (.int n6), .unset] [(.int n6)])) _
  by_cases hc121_1 : n6 = (0 : Int32)
  · refine XS.ifNo X.here hx rfl (hb hby at_121) rfl ((if0 _ _).trans (teq hc121_1).2) ?_
    show Steps p.tables e below (T0.setTop (mkF m 124 #[.val (.int v), .val (.int xf), .val (.int xg), .val (.int xs), .val (.ref xa), .val (.int o5), .val (.int n6), .unset] [])) _
    refine XS.iconst X.here hx rfl (hb hby at_124) ?_
    show Steps p.tables e below (T0.setTop (mkF m 125 #[.val (.int v), .val (.int xf), .val (.int xg), .val (.int xs), .val (.ref xa), .val (.int o5), .val (.int n6), .unset] [(.int (0 : Int32))])) _
    refine XS.istore X.here hx rfl (hb hby at_125) rfl (l' := #[.val (.int v), .val (.int xf), .val (.int xg), .val (.int xs), .val (.ref xa), .val (.int o5), .val (.int n6), .val (.int (0 : Int32))]) rfl ?_
    show Steps p.tables e below (T0.setTop (mkF m 127 #[.val (.int v), .val (.int xf), .val (.int xg), .val (.int xs), .val (.ref xa), .val (.int o5), .val (.int n6), .val (.int (0 : Int32))] [])) _
    refine XS.goto X.here hx rfl (pc0 := 127) (pc' := 179) rfl (hb hby at_127) (by decide) (by decide) ?_
    have hF7 : own_to_F7 v n6 = (0 : Int32) := by unfold own_to_F7; simp only [if_pos hc121_1]
    rw [hF7] at kt
    exact kt
  · refine XS.ifYes X.here hx rfl (pc0 := 121) (pc' := 130) rfl (hb hby at_121) rfl ((if0 _ _).trans (feq hc121_1).2) (by decide) (by decide) ?_
    show Steps p.tables e below (T0.setTop (mkF m 130 #[.val (.int v), .val (.int xf), .val (.int xg), .val (.int xs), .val (.ref xa), .val (.int o5), .val (.int n6), .unset] [])) _
    refine XS.iload X.here hx rfl (hb hby at_130) rfl ?_
    show Steps p.tables e below (T0.setTop (mkF m 132 #[.val (.int v), .val (.int xf), .val (.int xg), .val (.int xs), .val (.ref xa), .val (.int o5), .val (.int n6), .unset] [(.int n6)])) _
    refine XS.iconst X.here hx rfl (hb hby at_132) ?_
    show Steps p.tables e below (T0.setTop (mkF m 133 #[.val (.int v), .val (.int xf), .val (.int xg), .val (.int xs), .val (.ref xa), .val (.int o5), .val (.int n6), .unset] [(.int (1 : Int32)), (.int n6)])) _
    by_cases hc133_2 : n6 = (1 : Int32)
    · refine XS.icmpNo X.here hx rfl (hb hby at_133) rfl (teq hc133_2).2 ?_
      show Steps p.tables e below (T0.setTop (mkF m 136 #[.val (.int v), .val (.int xf), .val (.int xg), .val (.int xs), .val (.ref xa), .val (.int o5), .val (.int n6), .unset] [])) _
      refine XS.iloadN X.here hx rfl (hb hby at_136) rfl ?_
      show Steps p.tables e below (T0.setTop (mkF m 137 #[.val (.int v), .val (.int xf), .val (.int xg), .val (.int xs), .val (.ref xa), .val (.int o5), .val (.int n6), .unset] [(.int v)])) _
      refine XS.sipush X.here hx rfl (hb hby at_137) ?_
      show Steps p.tables e below (T0.setTop (mkF m 140 #[.val (.int v), .val (.int xf), .val (.int xg), .val (.int xs), .val (.ref xa), .val (.int o5), .val (.int n6), .unset] [(.int (255 : Int32)), (.int v)])) _
      refine XS.iand X.here hx rfl (hb hby at_140) rfl ?_
      show Steps p.tables e below (T0.setTop (mkF m 141 #[.val (.int v), .val (.int xf), .val (.int xg), .val (.int xs), .val (.ref xa), .val (.int o5), .val (.int n6), .unset] [(.int (v &&& (255 : Int32)))])) _
      refine XS.istore X.here hx rfl (hb hby at_141) rfl (l' := #[.val (.int v), .val (.int xf), .val (.int xg), .val (.int xs), .val (.ref xa), .val (.int o5), .val (.int n6), .val (.int (v &&& (255 : Int32)))]) rfl ?_
      show Steps p.tables e below (T0.setTop (mkF m 143 #[.val (.int v), .val (.int xf), .val (.int xg), .val (.int xs), .val (.ref xa), .val (.int o5), .val (.int n6), .val (.int (v &&& (255 : Int32)))] [])) _
      refine XS.goto X.here hx rfl (pc0 := 143) (pc' := 179) rfl (hb hby at_143) (by decide) (by decide) ?_
      have hF7 : own_to_F7 v n6 = (v &&& (255 : Int32)) := by unfold own_to_F7; simp only [if_neg hc121_1, if_pos hc133_2]
      rw [hF7] at kt
      exact kt
    · refine XS.icmpYes X.here hx rfl (pc0 := 133) (pc' := 146) rfl (hb hby at_133) rfl (feq hc133_2).2 (by decide) (by decide) ?_
      show Steps p.tables e below (T0.setTop (mkF m 146 #[.val (.int v), .val (.int xf), .val (.int xg), .val (.int xs), .val (.ref xa), .val (.int o5), .val (.int n6), .unset] [])) _
      refine XS.iload X.here hx rfl (hb hby at_146) rfl ?_
      show Steps p.tables e below (T0.setTop (mkF m 148 #[.val (.int v), .val (.int xf), .val (.int xg), .val (.int xs), .val (.ref xa), .val (.int o5), .val (.int n6), .unset] [(.int n6)])) _
      refine XS.iconst X.here hx rfl (hb hby at_148) ?_
      show Steps p.tables e below (T0.setTop (mkF m 149 #[.val (.int v), .val (.int xf), .val (.int xg), .val (.int xs), .val (.ref xa), .val (.int o5), .val (.int n6), .unset] [(.int (2 : Int32)), (.int n6)])) _
      by_cases hc149_3 : n6 = (2 : Int32)
      · refine XS.icmpNo X.here hx rfl (hb hby at_149) rfl (teq hc149_3).2 ?_
        show Steps p.tables e below (T0.setTop (mkF m 152 #[.val (.int v), .val (.int xf), .val (.int xg), .val (.int xs), .val (.ref xa), .val (.int o5), .val (.int n6), .unset] [])) _
        refine XS.iloadN X.here hx rfl (hb hby at_152) rfl ?_
        show Steps p.tables e below (T0.setTop (mkF m 153 #[.val (.int v), .val (.int xf), .val (.int xg), .val (.int xs), .val (.ref xa), .val (.int o5), .val (.int n6), .unset] [(.int v)])) _
        refine X.ldcInt hx hown (mvT hZ (hw _ (List.mem_of_getElem? (i := 5) rfl))) (g := (mkF m 153 #[.val (.int v), .val (.int xf), .val (.int xg), .val (.int xs), .val (.ref xa), .val (.int o5), .val (.int n6), .unset] [(.int v)])) rfl (hb hby at_153) _ ?_
        show Steps p.tables e below (T0.setTop (mkF m 155 #[.val (.int v), .val (.int xf), .val (.int xg), .val (.int xs), .val (.ref xa), .val (.int o5), .val (.int n6), .unset] [(.int (65535 : Int32)), (.int v)])) _
        refine XS.iand X.here hx rfl (hb hby at_155) rfl ?_
        show Steps p.tables e below (T0.setTop (mkF m 156 #[.val (.int v), .val (.int xf), .val (.int xg), .val (.int xs), .val (.ref xa), .val (.int o5), .val (.int n6), .unset] [(.int (v &&& (65535 : Int32)))])) _
        refine XS.istore X.here hx rfl (hb hby at_156) rfl (l' := #[.val (.int v), .val (.int xf), .val (.int xg), .val (.int xs), .val (.ref xa), .val (.int o5), .val (.int n6), .val (.int (v &&& (65535 : Int32)))]) rfl ?_
        show Steps p.tables e below (T0.setTop (mkF m 158 #[.val (.int v), .val (.int xf), .val (.int xg), .val (.int xs), .val (.ref xa), .val (.int o5), .val (.int n6), .val (.int (v &&& (65535 : Int32)))] [])) _
        refine XS.goto X.here hx rfl (pc0 := 158) (pc' := 179) rfl (hb hby at_158) (by decide) (by decide) ?_
        have hF7 : own_to_F7 v n6 = (v &&& (65535 : Int32)) := by unfold own_to_F7; simp only [if_neg hc121_1, if_neg hc133_2, if_pos hc149_3]
        rw [hF7] at kt
        exact kt
      · refine XS.icmpYes X.here hx rfl (pc0 := 149) (pc' := 161) rfl (hb hby at_149) rfl (feq hc149_3).2 (by decide) (by decide) ?_
        show Steps p.tables e below (T0.setTop (mkF m 161 #[.val (.int v), .val (.int xf), .val (.int xg), .val (.int xs), .val (.ref xa), .val (.int o5), .val (.int n6), .unset] [])) _
        refine XS.iload X.here hx rfl (hb hby at_161) rfl ?_
        show Steps p.tables e below (T0.setTop (mkF m 163 #[.val (.int v), .val (.int xf), .val (.int xg), .val (.int xs), .val (.ref xa), .val (.int o5), .val (.int n6), .unset] [(.int n6)])) _
        refine XS.iconst X.here hx rfl (hb hby at_163) ?_
        show Steps p.tables e below (T0.setTop (mkF m 164 #[.val (.int v), .val (.int xf), .val (.int xg), .val (.int xs), .val (.ref xa), .val (.int o5), .val (.int n6), .unset] [(.int (3 : Int32)), (.int n6)])) _
        by_cases hc164_4 : n6 = (3 : Int32)
        · refine XS.icmpNo X.here hx rfl (hb hby at_164) rfl (teq hc164_4).2 ?_
          show Steps p.tables e below (T0.setTop (mkF m 167 #[.val (.int v), .val (.int xf), .val (.int xg), .val (.int xs), .val (.ref xa), .val (.int o5), .val (.int n6), .unset] [])) _
          refine XS.iloadN X.here hx rfl (hb hby at_167) rfl ?_
          show Steps p.tables e below (T0.setTop (mkF m 168 #[.val (.int v), .val (.int xf), .val (.int xg), .val (.int xs), .val (.ref xa), .val (.int o5), .val (.int n6), .unset] [(.int v)])) _
          refine X.ldcInt hx hown (mvT hZ (hw _ (List.mem_of_getElem? (i := 6) rfl))) (g := (mkF m 168 #[.val (.int v), .val (.int xf), .val (.int xg), .val (.int xs), .val (.ref xa), .val (.int o5), .val (.int n6), .unset] [(.int v)])) rfl (hb hby at_168) _ ?_
          show Steps p.tables e below (T0.setTop (mkF m 170 #[.val (.int v), .val (.int xf), .val (.int xg), .val (.int xs), .val (.ref xa), .val (.int o5), .val (.int n6), .unset] [(.int (16777215 : Int32)), (.int v)])) _
          refine XS.iand X.here hx rfl (hb hby at_170) rfl ?_
          show Steps p.tables e below (T0.setTop (mkF m 171 #[.val (.int v), .val (.int xf), .val (.int xg), .val (.int xs), .val (.ref xa), .val (.int o5), .val (.int n6), .unset] [(.int (v &&& (16777215 : Int32)))])) _
          refine XS.istore X.here hx rfl (hb hby at_171) rfl (l' := #[.val (.int v), .val (.int xf), .val (.int xg), .val (.int xs), .val (.ref xa), .val (.int o5), .val (.int n6), .val (.int (v &&& (16777215 : Int32)))]) rfl ?_
          show Steps p.tables e below (T0.setTop (mkF m 173 #[.val (.int v), .val (.int xf), .val (.int xg), .val (.int xs), .val (.ref xa), .val (.int o5), .val (.int n6), .val (.int (v &&& (16777215 : Int32)))] [])) _
          refine XS.goto X.here hx rfl (pc0 := 173) (pc' := 179) rfl (hb hby at_173) (by decide) (by decide) ?_
          have hF7 : own_to_F7 v n6 = (v &&& (16777215 : Int32)) := by unfold own_to_F7; simp only [if_neg hc121_1, if_neg hc133_2, if_neg hc149_3, if_pos hc164_4]
          rw [hF7] at kt
          exact kt
        · refine XS.icmpYes X.here hx rfl (pc0 := 164) (pc' := 176) rfl (hb hby at_164) rfl (feq hc164_4).2 (by decide) (by decide) ?_
          show Steps p.tables e below (T0.setTop (mkF m 176 #[.val (.int v), .val (.int xf), .val (.int xg), .val (.int xs), .val (.ref xa), .val (.int o5), .val (.int n6), .unset] [])) _
          refine XS.iloadN X.here hx rfl (hb hby at_176) rfl ?_
          show Steps p.tables e below (T0.setTop (mkF m 177 #[.val (.int v), .val (.int xf), .val (.int xg), .val (.int xs), .val (.ref xa), .val (.int o5), .val (.int n6), .unset] [(.int v)])) _
          refine XS.istore X.here hx rfl (hb hby at_177) rfl (l' := #[.val (.int v), .val (.int xf), .val (.int xg), .val (.int xs), .val (.ref xa), .val (.int o5), .val (.int n6), .val (.int v)]) rfl ?_
          have hF7 : own_to_F7 v n6 = v := by unfold own_to_F7; simp only [if_neg hc121_1, if_neg hc133_2, if_neg hc149_3, if_neg hc164_4]
          rw [hF7] at kt
          exact kt
theorem own_len (s : Int32) : ∃ k : Nat, k ≤ 4 ∧ (((s.toUInt32 >>> ((2 : Int32) &&& 31).toUInt32).toInt32) - (((s.toUInt32 >>> ((2 : Int32) &&& 31).toUInt32).toInt32) / (5 : Int32)) * (5 : Int32)) = Int32.ofNat k := by
  have e2 : ((2 : Int32) &&& 31).toUInt32 = 2 := by decide
  rw [e2]
  have hn : (s.toUInt32 >>> (2 : UInt32)).toNat = s.toUInt32.toNat / 4 := by
    rw [UInt32.toNat_shiftRight]
    exact Nat.shiftRight_eq_div_pow _ 2
  have hlt := s.toUInt32.toNat_lt
  have hy : ((s.toUInt32 >>> (2 : UInt32)).toInt32).toInt = ((s.toUInt32.toNat / 4 : Nat) : Int) := by
    show (s.toUInt32 >>> (2 : UInt32)).toBitVec.toInt = _
    have ht : (s.toUInt32 >>> (2 : UInt32)).toBitVec.toNat = s.toUInt32.toNat / 4 := hn
    rw [BitVec.toInt_eq_toNat_cond, if_pos (by omega), ht]
  have b0 : 0 ≤ ((s.toUInt32 >>> (2 : UInt32)).toInt32).toInt := by rw [hy]; omega
  have b1 : ((s.toUInt32 >>> (2 : UInt32)).toInt32).toInt < 2147483648 := by rw [hy]; omega
  generalize ((s.toUInt32 >>> (2 : UInt32)).toInt32) = y at b0 b1 ⊢
  have e5 : (5 : Int32).toInt = 5 := by decide
  have hd : (y / (5 : Int32)).toInt = y.toInt / 5 := by
    rw [Int32.toInt_div, e5, Int.tdiv_eq_ediv_of_nonneg b0, Int.bmod_def]; omega
  have ht : (y - (y / (5 : Int32)) * (5 : Int32)).toInt = y.toInt % 5 := by
    rw [Int32.toInt_sub, Int32.toInt_mul, hd, e5]
    have q1 : (y.toInt / 5 * 5).bmod (2 ^ 32) = y.toInt / 5 * 5 := by rw [Int.bmod_def]; omega
    rw [q1, Int.bmod_def]; omega
  refine ⟨(y.toInt % 5).toNat, by omega, ?_⟩
  apply Int32.toInt_inj.mp
  rw [ht, Int32.toInt_ofNat_of_lt (by omega)]
  omega
theorem own_off (s : Int32) : ∃ k : Nat, k ≤ 3 ∧ (s &&& (3 : Int32)) = Int32.ofNat k := by
  have e : (s &&& (3 : Int32)).toBitVec = s.toBitVec &&& 3#32 := rfl
  have n1 : (s.toBitVec &&& 3#32).toNat = s.toBitVec.toNat % 4 := by
    rw [BitVec.toNat_and]
    exact Nat.and_two_pow_sub_one_eq_mod _ 2
  refine ⟨s.toBitVec.toNat % 4, by omega, ?_⟩
  apply Int32.toBitVec_inj.mp
  rw [e]
  apply BitVec.eq_of_toNat_eq
  rw [n1]
  show _ = (BitVec.ofNat 32 (s.toBitVec.toNat % 4)).toNat
  rw [BitVec.toNat_ofNat, Nat.mod_eq_of_lt (a := s.toBitVec.toNat % 4) (by omega)]
theorem own_o0 : ∀ o : Fin 4, ¬ (Int32.ofNat o.val) < 0 ∧ (Int32.ofNat o.val).toNatClampNeg = o.val := by decide +kernel
theorem own_o1 : ∀ o : Fin 4, ¬ ((Int32.ofNat o.val) + (1 : Int32)) < 0 ∧ ((Int32.ofNat o.val) + (1 : Int32)).toNatClampNeg = o.val + 1 := by decide +kernel
theorem own_o2 : ∀ o : Fin 4, ¬ ((Int32.ofNat o.val) + (2 : Int32)) < 0 ∧ ((Int32.ofNat o.val) + (2 : Int32)).toNatClampNeg = o.val + 2 := by decide +kernel
theorem own_o3 : ∀ o : Fin 4, ¬ ((Int32.ofNat o.val) + (3 : Int32)) < 0 ∧ ((Int32.ofNat o.val) + (3 : Int32)).toNatClampNeg = o.val + 3 := by decide +kernel
/-- the callee's sum: k turns left -/
def own_rd (B : Nat → Int32) : Nat → Int32 → Int32
  | 0, r => r
  | k + 1, r => own_rd B k ((r <<< ((8 : Int32) &&& 31)) ||| ((B k) &&& (255 : Int32)))
theorem own_dn (k : Nat) : Int32.ofNat (k + 1) - (1 : Int32) = Int32.ofNat k := by
  rw [Int32.ofNat_add]
  exact Int32.add_sub_cancel _ _
theorem own_dec (k : Nat) : Int32.ofNat k + (-1 : Int32) = Int32.ofNat k - (1 : Int32) := by
  rw [Int32.sub_eq_add_neg]
theorem own_plus : ∀ o : Fin 4, ∀ k : Fin 4, ¬ ((Int32.ofNat o.val) + (Int32.ofNat k.val)) < 0 ∧ ((Int32.ofNat o.val) + (Int32.ofNat k.val)).toNatClampNeg = o.val + k.val ∧ ¬ (Int32.ofNat k.val) < 0 := by decide +kernel
theorem own_bits (x : Int32) : (nar .byte x.toInt8.toInt32) &&& (255 : Int32) = x &&& (255 : Int32) := by
  have e : ((nar .byte x.toInt8.toInt32) &&& (255 : Int32)).toBitVec = ((((x.toBitVec.signExtend 8).signExtend 32).signExtend 8).signExtend 32) &&& 255#32 := rfl
  apply Int32.toBitVec_inj.mp
  rw [e]
  show _ = x.toBitVec &&& 255#32
  generalize x.toBitVec = b
  apply BitVec.eq_of_getLsbD_eq
  intro i hi
  by_cases h8 : i < 8
  · have h1 : i < 32 := by omega
    simp only [BitVec.getLsbD_and, BitVec.getLsbD_signExtend, h8, h1, decide_true, Bool.true_and, if_true]
  · have h255 : (255#32).getLsbD i = false := by
      have : (255#32) = BitVec.ofNat 32 255 := rfl
      rw [BitVec.getLsbD_ofNat, Nat.testBit_lt_two_pow (x := 255) (i := i) (Nat.lt_of_lt_of_le (by decide : 255 < 2 ^ 8) (Nat.pow_le_pow_right (by decide) (by omega)))]
      simp
    rw [BitVec.getLsbD_and, BitVec.getLsbD_and, h255, Bool.and_false, Bool.and_false]
theorem own_nat4 (n : Nat) (h : n < 4294967296) : (((((((n / 16777216 % 256) * 256) + n / 65536 % 256) * 256) + n / 256 % 256) * 256) + n % 256) = n := by omega
/-- a byte put below: as numbers -/
theorem own_put (r b : BitVec 32) (hr : r.toNat < 16777216) (hb : b.toNat < 256) : (r <<< 8 ||| b).toNat = r.toNat * 256 + b.toNat := by
  rw [BitVec.toNat_or, BitVec.toNat_shiftLeft, Nat.shiftLeft_eq, Nat.mod_eq_of_lt (by omega), Nat.mul_comm r.toNat]
  rw [show (2 ^ 8 * r.toNat ||| b.toNat) = 2 ^ 8 * r.toNat + b.toNat from (Nat.two_pow_add_eq_or_of_lt hb r.toNat).symm]
theorem own_byte (v : Int32) (j : Nat) (d : Nat) (hd : d = 2 ^ j) (s : UInt32) (hs : s.toNat = j) (hj : j < 32) : (((v.toUInt32 >>> s).toInt32 &&& (255 : Int32)).toBitVec).toNat = v.toUInt32.toNat / d % 256 := by
  show ((v.toUInt32 >>> s).toBitVec &&& 255#32).toNat = _
  rw [BitVec.toNat_and]
  have ht : (v.toUInt32 >>> s).toBitVec.toNat = v.toUInt32.toNat / d := by
    show (v.toUInt32 >>> s).toNat = _
    rw [UInt32.toNat_shiftRight, hs, Nat.mod_eq_of_lt hj, Nat.shiftRight_eq_div_pow, hd]
  rw [ht]
  exact Nat.and_two_pow_sub_one_eq_mod _ 8
theorem own_byte0 (v : Int32) : ((v &&& (255 : Int32)).toBitVec).toNat = v.toUInt32.toNat % 256 := by
  show (v.toBitVec &&& 255#32).toNat = _
  rw [BitVec.toNat_and]
  exact Nat.and_two_pow_sub_one_eq_mod _ 8
def own_B (v : Int32) (k : Nat) : Int32 :=
  if k = 0 then nar .byte (v.toInt8.toInt32) else if k = 1 then nar .byte (((v.toUInt32 >>> ((8 : Int32) &&& 31).toUInt32).toInt32).toInt8.toInt32)
  else if k = 2 then nar .byte (((v.toUInt32 >>> ((16 : Int32) &&& 31).toUInt32).toInt32).toInt8.toInt32) else nar .byte (((v.toUInt32 >>> ((24 : Int32) &&& 31).toUInt32).toInt32).toInt8.toInt32)
theorem own_step (r b : Int32) : ((r <<< ((8 : Int32) &&& 31)) ||| b).toBitVec = (r.toBitVec <<< 8) ||| b.toBitVec := by
  have e8 : ((8 : Int32) &&& 31) = 8 := by decide
  rw [e8, Int32.toBitVec_or, Int32.toBitVec_shiftLeft]
  rfl
theorem own_all (v : Int32) (k : Nat) (hk : k ≤ 4) : own_rd (own_B v) k 0 = own_to_F7 v (Int32.ofNat k) := by
  have hn := v.toUInt32.toNat_lt
  have c0 : own_B v 0 &&& (255 : Int32) = v &&& (255 : Int32) := own_bits v
  have c1 : own_B v 1 &&& (255 : Int32) = (v.toUInt32 >>> ((8 : Int32) &&& 31).toUInt32).toInt32 &&& (255 : Int32) := own_bits _
  have c2 : own_B v 2 &&& (255 : Int32) = (v.toUInt32 >>> ((16 : Int32) &&& 31).toUInt32).toInt32 &&& (255 : Int32) := own_bits _
  have c3 : own_B v 3 &&& (255 : Int32) = (v.toUInt32 >>> ((24 : Int32) &&& 31).toUInt32).toInt32 &&& (255 : Int32) := own_bits _
  have b0 := own_byte0 v
  have b1 := own_byte v 8 256 (by decide) (((8 : Int32) &&& 31).toUInt32) (by decide) (by decide)
  have b2 := own_byte v 16 65536 (by decide) (((16 : Int32) &&& 31).toUInt32) (by decide) (by decide)
  have b3 := own_byte v 24 16777216 (by decide) (((24 : Int32) &&& 31).toUInt32) (by decide) (by decide)
  rw [← c0] at b0
  rw [← c1] at b1
  rw [← c2] at b2
  rw [← c3] at b3
  have z0 : (0 : Int32).toBitVec.toNat = 0 := by decide
  have hv : v.toBitVec.toNat = v.toUInt32.toNat := rfl
  have p : ∀ (r x : Int32) (a c : Nat), r.toBitVec.toNat = a → x.toBitVec.toNat = c → a < 16777216 → c < 256 → ((r <<< ((8 : Int32) &&& 31)) ||| x).toBitVec.toNat = a * 256 + c := by
    intro r x a c h1 h2 h3 h4
    rw [own_step, own_put _ _ (by omega) (by omega), h1, h2]
  match k, hk with
  | 0, _ => rfl
  | 1, _ =>
    apply Int32.toBitVec_inj.mp
    apply BitVec.eq_of_toNat_eq
    show ((0 <<< ((8 : Int32) &&& 31)) ||| (own_B v 0 &&& 255)).toBitVec.toNat = (v.toBitVec &&& 255#32).toNat
    rw [p 0 _ 0 _ z0 b0 (by omega) (by omega), BitVec.toNat_and, hv]
    rw [show (255#32).toNat = 2 ^ 8 - 1 from rfl, Nat.and_two_pow_sub_one_eq_mod]
    omega
  | 2, _ =>
    apply Int32.toBitVec_inj.mp
    apply BitVec.eq_of_toNat_eq
    show ((((0 <<< ((8 : Int32) &&& 31)) ||| (own_B v 1 &&& 255)) <<< ((8 : Int32) &&& 31)) ||| (own_B v 0 &&& 255)).toBitVec.toNat = (v.toBitVec &&& 65535#32).toNat
    have q1 := p 0 _ 0 _ z0 b1 (by omega) (by omega)
    rw [p _ _ _ _ q1 b0 (by omega) (by omega), BitVec.toNat_and, hv]
    rw [show (65535#32).toNat = 2 ^ 16 - 1 from rfl, Nat.and_two_pow_sub_one_eq_mod]
    omega
  | 3, _ =>
    apply Int32.toBitVec_inj.mp
    apply BitVec.eq_of_toNat_eq
    show ((((((0 <<< ((8 : Int32) &&& 31)) ||| (own_B v 2 &&& 255)) <<< ((8 : Int32) &&& 31)) ||| (own_B v 1 &&& 255)) <<< ((8 : Int32) &&& 31)) ||| (own_B v 0 &&& 255)).toBitVec.toNat = (v.toBitVec &&& 16777215#32).toNat
    have q1 := p 0 _ 0 _ z0 b2 (by omega) (by omega)
    have q2 := p _ _ _ _ q1 b1 (by omega) (by omega)
    rw [p _ _ _ _ q2 b0 (by omega) (by omega), BitVec.toNat_and, hv]
    rw [show (16777215#32).toNat = 2 ^ 24 - 1 from rfl, Nat.and_two_pow_sub_one_eq_mod]
    omega
  | 4, _ =>
    apply Int32.toBitVec_inj.mp
    apply BitVec.eq_of_toNat_eq
    show ((((((((0 <<< ((8 : Int32) &&& 31)) ||| (own_B v 3 &&& 255)) <<< ((8 : Int32) &&& 31)) ||| (own_B v 2 &&& 255)) <<< ((8 : Int32) &&& 31)) ||| (own_B v 1 &&& 255)) <<< ((8 : Int32) &&& 31)) ||| (own_B v 0 &&& 255)).toBitVec.toNat = v.toBitVec.toNat
    have q1 := p 0 _ 0 _ z0 b3 (by omega) (by omega)
    have q2 := p _ _ _ _ q1 b2 (by omega) (by omega)
    have q3 := p _ _ _ _ q2 b1 (by omega) (by omega)
    rw [p _ _ _ _ q3 b0 (by omega) (by omega), hv]
    omega

def own_t0_F (x7 : Int32) (r : Int32) : Int32 := (if r = x7 then (1 : Int32) else (0 : Int32))
set_option maxRecDepth 65536 in
set_option maxHeartbeats 40000000 in
theorem own_t0 {p : Program} {l : Launch} {e : Env} {R : Room} {s : State} {m : MethodId} {args : Array Value} {below : List Frame} {meth : Method} {c : Code} {T0 : State} {locs : List Loc} {cells slots : Nat} {Z : State} {a0 : Array Value} (X : Stand p l e R s m args below meth c T0 locs cells slots) (hx : p.tables.exec = Jvm.exec) (hZ : Z.Warmed39 s.vm) (hw : ∀ d ∈ tables_1, d.before a0 Z = true) (hby : c.code = code) (hown : s.vm.findClass "com/example/cinderwire/cinderwire/VaxIntegerReadPinLaw" = some m.cls) (hret : meth.sig.returnType = some .boolean) (v : Int32) (xf : Int32) (xg : Int32) (xs : Int32) (xa : Addr) (o5 : Int32) (n6 : Int32) (x7 : Int32) (r : Int32) {fs : List Frame}
    (hr : ∀ (f : JFrame) (acts : List Action), f.method = m → f.locked = none → f.entered = [] → (doReturn e (T0.setTop f) acts (some (.int (own_t0_F x7 r)))).1 = T0.setFrames fs) :
    Steps p.tables e below (T0.setTop (mkF m 188 #[.val (.int v), .val (.int xf), .val (.int xg), .val (.int xs), .val (.ref xa), .val (.int o5), .val (.int n6), .val (.int x7)] [(.int r)])) (T0.setFrames fs) := by
  show Steps p.tables e below (T0.setTop (mkF m 188 #[.val (.int v), .val (.int xf), .val (.int xg), .val (.int xs), .val (.ref xa), .val (.int o5), .val (.int n6), .val (.int x7)] [(.int r)])) _
  refine XS.iload X.here hx rfl (hb hby at_188) rfl ?_
  show Steps p.tables e below (T0.setTop (mkF m 190 #[.val (.int v), .val (.int xf), .val (.int xg), .val (.int xs), .val (.ref xa), .val (.int o5), .val (.int n6), .val (.int x7)] [(.int x7), (.int r)])) _
  by_cases hc190_1 : r = x7
  · refine XS.icmpNo X.here hx rfl (hb hby at_190) rfl (teq hc190_1).2 ?_
    show Steps p.tables e below (T0.setTop (mkF m 193 #[.val (.int v), .val (.int xf), .val (.int xg), .val (.int xs), .val (.ref xa), .val (.int o5), .val (.int n6), .val (.int x7)] [])) _
    refine XS.iconst X.here hx rfl (hb hby at_193) ?_
    show Steps p.tables e below (T0.setTop (mkF m 194 #[.val (.int v), .val (.int xf), .val (.int xg), .val (.int xs), .val (.ref xa), .val (.int o5), .val (.int n6), .val (.int x7)] [(.int (1 : Int32))])) _
    refine XS.goto X.here hx rfl (pc0 := 194) (pc' := 198) rfl (hb hby at_194) (by decide) (by decide) ?_
    show Steps p.tables e below (T0.setTop (mkF m 198 #[.val (.int v), .val (.int xf), .val (.int xg), .val (.int xs), .val (.ref xa), .val (.int o5), .val (.int n6), .val (.int x7)] [(.int (1 : Int32))])) _
    have hF : own_t0_F x7 r = (1 : Int32) := by unfold own_t0_F; simp only [if_pos hc190_1]
    rw [hF] at hr
    exact retN X hx (t := .boolean) hret (by simp) (hb hby at_198) hr
  · refine XS.icmpYes X.here hx rfl (pc0 := 190) (pc' := 197) rfl (hb hby at_190) rfl (feq hc190_1).2 (by decide) (by decide) ?_
    show Steps p.tables e below (T0.setTop (mkF m 197 #[.val (.int v), .val (.int xf), .val (.int xg), .val (.int xs), .val (.ref xa), .val (.int o5), .val (.int n6), .val (.int x7)] [])) _
    refine XS.iconst X.here hx rfl (hb hby at_197) ?_
    show Steps p.tables e below (T0.setTop (mkF m 198 #[.val (.int v), .val (.int xf), .val (.int xg), .val (.int xs), .val (.ref xa), .val (.int o5), .val (.int n6), .val (.int x7)] [(.int (0 : Int32))])) _
    have hF : own_t0_F x7 r = (0 : Int32) := by unfold own_t0_F; simp only [if_neg hc190_1]
    rw [hF] at hr
    exact retN X hx (t := .boolean) hret (by simp) (hb hby at_198) hr
theorem d1_7 : decode prog_178_method_2_code 7 = .ok (.iload 4, 2) := by decide +kernel
theorem d1_9 : decode prog_178_method_2_code 9 = .ok (.ifCond .lt 25, 3) := by decide +kernel
theorem d1_34 : decode prog_178_method_2_code 34 = .ok (.iload_n 3, 1) := by decide +kernel
theorem d1_35 : decode prog_178_method_2_code 35 = .ok (.ireturn, 1) := by decide +kernel
theorem d1_12 : decode prog_178_method_2_code 12 = .ok (.iload_n 3, 1) := by decide +kernel
theorem d1_13 : decode prog_178_method_2_code 13 = .ok (.bipush 8, 2) := by decide +kernel
theorem d1_15 : decode prog_178_method_2_code 15 = .ok (.ishl, 1) := by decide +kernel
theorem d1_16 : decode prog_178_method_2_code 16 = .ok (.aload_n 0, 1) := by decide +kernel
theorem d1_17 : decode prog_178_method_2_code 17 = .ok (.iload_n 1, 1) := by decide +kernel
theorem d1_18 : decode prog_178_method_2_code 18 = .ok (.iload 4, 2) := by decide +kernel
theorem d1_20 : decode prog_178_method_2_code 20 = .ok (.iadd, 1) := by decide +kernel
theorem d1_21 : decode prog_178_method_2_code 21 = .ok (.baload, 1) := by decide +kernel
theorem d1_22 : decode prog_178_method_2_code 22 = .ok (.sipush 255, 3) := by decide +kernel
theorem d1_25 : decode prog_178_method_2_code 25 = .ok (.iand, 1) := by decide +kernel
theorem d1_26 : decode prog_178_method_2_code 26 = .ok (.ior, 1) := by decide +kernel
theorem d1_27 : decode prog_178_method_2_code 27 = .ok (.istore_n 3, 1) := by decide +kernel
theorem d1_28 : decode prog_178_method_2_code 28 = .ok (.iinc 4 (-1), 3) := by decide +kernel
theorem d1_31 : decode prog_178_method_2_code 31 = .ok (.goto (-24), 3) := by decide +kernel
set_option maxRecDepth 65536 in
set_option maxHeartbeats 40000000 in
theorem own_loop {p : Program} {l : Launch} {e : Env} {R : Room} {s : State} {m : MethodId} {args : Array Value} {below : List Frame} {meth : Method} {c : Code} {T0 : State} {locs : List Loc} {cells slots : Nat} {Z : State} {a0 : Array Value} {h : Heap} {fs : List Frame} (X : Stand p l e R s m args below meth c T0 locs cells slots) (hx : p.tables.exec = Jvm.exec) (hZ : Z.Warmed39 s.vm) (hby : c.code = prog_178_method_2_code) (hret : meth.sig.returnType = some .int) (e0 : T0.heap = h) (a : Addr) (o : Nat) (ho : o ≤ 3) (len : Int32) (F B : Nat → Int32) (V : own_I Z h a 7 F) (hB : ∀ i, i < 4 → F (o + i) = B i) (k : Nat) : k ≤ 4 → ∀ (r : Int32), (∀ (f : JFrame) (acts : List Action), f.method = m → f.locked = none → f.entered = [] → (doReturn e (T0.setTop f) acts (some (.int (own_rd B k r)))).1 = T0.setFrames fs) →
    Steps p.tables e below (T0.setTop (mkF m 7 #[.val (.ref a), .val (.int (Int32.ofNat o)), .val (.int len), .val (.int r), .val (.int ((Int32.ofNat k) - (1 : Int32)))] [])) (T0.setFrames fs) := by
  induction k with
  | zero =>
    intro hk r hr
    show Steps p.tables e below (T0.setTop (mkF m 7 #[.val (.ref a), .val (.int (Int32.ofNat o)), .val (.int len), .val (.int r), .val (.int ((Int32.ofNat 0) - (1 : Int32)))] [])) _
    refine XS.iload X.here hx rfl (hb hby d1_7) rfl ?_
    show Steps p.tables e below (T0.setTop (mkF m 9 #[.val (.ref a), .val (.int (Int32.ofNat o)), .val (.int len), .val (.int r), .val (.int ((Int32.ofNat 0) - (1 : Int32)))] [(.int ((Int32.ofNat 0) - (1 : Int32)))])) _
    refine XS.ifYes X.here hx rfl (pc0 := 9) (pc' := 34) rfl (hb hby d1_9) rfl ((if0 _ _).trans (tlt (by decide)).1) (by decide) (by decide) ?_
    show Steps p.tables e below (T0.setTop (mkF m 34 #[.val (.ref a), .val (.int (Int32.ofNat o)), .val (.int len), .val (.int r), .val (.int ((Int32.ofNat 0) - (1 : Int32)))] [])) _
    refine XS.iloadN X.here hx rfl (hb hby d1_34) rfl ?_
    show Steps p.tables e below (T0.setTop (mkF m 35 #[.val (.ref a), .val (.int (Int32.ofNat o)), .val (.int len), .val (.int r), .val (.int ((Int32.ofNat 0) - (1 : Int32)))] [(.int r)])) _
    exact retI X hx hret (hb hby d1_35) hr
  | succ k ih =>
    intro hk r hr
    obtain ⟨cl, Ar, Sz, Hf⟩ := V
    have hpk := own_plus ⟨o, by omega⟩ ⟨k, by omega⟩
    dsimp only at hpk
    have hin := own_I_in (Z := Z) (h := h) (a := a) Sz hpk.1 hpk.2.1 (show o + k < 7 by omega)
    have hat : cl.slots[((Int32.ofNat o) + (Int32.ofNat k)).toNatClampNeg]? = some (.int (B k)) := by
      rw [hpk.2.1, Hf (o + k) (by omega), hB k (by omega)]
    rw [own_dn k]
    show Steps p.tables e below (T0.setTop (mkF m 7 #[.val (.ref a), .val (.int (Int32.ofNat o)), .val (.int len), .val (.int r), .val (.int (Int32.ofNat k))] [])) _
    refine XS.iload X.here hx rfl (hb hby d1_7) rfl ?_
    show Steps p.tables e below (T0.setTop (mkF m 9 #[.val (.ref a), .val (.int (Int32.ofNat o)), .val (.int len), .val (.int r), .val (.int (Int32.ofNat k))] [(.int (Int32.ofNat k))])) _
    refine XS.ifNo X.here hx rfl (hb hby d1_9) rfl ((if0 _ _).trans (flt hpk.2.2).1) ?_
    show Steps p.tables e below (T0.setTop (mkF m 12 #[.val (.ref a), .val (.int (Int32.ofNat o)), .val (.int len), .val (.int r), .val (.int (Int32.ofNat k))] [])) _
    refine XS.iloadN X.here hx rfl (hb hby d1_12) rfl ?_
    show Steps p.tables e below (T0.setTop (mkF m 13 #[.val (.ref a), .val (.int (Int32.ofNat o)), .val (.int len), .val (.int r), .val (.int (Int32.ofNat k))] [(.int r)])) _
    refine XS.bipush X.here hx rfl (hb hby d1_13) ?_
    show Steps p.tables e below (T0.setTop (mkF m 15 #[.val (.ref a), .val (.int (Int32.ofNat o)), .val (.int len), .val (.int r), .val (.int (Int32.ofNat k))] [(.int (8 : Int32)), (.int r)])) _
    refine XS.ishl X.here hx rfl (hb hby d1_15) rfl ?_
    show Steps p.tables e below (T0.setTop (mkF m 16 #[.val (.ref a), .val (.int (Int32.ofNat o)), .val (.int len), .val (.int r), .val (.int (Int32.ofNat k))] [(.int (r <<< ((8 : Int32) &&& 31)))])) _
    refine XS.aloadN X.here hx rfl (hb hby d1_16) rfl rfl ?_
    show Steps p.tables e below (T0.setTop (mkF m 17 #[.val (.ref a), .val (.int (Int32.ofNat o)), .val (.int len), .val (.int r), .val (.int (Int32.ofNat k))] [(.ref a), (.int (r <<< ((8 : Int32) &&& 31)))])) _
    refine XS.iloadN X.here hx rfl (hb hby d1_17) rfl ?_
    show Steps p.tables e below (T0.setTop (mkF m 18 #[.val (.ref a), .val (.int (Int32.ofNat o)), .val (.int len), .val (.int r), .val (.int (Int32.ofNat k))] [(.int (Int32.ofNat o)), (.ref a), (.int (r <<< ((8 : Int32) &&& 31)))])) _
    refine XS.iload X.here hx rfl (hb hby d1_18) rfl ?_
    show Steps p.tables e below (T0.setTop (mkF m 20 #[.val (.ref a), .val (.int (Int32.ofNat o)), .val (.int len), .val (.int r), .val (.int (Int32.ofNat k))] [(.int (Int32.ofNat k)), (.int (Int32.ofNat o)), (.ref a), (.int (r <<< ((8 : Int32) &&& 31)))])) _
    refine XS.iadd X.here hx rfl (hb hby d1_20) rfl ?_
    show Steps p.tables e below (T0.setTop (mkF m 21 #[.val (.ref a), .val (.int (Int32.ofNat o)), .val (.int len), .val (.int r), .val (.int (Int32.ofNat k))] [(.int ((Int32.ofNat o) + (Int32.ofNat k))), (.ref a), (.int (r <<< ((8 : Int32) &&& 31)))])) _
    refine X.baloadBytes hx (j := ((Int32.ofNat o) + (Int32.ofNat k))) (v := (.int (B k))) (by rw [e0]; exact Ar.1) (State.isArrayOf_alike hZ.alike Ar.2.1) Ar.2.2 hin hat (g := (mkF m 21 #[.val (.ref a), .val (.int (Int32.ofNat o)), .val (.int len), .val (.int r), .val (.int (Int32.ofNat k))] [(.int ((Int32.ofNat o) + (Int32.ofNat k))), (.ref a), (.int (r <<< ((8 : Int32) &&& 31)))])) rfl rfl (hb hby d1_21) _ ?_
    show Steps p.tables e below (T0.setTop (mkF m 22 #[.val (.ref a), .val (.int (Int32.ofNat o)), .val (.int len), .val (.int r), .val (.int (Int32.ofNat k))] [(.int (B k)), (.int (r <<< ((8 : Int32) &&& 31)))])) _
    refine XS.sipush X.here hx rfl (hb hby d1_22) ?_
    show Steps p.tables e below (T0.setTop (mkF m 25 #[.val (.ref a), .val (.int (Int32.ofNat o)), .val (.int len), .val (.int r), .val (.int (Int32.ofNat k))] [(.int (255 : Int32)), (.int (B k)), (.int (r <<< ((8 : Int32) &&& 31)))])) _
    refine XS.iand X.here hx rfl (hb hby d1_25) rfl ?_
    show Steps p.tables e below (T0.setTop (mkF m 26 #[.val (.ref a), .val (.int (Int32.ofNat o)), .val (.int len), .val (.int r), .val (.int (Int32.ofNat k))] [(.int ((B k) &&& (255 : Int32))), (.int (r <<< ((8 : Int32) &&& 31)))])) _
    refine XS.ior X.here hx rfl (hb hby d1_26) rfl ?_
    show Steps p.tables e below (T0.setTop (mkF m 27 #[.val (.ref a), .val (.int (Int32.ofNat o)), .val (.int len), .val (.int r), .val (.int (Int32.ofNat k))] [(.int ((r <<< ((8 : Int32) &&& 31)) ||| ((B k) &&& (255 : Int32))))])) _
    refine XS.istoreN X.here hx rfl (hb hby d1_27) rfl (l' := #[.val (.ref a), .val (.int (Int32.ofNat o)), .val (.int len), .val (.int ((r <<< ((8 : Int32) &&& 31)) ||| ((B k) &&& (255 : Int32)))), .val (.int (Int32.ofNat k))]) rfl ?_
    show Steps p.tables e below (T0.setTop (mkF m 28 #[.val (.ref a), .val (.int (Int32.ofNat o)), .val (.int len), .val (.int ((r <<< ((8 : Int32) &&& 31)) ||| ((B k) &&& (255 : Int32)))), .val (.int (Int32.ofNat k))] [])) _
    refine XS.iinc X.here hx rfl (hb hby d1_28) rfl (l' := #[.val (.ref a), .val (.int (Int32.ofNat o)), .val (.int len), .val (.int ((r <<< ((8 : Int32) &&& 31)) ||| ((B k) &&& (255 : Int32)))), .val (.int ((Int32.ofNat k) + (-1 : Int32)))]) rfl ?_
    show Steps p.tables e below (T0.setTop (mkF m 31 #[.val (.ref a), .val (.int (Int32.ofNat o)), .val (.int len), .val (.int ((r <<< ((8 : Int32) &&& 31)) ||| ((B k) &&& (255 : Int32)))), .val (.int ((Int32.ofNat k) + (-1 : Int32)))] [])) _
    rw [own_dec k]
    show Steps p.tables e below (T0.setTop (mkF m 31 #[.val (.ref a), .val (.int (Int32.ofNat o)), .val (.int len), .val (.int ((r <<< ((8 : Int32) &&& 31)) ||| ((B k) &&& (255 : Int32)))), .val (.int ((Int32.ofNat k) - (1 : Int32)))] [])) _
    refine XS.goto X.here hx rfl (pc0 := 31) (pc' := 7) rfl (hb hby d1_31) (by decide) (by decide) ?_
    show Steps p.tables e below (T0.setTop (mkF m 7 #[.val (.ref a), .val (.int (Int32.ofNat o)), .val (.int len), .val (.int ((r <<< ((8 : Int32) &&& 31)) ||| ((B k) &&& (255 : Int32)))), .val (.int ((Int32.ofNat k) - (1 : Int32)))] [])) _
    exact ih (by omega) _ hr
theorem pn_1 : plainName "com/example/cinderwire/cinderwire/VaxInteger" = true := by first | (simp [plainName, overriddenIn]; done) | decide +kernel
theorem ef_1 (m : MethodId) (x0 : Addr) (x1 : Int32) (x2 : Int32) : entryFrame m #[(.ref x0), (.int x1), (.int x2)] 5 = mkF m 0 #[.val (.ref x0), .val (.int x1), .val (.int x2), .unset, .unset] [] := by first | (simp [entryFrame, mkF, argsToLocals, Value.category]; done) | rfl
theorem d1_0 : decode prog_178_method_2_code 0 = .ok (.iconst 0, 1) := by decide +kernel
theorem d1_1 : decode prog_178_method_2_code 1 = .ok (.istore_n 3, 1) := by decide +kernel
theorem d1_2 : decode prog_178_method_2_code 2 = .ok (.iload_n 2, 1) := by decide +kernel
theorem d1_3 : decode prog_178_method_2_code 3 = .ok (.iconst 1, 1) := by decide +kernel
theorem d1_4 : decode prog_178_method_2_code 4 = .ok (.isub, 1) := by decide +kernel
theorem d1_5 : decode prog_178_method_2_code 5 = .ok (.istore 4, 2) := by decide +kernel
set_option maxRecDepth 65536 in
set_option maxHeartbeats 40000000 in
theorem own_rm1 (l : Launch) (Z : State) (a0 : Array Value) (hw : ∀ d ∈ tables_1, d.before a0 Z = true) (ws : List Jvm.Cond) (ar : Addr) (o : Nat) (ho : o ≤ 3) (kn : Nat) (hk : kn ≤ 4) (F B : Nat → Int32) (h0 : Heap) (n0 : Nat) (V : own_I Z h0 ar 7 F) (hB : ∀ i, i < 4 → F (o + i) = B i) :
    MetFree l (⟨"com/example/cinderwire/cinderwire/VaxInteger", "read", "([BII)I"⟩ : MethodName) (head1 (Jvm.Cond.code (⟨"com/example/cinderwire/cinderwire/VaxInteger", "read", "([BII)I"⟩ : MethodName) prog_178_method_2_code 5 (some .int) :: ws) ({ frames := 0, cells := 0, slots := 0, locals := 0 } : Room)) (fun a U => a = #[(.ref ar), (.int (Int32.ofNat o)), (.int (Int32.ofNat kn))] ∧ Z.Warmed39 U.vm ∧ U.heap = h0) (fun _ _ _ _ _ => True) (fun _ U o U' => ∃ v L, o = .returned v ∧ (own_Q (some (.int (own_rd B kn 0))) n0 h0 v U'.heap L) ∧ FrameEnd U o U' L ({ frames := 0, cells := 0, slots := 0, locals := 0 } : Room).cells ({ frames := 0, cells := 0, slots := 0, locals := 0 } : Room).slots) := by
  refine MetFree.of_bodySF (plainFor_of_name pn_1) hisR ?_
  intro p e s m args below meth c s₁ Bd hml0 hP hK
  obtain ⟨rfl, hZ, hh⟩ := hP
  have hx := Bd.exec
  have hby := Bd.bytes
  have hml : c.maxLocals = 5 := hml0
  have hown : s.vm.findClass "com/example/cinderwire/cinderwire/VaxInteger" = some m.cls := findClass_of_methodNamed Bd.named
  have X0 : Stand p l e ({ frames := 0, cells := 0, slots := 0, locals := 0 } : Room) s m #[(.ref ar), (.int (Int32.ofNat o)), (.int (Int32.ofNat kn))] below meth c s₁ [] 0 0 := Stand.of_body Bd
  have e0 : s₁.heap = h0 := by rw [← hh, Bd.state]; rfl
  have N0 := Fr.nil n0
  have pre0 : ∀ t, Steps p.tables e below (s₁.setTop (mkF m 0 #[.val (.ref ar), .val (.int (Int32.ofNat o)), .val (.int (Int32.ofNat kn)), .unset, .unset] [])) t → Steps p.tables e below (s₁.setTop (entryFrame m #[(.ref ar), (.int (Int32.ofNat o)), (.int (Int32.ofNat kn))] 5)) t := fun t kt_ => castTop (ef_1 m ar (Int32.ofNat o) (Int32.ofNat kn)) kt_
  obtain ⟨fs, hr, hrun, hended, hW, hsame⟩ := X0.leave (v := some (.int (own_rd B kn 0))) (fun h => by rw [Bd.returns] at h; cases h)
  refine ⟨_, _, pre0 _ ?_, hrun, hended, _, _, rfl, ?_, ⟨_, rfl⟩, hW, hsame.mono (by decide) (by decide)⟩
  · show Steps p.tables e below (s₁.setTop (mkF m 0 #[.val (.ref ar), .val (.int (Int32.ofNat o)), .val (.int (Int32.ofNat kn)), .unset, .unset] [])) _
    refine XS.iconst X0.here hx rfl (hb hby d1_0) ?_
    show Steps p.tables e below (s₁.setTop (mkF m 1 #[.val (.ref ar), .val (.int (Int32.ofNat o)), .val (.int (Int32.ofNat kn)), .unset, .unset] [(.int (0 : Int32))])) _
    refine XS.istoreN X0.here hx rfl (hb hby d1_1) rfl (l' := #[.val (.ref ar), .val (.int (Int32.ofNat o)), .val (.int (Int32.ofNat kn)), .val (.int (0 : Int32)), .unset]) rfl ?_
    show Steps p.tables e below (s₁.setTop (mkF m 2 #[.val (.ref ar), .val (.int (Int32.ofNat o)), .val (.int (Int32.ofNat kn)), .val (.int (0 : Int32)), .unset] [])) _
    refine XS.iloadN X0.here hx rfl (hb hby d1_2) rfl ?_
    show Steps p.tables e below (s₁.setTop (mkF m 3 #[.val (.ref ar), .val (.int (Int32.ofNat o)), .val (.int (Int32.ofNat kn)), .val (.int (0 : Int32)), .unset] [(.int (Int32.ofNat kn))])) _
    refine XS.iconst X0.here hx rfl (hb hby d1_3) ?_
    show Steps p.tables e below (s₁.setTop (mkF m 4 #[.val (.ref ar), .val (.int (Int32.ofNat o)), .val (.int (Int32.ofNat kn)), .val (.int (0 : Int32)), .unset] [(.int (1 : Int32)), (.int (Int32.ofNat kn))])) _
    refine XS.isub X0.here hx rfl (hb hby d1_4) rfl ?_
    show Steps p.tables e below (s₁.setTop (mkF m 5 #[.val (.ref ar), .val (.int (Int32.ofNat o)), .val (.int (Int32.ofNat kn)), .val (.int (0 : Int32)), .unset] [(.int ((Int32.ofNat kn) - (1 : Int32)))])) _
    refine XS.istore X0.here hx rfl (hb hby d1_5) rfl (l' := #[.val (.ref ar), .val (.int (Int32.ofNat o)), .val (.int (Int32.ofNat kn)), .val (.int (0 : Int32)), .val (.int ((Int32.ofNat kn) - (1 : Int32)))]) rfl ?_
    show Steps p.tables e below (s₁.setTop (mkF m 7 #[.val (.ref ar), .val (.int (Int32.ofNat o)), .val (.int (Int32.ofNat kn)), .val (.int (0 : Int32)), .val (.int ((Int32.ofNat kn) - (1 : Int32)))] [])) _
    exact own_loop (a0 := a0) X0 hx hZ hby Bd.returns e0 ar o ho _ F B V hB kn hk _ hr
  · exact ⟨rfl, N0, e0⟩
theorem pn_0 : plainName "com/example/cinderwire/cinderwire/VaxIntegerReadPinLaw" = true := by first | (simp [plainName, overriddenIn]; done) | decide +kernel
theorem ef_0 (m : MethodId) (x0 : Int32) (x1 : Int32) (x2 : Int32) (x3 : Int32) : entryFrame m #[(.int x0), (.int x1), (.int x2), (.int x3)] maxLocals = mkF m 0 #[.val (.int x0), .val (.int x1), .val (.int x2), .val (.int x3), .unset, .unset, .unset, .unset] [] := by first | (simp [entryFrame, mkF, argsToLocals, Value.category, maxLocals]; done) | rfl
theorem pd_0_9 : parseMethodDescriptor "([BII)I" = some ⟨[(.array .byte), .int, .int], some .int⟩ := by decide +kernel
theorem own_one (p1 : Int32) (k : Nat) (hk : k ≤ 4) : (own_t0_F (own_to_F7 p1 (Int32.ofNat k)) (own_rd (own_B p1) k 0)) = 1 := by
  unfold own_t0_F
  exact if_pos (own_all p1 k hk)
theorem own_last (G : Nat → Int32) (p1 : Int32) (o i : Nat) (hi : i < 4) : (fun i => if i = o + 3 then nar .byte (((p1.toUInt32 >>> ((24 : Int32) &&& 31).toUInt32).toInt32).toInt8.toInt32) else (fun i => if i = o + 2 then nar .byte (((p1.toUInt32 >>> ((16 : Int32) &&& 31).toUInt32).toInt32).toInt8.toInt32) else (fun i => if i = o + 1 then nar .byte (((p1.toUInt32 >>> ((8 : Int32) &&& 31).toUInt32).toInt32).toInt8.toInt32) else (fun i => if i = o then nar .byte (p1.toInt8.toInt32) else G i) i) i) i) (o + i) = own_B p1 i := by
  match i, hi with
  | 0, _ =>
    show (if o + 0 = o + 3 then _ else if o + 0 = o + 2 then _ else if o + 0 = o + 1 then _ else if o + 0 = o then _ else _) = own_B p1 0
    rw [if_neg (by omega), if_neg (by omega), if_neg (by omega), if_pos (by omega)]
    rfl
  | 1, _ =>
    show (if o + 1 = o + 3 then _ else if o + 1 = o + 2 then _ else if o + 1 = o + 1 then _ else _) = own_B p1 1
    rw [if_neg (by omega), if_neg (by omega), if_pos rfl]
    rfl
  | 2, _ =>
    show (if o + 2 = o + 3 then _ else if o + 2 = o + 2 then _ else _) = own_B p1 2
    rw [if_neg (by omega), if_pos rfl]
    rfl
  | 3, _ =>
    show (if o + 3 = o + 3 then _ else _) = own_B p1 3
    rw [if_pos rfl]
    rfl
set_option maxRecDepth 65536 in
set_option maxHeartbeats 40000000 in
theorem own_rm0c (l : Launch) (Z : State) (a0 : Array Value) (hw : ∀ d ∈ tables_1, d.before a0 Z = true) (ws : List Jvm.Cond) (p1 p2 p3 p4 : Int32) (o : Nat) (ho : o ≤ 3) (hoff : (p4 &&& (3 : Int32)) = Int32.ofNat o) (k : Nat) (hk : k ≤ 4) (hlen : (((p4.toUInt32 >>> ((2 : Int32) &&& 31).toUInt32).toInt32) - (((p4.toUInt32 >>> ((2 : Int32) &&& 31).toUInt32).toInt32) / (5 : Int32)) * (5 : Int32)) = Int32.ofNat k) (h0 : Heap) (n0 : Nat) (Z0 : n0 ≤ h0.size) :
    MetFree l x (head1 (Jvm.Cond.code x code maxLocals ret :: ws) room_1) (fun a U => a = #[(.int p1), (.int p2), (.int p3), (.int p4)] ∧ Z.Warmed39 U.vm ∧ U.heap = h0) (fun _ _ _ _ _ => True) (fun _ U o U' => ∃ v L, o = .returned v ∧ (v = some (.int 1) ∧ Fr n0 L) ∧ FrameEnd U o U' L room_1.cells room_1.slots) := by
  refine MetFree.of_bodySF (plainFor_of_name pn_0) hisR ?_
  intro p e s m args below meth c s₁ Bd hml0 hP hK
  obtain ⟨rfl, hZ, hh⟩ := hP
  have hx := Bd.exec
  have hby := Bd.bytes
  have hml : c.maxLocals = 8 := hml0
  have hown : s.vm.findClass "com/example/cinderwire/cinderwire/VaxIntegerReadPinLaw" = some m.cls := findClass_of_methodNamed Bd.named
  have X0 : Stand p l e room_1 s m #[(.int p1), (.int p2), (.int p3), (.int p4)] below meth c s₁ [] 0 0 := Stand.of_body Bd
  have e0 : s₁.heap = h0 := by rw [← hh, Bd.state]; rfl
  have N0 := Fr.nil n0
  have pre0 : ∀ t, Steps p.tables e below (s₁.setTop (mkF m 0 #[.val (.int p1), .val (.int p2), .val (.int p3), .val (.int p4), .unset, .unset, .unset, .unset] [])) t → Steps p.tables e below (s₁.setTop (entryFrame m #[(.int p1), (.int p2), (.int p3), (.int p4)] maxLocals)) t := fun t kt_ => castTop (ef_0 m p1 p2 p3 p4) kt_
  obtain ⟨T1, h1, cA1, X1, e1, E1, A1, st1⟩ := newP X0 hx hZ (hw _ (List.mem_of_getElem? (i := 0) rfl)) e0 (g := (mkF m 2 #[.val (.int p1), .val (.int p2), .val (.int p3), .val (.int p4), .unset, .unset, .unset, .unset] [(.int (7 : Int32))])) rfl (hb hby at_2) rfl (by decide) (cap := 7) (by decide) (by decide) (by decide) (by decide)
  obtain ⟨b1, g1⟩ : ∃ z, z = h0.size := ⟨_, rfl⟩
  rw [← g1] at A1 st1
  have V1 := own_I_new A1 (n := 7) (by decide)
  have gb1 : n0 ≤ b1 := Nat.le_trans Z0 (Nat.le_of_eq g1.symm)
  obtain ⟨T2, h2, X2, e2, V2, st2⟩ := own_I_st X1 hx hZ e1 V1 (k := 0) (by decide) (by decide) (by decide) (g := (mkF m 11 #[.val (.int p1), .val (.int p2), .val (.int p3), .val (.int p4), .val (.ref b1), .unset, .unset, .unset] [(.int (p2.toInt8.toInt32)), (.int (0 : Int32)), (.ref b1)])) rfl rfl (hb hby at_11)
  have N2 := Fr.snoc X2 N0 gb1
  obtain ⟨T3, h3, X3, e3, V3, st3⟩ := own_I_st X2 hx hZ e2 V2 (k := 1) (by decide) (by decide) (by decide) (g := (mkF m 20 #[.val (.int p1), .val (.int p2), .val (.int p3), .val (.int p4), .val (.ref b1), .unset, .unset, .unset] [(.int (((p2.toUInt32 >>> ((8 : Int32) &&& 31).toUInt32).toInt32).toInt8.toInt32)), (.int (1 : Int32)), (.ref b1)])) rfl rfl (hb hby at_20)
  have N3 := Fr.snoc X3 N2 gb1
  obtain ⟨T4, h4, X4, e4, V4, st4⟩ := own_I_st X3 hx hZ e3 V3 (k := 2) (by decide) (by decide) (by decide) (g := (mkF m 29 #[.val (.int p1), .val (.int p2), .val (.int p3), .val (.int p4), .val (.ref b1), .unset, .unset, .unset] [(.int (((p2.toUInt32 >>> ((16 : Int32) &&& 31).toUInt32).toInt32).toInt8.toInt32)), (.int (2 : Int32)), (.ref b1)])) rfl rfl (hb hby at_29)
  have N4 := Fr.snoc X4 N3 gb1
  obtain ⟨T5, h5, X5, e5, V5, st5⟩ := own_I_st X4 hx hZ e4 V4 (k := 3) (by decide) (by decide) (by decide) (g := (mkF m 38 #[.val (.int p1), .val (.int p2), .val (.int p3), .val (.int p4), .val (.ref b1), .unset, .unset, .unset] [(.int (((p2.toUInt32 >>> ((24 : Int32) &&& 31).toUInt32).toInt32).toInt8.toInt32)), (.int (3 : Int32)), (.ref b1)])) rfl rfl (hb hby at_38)
  have N5 := Fr.snoc X5 N4 gb1
  obtain ⟨T6, h6, X6, e6, V6, st6⟩ := own_I_st X5 hx hZ e5 V5 (k := 4) (by decide) (by decide) (by decide) (g := (mkF m 44 #[.val (.int p1), .val (.int p2), .val (.int p3), .val (.int p4), .val (.ref b1), .unset, .unset, .unset] [(.int (p3.toInt8.toInt32)), (.int (4 : Int32)), (.ref b1)])) rfl rfl (hb hby at_44)
  have N6 := Fr.snoc X6 N5 gb1
  obtain ⟨T7, h7, X7, e7, V7, st7⟩ := own_I_st X6 hx hZ e6 V6 (k := 5) (by decide) (by decide) (by decide) (g := (mkF m 53 #[.val (.int p1), .val (.int p2), .val (.int p3), .val (.int p4), .val (.ref b1), .unset, .unset, .unset] [(.int (((p3.toUInt32 >>> ((8 : Int32) &&& 31).toUInt32).toInt32).toInt8.toInt32)), (.int (5 : Int32)), (.ref b1)])) rfl rfl (hb hby at_53)
  have N7 := Fr.snoc X7 N6 gb1
  obtain ⟨T8, h8, X8, e8, V8, st8⟩ := own_I_st X7 hx hZ e7 V7 (k := 6) (by decide) (by decide) (by decide) (g := (mkF m 63 #[.val (.int p1), .val (.int p2), .val (.int p3), .val (.int p4), .val (.ref b1), .unset, .unset, .unset] [(.int (((p3.toUInt32 >>> ((16 : Int32) &&& 31).toUInt32).toInt32).toInt8.toInt32)), (.int (6 : Int32)), (.ref b1)])) rfl rfl (hb hby at_63)
  have N8 := Fr.snoc X8 N7 gb1
  obtain ⟨G, VG⟩ : ∃ G, own_I Z h8 b1 7 G := ⟨_, V8⟩
  obtain ⟨T9, h9, X9, e9, V9, st9⟩ := own_I_st X8 hx hZ e8 VG (k := o) (own_o0 ⟨o, by omega⟩).1 (own_o0 ⟨o, by omega⟩).2 (by omega) (g := (mkF m 82 #[.val (.int p1), .val (.int p2), .val (.int p3), .val (.int p4), .val (.ref b1), .val (.int (Int32.ofNat o)), .val (.int (Int32.ofNat k)), .unset] [(.int (p1.toInt8.toInt32)), (.int (Int32.ofNat o)), (.ref b1)])) rfl rfl (hb hby at_82)
  have N9 := Fr.snoc X9 N8 gb1
  obtain ⟨T10, h10, X10, e10, V10, st10⟩ := own_I_st X9 hx hZ e9 V9 (k := (o + 1)) (own_o1 ⟨o, by omega⟩).1 (own_o1 ⟨o, by omega⟩).2 (by omega) (g := (mkF m 94 #[.val (.int p1), .val (.int p2), .val (.int p3), .val (.int p4), .val (.ref b1), .val (.int (Int32.ofNat o)), .val (.int (Int32.ofNat k)), .unset] [(.int (((p1.toUInt32 >>> ((8 : Int32) &&& 31).toUInt32).toInt32).toInt8.toInt32)), (.int ((Int32.ofNat o) + (1 : Int32))), (.ref b1)])) rfl rfl (hb hby at_94)
  have N10 := Fr.snoc X10 N9 gb1
  obtain ⟨T11, h11, X11, e11, V11, st11⟩ := own_I_st X10 hx hZ e10 V10 (k := (o + 2)) (own_o2 ⟨o, by omega⟩).1 (own_o2 ⟨o, by omega⟩).2 (by omega) (g := (mkF m 106 #[.val (.int p1), .val (.int p2), .val (.int p3), .val (.int p4), .val (.ref b1), .val (.int (Int32.ofNat o)), .val (.int (Int32.ofNat k)), .unset] [(.int (((p1.toUInt32 >>> ((16 : Int32) &&& 31).toUInt32).toInt32).toInt8.toInt32)), (.int ((Int32.ofNat o) + (2 : Int32))), (.ref b1)])) rfl rfl (hb hby at_106)
  have N11 := Fr.snoc X11 N10 gb1
  obtain ⟨T12, h12, X12, e12, V12, st12⟩ := own_I_st X11 hx hZ e11 V11 (k := (o + 3)) (own_o3 ⟨o, by omega⟩).1 (own_o3 ⟨o, by omega⟩).2 (by omega) (g := (mkF m 118 #[.val (.int p1), .val (.int p2), .val (.int p3), .val (.int p4), .val (.ref b1), .val (.int (Int32.ofNat o)), .val (.int (Int32.ofNat k)), .unset] [(.int (((p1.toUInt32 >>> ((24 : Int32) &&& 31).toUInt32).toInt32).toInt8.toInt32)), (.int ((Int32.ofNat o) + (3 : Int32))), (.ref b1)])) rfl rfl (hb hby at_118)
  have N12 := Fr.snoc X12 N11 gb1
  obtain ⟨_, _, ⟨T13, L13, k13, n13⟩, -, X13, ⟨Lc13, hQ13, l13, y13, z13⟩, st13⟩ := Jvm.LawKit.callS X12 hx (y := (⟨"com/example/cinderwire/cinderwire/VaxInteger", "read", "([BII)I"⟩ : MethodName)) hown (mvT hZ (hw _ (List.mem_of_getElem? (i := 1) rfl))) (mvT hZ (hw _ (List.mem_of_getElem? (i := 2) rfl))) (mvT hZ (hw _ (List.mem_of_getElem? (i := 3) rfl))) (mvT hZ (hw _ (List.mem_of_getElem? (i := 4) rfl))) (by decide) (backOf (W := 0) (own_rm1 l Z a0 hw [] b1 o ho k hk _ (own_B p1) h12 n0 V12 (fun i hi => own_last G p1 o i hi)) hZ (hw _ (List.mem_of_getElem? (i := 4) rfl)) (hw _ (List.mem_of_getElem? (i := 3) rfl)) (by decide) (by decide)) (g := (mkF m 185 #[.val (.int p1), .val (.int p2), .val (.int p3), .val (.int p4), .val (.ref b1), .val (.int (Int32.ofNat o)), .val (.int (Int32.ofNat k)), .val (.int (own_to_F7 p1 (Int32.ofNat k)))] [(.int (Int32.ofNat k)), (.int (Int32.ofNat o)), (.ref b1)])) rfl (by rw [hml]; rfl) (argsL := [(.ref b1), (.int (Int32.ofNat o)), (.int (Int32.ofNat k))]) (rest := []) (lenOf pd_0_9 rfl) rfl (by show 2 * 0 + _ ≤ _; exact Nat.le_of_eq rfl) (hb hby at_185) (fun _ _ => ⟨rfl, e12, (by decide : 1 + 0 ≤ _), (by decide : 7 + 0 ≤ _)⟩)
  dsimp only [Pt.U, Pt.locs, Pt.cells, Pt.slots] at X13 l13 y13 z13 st13 hQ13
  subst l13 y13 z13
  obtain ⟨rfl, N13q, e13⟩ := hQ13
  have N13 := Fr.app N12 N13q
  obtain ⟨fs, hr, hrun, hended, hW, hsame⟩ := X13.leave (v := some (.int (own_t0_F (own_to_F7 p1 (Int32.ofNat k)) (own_rd (own_B p1) k 0)))) (fun h => by rw [Bd.returns] at h; cases h)
  refine ⟨_, _, pre0 _ ?_, hrun, hended, _, _, rfl, ?_, ⟨_, rfl⟩, hW, hsame.mono (by decide) (by decide)⟩
  · show Steps p.tables e below (s₁.setTop (mkF m 0 #[.val (.int p1), .val (.int p2), .val (.int p3), .val (.int p4), .unset, .unset, .unset, .unset] [])) _
    refine XS.bipush X0.here hx rfl (hb hby at_0) ?_
    show Steps p.tables e below (s₁.setTop (mkF m 2 #[.val (.int p1), .val (.int p2), .val (.int p3), .val (.int p4), .unset, .unset, .unset, .unset] [(.int (7 : Int32))])) _
    refine st1 _ ?_
    show Steps p.tables e below (T1.setTop (mkF m 4 #[.val (.int p1), .val (.int p2), .val (.int p3), .val (.int p4), .unset, .unset, .unset, .unset] [(.ref b1)])) _
    refine XS.astore X1.here hx rfl (hb hby at_4) rfl rfl (l' := #[.val (.int p1), .val (.int p2), .val (.int p3), .val (.int p4), .val (.ref b1), .unset, .unset, .unset]) rfl ?_
    show Steps p.tables e below (T1.setTop (mkF m 6 #[.val (.int p1), .val (.int p2), .val (.int p3), .val (.int p4), .val (.ref b1), .unset, .unset, .unset] [])) _
    refine XS.aload X1.here hx rfl (hb hby at_6) rfl rfl ?_
    show Steps p.tables e below (T1.setTop (mkF m 8 #[.val (.int p1), .val (.int p2), .val (.int p3), .val (.int p4), .val (.ref b1), .unset, .unset, .unset] [(.ref b1)])) _
    refine XS.iconst X1.here hx rfl (hb hby at_8) ?_
    show Steps p.tables e below (T1.setTop (mkF m 9 #[.val (.int p1), .val (.int p2), .val (.int p3), .val (.int p4), .val (.ref b1), .unset, .unset, .unset] [(.int (0 : Int32)), (.ref b1)])) _
    refine XS.iloadN X1.here hx rfl (hb hby at_9) rfl ?_
    show Steps p.tables e below (T1.setTop (mkF m 10 #[.val (.int p1), .val (.int p2), .val (.int p3), .val (.int p4), .val (.ref b1), .unset, .unset, .unset] [(.int p2), (.int (0 : Int32)), (.ref b1)])) _
    refine XS.i2b X1.here hx rfl (hb hby at_10) rfl ?_
    show Steps p.tables e below (T1.setTop (mkF m 11 #[.val (.int p1), .val (.int p2), .val (.int p3), .val (.int p4), .val (.ref b1), .unset, .unset, .unset] [(.int (p2.toInt8.toInt32)), (.int (0 : Int32)), (.ref b1)])) _
    refine st2 _ ?_
    show Steps p.tables e below (T2.setTop (mkF m 12 #[.val (.int p1), .val (.int p2), .val (.int p3), .val (.int p4), .val (.ref b1), .unset, .unset, .unset] [])) _
    refine XS.aload X2.here hx rfl (hb hby at_12) rfl rfl ?_
    show Steps p.tables e below (T2.setTop (mkF m 14 #[.val (.int p1), .val (.int p2), .val (.int p3), .val (.int p4), .val (.ref b1), .unset, .unset, .unset] [(.ref b1)])) _
    refine XS.iconst X2.here hx rfl (hb hby at_14) ?_
    show Steps p.tables e below (T2.setTop (mkF m 15 #[.val (.int p1), .val (.int p2), .val (.int p3), .val (.int p4), .val (.ref b1), .unset, .unset, .unset] [(.int (1 : Int32)), (.ref b1)])) _
    refine XS.iloadN X2.here hx rfl (hb hby at_15) rfl ?_
    show Steps p.tables e below (T2.setTop (mkF m 16 #[.val (.int p1), .val (.int p2), .val (.int p3), .val (.int p4), .val (.ref b1), .unset, .unset, .unset] [(.int p2), (.int (1 : Int32)), (.ref b1)])) _
    refine XS.bipush X2.here hx rfl (hb hby at_16) ?_
    show Steps p.tables e below (T2.setTop (mkF m 18 #[.val (.int p1), .val (.int p2), .val (.int p3), .val (.int p4), .val (.ref b1), .unset, .unset, .unset] [(.int (8 : Int32)), (.int p2), (.int (1 : Int32)), (.ref b1)])) _
    refine XS.iushr X2.here hx rfl (hb hby at_18) rfl ?_
    show Steps p.tables e below (T2.setTop (mkF m 19 #[.val (.int p1), .val (.int p2), .val (.int p3), .val (.int p4), .val (.ref b1), .unset, .unset, .unset] [(.int ((p2.toUInt32 >>> ((8 : Int32) &&& 31).toUInt32).toInt32)), (.int (1 : Int32)), (.ref b1)])) _
    refine XS.i2b X2.here hx rfl (hb hby at_19) rfl ?_
    show Steps p.tables e below (T2.setTop (mkF m 20 #[.val (.int p1), .val (.int p2), .val (.int p3), .val (.int p4), .val (.ref b1), .unset, .unset, .unset] [(.int (((p2.toUInt32 >>> ((8 : Int32) &&& 31).toUInt32).toInt32).toInt8.toInt32)), (.int (1 : Int32)), (.ref b1)])) _
    refine st3 _ ?_
    show Steps p.tables e below (T3.setTop (mkF m 21 #[.val (.int p1), .val (.int p2), .val (.int p3), .val (.int p4), .val (.ref b1), .unset, .unset, .unset] [])) _
    refine XS.aload X3.here hx rfl (hb hby at_21) rfl rfl ?_
    show Steps p.tables e below (T3.setTop (mkF m 23 #[.val (.int p1), .val (.int p2), .val (.int p3), .val (.int p4), .val (.ref b1), .unset, .unset, .unset] [(.ref b1)])) _
    refine XS.iconst X3.here hx rfl (hb hby at_23) ?_
    show Steps p.tables e below (T3.setTop (mkF m 24 #[.val (.int p1), .val (.int p2), .val (.int p3), .val (.int p4), .val (.ref b1), .unset, .unset, .unset] [(.int (2 : Int32)), (.ref b1)])) _
    refine XS.iloadN X3.here hx rfl (hb hby at_24) rfl ?_
    show Steps p.tables e below (T3.setTop (mkF m 25 #[.val (.int p1), .val (.int p2), .val (.int p3), .val (.int p4), .val (.ref b1), .unset, .unset, .unset] [(.int p2), (.int (2 : Int32)), (.ref b1)])) _
    refine XS.bipush X3.here hx rfl (hb hby at_25) ?_
    show Steps p.tables e below (T3.setTop (mkF m 27 #[.val (.int p1), .val (.int p2), .val (.int p3), .val (.int p4), .val (.ref b1), .unset, .unset, .unset] [(.int (16 : Int32)), (.int p2), (.int (2 : Int32)), (.ref b1)])) _
    refine XS.iushr X3.here hx rfl (hb hby at_27) rfl ?_
    show Steps p.tables e below (T3.setTop (mkF m 28 #[.val (.int p1), .val (.int p2), .val (.int p3), .val (.int p4), .val (.ref b1), .unset, .unset, .unset] [(.int ((p2.toUInt32 >>> ((16 : Int32) &&& 31).toUInt32).toInt32)), (.int (2 : Int32)), (.ref b1)])) _
    refine XS.i2b X3.here hx rfl (hb hby at_28) rfl ?_
    show Steps p.tables e below (T3.setTop (mkF m 29 #[.val (.int p1), .val (.int p2), .val (.int p3), .val (.int p4), .val (.ref b1), .unset, .unset, .unset] [(.int (((p2.toUInt32 >>> ((16 : Int32) &&& 31).toUInt32).toInt32).toInt8.toInt32)), (.int (2 : Int32)), (.ref b1)])) _
    refine st4 _ ?_
    show Steps p.tables e below (T4.setTop (mkF m 30 #[.val (.int p1), .val (.int p2), .val (.int p3), .val (.int p4), .val (.ref b1), .unset, .unset, .unset] [])) _
    refine XS.aload X4.here hx rfl (hb hby at_30) rfl rfl ?_
    show Steps p.tables e below (T4.setTop (mkF m 32 #[.val (.int p1), .val (.int p2), .val (.int p3), .val (.int p4), .val (.ref b1), .unset, .unset, .unset] [(.ref b1)])) _
    refine XS.iconst X4.here hx rfl (hb hby at_32) ?_
    show Steps p.tables e below (T4.setTop (mkF m 33 #[.val (.int p1), .val (.int p2), .val (.int p3), .val (.int p4), .val (.ref b1), .unset, .unset, .unset] [(.int (3 : Int32)), (.ref b1)])) _
    refine XS.iloadN X4.here hx rfl (hb hby at_33) rfl ?_
    show Steps p.tables e below (T4.setTop (mkF m 34 #[.val (.int p1), .val (.int p2), .val (.int p3), .val (.int p4), .val (.ref b1), .unset, .unset, .unset] [(.int p2), (.int (3 : Int32)), (.ref b1)])) _
    refine XS.bipush X4.here hx rfl (hb hby at_34) ?_
    show Steps p.tables e below (T4.setTop (mkF m 36 #[.val (.int p1), .val (.int p2), .val (.int p3), .val (.int p4), .val (.ref b1), .unset, .unset, .unset] [(.int (24 : Int32)), (.int p2), (.int (3 : Int32)), (.ref b1)])) _
    refine XS.iushr X4.here hx rfl (hb hby at_36) rfl ?_
    show Steps p.tables e below (T4.setTop (mkF m 37 #[.val (.int p1), .val (.int p2), .val (.int p3), .val (.int p4), .val (.ref b1), .unset, .unset, .unset] [(.int ((p2.toUInt32 >>> ((24 : Int32) &&& 31).toUInt32).toInt32)), (.int (3 : Int32)), (.ref b1)])) _
    refine XS.i2b X4.here hx rfl (hb hby at_37) rfl ?_
    show Steps p.tables e below (T4.setTop (mkF m 38 #[.val (.int p1), .val (.int p2), .val (.int p3), .val (.int p4), .val (.ref b1), .unset, .unset, .unset] [(.int (((p2.toUInt32 >>> ((24 : Int32) &&& 31).toUInt32).toInt32).toInt8.toInt32)), (.int (3 : Int32)), (.ref b1)])) _
    refine st5 _ ?_
    show Steps p.tables e below (T5.setTop (mkF m 39 #[.val (.int p1), .val (.int p2), .val (.int p3), .val (.int p4), .val (.ref b1), .unset, .unset, .unset] [])) _
    refine XS.aload X5.here hx rfl (hb hby at_39) rfl rfl ?_
    show Steps p.tables e below (T5.setTop (mkF m 41 #[.val (.int p1), .val (.int p2), .val (.int p3), .val (.int p4), .val (.ref b1), .unset, .unset, .unset] [(.ref b1)])) _
    refine XS.iconst X5.here hx rfl (hb hby at_41) ?_
    show Steps p.tables e below (T5.setTop (mkF m 42 #[.val (.int p1), .val (.int p2), .val (.int p3), .val (.int p4), .val (.ref b1), .unset, .unset, .unset] [(.int (4 : Int32)), (.ref b1)])) _
    refine XS.iloadN X5.here hx rfl (hb hby at_42) rfl ?_
    show Steps p.tables e below (T5.setTop (mkF m 43 #[.val (.int p1), .val (.int p2), .val (.int p3), .val (.int p4), .val (.ref b1), .unset, .unset, .unset] [(.int p3), (.int (4 : Int32)), (.ref b1)])) _
    refine XS.i2b X5.here hx rfl (hb hby at_43) rfl ?_
    show Steps p.tables e below (T5.setTop (mkF m 44 #[.val (.int p1), .val (.int p2), .val (.int p3), .val (.int p4), .val (.ref b1), .unset, .unset, .unset] [(.int (p3.toInt8.toInt32)), (.int (4 : Int32)), (.ref b1)])) _
    refine st6 _ ?_
    show Steps p.tables e below (T6.setTop (mkF m 45 #[.val (.int p1), .val (.int p2), .val (.int p3), .val (.int p4), .val (.ref b1), .unset, .unset, .unset] [])) _
    refine XS.aload X6.here hx rfl (hb hby at_45) rfl rfl ?_
    show Steps p.tables e below (T6.setTop (mkF m 47 #[.val (.int p1), .val (.int p2), .val (.int p3), .val (.int p4), .val (.ref b1), .unset, .unset, .unset] [(.ref b1)])) _
    refine XS.iconst X6.here hx rfl (hb hby at_47) ?_
    show Steps p.tables e below (T6.setTop (mkF m 48 #[.val (.int p1), .val (.int p2), .val (.int p3), .val (.int p4), .val (.ref b1), .unset, .unset, .unset] [(.int (5 : Int32)), (.ref b1)])) _
    refine XS.iloadN X6.here hx rfl (hb hby at_48) rfl ?_
    show Steps p.tables e below (T6.setTop (mkF m 49 #[.val (.int p1), .val (.int p2), .val (.int p3), .val (.int p4), .val (.ref b1), .unset, .unset, .unset] [(.int p3), (.int (5 : Int32)), (.ref b1)])) _
    refine XS.bipush X6.here hx rfl (hb hby at_49) ?_
    show Steps p.tables e below (T6.setTop (mkF m 51 #[.val (.int p1), .val (.int p2), .val (.int p3), .val (.int p4), .val (.ref b1), .unset, .unset, .unset] [(.int (8 : Int32)), (.int p3), (.int (5 : Int32)), (.ref b1)])) _
    refine XS.iushr X6.here hx rfl (hb hby at_51) rfl ?_
    show Steps p.tables e below (T6.setTop (mkF m 52 #[.val (.int p1), .val (.int p2), .val (.int p3), .val (.int p4), .val (.ref b1), .unset, .unset, .unset] [(.int ((p3.toUInt32 >>> ((8 : Int32) &&& 31).toUInt32).toInt32)), (.int (5 : Int32)), (.ref b1)])) _
    refine XS.i2b X6.here hx rfl (hb hby at_52) rfl ?_
    show Steps p.tables e below (T6.setTop (mkF m 53 #[.val (.int p1), .val (.int p2), .val (.int p3), .val (.int p4), .val (.ref b1), .unset, .unset, .unset] [(.int (((p3.toUInt32 >>> ((8 : Int32) &&& 31).toUInt32).toInt32).toInt8.toInt32)), (.int (5 : Int32)), (.ref b1)])) _
    refine st7 _ ?_
    show Steps p.tables e below (T7.setTop (mkF m 54 #[.val (.int p1), .val (.int p2), .val (.int p3), .val (.int p4), .val (.ref b1), .unset, .unset, .unset] [])) _
    refine XS.aload X7.here hx rfl (hb hby at_54) rfl rfl ?_
    show Steps p.tables e below (T7.setTop (mkF m 56 #[.val (.int p1), .val (.int p2), .val (.int p3), .val (.int p4), .val (.ref b1), .unset, .unset, .unset] [(.ref b1)])) _
    refine XS.bipush X7.here hx rfl (hb hby at_56) ?_
    show Steps p.tables e below (T7.setTop (mkF m 58 #[.val (.int p1), .val (.int p2), .val (.int p3), .val (.int p4), .val (.ref b1), .unset, .unset, .unset] [(.int (6 : Int32)), (.ref b1)])) _
    refine XS.iloadN X7.here hx rfl (hb hby at_58) rfl ?_
    show Steps p.tables e below (T7.setTop (mkF m 59 #[.val (.int p1), .val (.int p2), .val (.int p3), .val (.int p4), .val (.ref b1), .unset, .unset, .unset] [(.int p3), (.int (6 : Int32)), (.ref b1)])) _
    refine XS.bipush X7.here hx rfl (hb hby at_59) ?_
    show Steps p.tables e below (T7.setTop (mkF m 61 #[.val (.int p1), .val (.int p2), .val (.int p3), .val (.int p4), .val (.ref b1), .unset, .unset, .unset] [(.int (16 : Int32)), (.int p3), (.int (6 : Int32)), (.ref b1)])) _
    refine XS.iushr X7.here hx rfl (hb hby at_61) rfl ?_
    show Steps p.tables e below (T7.setTop (mkF m 62 #[.val (.int p1), .val (.int p2), .val (.int p3), .val (.int p4), .val (.ref b1), .unset, .unset, .unset] [(.int ((p3.toUInt32 >>> ((16 : Int32) &&& 31).toUInt32).toInt32)), (.int (6 : Int32)), (.ref b1)])) _
    refine XS.i2b X7.here hx rfl (hb hby at_62) rfl ?_
    show Steps p.tables e below (T7.setTop (mkF m 63 #[.val (.int p1), .val (.int p2), .val (.int p3), .val (.int p4), .val (.ref b1), .unset, .unset, .unset] [(.int (((p3.toUInt32 >>> ((16 : Int32) &&& 31).toUInt32).toInt32).toInt8.toInt32)), (.int (6 : Int32)), (.ref b1)])) _
    refine st8 _ ?_
    show Steps p.tables e below (T8.setTop (mkF m 64 #[.val (.int p1), .val (.int p2), .val (.int p3), .val (.int p4), .val (.ref b1), .unset, .unset, .unset] [])) _
    refine XS.iloadN X8.here hx rfl (hb hby at_64) rfl ?_
    show Steps p.tables e below (T8.setTop (mkF m 65 #[.val (.int p1), .val (.int p2), .val (.int p3), .val (.int p4), .val (.ref b1), .unset, .unset, .unset] [(.int p4)])) _
    refine XS.iconst X8.here hx rfl (hb hby at_65) ?_
    show Steps p.tables e below (T8.setTop (mkF m 66 #[.val (.int p1), .val (.int p2), .val (.int p3), .val (.int p4), .val (.ref b1), .unset, .unset, .unset] [(.int (3 : Int32)), (.int p4)])) _
    refine XS.iand X8.here hx rfl (hb hby at_66) rfl ?_
    show Steps p.tables e below (T8.setTop (mkF m 67 #[.val (.int p1), .val (.int p2), .val (.int p3), .val (.int p4), .val (.ref b1), .unset, .unset, .unset] [(.int (p4 &&& (3 : Int32)))])) _
    rw [hoff]
    show Steps p.tables e below (T8.setTop (mkF m 67 #[.val (.int p1), .val (.int p2), .val (.int p3), .val (.int p4), .val (.ref b1), .unset, .unset, .unset] [(.int (Int32.ofNat o))])) _
    refine XS.istore X8.here hx rfl (hb hby at_67) rfl (l' := #[.val (.int p1), .val (.int p2), .val (.int p3), .val (.int p4), .val (.ref b1), .val (.int (Int32.ofNat o)), .unset, .unset]) rfl ?_
    show Steps p.tables e below (T8.setTop (mkF m 69 #[.val (.int p1), .val (.int p2), .val (.int p3), .val (.int p4), .val (.ref b1), .val (.int (Int32.ofNat o)), .unset, .unset] [])) _
    refine XS.iloadN X8.here hx rfl (hb hby at_69) rfl ?_
    show Steps p.tables e below (T8.setTop (mkF m 70 #[.val (.int p1), .val (.int p2), .val (.int p3), .val (.int p4), .val (.ref b1), .val (.int (Int32.ofNat o)), .unset, .unset] [(.int p4)])) _
    refine XS.iconst X8.here hx rfl (hb hby at_70) ?_
    show Steps p.tables e below (T8.setTop (mkF m 71 #[.val (.int p1), .val (.int p2), .val (.int p3), .val (.int p4), .val (.ref b1), .val (.int (Int32.ofNat o)), .unset, .unset] [(.int (2 : Int32)), (.int p4)])) _
    refine XS.iushr X8.here hx rfl (hb hby at_71) rfl ?_
    show Steps p.tables e below (T8.setTop (mkF m 72 #[.val (.int p1), .val (.int p2), .val (.int p3), .val (.int p4), .val (.ref b1), .val (.int (Int32.ofNat o)), .unset, .unset] [(.int ((p4.toUInt32 >>> ((2 : Int32) &&& 31).toUInt32).toInt32))])) _
    refine XS.iconst X8.here hx rfl (hb hby at_72) ?_
    show Steps p.tables e below (T8.setTop (mkF m 73 #[.val (.int p1), .val (.int p2), .val (.int p3), .val (.int p4), .val (.ref b1), .val (.int (Int32.ofNat o)), .unset, .unset] [(.int (5 : Int32)), (.int ((p4.toUInt32 >>> ((2 : Int32) &&& 31).toUInt32).toInt32))])) _
    refine XS.irem X8.here hx rfl (hb hby at_73) rfl (by decide) ?_
    show Steps p.tables e below (T8.setTop (mkF m 74 #[.val (.int p1), .val (.int p2), .val (.int p3), .val (.int p4), .val (.ref b1), .val (.int (Int32.ofNat o)), .unset, .unset] [(.int (((p4.toUInt32 >>> ((2 : Int32) &&& 31).toUInt32).toInt32) - (((p4.toUInt32 >>> ((2 : Int32) &&& 31).toUInt32).toInt32) / (5 : Int32)) * (5 : Int32)))])) _
    rw [hlen]
    show Steps p.tables e below (T8.setTop (mkF m 74 #[.val (.int p1), .val (.int p2), .val (.int p3), .val (.int p4), .val (.ref b1), .val (.int (Int32.ofNat o)), .unset, .unset] [(.int (Int32.ofNat k))])) _
    refine XS.istore X8.here hx rfl (hb hby at_74) rfl (l' := #[.val (.int p1), .val (.int p2), .val (.int p3), .val (.int p4), .val (.ref b1), .val (.int (Int32.ofNat o)), .val (.int (Int32.ofNat k)), .unset]) rfl ?_
    show Steps p.tables e below (T8.setTop (mkF m 76 #[.val (.int p1), .val (.int p2), .val (.int p3), .val (.int p4), .val (.ref b1), .val (.int (Int32.ofNat o)), .val (.int (Int32.ofNat k)), .unset] [])) _
    refine XS.aload X8.here hx rfl (hb hby at_76) rfl rfl ?_
    show Steps p.tables e below (T8.setTop (mkF m 78 #[.val (.int p1), .val (.int p2), .val (.int p3), .val (.int p4), .val (.ref b1), .val (.int (Int32.ofNat o)), .val (.int (Int32.ofNat k)), .unset] [(.ref b1)])) _
    refine XS.iload X8.here hx rfl (hb hby at_78) rfl ?_
    show Steps p.tables e below (T8.setTop (mkF m 80 #[.val (.int p1), .val (.int p2), .val (.int p3), .val (.int p4), .val (.ref b1), .val (.int (Int32.ofNat o)), .val (.int (Int32.ofNat k)), .unset] [(.int (Int32.ofNat o)), (.ref b1)])) _
    refine XS.iloadN X8.here hx rfl (hb hby at_80) rfl ?_
    show Steps p.tables e below (T8.setTop (mkF m 81 #[.val (.int p1), .val (.int p2), .val (.int p3), .val (.int p4), .val (.ref b1), .val (.int (Int32.ofNat o)), .val (.int (Int32.ofNat k)), .unset] [(.int p1), (.int (Int32.ofNat o)), (.ref b1)])) _
    refine XS.i2b X8.here hx rfl (hb hby at_81) rfl ?_
    show Steps p.tables e below (T8.setTop (mkF m 82 #[.val (.int p1), .val (.int p2), .val (.int p3), .val (.int p4), .val (.ref b1), .val (.int (Int32.ofNat o)), .val (.int (Int32.ofNat k)), .unset] [(.int (p1.toInt8.toInt32)), (.int (Int32.ofNat o)), (.ref b1)])) _
    refine st9 _ ?_
    show Steps p.tables e below (T9.setTop (mkF m 83 #[.val (.int p1), .val (.int p2), .val (.int p3), .val (.int p4), .val (.ref b1), .val (.int (Int32.ofNat o)), .val (.int (Int32.ofNat k)), .unset] [])) _
    refine XS.aload X9.here hx rfl (hb hby at_83) rfl rfl ?_
    show Steps p.tables e below (T9.setTop (mkF m 85 #[.val (.int p1), .val (.int p2), .val (.int p3), .val (.int p4), .val (.ref b1), .val (.int (Int32.ofNat o)), .val (.int (Int32.ofNat k)), .unset] [(.ref b1)])) _
    refine XS.iload X9.here hx rfl (hb hby at_85) rfl ?_
    show Steps p.tables e below (T9.setTop (mkF m 87 #[.val (.int p1), .val (.int p2), .val (.int p3), .val (.int p4), .val (.ref b1), .val (.int (Int32.ofNat o)), .val (.int (Int32.ofNat k)), .unset] [(.int (Int32.ofNat o)), (.ref b1)])) _
    refine XS.iconst X9.here hx rfl (hb hby at_87) ?_
    show Steps p.tables e below (T9.setTop (mkF m 88 #[.val (.int p1), .val (.int p2), .val (.int p3), .val (.int p4), .val (.ref b1), .val (.int (Int32.ofNat o)), .val (.int (Int32.ofNat k)), .unset] [(.int (1 : Int32)), (.int (Int32.ofNat o)), (.ref b1)])) _
    refine XS.iadd X9.here hx rfl (hb hby at_88) rfl ?_
    show Steps p.tables e below (T9.setTop (mkF m 89 #[.val (.int p1), .val (.int p2), .val (.int p3), .val (.int p4), .val (.ref b1), .val (.int (Int32.ofNat o)), .val (.int (Int32.ofNat k)), .unset] [(.int ((Int32.ofNat o) + (1 : Int32))), (.ref b1)])) _
    refine XS.iloadN X9.here hx rfl (hb hby at_89) rfl ?_
    show Steps p.tables e below (T9.setTop (mkF m 90 #[.val (.int p1), .val (.int p2), .val (.int p3), .val (.int p4), .val (.ref b1), .val (.int (Int32.ofNat o)), .val (.int (Int32.ofNat k)), .unset] [(.int p1), (.int ((Int32.ofNat o) + (1 : Int32))), (.ref b1)])) _
    refine XS.bipush X9.here hx rfl (hb hby at_90) ?_
    show Steps p.tables e below (T9.setTop (mkF m 92 #[.val (.int p1), .val (.int p2), .val (.int p3), .val (.int p4), .val (.ref b1), .val (.int (Int32.ofNat o)), .val (.int (Int32.ofNat k)), .unset] [(.int (8 : Int32)), (.int p1), (.int ((Int32.ofNat o) + (1 : Int32))), (.ref b1)])) _
    refine XS.iushr X9.here hx rfl (hb hby at_92) rfl ?_
    show Steps p.tables e below (T9.setTop (mkF m 93 #[.val (.int p1), .val (.int p2), .val (.int p3), .val (.int p4), .val (.ref b1), .val (.int (Int32.ofNat o)), .val (.int (Int32.ofNat k)), .unset] [(.int ((p1.toUInt32 >>> ((8 : Int32) &&& 31).toUInt32).toInt32)), (.int ((Int32.ofNat o) + (1 : Int32))), (.ref b1)])) _
    refine XS.i2b X9.here hx rfl (hb hby at_93) rfl ?_
    show Steps p.tables e below (T9.setTop (mkF m 94 #[.val (.int p1), .val (.int p2), .val (.int p3), .val (.int p4), .val (.ref b1), .val (.int (Int32.ofNat o)), .val (.int (Int32.ofNat k)), .unset] [(.int (((p1.toUInt32 >>> ((8 : Int32) &&& 31).toUInt32).toInt32).toInt8.toInt32)), (.int ((Int32.ofNat o) + (1 : Int32))), (.ref b1)])) _
    refine st10 _ ?_
    show Steps p.tables e below (T10.setTop (mkF m 95 #[.val (.int p1), .val (.int p2), .val (.int p3), .val (.int p4), .val (.ref b1), .val (.int (Int32.ofNat o)), .val (.int (Int32.ofNat k)), .unset] [])) _
    refine XS.aload X10.here hx rfl (hb hby at_95) rfl rfl ?_
    show Steps p.tables e below (T10.setTop (mkF m 97 #[.val (.int p1), .val (.int p2), .val (.int p3), .val (.int p4), .val (.ref b1), .val (.int (Int32.ofNat o)), .val (.int (Int32.ofNat k)), .unset] [(.ref b1)])) _
    refine XS.iload X10.here hx rfl (hb hby at_97) rfl ?_
    show Steps p.tables e below (T10.setTop (mkF m 99 #[.val (.int p1), .val (.int p2), .val (.int p3), .val (.int p4), .val (.ref b1), .val (.int (Int32.ofNat o)), .val (.int (Int32.ofNat k)), .unset] [(.int (Int32.ofNat o)), (.ref b1)])) _
    refine XS.iconst X10.here hx rfl (hb hby at_99) ?_
    show Steps p.tables e below (T10.setTop (mkF m 100 #[.val (.int p1), .val (.int p2), .val (.int p3), .val (.int p4), .val (.ref b1), .val (.int (Int32.ofNat o)), .val (.int (Int32.ofNat k)), .unset] [(.int (2 : Int32)), (.int (Int32.ofNat o)), (.ref b1)])) _
    refine XS.iadd X10.here hx rfl (hb hby at_100) rfl ?_
    show Steps p.tables e below (T10.setTop (mkF m 101 #[.val (.int p1), .val (.int p2), .val (.int p3), .val (.int p4), .val (.ref b1), .val (.int (Int32.ofNat o)), .val (.int (Int32.ofNat k)), .unset] [(.int ((Int32.ofNat o) + (2 : Int32))), (.ref b1)])) _
    refine XS.iloadN X10.here hx rfl (hb hby at_101) rfl ?_
    show Steps p.tables e below (T10.setTop (mkF m 102 #[.val (.int p1), .val (.int p2), .val (.int p3), .val (.int p4), .val (.ref b1), .val (.int (Int32.ofNat o)), .val (.int (Int32.ofNat k)), .unset] [(.int p1), (.int ((Int32.ofNat o) + (2 : Int32))), (.ref b1)])) _
    refine XS.bipush X10.here hx rfl (hb hby at_102) ?_
    show Steps p.tables e below (T10.setTop (mkF m 104 #[.val (.int p1), .val (.int p2), .val (.int p3), .val (.int p4), .val (.ref b1), .val (.int (Int32.ofNat o)), .val (.int (Int32.ofNat k)), .unset] [(.int (16 : Int32)), (.int p1), (.int ((Int32.ofNat o) + (2 : Int32))), (.ref b1)])) _
    refine XS.iushr X10.here hx rfl (hb hby at_104) rfl ?_
    show Steps p.tables e below (T10.setTop (mkF m 105 #[.val (.int p1), .val (.int p2), .val (.int p3), .val (.int p4), .val (.ref b1), .val (.int (Int32.ofNat o)), .val (.int (Int32.ofNat k)), .unset] [(.int ((p1.toUInt32 >>> ((16 : Int32) &&& 31).toUInt32).toInt32)), (.int ((Int32.ofNat o) + (2 : Int32))), (.ref b1)])) _
    refine XS.i2b X10.here hx rfl (hb hby at_105) rfl ?_
    show Steps p.tables e below (T10.setTop (mkF m 106 #[.val (.int p1), .val (.int p2), .val (.int p3), .val (.int p4), .val (.ref b1), .val (.int (Int32.ofNat o)), .val (.int (Int32.ofNat k)), .unset] [(.int (((p1.toUInt32 >>> ((16 : Int32) &&& 31).toUInt32).toInt32).toInt8.toInt32)), (.int ((Int32.ofNat o) + (2 : Int32))), (.ref b1)])) _
    refine st11 _ ?_
    show Steps p.tables e below (T11.setTop (mkF m 107 #[.val (.int p1), .val (.int p2), .val (.int p3), .val (.int p4), .val (.ref b1), .val (.int (Int32.ofNat o)), .val (.int (Int32.ofNat k)), .unset] [])) _
    refine XS.aload X11.here hx rfl (hb hby at_107) rfl rfl ?_
    show Steps p.tables e below (T11.setTop (mkF m 109 #[.val (.int p1), .val (.int p2), .val (.int p3), .val (.int p4), .val (.ref b1), .val (.int (Int32.ofNat o)), .val (.int (Int32.ofNat k)), .unset] [(.ref b1)])) _
    refine XS.iload X11.here hx rfl (hb hby at_109) rfl ?_
    show Steps p.tables e below (T11.setTop (mkF m 111 #[.val (.int p1), .val (.int p2), .val (.int p3), .val (.int p4), .val (.ref b1), .val (.int (Int32.ofNat o)), .val (.int (Int32.ofNat k)), .unset] [(.int (Int32.ofNat o)), (.ref b1)])) _
    refine XS.iconst X11.here hx rfl (hb hby at_111) ?_
    show Steps p.tables e below (T11.setTop (mkF m 112 #[.val (.int p1), .val (.int p2), .val (.int p3), .val (.int p4), .val (.ref b1), .val (.int (Int32.ofNat o)), .val (.int (Int32.ofNat k)), .unset] [(.int (3 : Int32)), (.int (Int32.ofNat o)), (.ref b1)])) _
    refine XS.iadd X11.here hx rfl (hb hby at_112) rfl ?_
    show Steps p.tables e below (T11.setTop (mkF m 113 #[.val (.int p1), .val (.int p2), .val (.int p3), .val (.int p4), .val (.ref b1), .val (.int (Int32.ofNat o)), .val (.int (Int32.ofNat k)), .unset] [(.int ((Int32.ofNat o) + (3 : Int32))), (.ref b1)])) _
    refine XS.iloadN X11.here hx rfl (hb hby at_113) rfl ?_
    show Steps p.tables e below (T11.setTop (mkF m 114 #[.val (.int p1), .val (.int p2), .val (.int p3), .val (.int p4), .val (.ref b1), .val (.int (Int32.ofNat o)), .val (.int (Int32.ofNat k)), .unset] [(.int p1), (.int ((Int32.ofNat o) + (3 : Int32))), (.ref b1)])) _
    refine XS.bipush X11.here hx rfl (hb hby at_114) ?_
    show Steps p.tables e below (T11.setTop (mkF m 116 #[.val (.int p1), .val (.int p2), .val (.int p3), .val (.int p4), .val (.ref b1), .val (.int (Int32.ofNat o)), .val (.int (Int32.ofNat k)), .unset] [(.int (24 : Int32)), (.int p1), (.int ((Int32.ofNat o) + (3 : Int32))), (.ref b1)])) _
    refine XS.iushr X11.here hx rfl (hb hby at_116) rfl ?_
    show Steps p.tables e below (T11.setTop (mkF m 117 #[.val (.int p1), .val (.int p2), .val (.int p3), .val (.int p4), .val (.ref b1), .val (.int (Int32.ofNat o)), .val (.int (Int32.ofNat k)), .unset] [(.int ((p1.toUInt32 >>> ((24 : Int32) &&& 31).toUInt32).toInt32)), (.int ((Int32.ofNat o) + (3 : Int32))), (.ref b1)])) _
    refine XS.i2b X11.here hx rfl (hb hby at_117) rfl ?_
    show Steps p.tables e below (T11.setTop (mkF m 118 #[.val (.int p1), .val (.int p2), .val (.int p3), .val (.int p4), .val (.ref b1), .val (.int (Int32.ofNat o)), .val (.int (Int32.ofNat k)), .unset] [(.int (((p1.toUInt32 >>> ((24 : Int32) &&& 31).toUInt32).toInt32).toInt8.toInt32)), (.int ((Int32.ofNat o) + (3 : Int32))), (.ref b1)])) _
    refine st12 _ ?_
    show Steps p.tables e below (T12.setTop (mkF m 119 #[.val (.int p1), .val (.int p2), .val (.int p3), .val (.int p4), .val (.ref b1), .val (.int (Int32.ofNat o)), .val (.int (Int32.ofNat k)), .unset] [])) _
    refine own_to X12 hx hZ hw hby hown p1 p2 p3 p4 b1 (Int32.ofNat o) (Int32.ofNat k) _ ?_
    show Steps p.tables e below (T12.setTop (mkF m 179 #[.val (.int p1), .val (.int p2), .val (.int p3), .val (.int p4), .val (.ref b1), .val (.int (Int32.ofNat o)), .val (.int (Int32.ofNat k)), .val (.int (own_to_F7 p1 (Int32.ofNat k)))] [])) _
    refine XS.aload X12.here hx rfl (hb hby at_179) rfl rfl ?_
    show Steps p.tables e below (T12.setTop (mkF m 181 #[.val (.int p1), .val (.int p2), .val (.int p3), .val (.int p4), .val (.ref b1), .val (.int (Int32.ofNat o)), .val (.int (Int32.ofNat k)), .val (.int (own_to_F7 p1 (Int32.ofNat k)))] [(.ref b1)])) _
    refine XS.iload X12.here hx rfl (hb hby at_181) rfl ?_
    show Steps p.tables e below (T12.setTop (mkF m 183 #[.val (.int p1), .val (.int p2), .val (.int p3), .val (.int p4), .val (.ref b1), .val (.int (Int32.ofNat o)), .val (.int (Int32.ofNat k)), .val (.int (own_to_F7 p1 (Int32.ofNat k)))] [(.int (Int32.ofNat o)), (.ref b1)])) _
    refine XS.iload X12.here hx rfl (hb hby at_183) rfl ?_
    show Steps p.tables e below (T12.setTop (mkF m 185 #[.val (.int p1), .val (.int p2), .val (.int p3), .val (.int p4), .val (.ref b1), .val (.int (Int32.ofNat o)), .val (.int (Int32.ofNat k)), .val (.int (own_to_F7 p1 (Int32.ofNat k)))] [(.int (Int32.ofNat k)), (.int (Int32.ofNat o)), (.ref b1)])) _
    refine st13 _ ?_
    show Steps p.tables e below (T13.setTop (mkF m 188 #[.val (.int p1), .val (.int p2), .val (.int p3), .val (.int p4), .val (.ref b1), .val (.int (Int32.ofNat o)), .val (.int (Int32.ofNat k)), .val (.int (own_to_F7 p1 (Int32.ofNat k)))] [(.int (own_rd (own_B p1) k 0))])) _
    exact own_t0 X13 hx hZ hw hby hown Bd.returns p1 p2 p3 p4 b1 (Int32.ofNat o) (Int32.ofNat k) (own_to_F7 p1 (Int32.ofNat k)) (own_rd (own_B p1) k 0) hr
  · exact ⟨congrArg (fun z => some (Value.int z)) (own_one p1 k hk), N13⟩
theorem own_rm0 (l : Launch) (Z : State) (a0 : Array Value) (hw : ∀ d ∈ tables_1, d.before a0 Z = true) (ws : List Jvm.Cond) (p1 p2 p3 p4 : Int32) (h0 : Heap) (n0 : Nat) (Z0 : n0 ≤ h0.size) :
    MetFree l x (head1 (Jvm.Cond.code x code maxLocals ret :: ws) room_1) (fun a U => a = #[(.int p1), (.int p2), (.int p3), (.int p4)] ∧ Z.Warmed39 U.vm ∧ U.heap = h0) (fun _ _ _ _ _ => True) (fun _ U o U' => ∃ v L, o = .returned v ∧ (v = some (.int 1) ∧ Fr n0 L) ∧ FrameEnd U o U' L room_1.cells room_1.slots) := by
  obtain ⟨o, ho, hoff⟩ := own_off p4
  obtain ⟨k, hk, hlen⟩ := own_len p4
  exact own_rm0c l Z a0 hw ws p1 p2 p3 p4 o ho hoff k hk hlen h0 n0 Z0
set_option maxRecDepth 65536 in
set_option maxHeartbeats 40000000 in
theorem comes_1 {Post : Tables → Env → Array Value → State → Outcome → State → Prop} (hpost : ∀ tb e args s v u, (limb_1_1.after args s (.returned v) u = true ∧ limb_1_2.after args s (.returned v) u = true ∧ True) → FrameEnd s (.returned v) u (Jvm.fieldLocs frame_1_writes args s ++ Jvm.arrayLocs frame_1_arrays args s ++ Jvm.staticLocs frame_1_statics s) 16 128 → Post tb e args s (.returned v) u) :
    ArmFor flags0 classFile x code maxLocals ret World_1 tables_1 room_1 Calls_1 rest_1 Pre_1 Post := by
  intro l hfl _ _ p e ha hc hk s m args below hf hA hF happ hP
  obtain ⟨hcalls, hrest, hpre⟩ := hP
  obtain ⟨-, -, -, hnamed, -, -, -, hat⟩ := (Spec.applies_iff hf).mp happ
  obtain ⟨hg, hn⟩ := and_e (Cond.before_iff.mp (show (Jvm.Cond.and given_1 narrow_1).before args s = true from hpre))
  obtain ⟨gc, g0⟩ := and_e hg
  obtain ⟨b0, g1⟩ := and_e g0
  obtain ⟨b1, g2⟩ := and_e g1
  obtain ⟨b2, g3⟩ := and_e g2
  obtain ⟨w0, w1, w2, w3, rfl⟩ : ∃ w0 w1 w2 w3 : Value, args = #[w0, w1, w2, w3] := by
    have hs : args.size = 4 := by simpa [Cond.value, given_1] using gc
    obtain ⟨L⟩ := args
    match L, hs with
    | [w0, w1, w2, w3], _ => exact ⟨w0, w1, w2, w3, rfl⟩
  have hw := fun d (hd : d ∈ tables_1) => atoms_spec (ws := Jvm.Cond.code x code maxLocals ret :: tables_1) hat d (List.mem_cons_of_mem _ hd)
  obtain ⟨i0, ei0⟩ := is_v b0
  obtain rfl : w0 = (.int i0) := Option.some.inj ei0
  obtain ⟨i1, ei1⟩ := is_v b1
  obtain rfl : w1 = (.int i1) := Option.some.inj ei1
  obtain ⟨i2, ei2⟩ := is_v b2
  obtain rfl : w2 = (.int i2) := Option.some.inj ei2
  obtain ⟨i3, ei3⟩ := is_v g3
  obtain rfl : w3 = (.int i3) := Option.some.inj ei3
  obtain ⟨n, o, h1, h2, h3, _, L, rfl, ⟨rfl, N⟩, hq⟩ := own_rm0 l s _ hw tables_1 i0 i1 i2 i3 s.heap s.heap.size (Nat.le_refl _) p e ha hc hk s m _ below hf ((Spec.applies_iff_loose hf).mp happ).1 ⟨rfl, State.Warmed39.refl s, rfl⟩ trivial
  refine ⟨n, _, h1, h2, h3, hpost _ _ _ _ _ _ ⟨Cond.after_iff.mpr rfl, Cond.after_iff.mpr (eq_i res_at (Term.int_eval (1)) rfl), trivial⟩ ⟨hq.1, hq.2.1, (hq.2.2.sift fun y hy => Or.inr (N y hy)).mono (by decide) (by decide)⟩⟩
theorem main_1_1 : Claimed_1_1 := comes_1 fun _ _ _ _ _ _ h hF => ⟨h.1, hF⟩
theorem main_1_2 : Claimed_1_2 := comes_1 fun _ _ _ _ _ _ h hF => ⟨h.2.1, hF⟩
end Jvm.Pilot.@@N@@
namespace Jvm.Pilot.@@N@@
open Jvm Jvm.ClassFile Sem Op Lib Jvm.Free Jvm.Stand Jvm.Pilot.@@N@@.Jvm.D
/-! MADE BY PROGRAM (witnessworld.py) out of the Statement's table words and the real class files: 9 classes; the members and pool entries that the words name. The judged class is class 1, her method 1. -/
namespace start1
open Jvm.ClassFile
def u (s : String) : CpInfo := .utf8 (stringToUtf16 s)
/-- a pool by its gaps: so many unusable entries, then the entry; so many at the end -/
def gap : Nat → List CpInfo → List CpInfo
  | 0, r => r
  | n + 1, r => .unusable :: gap n r
def poolList (es : List (Nat × CpInfo)) (last : Nat) : List CpInfo := es.foldr (fun e r => gap e.1 (e.2 :: r)) (gap last [])
def pool (es : List (Nat × CpInfo)) (last : Nat) : Array CpInfo := ⟨poolList es last⟩
def fileOf (pool : Array CpInfo) (this : Nat) (attrs : Array Attribute := #[]) (ms : Array MethodInfo := #[]) (fl : Nat := 33) (sup : Nat := 0) (ifs : Array Nat := #[]) (fds : Array FieldInfo := #[]) : ClassFile where
  minorVersion := 0
  majorVersion := 65
  constantPool := pool
  accessFlags := fl
  thisClass := this
  superClass := sup
  interfaces := ifs
  fields := fds
  methods := ms
  attributes := attrs
def plain (name : String) (sup : Option ClassId) : Class where
  name := name
  kind := .ordinary
  loader := none
  accessFlags := 33
  super := sup
  interfaces := #[]
  cf := none
  fields := #[]
  methods := #[]
  instanceTypes := #[]
  staticTypes := #[]
  resolved := #[]
  callSites := []
  init := .initialized
  statics := none
  mirror := none

def pool0 : Array CpInfo := pool [(5, u "<init>"), (0, u "()V"), (1, .class_ 10), (1, u "java/lang/Object")] 113

def k0m0 : Method := { name := "<init>", desc := "()V", sig := { parameters := [], returnType := none }, accessFlags := 1, code := none }
/-- java/lang/Object -/
def k0 : Class := { plain "java/lang/Object" none with
  accessFlags := 33
  interfaces := #[]
  cf := some (fileOf pool0 8 #[] #[{ accessFlags := 1, nameIndex := 5, descriptorIndex := 6, attributes := #[] }] 33 0 #[] #[])
  fields := #[]
  methods := #[k0m0]
  instanceTypes := #[]
  staticTypes := #[]
  resolved := Array.replicate 124 none
  statics := none }

def pool1 : Array CpInfo := pool [(2, .class_ 4), (1, u "java/lang/Object"), (0, u "<init>"), (0, u "()V"), (0, .integer 65535), (0, .integer 16777215), (0, .methodref 10 11), (0, .class_ 12), (0, .nameAndType 13 14), (0, u "com/example/cinderwire/cinderwire/VaxInteger"), (0, u "read"), (0, u "([BII)I"), (0, .class_ 16), (0, u "com/example/cinderwire/cinderwire/VaxIntegerReadPinLaw"), (2, u "law"), (0, u "(IIII)Z")] 5

def k1m0 : Method := { name := "<init>", desc := "()V", sig := { parameters := [], returnType := none }, accessFlags := 2, code := none }
def k1c1 : Code := { maxStack := 4, maxLocals := 8, code := code, exceptionTable := #[], attributes := #[] }
def k1m1 : Method := { name := "law", desc := "(IIII)Z", sig := { parameters := [.int, .int, .int, .int], returnType := some .boolean }, accessFlags := 9, code := some k1c1 }
/-- com/example/cinderwire/cinderwire/VaxIntegerReadPinLaw -/
def k1 : Class := { plain "com/example/cinderwire/cinderwire/VaxIntegerReadPinLaw" (some 0) with
  accessFlags := 49
  interfaces := #[]
  cf := some (fileOf pool1 15 #[] #[{ accessFlags := 2, nameIndex := 5, descriptorIndex := 6, attributes := #[] }, { accessFlags := 9, nameIndex := 19, descriptorIndex := 20, attributes := #[] }] 49 2 #[] #[])
  fields := #[]
  methods := #[k1m0, k1m1]
  instanceTypes := #[]
  staticTypes := #[]
  resolved := Array.replicate 26 none
  statics := none }

def pool2 : Array CpInfo := pool [(2, .class_ 4), (1, u "java/lang/Object"), (0, u "<init>"), (0, u "()V"), (0, .class_ 8), (0, u "com/example/cinderwire/cinderwire/VaxInteger"), (2, u "read"), (0, u "([BII)I")] 5

def k2m0 : Method := { name := "<init>", desc := "()V", sig := { parameters := [], returnType := none }, accessFlags := 2, code := none }
def k2c1 : Code := { maxStack := 4, maxLocals := 5, code := prog_178_method_2_code, exceptionTable := #[], attributes := #[] }
def k2m1 : Method := { name := "read", desc := "([BII)I", sig := { parameters := [(.array .byte), .int, .int], returnType := some .int }, accessFlags := 8, code := some k2c1 }
/-- com/example/cinderwire/cinderwire/VaxInteger -/
def k2 : Class := { plain "com/example/cinderwire/cinderwire/VaxInteger" (some 0) with
  accessFlags := 48
  interfaces := #[]
  cf := some (fileOf pool2 7 #[] #[{ accessFlags := 2, nameIndex := 5, descriptorIndex := 6, attributes := #[] }, { accessFlags := 8, nameIndex := 11, descriptorIndex := 12, attributes := #[] }] 48 2 #[] #[])
  fields := #[]
  methods := #[k2m0, k2m1]
  instanceTypes := #[]
  staticTypes := #[]
  resolved := Array.replicate 18 none
  statics := none }

def pool3 : Array CpInfo := pool [(1, u "java/lang/Cloneable"), (0, .class_ 1), (0, u "java/lang/Object"), (0, .class_ 3)] 3

/-- java/lang/Cloneable -/
def k3 : Class := { plain "java/lang/Cloneable" (some 0) with
  accessFlags := 1537
  interfaces := #[]
  cf := some (fileOf pool3 2 #[] #[] 1537 4 #[] #[])
  fields := #[]
  methods := #[]
  instanceTypes := #[]
  staticTypes := #[]
  resolved := Array.replicate 8 none
  statics := none }

def pool4 : Array CpInfo := pool [(1, u "java/io/Serializable"), (0, .class_ 1), (0, u "java/lang/Object"), (0, .class_ 3)] 3

/-- java/io/Serializable -/
def k4 : Class := { plain "java/io/Serializable" (some 0) with
  accessFlags := 1537
  interfaces := #[]
  cf := some (fileOf pool4 2 #[] #[] 1537 4 #[] #[])
  fields := #[]
  methods := #[]
  instanceTypes := #[]
  staticTypes := #[]
  resolved := Array.replicate 8 none
  statics := none }

/-- the primitive byte -/
def k5 : Class := { plain "byte" none with kind := .primitive 'B', accessFlags := 0x411 }
/-- [B -/
def k6 : Class := { plain "[B" (some 0) with kind := .array 5 .byte, interfaces := #[3, 4], accessFlags := 1041 }

/-- the primitive int -/
def k7 : Class := { plain "int" none with kind := .primitive 'I', accessFlags := 0x411 }
/-- [I -/
def k8 : Class := { plain "[I" (some 0) with kind := .array 7 .int, interfaces := #[3, 4], accessFlags := 1041 }

def heap : Heap := #[]
def classes : Array Class := #[k0, k1, k2, k3, k4, k5, k6, k7, k8]
def interned : List (Array UInt16 × Addr) := []
def slotsUsed : Nat := 0
def theMethod : MethodId := ⟨1, 1⟩
def args0 : Array Value := #[.int 5, .int 7, .int 1, .int 9]
def aboutOver (below : List Frame) : State where
  vm := { classes := classes, interned := interned.toArray }
  heap := heap
  slotsUsed := slotsUsed
  threads := #[{ frames := .invoking theMethod args0 :: below }]
def below0 : List Frame := [.native { method := ⟨0, 0⟩, args := #[] }]
def about1 : State := aboutOver below0
def p0 : Program := .bare "" "" ""
def e0 : Env := launch0.env 0 0 0
theorem w_frames : about1.frames = Frame.invoking theMethod args0 :: below0 := rfl
set_option maxRecDepth 65536 in
theorem w_args : argsFit about1.vm theMethod args0 = true := by decide +kernel
set_option maxRecDepth 65536 in
theorem w_heap : heapFits about1 = true := by decide +kernel
set_option maxRecDepth 65536 in
theorem w_runnable : about1.curStatus? = some .runnable := by decide +kernel
set_option maxRecDepth 65536 in
theorem w_alone : about1.alone = true := by decide +kernel
set_option maxRecDepth 65536 in
theorem w_named : about1.methodNamed? x = some theMethod := by decide +kernel
set_option maxRecDepth 65536 in
theorem w_hears : about1.hears theMethod below0 = true := by decide +kernel
set_option maxRecDepth 65536 in
theorem w_ripe : about1.ripe theMethod args0 below0 = true := by decide +kernel
theorem w_running : about1.status = .running := rfl
set_option maxRecDepth 65536 in
theorem w_room : about1.hasRoom e0.platform room_1 = true :=
  launch0.hasRoom_least _ room_1 (by decide +kernel) (by decide +kernel) (by decide +kernel) (by decide +kernel) (by decide +kernel) (by decide +kernel)
theorem allAtoms_all (ts : List Jvm.Cond) (a : Array Jvm.Value) (st : Jvm.State) : (allAtoms ts).before a st = ts.all (fun c => c.before a st) := by
  induction ts with
  | nil => rfl
  | cons c t ih =>
    show (Jvm.Cond.and c (allAtoms t)).before a st = _
    rw [Jvm.Cond.before_and, ih, List.all_cons]
def words1 : List Jvm.Cond := Jvm.Cond.code x code maxLocals ret :: tables_1
/-- a 'code' word, met by the world's own term for the bytes: nothing is compared byte by byte -/
theorem code_word {y : MethodName} {bytes : ByteArray} {mx : Nat} {rt : Option FieldType} {a : Array Value} {s : State} {m : MethodId} {meth : Method} {c : Code} (h1 : s.methodNamed? y = some m) (h2 : s.vm.method? m = some meth) (h3 : meth.code = some c) (h4 : c.code = bytes)
    (h5 : (c.maxLocals == mx && c.exceptionTable.isEmpty && decide (c.maxStack ≤ mostOperands) && decide (meth.sig.returnType = rt) && !meth.locks && decide (parseMethodDescriptor y.desc = some meth.sig)) = true) : (Jvm.Cond.code y bytes mx rt).before a s = true := by
  simp only [Bool.and_eq_true, beq_iff_eq, Bool.not_eq_true', decide_eq_true_eq] at h5
  obtain ⟨⟨⟨⟨⟨g1, g2⟩, g3⟩, g4⟩, g5⟩, g6⟩ := h5
  simp [Cond.before, Cond.holds, Cond.value, h1, h2, h3, h4, g1, g2, g3, g4, g5, g6]
def isCode : Jvm.Cond → Bool
  | .code _ _ _ _ => true
  | _ => false
theorem all_split {L : List Jvm.Cond} {P : Jvm.Cond → Bool} (h1 : L.all (fun c => isCode c || P c) = true) (h2 : ∀ c ∈ L.filter isCode, P c = true) : L.all P = true := by
  refine List.all_eq_true.mpr fun c hc => ?_
  have h := List.all_eq_true.mp h1 c hc
  rcases Bool.eq_false_or_eq_true (isCode c) with hi | hi
  · exact h2 c (List.mem_filter.mpr ⟨hc, hi⟩)
  · simpa [hi] using h
set_option maxRecDepth 65536 in
theorem w_c0 : (Jvm.Cond.code x code maxLocals ret).before args0 about1 = true := code_word (m := ⟨1, 1⟩) (meth := k1m1) (c := k1c1) (by decide +kernel) rfl rfl rfl (by decide +kernel)
set_option maxRecDepth 65536 in
theorem w_c1 : (Jvm.Cond.code ({ cls := "com/example/cinderwire/cinderwire/VaxInteger", name := "read", desc := "([BII)I" } : Jvm.MethodName) prog_178_method_2_code (5 : Nat) (Option.some Jvm.ClassFile.FieldType.int)).before args0 about1 = true := code_word (m := ⟨2, 1⟩) (meth := k2m1) (c := k2c1) (by decide +kernel) rfl rfl rfl (by decide +kernel)
def codes1 : List Jvm.Cond := [Jvm.Cond.code x code maxLocals ret, Jvm.Cond.code ({ cls := "com/example/cinderwire/cinderwire/VaxInteger", name := "read", desc := "([BII)I" } : Jvm.MethodName) prog_178_method_2_code (5 : Nat) (Option.some Jvm.ClassFile.FieldType.int)]
set_option maxRecDepth 65536 in
theorem codes_eq : words1.filter isCode = codes1 := rfl
theorem w_codes : ∀ c ∈ words1.filter isCode, c.before args0 about1 = true := by
  rw [codes_eq]
  intro c hc
  simp only [codes1, List.mem_cons, List.not_mem_nil, or_false] at hc
  rcases hc with rfl | rfl
  · exact w_c0
  · exact w_c1
set_option maxRecDepth 65536 in
theorem w_t1 : words1.all (fun c => isCode c || c.before args0 about1) = true := by decide +kernel
theorem w_tables : (allAtoms (Jvm.Cond.code x code maxLocals ret :: tables_1)).before args0 about1 = true := by
  rw [allAtoms_all]
  show words1.all (fun c => c.before args0 about1) = true
  refine all_split ?_ w_codes
  rw [w_t1]
set_option maxRecDepth 65536 in
theorem w_case : (Jvm.Cond.and given_1 narrow_1).before args0 about1 = true := by decide +kernel
theorem w_applies : (headSpec (Jvm.Cond.code x code maxLocals ret :: tables_1) room_1).applies x e0.platform about1 = true :=
  (Spec.applies_iff w_frames).mpr ⟨w_running, w_runnable, w_alone, w_named, w_hears, w_ripe, w_room, w_tables⟩
theorem atStart : AtStart classFile x code maxLocals ret World_1 tables_1 room_1 Calls_1 rest_1 Pre_1 launch0 p0 e0 about1 theMethod args0 below0 :=
  ⟨lists_1, trivial, launch0.admits_env _ _ _, launch0.least_env, fairChoices_fair.cas, fairChoices_fair.clock, w_frames, w_args, w_heap, w_applies, trivial, trivial, w_case⟩
end start1
theorem witness_1 : WitnessClaimed_1 := ⟨start1.p0, start1.e0, start1.about1, start1.theMethod, start1.args0, start1.below0, start1.atStart⟩
end Jvm.Pilot.@@N@@
