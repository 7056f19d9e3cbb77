-- WRITTEN BY A PROGRAM OF THIS SESSION, out of the loaded program, with words of the kit
import Derived.Test.YtlkenmpbhchieaaDoorQAllx0
import Derived.Test.YtlkenmpbhchieaaDoorQAllx4
namespace Go.Proofs.YtlkenmpbhchieaaDoor.QAll
open Go.RowKit Go.Proofs.YtlkenmpbhchieaaDoorW.PrintWords Go.Proofs.YtlkenmpbhchieaaDoorW.PrintLast Go.Proofs.YtlkenmpbhchieaaDoorW.PrintMore
attribute [local go_sem] max2_int min2_int max_two min_two max_three min_three max_four min_four   -- for this text's walks alone
set_option linter.unusedVariables false
set_option linter.unusedSimpArgs false

/-! ### spec_Line: function 17 -/
def spec_Line.f (k : Nat) (l0 : List Int) : Option (List Int) := if (l0.length : Int) = 0 then (some (([48, 48, 48, 48] : List Int))) else ((spec_Hex4.f k (wrap64 ((l0.length : Int) + 4))).bind fun t125 => (if t125.length + l0.length < 140737488355328 then (some (t125 ++ l0)) else (none)))
theorem spec_Line.mono : ∀ a0 k, LeO (spec_Line.f k a0) (spec_Line.f (k + 1) a0) := by
  intro a0 k
  unfold spec_Line.f
  repeat' first
      | (with_reducible exact spec_Hex4.mono _ _)
      | (with_reducible exact LeO.refl _)
      | (with_reducible exact LeO.none _)
      | (with_reducible refine LeO.ite ?_ ?_)
      | (with_reducible refine LeO.bind ?_ (fun _ => ?_))
      | exact spec_Hex4.mono _ _
      | exact LeO.none _
      | refine LeO.ite ?_ ?_
      | refine LeO.bind ?_ (fun _ => ?_)
/-! ### spec_ReportText: function 8 -/
def spec_ReportText.f (a0 : ByteArray) (l1 : List (S32)) : Option (List Int) := if 7 + a0.size ≤ 9223372036854775807 then (if ((⟨#[117, 110, 112, 97, 99, 107, 32]⟩ : ByteArray) ++ a0).size + 1 ≤ 9223372036854775807 then (none) else (none)) else (none)
/-! ### packp_zzSplitN: function 35 -/
mutual
def packp_zzSplitN.l0 : Nat → ByteArray → ByteArray → Int → List ByteArray → Int → Option (List ByteArray)
  | 0, _, _, _, _, _ => none
  | k + 1, x0, x1, x2, x7, x8 => if (wrap64 (x8 + (x1.size : Int))) ≤ (x0.size : Int) then (packp_zzSplitN.j1 k x0 x1 x2 x7 x8 (decide ((x7.length : Int) < (wrap64 (x2 - 1))))) else (packp_zzSplitN.j1 k x0 x1 x2 x7 x8 false)
def packp_zzSplitN.j1 : Nat → ByteArray → ByteArray → Int → List ByteArray → Int → Bool → Option (List ByteArray)
  | 0, _, _, _, _, _, _ => none
  | k + 1, x0, x1, x2, x7, x8, x22 => if x22 = true then (if 0 ≤ x8 then (if x8 ≤ (wrap64 (x8 + (x1.size : Int))) then (if (wrap64 (x8 + (x1.size : Int))) ≤ (x0.size : Int) then (if (x0.extract (x8 : Int).toNat ((wrap64 (x8 + (x1.size : Int))) : Int).toNat).toList = x1.toList then (if x8 ≤ (x0.size : Int) then (if x7.length < 8796093022208 then (if 0 ≤ (wrap64 (x8 + (x1.size : Int))) then (packp_zzSplitN.l0 k (x0.extract ((wrap64 (x8 + (x1.size : Int))) : Int).toNat x0.size) x1 x2 (x7 ++ [x0.extract 0 (x8 : Int).toNat]) 0) else (none)) else (none)) else (none)) else (packp_zzSplitN.l0 k x0 x1 x2 x7 (wrap64 (x8 + 1)))) else (none)) else (none)) else (none)) else (if x7.length < 8796093022208 then (some (x7 ++ [x0])) else (none))
end
def packp_zzSplitN.f (k : Nat) (a0 : ByteArray) (a1 : ByteArray) (a2 : Int) : Option (List ByteArray) := packp_zzSplitN.l0 k a0 a1 a2 ([] : List ByteArray) 0
theorem packp_zzSplitN.mono_l : ∀ k, (∀ y0 y1 y2 y3 y4, LeO (packp_zzSplitN.l0 k y0 y1 y2 y3 y4) (packp_zzSplitN.l0 (k + 1) y0 y1 y2 y3 y4)) ∧ (∀ y0 y1 y2 y3 y4 y5, LeO (packp_zzSplitN.j1 k y0 y1 y2 y3 y4 y5) (packp_zzSplitN.j1 (k + 1) y0 y1 y2 y3 y4 y5))
  | 0 => ⟨fun _ _ _ _ _ r h => by simp [packp_zzSplitN.l0] at h, fun _ _ _ _ _ _ r h => by simp [packp_zzSplitN.j1] at h⟩
  | k + 1 => by
    obtain ⟨ih0, ih1⟩ := packp_zzSplitN.mono_l k
    refine ⟨?_, ?_⟩
    · intro y0 y1 y2 y3 y4
      unfold packp_zzSplitN.l0
      repeat' first
      | (with_reducible exact ih0 _ _ _ _ _)
      | (with_reducible exact ih1 _ _ _ _ _ _)
      | (with_reducible exact LeO.refl _)
      | (with_reducible exact LeO.none _)
      | (with_reducible refine LeO.ite ?_ ?_)
      | (with_reducible refine LeO.bind ?_ (fun _ => ?_))
      | exact ih0 _ _ _ _ _
      | exact ih1 _ _ _ _ _ _
      | exact LeO.none _
      | refine LeO.ite ?_ ?_
      | refine LeO.bind ?_ (fun _ => ?_)
    · intro y0 y1 y2 y3 y4 y5
      unfold packp_zzSplitN.j1
      repeat' first
      | (with_reducible exact ih0 _ _ _ _ _)
      | (with_reducible exact ih1 _ _ _ _ _ _)
      | (with_reducible exact LeO.refl _)
      | (with_reducible exact LeO.none _)
      | (with_reducible refine LeO.ite ?_ ?_)
      | (with_reducible refine LeO.bind ?_ (fun _ => ?_))
      | exact ih0 _ _ _ _ _
      | exact ih1 _ _ _ _ _ _
      | exact LeO.none _
      | refine LeO.ite ?_ ?_
      | refine LeO.bind ?_ (fun _ => ?_)
theorem packp_zzSplitN.mono : ∀ a0 a1 a2 k, LeO (packp_zzSplitN.f k a0 a1 a2) (packp_zzSplitN.f (k + 1) a0 a1 a2) := by
  intro a0 a1 a2 k
  obtain ⟨ih0, ih1⟩ := packp_zzSplitN.mono_l k
  unfold packp_zzSplitN.f
  repeat' first
      | (with_reducible exact ih0 _ _ _ _ _)
      | (with_reducible exact ih1 _ _ _ _ _ _)
      | (with_reducible exact LeO.refl _)
      | (with_reducible exact LeO.none _)
      | (with_reducible refine LeO.ite ?_ ?_)
      | (with_reducible refine LeO.bind ?_ (fun _ => ?_))
      | exact ih0 _ _ _ _ _
      | exact ih1 _ _ _ _ _ _
      | exact LeO.none _
      | refine LeO.ite ?_ ?_
      | refine LeO.bind ?_ (fun _ => ?_)
set_option maxHeartbeats 8000000 in
set_option maxRecDepth 100000 in
theorem packp_zzSplitN.calls (k : Nat) (a0 : ByteArray) (a1 : ByteArray) (a2 : Int) (r : List ByteArray) (w : World) (h : packp_zzSplitN.f k a0 a1 a2 = some r) :
    Calls Tryd.prog 35 #[.string a0, .string a1, .int .i64 a2] w fun e w' => ∃ v0_ : Value, e = .returned (v0_) ∧ Kd.R Kd.string 9 w' w.heap.size (fun _ => True) v0_ r ∧ Below w.heap.size w w' := by
  have HB := Aside0.mk (Below.refl w.heap.size w)
  have H : (packp_zzSplitN.l0 k a0 a1 a2 ([] : List ByteArray) 0) = some r := h
  clear h
  have H' := Aside0.mk H
  clear H
  go_enter Tryd.func35, Tryd.ntmps35
  go_wp2
  go_loopg [0, 7, 8] k (fun kq v0 v7 v8 w' => ∃ (x0_1 : ByteArray) (x7_1 : List ByteArray) (x8_1 : Int), v0 = .string x0_1 ∧ v8 = .int .i64 x8_1 ∧ Aside0 (packp_zzSplitN.l0 kq x0_1 a1 a2 x7_1 x8_1 = some r) ∧ Aside0 (kq ≤ k) ∧ Aside0 (Kd.R Kd.string 9 w' w.heap.size (fun _ => True) v7 x7_1) ∧ Aside0 (Below w.heap.size w w'))
  case atStart => exact ⟨(a0), (([] : List ByteArray)), (0), (by first | rfl | (simp; done) | (simp [*]; done)), (by first | rfl | (simp; done) | (simp [*]; done)), H', ⟨Nat.le_refl _⟩, ⟨by first | exact Kd.R_nil _ _ _ _ _ | exact Kd.N_nil _ _ _ _ _ | exact Kd.V_nil _ _ _ _ _ | exact Kd.Q_nil _ _ _ _ _ | exact Kd.S_nil _ _ _ _ _⟩, ⟨by repeat (first | (with_reducible first | exact HB.out | apply below_alloc | apply pw_below_drewN | apply below_drew1) | exact HB.out)⟩⟩
  case round =>
    clear H'
    try clear p2
    try clear c3
    obtain ⟨x0_1, x7_1, x8_1, rfl, rfl, HA, HK1, HO_7, HB⟩ := hrel
    cases gk with
    | zero => exact absurd HA.out (by simp [packp_zzSplitN.l0])
    | succ k1 =>
      have H := HA.out
      clear HA
      simp only [packp_zzSplitN.l0] at H
      have HC4 := Aside0.mk H
      clear H
      go_upto_region 3 with (fail)
      go_cut [22] (fun v22 wc => ∃ (kq : Nat) (x22_3 : Bool), v22 = .bool x22_3 ∧ Aside0 (packp_zzSplitN.j1 kq x0_1 a1 a2 x7_1 x8_1 x22_3 = some r) ∧ Aside0 (kq ≤ k1) ∧ Aside0 (Kd.R Kd.string 9 wc w.heap.size (fun _ => True) u7 x7_1) ∧ Aside0 (Below w.heap.size w wc))
      case first =>
        have H := HC4.out
        clear HC4
        by_cases c5 : (wrap64 (x8_1 + (a1.size : Int))) ≤ (x0_1.size : Int)
        · rw [if_pos c5] at H
          have c5b0 : decide ((wrap64 (x8_1 + (a1.size : Int))) ≤ (x0_1.size : Int)) = true := decide_eq_true c5
          clear c5
          (first | rw [c5b0] | (simp only [i64_w, i32_w]; rw [c5b0]) | skip)
          have H' := Aside0.mk H
          clear H
          obtain ⟨Ao6, co6, eo6⟩ := Kd.R_slice HO_7.out
          subst eo6
          go_wp2
          go_meet
          case rel => exact ⟨_, (decide ((x7_1.length : Int) < (wrap64 (a2 - 1)))), (by first | rfl | (simp; done) | (simp [*]; done)), H', ⟨by have := HK1.out; first | omega | exact Nat.le_refl _⟩, ⟨by (with_reducible repeat (first | apply Kd.R_alloc | apply Kd.R_drewN | apply Kd.R_drew)); exact HO_7.out⟩, ⟨by repeat (first | (with_reducible first | exact HB.out | apply below_alloc | apply pw_below_drewN | apply below_drew1) | exact HB.out)⟩⟩
        · rw [if_neg c5] at H
          have c5b0 : decide ((wrap64 (x8_1 + (a1.size : Int))) ≤ (x0_1.size : Int)) = false := decide_eq_false c5
          clear c5
          (first | rw [c5b0] | (simp only [i64_w, i32_w]; rw [c5b0]) | skip)
          have H' := Aside0.mk H
          clear H
          go_wp2
          go_meet
          case rel => exact ⟨_, (false), (by first | rfl | (simp; done) | (simp [*]; done)), H', ⟨by have := HK1.out; first | omega | exact Nat.le_refl _⟩, ⟨by (with_reducible repeat (first | apply Kd.R_alloc | apply Kd.R_drewN | apply Kd.R_drew)); exact HO_7.out⟩, ⟨by repeat (first | (with_reducible first | exact HB.out | apply below_alloc | apply pw_below_drewN | apply below_drew1) | exact HB.out)⟩⟩
      case rest =>
        clear HC4
        try clear p2
        try clear c3
        try clear c5
        try clear c5b0
        try clear p6
        try clear p2
        obtain ⟨kq, x22_3, rfl, HA, HJ3, HO_7, HB⟩ := hcut
        cases kq with
        | zero => exact absurd HA.out (by simp [packp_zzSplitN.j1])
        | succ kj3 =>
          have H := HA.out
          clear HA
          simp only [packp_zzSplitN.j1] at H
          by_cases c7 : x22_3 = true
          · subst c7
            have H1 : (if 0 ≤ x8_1 then (if x8_1 ≤ (wrap64 (x8_1 + (a1.size : Int))) then (if (wrap64 (x8_1 + (a1.size : Int))) ≤ (x0_1.size : Int) then (if (x0_1.extract (x8_1 : Int).toNat ((wrap64 (x8_1 + (a1.size : Int))) : Int).toNat).toList = a1.toList then (if x8_1 ≤ (x0_1.size : Int) then (if x7_1.length < 8796093022208 then (if 0 ≤ (wrap64 (x8_1 + (a1.size : Int))) then (packp_zzSplitN.l0 kj3 (x0_1.extract ((wrap64 (x8_1 + (a1.size : Int))) : Int).toNat x0_1.size) a1 a2 (x7_1 ++ [x0_1.extract 0 (x8_1 : Int).toNat]) 0) else (none)) else (none)) else (none)) else (packp_zzSplitN.l0 kj3 x0_1 a1 a2 x7_1 (wrap64 (x8_1 + 1)))) else (none)) else (none)) else (none)) = some r := by rw [if_pos rfl] at H; exact H
            clear H
            have H := H1
            clear H1
            by_cases c8 : 0 ≤ x8_1
            · rw [if_pos c8] at H
              have c8b0 := eq_true c8
              have c8b1 : decide (0 ≤ x8_1) = true := decide_eq_true c8
              clear c8
              by_cases c9 : x8_1 ≤ (wrap64 (x8_1 + (a1.size : Int)))
              · rw [if_pos c9] at H
                have c9b0 := eq_true c9
                have c9b1 : decide (x8_1 ≤ (wrap64 (x8_1 + (a1.size : Int)))) = true := decide_eq_true c9
                by_cases c10 : (wrap64 (x8_1 + (a1.size : Int))) ≤ (x0_1.size : Int)
                · rw [if_pos c10] at H
                  have c10b0 := eq_true c10
                  have c10b1 : decide ((wrap64 (x8_1 + (a1.size : Int))) ≤ (x0_1.size : Int)) = true := decide_eq_true c10
                  by_cases c11 : (x0_1.extract (x8_1 : Int).toNat ((wrap64 (x8_1 + (a1.size : Int))) : Int).toNat).toList = a1.toList
                  · rw [if_pos c11] at H
                    have c11b0 : ((x0_1.extract (x8_1 : Int).toNat ((wrap64 (x8_1 + (a1.size : Int))) : Int).toNat).toList == a1.toList) = true := beq_iff_eq.mpr c11
                    have c11b1 : ((x0_1.extract (x8_1 : Int).toNat ((wrap64 (x8_1 + (a1.size : Int))) : Int).toNat).toList != a1.toList) = false := bne_eq_false_iff_eq.mpr c11
                    clear c11
                    have c12b0 := eq_true (of_decide_eq_true (by first | (with_reducible assumption) | assumption) : 0 ≤ x8_1)
                    by_cases c13 : x8_1 ≤ (x0_1.size : Int)
                    · rw [if_pos c13] at H
                      have c13b0 := eq_true c13
                      have c13b1 : decide (x8_1 ≤ (x0_1.size : Int)) = true := decide_eq_true c13
                      clear c13
                      by_cases c14 : x7_1.length < 8796093022208
                      · rw [if_pos c14] at H
                        have LMc14 := Aside0.mk c14
                        clear c14
                        obtain ⟨y131, hy131⟩ : ∃ y_ : List ByteArray, y_ = (x7_1 ++ [x0_1.extract 0 (x8_1 : Int).toNat]) := ⟨_, rfl⟩
                        replace H : (if 0 ≤ (wrap64 (x8_1 + (a1.size : Int))) then (packp_zzSplitN.l0 kj3 (x0_1.extract ((wrap64 (x8_1 + (a1.size : Int))) : Int).toNat x0_1.size) a1 a2 y131 0) else (none)) = some r := by first | (rw [hy131]; with_reducible exact H) | (have H2_ := (Option.bind_some _ _).symm.trans H; rw [hy131]; with_reducible exact H2_) | (have H2_ := (Option.bind_some _ _).symm.trans H; with_reducible exact H2_) | with_reducible exact H | (rw [hy131]; exact H) | exact H
                        have Ny131 := Aside0.mk hy131
                        clear hy131
                        obtain ⟨ji15, hji15⟩ : ∃ j_ : Int, (wrap64 (x8_1 + (a1.size : Int))) = j_ := ⟨_, rfl⟩
                        replace H : (if 0 ≤ (ji15) then (packp_zzSplitN.l0 kj3 (x0_1.extract ((ji15) : Int).toNat x0_1.size) a1 a2 y131 0) else (none)) = some r := by first | (rw [hji15] at H; exact H) | (simp only [hji15] at H ⊢; exact H)
                        (try rw [hji15] at c9b0)
                        (try rw [hji15] at c9b1)
                        (try rw [hji15] at c9)
                        (try rw [hji15] at c10b0)
                        (try rw [hji15] at c10b1)
                        (try rw [hji15] at c10)
                        (try rw [hji15] at c11b0)
                        (try rw [hji15] at c11b1)
                        have hji15w : (IntKind.i64.wrap (x8_1 + (a1.size : Int))) = ji15 := (i64_w _).trans hji15
                        by_cases c16 : 0 ≤ (ji15)
                        · rw [if_pos c16] at H
                          have c16b0 := eq_true c16
                          have c16b1 : decide (0 ≤ (ji15)) = true := decide_eq_true c16
                          clear c16
                          have c17b0 := eq_true (of_decide_eq_true (by first | (with_reducible assumption) | assumption) : (ji15) ≤ (x0_1.size : Int))
                          have H' := Aside0.mk H
                          clear H
                          go_wp2_with (first | ((with_reducible refine gate_builtin (b := .append) (xs := #[.tmp 32, .tmp 36]) rfl ?_); (try (refine gate_guard (by rfl) ?_; dsimp only)); at_builtin; refine Kd.R_append Kd.string (w0 := w) w.heap.size rfl (.tmp 32) (.tmp 36) 78 9 (.string ⟨#[]⟩) 16 rfl Tryd.underlying78 info9 rfl (by decide) (by omega) u7 x7_1 (x0_1.extract 0 (x8_1 : Int).toNat) [.string (x0_1.extract 0 (x8_1 : Int).toNat)] (fun _ => True) (fun _ => False) rfl rfl ?aP (fun _ hk => hk.elim) ?aF ?aO ?aB ?aS ?aL ?_; (case aP => exact rfl); (case aB => exact (by repeat (first | (with_reducible first | exact HB.out | apply below_alloc | apply pw_below_drewN | apply below_drew1) | exact HB.out))); (case aF => exact (fun _ _ => trivial)); (case aO => exact (by (with_reducible repeat (first | apply Kd.R_alloc | apply Kd.R_drewN | apply Kd.R_drew)); exact HO_7.out)); (case aS => exact (below_size (by repeat (first | (with_reducible first | exact HB.out | apply below_alloc | apply pw_below_drewN | apply below_drew1) | exact HB.out)))); (case aL => have := LMc14.out; omega); intro v132 w18 ho hb hg hat; rw [← Ny131.out] at ho; have n0_ := Aside0.mk (hb); have n1_ := Aside0.mk (ho); clear HB; clear HO_7; have HB := n0_; have HO133 := n1_; clear n0_ n1_; clear ho hb hg hat))
                          go_roundg kj3
                          case measure => have := HK1.out; have := HJ3.out; omega
                          case rel => exact ⟨(x0_1.extract ((ji15) : Int).toNat x0_1.size), (y131), (0), (by first | rfl | (simp; done) | (simp only [← hji15] <;> (first | rfl | simp)) | (simp [*]; done)), (by first | rfl | (simp; done) | (simp [*]; done)), H', ⟨by have := HK1.out; have := HJ3.out; omega⟩, ⟨by (with_reducible repeat (first | apply Kd.R_alloc | apply Kd.R_drewN | apply Kd.R_drew)); exact HO133.out⟩, ⟨by repeat (first | (with_reducible first | exact HB.out | apply below_alloc | apply pw_below_drewN | apply below_drew1) | exact HB.out)⟩⟩
                        · rw [if_neg c16] at H
                          exact absurd H (by simp)
                      · rw [if_neg c14] at H
                        exact absurd H (by simp)
                    · rw [if_neg c13] at H
                      exact absurd H (by simp)
                  · rw [if_neg c11] at H
                    have c11b0 : ((x0_1.extract (x8_1 : Int).toNat ((wrap64 (x8_1 + (a1.size : Int))) : Int).toNat).toList == a1.toList) = false := beq_eq_false_iff_ne.mpr c11
                    have c11b1 : ((x0_1.extract (x8_1 : Int).toNat ((wrap64 (x8_1 + (a1.size : Int))) : Int).toNat).toList != a1.toList) = true := bne_iff_ne.mpr c11
                    have H' := Aside0.mk H
                    clear H
                    go_wp2
                    go_roundg kj3
                    case measure => have := HK1.out; have := HJ3.out; omega
                    case rel => exact ⟨(x0_1), (x7_1), (wrap64 (x8_1 + 1)), (by first | rfl | (simp; done) | (simp [*]; done)), (by first | rfl | (simp; done) | (simp [*]; done)), H', ⟨by have := HK1.out; have := HJ3.out; omega⟩, ⟨by (with_reducible repeat (first | apply Kd.R_alloc | apply Kd.R_drewN | apply Kd.R_drew)); exact HO_7.out⟩, ⟨by repeat (first | (with_reducible first | exact HB.out | apply below_alloc | apply pw_below_drewN | apply below_drew1) | exact HB.out)⟩⟩
                · rw [if_neg c10] at H
                  exact absurd H (by simp)
              · rw [if_neg c9] at H
                exact absurd H (by simp)
            · rw [if_neg c8] at H
              exact absurd H (by simp)
          · replace c7 := Bool.eq_false_iff.mpr c7
            subst c7
            have H1 : (if x7_1.length < 8796093022208 then (some (x7_1 ++ [x0_1])) else (none)) = some r := by rw [if_neg (show ¬ (false = true) by decide)] at H; exact H
            clear H
            have H := H1
            clear H1
            by_cases c19 : x7_1.length < 8796093022208
            · rw [if_pos c19] at H
              have LMc19 := Aside0.mk c19
              clear c19
              obtain ⟨y134, hy134⟩ : ∃ y_ : List ByteArray, y_ = (x7_1 ++ [x0_1]) := ⟨_, rfl⟩
              replace H : (some y134) = some r := by first | (rw [hy134]; with_reducible exact H) | (have H2_ := (Option.bind_some _ _).symm.trans H; rw [hy134]; with_reducible exact H2_) | (have H2_ := (Option.bind_some _ _).symm.trans H; with_reducible exact H2_) | with_reducible exact H | (rw [hy134]; exact H) | exact H
              have Ny134 := Aside0.mk hy134
              clear hy134
              obtain rfl := Option.some.inj H
              go_wp2_with (first | ((with_reducible refine gate_builtin (b := .append) (xs := #[.tmp 46, .tmp 48]) rfl ?_); (try (refine gate_guard (by rfl) ?_; dsimp only)); at_builtin; refine Kd.R_append Kd.string (w0 := w) w.heap.size rfl (.tmp 46) (.tmp 48) 78 9 (.string ⟨#[]⟩) 16 rfl Tryd.underlying78 info9 rfl (by decide) (by omega) u7 x7_1 x0_1 [.string x0_1] (fun _ => True) (fun _ => False) rfl rfl ?aP (fun _ hk => hk.elim) ?aF ?aO ?aB ?aS ?aL ?_; (case aP => exact rfl); (case aB => exact (by repeat (first | (with_reducible first | exact HB.out | apply below_alloc | apply pw_below_drewN | apply below_drew1) | exact HB.out))); (case aF => exact (fun _ _ => trivial)); (case aO => exact (by (with_reducible repeat (first | apply Kd.R_alloc | apply Kd.R_drewN | apply Kd.R_drew)); exact HO_7.out)); (case aS => exact (below_size (by repeat (first | (with_reducible first | exact HB.out | apply below_alloc | apply pw_below_drewN | apply below_drew1) | exact HB.out)))); (case aL => have := LMc19.out; omega); intro v135 w20 ho hb hg hat; rw [← Ny134.out] at ho; have n0_ := Aside0.mk (hb); have n1_ := Aside0.mk (ho); clear HB; clear HO_7; have HB := n0_; have HO136 := n1_; clear n0_ n1_; clear ho hb hg hat))
              go_ret
              exact ⟨_, by first | rfl | (simp [errW_none, errW_some] <;> rfl) | (simp [*, errW_none, errW_some] <;> rfl), by (with_reducible repeat (first | apply Kd.R_alloc | apply Kd.R_drewN | apply Kd.R_drew)); exact HO136.out, by repeat (first | (with_reducible first | exact HB.out | apply below_alloc | apply pw_below_drewN | apply below_drew1) | exact HB.out)⟩
            · rw [if_neg c19] at H
              exact absurd H (by simp)

/-! ### bytes_Equal: function 38 -/
def bytes_Equal.f (l0 : List Int) (l1 : List Int) : Option (Bool) := some ((strOfNums l0).toList == (strOfNums l1).toList)
set_option maxHeartbeats 8000000 in
set_option maxRecDepth 100000 in
theorem bytes_Equal.calls (A0 : Option Addr) (c0 : Nat) (l0 : List Int) (A1 : Option Addr) (c1 : Nat) (l1 : List Int) (r : Bool) (w : World) (hr0 : Kd.C (Kd.int .u8) w A0 l0.length l0) (hc0 : l0.length ≤ c0) (hr1 : Kd.C (Kd.int .u8) w A1 l1.length l1) (hc1 : l1.length ≤ c1) (h : bytes_Equal.f l0 l1 = some r) :
    Calls Tryd.prog 38 #[.slice A0 l0.length c0, .slice A1 l1.length c1] w fun e w' => e = .returned (.bool r) ∧ Drawn0 w w' := by
  have HR0 := Aside0.mk hr0
  have HC0 := Aside0.mk hc0
  clear hr0 hc0
  have HR1 := Aside0.mk hr1
  have HC1 := Aside0.mk hc1
  clear hr1 hc1
  have H : (some ((strOfNums l0).toList == (strOfNums l1).toList)) = some r := h
  clear h
  obtain rfl := Option.some.inj H
  have hcv3 := Kd.C_string (P := Tryd.prog) (A := A0) (c := c0) Tryd.underlying28 Tryd.underlying5 Tryd.underlying9 HR0.out
  have hcv4 := Kd.C_string (P := Tryd.prog) (A := A1) (c := c1) Tryd.underlying28 Tryd.underlying5 Tryd.underlying9 HR1.out
  go_enter Tryd.func38, Tryd.ntmps38
  go_wp2
  go_ret
  exact ⟨by first | rfl | (simp; done) | (simp [*]; done), by repeat (first | exact Drawn0.refl _ | apply Drawn0.step)⟩

/-- THE ONE PURE STATEMENT of bytes_Equal: yours. -/
def bytes_Equal.Pure : Prop := ∀ (l0 : List Int) (l1 : List Int), l0.length ≤ maxLen → l0.length * 1 ≤ 140737488351232 → (∀ x ∈ l0, (Lit.int .u8 x).wf = true) → l1.length ≤ maxLen → l1.length * 1 ≤ 140737488351232 → (∀ x ∈ l1, (Lit.int .u8 x).wf = true) → bytes_Equal.f l0 l1 = some true
theorem bytes_Equal.walk (P : bytes_Equal.Pure) (a0 : Option Addr) (len0 cap0 : Nat) (z0 : List Int) (a1 : Option Addr) (len1 cap1 : Nat) (z1 : List Int) (w : World) (w0 : (a0 = none ∧ len0 = 0 ∧ cap0 = 0 ∧ z0 = []) ∨ ∃ x, a0 = some x ∧ len0 ≤ cap0 ∧ cap0 ≤ maxLen ∧ z0.length = cap0 ∧ (∀ i, i < z0.length → w.cell? (x.add i) = some (.int .u8 (z0.getD i 0))) ∧ ∀ n ∈ z0, (Lit.int .u8 n).wf = true) (y0 : len0 * 1 ≤ 140737488351232) (w1 : (a1 = none ∧ len1 = 0 ∧ cap1 = 0 ∧ z1 = []) ∨ ∃ x, a1 = some x ∧ len1 ≤ cap1 ∧ cap1 ≤ maxLen ∧ z1.length = cap1 ∧ (∀ i, i < z1.length → w.cell? (x.add i) = some (.int .u8 (z1.getD i 0))) ∧ ∀ n ∈ z1, (Lit.int .u8 n).wf = true) (y1 : len1 * 1 ≤ 140737488351232) :
    Calls Tryd.prog 38 #[.slice a0 len0 cap0, .slice a1 len1 cap1] w fun e w' => e = .returned (.bool true) ∧ Below w.heap.size w w' := by
  obtain ⟨l0, rfl, hr0, hm0, hw0, hc0⟩ := ReadsInt.ofRowC w0
  obtain ⟨l1, rfl, hr1, hm1, hw1, hc1⟩ := ReadsInt.ofRowC w1
  have h := P l0 l1 hm0 y0 hw0 hm1 y1 hw1
  refine (bytes_Equal.calls _ _ l0 _ _ l1 true w (Kd.C_of_reads (d := (0 : Int)) (h1 := fun _ => rfl) hr0) hc0 (Kd.C_of_reads (d := (0 : Int)) (h1 := fun _ => rfl) hr1) hc1 h).mono ?_
  rintro e w' ⟨rfl, hd⟩
  exact ⟨rfl, hd.below⟩

/-! ### packp_isFlush: function 24 -/
def packp_isFlush.f (l0 : List Int) : Option (Bool) := some ((l0.length : Int) == 0)
set_option maxHeartbeats 8000000 in
set_option maxRecDepth 100000 in
theorem packp_isFlush.calls (A0 : Option Addr) (c0 : Nat) (l0 : List Int) (r : Bool) (w : World) (hr0 : Kd.C (Kd.int .u8) w A0 l0.length l0) (hc0 : l0.length ≤ c0) (h : packp_isFlush.f l0 = some r) :
    Calls Tryd.prog 24 #[.slice A0 l0.length c0] w fun e w' => e = .returned (.bool r) ∧ Drawn0 w w' := by
  have HR0 := Aside0.mk hr0
  have HC0 := Aside0.mk hc0
  clear hr0 hc0
  have H : (some ((l0.length : Int) == 0)) = some r := h
  clear h
  obtain rfl := Option.some.inj H
  go_enter Tryd.func24, Tryd.ntmps24
  go_wp2
  go_ret
  exact ⟨by first | rfl | (simp; done) | (simp [*]; done), by repeat (first | exact Drawn0.refl _ | apply Drawn0.step)⟩

/-- THE ONE PURE STATEMENT of packp_isFlush: yours. -/
def packp_isFlush.Pure : Prop := ∀ (l0 : List Int), l0.length ≤ maxLen → l0.length * 1 ≤ 140737488351232 → (∀ x ∈ l0, (Lit.int .u8 x).wf = true) → packp_isFlush.f l0 = some true
theorem packp_isFlush.walk (P : packp_isFlush.Pure) (a0 : Option Addr) (len0 cap0 : Nat) (z0 : List Int) (w : World) (w0 : (a0 = none ∧ len0 = 0 ∧ cap0 = 0 ∧ z0 = []) ∨ ∃ x, a0 = some x ∧ len0 ≤ cap0 ∧ cap0 ≤ maxLen ∧ z0.length = cap0 ∧ (∀ i, i < z0.length → w.cell? (x.add i) = some (.int .u8 (z0.getD i 0))) ∧ ∀ n ∈ z0, (Lit.int .u8 n).wf = true) (y0 : len0 * 1 ≤ 140737488351232) :
    Calls Tryd.prog 24 #[.slice a0 len0 cap0] w fun e w' => e = .returned (.bool true) ∧ Below w.heap.size w w' := by
  obtain ⟨l0, rfl, hr0, hm0, hw0, hc0⟩ := ReadsInt.ofRowC w0
  have h := P l0 hm0 y0 hw0
  refine (packp_isFlush.calls _ _ l0 true w (Kd.C_of_reads (d := (0 : Int)) (h1 := fun _ => rfl) hr0) hc0 h).mono ?_
  rintro e w' ⟨rfl, hd⟩
  exact ⟨rfl, hd.below⟩

end Go.Proofs.YtlkenmpbhchieaaDoor.QAll
