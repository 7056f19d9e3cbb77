-- WRITTEN BY A PROGRAM OF THIS SESSION, out of the loaded program, with words of the kit
import Derived.Test.YtlboochpbplhlaaDoorQAllx0
import Derived.Test.YtlboochpbplhlaaDoorQAllx1
namespace Go.Proofs.YtlboochpbplhlaaDoor.QAll
open Go.RowKit Go.Proofs.YtlboochpbplhlaaDoorW.PrintWords Go.Proofs.YtlboochpbplhlaaDoorW.PrintLast Go.Proofs.YtlboochpbplhlaaDoorW.PrintMore
attribute [local go_sem] max2_int min2_int max_two min_two max_three min_three max_four min_four   -- for this text's walks alone
set_option linter.unusedVariables false
set_option linter.unusedSimpArgs false

/-! ### spec_StepBytes: function 21 -/
mutual
def spec_StepBytes.j0 : Nat → Int → Bool → Int → Int → List Int → Int → Option (List Int)
  | 0, _, _, _, _, _, _ => none
  | k + 1, x3, x125000, x125001, x125002, x125003, x125004 => spec_StepBytes.l0 k x3 128 (([] : List Int)) 0 x125000 x125001 x125002 x125003 x125004
def spec_StepBytes.l0 : Nat → Int → Int → List Int → Int → Bool → Int → Int → List Int → Int → Option (List Int)
  | 0, _, _, _, _, _, _, _, _, _ => none
  | k + 1, x3, x4, x5, x24, x125000, x125001, x125002, x125003, x125004 => if x24 < 7 then (if 0 ≤ (wrap64 (8 * x24)) then (if x24 ≥ 4 then (if 0 ≤ (wrap64 (8 * (wrap64 (x24 - 4)))) then (if ((shr .i64 x3 (wrap64 (8 * (wrap64 (x24 - 4))))) % 256) = 0 then (if 0 ≤ x24 then (if (Go.bits .and .i64 (shr .i64 x125004 x24) 1) = 1 then (if x5.length < 140737488355328 then (spec_StepBytes.l0 k x3 (Go.bits .or .u8 x4 (shl .u8 1 x24)) (x5 ++ [(shr .i64 x3 (wrap64 (8 * (wrap64 (x24 - 4))))) % 256]) (wrap64 (x24 + 1)) x125000 x125001 x125002 x125003 x125004) else (none)) else (spec_StepBytes.l0 k x3 x4 x5 (wrap64 (x24 + 1)) x125000 x125001 x125002 x125003 x125004)) else (none)) else (if 0 ≤ x24 then (if x5.length < 140737488355328 then (spec_StepBytes.l0 k x3 (Go.bits .or .u8 x4 (shl .u8 1 x24)) (x5 ++ [(shr .i64 x3 (wrap64 (8 * (wrap64 (x24 - 4))))) % 256]) (wrap64 (x24 + 1)) x125000 x125001 x125002 x125003 x125004) else (none)) else (none))) else (none)) else (if ((shr .i64 x125001 (wrap64 (8 * x24))) % 256) = 0 then (if 0 ≤ x24 then (if (Go.bits .and .i64 (shr .i64 x125004 x24) 1) = 1 then (if x5.length < 140737488355328 then (spec_StepBytes.l0 k x3 (Go.bits .or .u8 x4 (shl .u8 1 x24)) (x5 ++ [(shr .i64 x125001 (wrap64 (8 * x24))) % 256]) (wrap64 (x24 + 1)) x125000 x125001 x125002 x125003 x125004) else (none)) else (spec_StepBytes.l0 k x3 x4 x5 (wrap64 (x24 + 1)) x125000 x125001 x125002 x125003 x125004)) else (none)) else (if 0 ≤ x24 then (if x5.length < 140737488355328 then (spec_StepBytes.l0 k x3 (Go.bits .or .u8 x4 (shl .u8 1 x24)) (x5 ++ [(shr .i64 x125001 (wrap64 (8 * x24))) % 256]) (wrap64 (x24 + 1)) x125000 x125001 x125002 x125003 x125004) else (none)) else (none)))) else (none)) else ((some (([x4] : List Int) : List Int)).bind fun y134 => (if y134.length + x5.length < 140737488355328 then (some (y134 ++ x5)) else (none)))
end
def spec_StepBytes.f (k : Nat) (a0_0 : Bool) (a0_1 : Int) (a0_2 : Int) (l0_3 : List Int) (a0_4 : Int) : Option (List Int) := if a0_0 = true then (if a0_2 = 65536 then (spec_StepBytes.j0 k 0 a0_0 a0_1 a0_2 l0_3 a0_4) else (spec_StepBytes.j0 k a0_2 a0_0 a0_1 a0_2 l0_3 a0_4)) else ((some (([((l0_3.length : Int)) % 256] : List Int) : List Int)).bind fun y125 => (if y125.length + l0_3.length < 140737488355328 then (some (y125 ++ l0_3)) else (none)))
theorem spec_StepBytes.mono_l : ∀ k, (∀ y0 y1 y2 y3 y4 y5, LeO (spec_StepBytes.j0 k y0 y1 y2 y3 y4 y5) (spec_StepBytes.j0 (k + 1) y0 y1 y2 y3 y4 y5)) ∧ (∀ y0 y1 y2 y3 y4 y5 y6 y7 y8, LeO (spec_StepBytes.l0 k y0 y1 y2 y3 y4 y5 y6 y7 y8) (spec_StepBytes.l0 (k + 1) y0 y1 y2 y3 y4 y5 y6 y7 y8))
  | 0 => ⟨fun _ _ _ _ _ _ r h => by simp [spec_StepBytes.j0] at h, fun _ _ _ _ _ _ _ _ _ r h => by simp [spec_StepBytes.l0] at h⟩
  | k + 1 => by
    obtain ⟨ih0, ih1⟩ := spec_StepBytes.mono_l k
    refine ⟨?_, ?_⟩
    · intro y0 y1 y2 y3 y4 y5
      unfold spec_StepBytes.j0
      repeat' first
      | (with_reducible exact ih0 _ _ _ _ _ _)
      | (with_reducible exact ih1 _ _ _ _ _ _ _ _ _)
      | (with_reducible exact LeO.refl _)
      | (with_reducible exact LeO.none _)
      | (with_reducible refine LeO.ite ?_ ?_)
      | (with_reducible refine LeO.bind ?_ (fun _ => ?_))
      | exact ih0 _ _ _ _ _ _
      | exact ih1 _ _ _ _ _ _ _ _ _
      | exact LeO.none _
      | refine LeO.ite ?_ ?_
      | refine LeO.bind ?_ (fun _ => ?_)
    · intro y0 y1 y2 y3 y4 y5 y6 y7 y8
      unfold spec_StepBytes.l0
      repeat' first
      | (with_reducible exact ih0 _ _ _ _ _ _)
      | (with_reducible exact ih1 _ _ _ _ _ _ _ _ _)
      | (with_reducible exact LeO.refl _)
      | (with_reducible exact LeO.none _)
      | (with_reducible refine LeO.ite ?_ ?_)
      | (with_reducible refine LeO.bind ?_ (fun _ => ?_))
      | exact ih0 _ _ _ _ _ _
      | exact ih1 _ _ _ _ _ _ _ _ _
      | exact LeO.none _
      | refine LeO.ite ?_ ?_
      | refine LeO.bind ?_ (fun _ => ?_)
theorem spec_StepBytes.mono : ∀ a0 a1 a2 a3 a4 k, LeO (spec_StepBytes.f k a0 a1 a2 a3 a4) (spec_StepBytes.f (k + 1) a0 a1 a2 a3 a4) := by
  intro a0 a1 a2 a3 a4 k
  obtain ⟨ih0, ih1⟩ := spec_StepBytes.mono_l k
  unfold spec_StepBytes.f
  repeat' first
      | (with_reducible exact ih0 _ _ _ _ _ _)
      | (with_reducible exact ih1 _ _ _ _ _ _ _ _ _)
      | (with_reducible exact LeO.refl _)
      | (with_reducible exact LeO.none _)
      | (with_reducible refine LeO.ite ?_ ?_)
      | (with_reducible refine LeO.bind ?_ (fun _ => ?_))
      | exact ih0 _ _ _ _ _ _
      | exact ih1 _ _ _ _ _ _ _ _ _
      | exact LeO.none _
      | refine LeO.ite ?_ ?_
      | refine LeO.bind ?_ (fun _ => ?_)
set_option maxHeartbeats 8000000 in
set_option maxRecDepth 100000 in
theorem spec_StepBytes.calls (k : Nat) (a0_0 : Bool) (a0_1 : Int) (a0_2 : Int) (A0_3 : Option Addr) (c0_3 : Nat) (l0_3 : List Int) (a0_4 : Int) (r : List Int) (w : World) (hr0_3 : Kd.C (Kd.int .u8) w A0_3 l0_3.length l0_3) (hc0_3 : l0_3.length ≤ c0_3) (h : spec_StepBytes.f k a0_0 a0_1 a0_2 l0_3 a0_4 = some r) :
    Calls Tryd.prog 21 #[.agg #[.bool a0_0, .int .i64 a0_1, .int .i64 a0_2, .slice A0_3 l0_3.length c0_3, .int .i64 a0_4]] w fun e w' => ∃ v0_ : Value, e = .returned (v0_) ∧ Kd.R (Kd.int .u8) 5 w' w.heap.size (fun _ => True) v0_ r ∧ Below w.heap.size w w' := by
  have hu38 := Tryd.underlying38
  have HR0_3 := Aside0.mk hr0_3
  have HC0_3 := Aside0.mk hc0_3
  clear hr0_3 hc0_3
  have HB := Aside0.mk (Below.refl w.heap.size w)
  have H : (if a0_0 = true then (if a0_2 = 65536 then (spec_StepBytes.j0 k 0 a0_0 a0_1 a0_2 l0_3 a0_4) else (spec_StepBytes.j0 k a0_2 a0_0 a0_1 a0_2 l0_3 a0_4)) else ((some (([((l0_3.length : Int)) % 256] : List Int) : List Int)).bind fun y125 => (if y125.length + l0_3.length < 140737488355328 then (some (y125 ++ l0_3)) else (none)))) = some r := h
  clear h
  by_cases c2 : a0_0 = true
  · subst c2
    have H1 : (if a0_2 = 65536 then (spec_StepBytes.j0 k 0 true a0_1 a0_2 l0_3 a0_4) else (spec_StepBytes.j0 k a0_2 true a0_1 a0_2 l0_3 a0_4)) = some r := by rw [if_pos rfl] at H; exact H
    clear H
    have H := H1
    clear H1
    have HC3 := Aside0.mk H
    clear H
    go_enter Tryd.func21, Tryd.ntmps21
    go_upto_if 22 with (first | ((with_reducible refine gate_dst (N := 1) rfl ?_); refine box_event ?hg (N := 1) ?hd (cs := #[.bool true, .int .i64 a0_1, .int .i64 a0_2, .slice A0_3 l0_3.length c0_3, .int .i64 a0_4]) (t := 38) ?hr ?_; (case hd => rfl); (case hg => rfl); (case hr => first | (go_simp; done) | (go_simp; rfl)); intro gb124 hg w4 hbox hb; have n0_ := Aside0.mk (below_step (by repeat (first | (with_reducible first | exact HB.out | apply below_alloc | apply pw_below_drewN | apply below_drew1) | exact HB.out)) hb); have n1_ := Aside0.mk (hbox); have n2_ := Aside0.mk ((by rw [hg]; exact (below_size (by repeat (first | (with_reducible first | exact HB.out | apply below_alloc | apply pw_below_drewN | apply below_drew1) | exact HB.out))) : w.heap.size ≤ gb124)); have n3_ := Aside0.mk ((by rw [hg]; exact (below_size (by repeat (first | (with_reducible first | exact HB.out | apply below_alloc | apply pw_below_drewN | apply below_drew1) | exact HB.out))) : w.heap.size ≤ gb124)); clear HB; have HB := n0_; have BK124 := n1_; have GW124 := n2_; have GE124 := n3_; clear n0_ n1_ n2_ n3_; clear hb hbox hg; have hcz5_0 : w4.cell? ⟨gb124, 0, none⟩ = some (.bool true) := (blk_cell BK124.out 0).trans rfl; have hcz5_1 : w4.cell? ⟨gb124, 1, none⟩ = some (.int .i64 a0_1) := (blk_cell BK124.out 1).trans rfl; have hcz5_2 : w4.cell? ⟨gb124, 2, none⟩ = some (.int .i64 a0_2) := (blk_cell BK124.out 2).trans rfl; have hcz5_3 : w4.cell? ⟨gb124, 3, none⟩ = some (.slice A0_3 l0_3.length c0_3) := (blk_cell BK124.out 3).trans rfl; have hcz5_4 : w4.cell? ⟨gb124, 4, none⟩ = some (.int .i64 a0_4) := (blk_cell BK124.out 4).trans rfl; have hfz5_0 := blk_frozen BK124.out 0; have hfz5_1 := blk_frozen BK124.out 1; have hfz5_2 := blk_frozen BK124.out 2; have hfz5_3 := blk_frozen BK124.out 3; have hfz5_4 := blk_frozen BK124.out 4))
    (try simp only [Act.put, List.setIfInBounds_toArray, List.set_cons_zero, List.set_cons_succ])
    go_cut [3] (fun v3 wc => ∃ (kq : Nat) (x3_2 : Int), v3 = .int .i64 x3_2 ∧ Aside0 (spec_StepBytes.j0 kq x3_2 true a0_1 a0_2 l0_3 a0_4 = some r) ∧ Aside0 (kq ≤ k) ∧ Aside0 (wc.heap[gb124]? = some (.cells #[.bool true, .int .i64 a0_1, .int .i64 a0_2, (.slice A0_3 l0_3.length c0_3), .int .i64 a0_4] 38 (0, 0))) ∧ Aside0 (Below w.heap.size w wc))
    case first =>
      have H := HC3.out
      clear HC3
      by_cases c6 : a0_2 = 65536
      · rw [if_pos c6] at H
        have c6b0 : (a0_2 == 65536) = true := beq_iff_eq.mpr c6
        have c6b1 : (a0_2 != 65536) = false := bne_eq_false_iff_eq.mpr c6
        clear c6
        (first | rw [c6b0] | (simp only [i64_w, i32_w]; rw [c6b0]) | skip)
        have H' := Aside0.mk H
        clear H
        go_wp2
        go_meet
        case rel => exact ⟨_, (0), (by first | rfl | (simp; done) | (simp [*]; done)), H', ⟨by first | omega | exact Nat.le_refl _⟩, ⟨by (with_reducible repeat (first | refine blk_drewN ?_ _ | refine blk_drew ?_ | refine blk_alloc ?_ _)); exact BK124.out⟩, ⟨by repeat (first | (with_reducible first | exact HB.out | apply below_alloc | apply pw_below_drewN | apply below_drew1 | refine below_set ?_ GE124.out) | exact HB.out)⟩⟩
      · rw [if_neg c6] at H
        have c6b0 : (a0_2 == 65536) = false := beq_eq_false_iff_ne.mpr c6
        have c6b1 : (a0_2 != 65536) = true := bne_iff_ne.mpr c6
        (first | rw [c6b0] | (simp only [i64_w, i32_w]; rw [c6b0]) | skip)
        have H' := Aside0.mk H
        clear H
        go_wp2
        go_meet
        case rel => exact ⟨_, (a0_2), (by first | rfl | (simp; done) | (simp [*]; done)), H', ⟨by first | omega | exact Nat.le_refl _⟩, ⟨by (with_reducible repeat (first | refine blk_drewN ?_ _ | refine blk_drew ?_ | refine blk_alloc ?_ _)); exact BK124.out⟩, ⟨by repeat (first | (with_reducible first | exact HB.out | apply below_alloc | apply pw_below_drewN | apply below_drew1 | refine below_set ?_ GE124.out) | exact HB.out)⟩⟩
    case rest =>
      clear HC3
      try clear c2
      try clear p2
      try clear c6
      try clear c6b0
      try clear c6b1
      try clear hcz5_0
      try clear hcz5_1
      try clear hcz5_2
      try clear hcz5_3
      try clear hcz5_4
      try clear hfz5_0
      try clear hfz5_1
      try clear hfz5_2
      try clear hfz5_3
      try clear hfz5_4
      obtain ⟨kq, x3_2, rfl, HA, HJ2, BK124, HB⟩ := hcut
      cases kq with
      | zero => exact absurd HA.out (by simp [spec_StepBytes.j0])
      | succ kj2 =>
        have H := HA.out
        clear HA
        simp only [spec_StepBytes.j0] at H
        obtain ⟨y131, hy131⟩ : ∃ y_ : List Int, y_ = (([] : List Int)) := ⟨_, rfl⟩
        replace H : (spec_StepBytes.l0 kj2 x3_2 128 y131 0 true a0_1 a0_2 l0_3 a0_4) = some r := by first | (rw [hy131]; with_reducible exact H) | (have H2_ := (Option.bind_some _ _).symm.trans H; rw [hy131]; with_reducible exact H2_) | (have H2_ := (Option.bind_some _ _).symm.trans H; with_reducible exact H2_) | with_reducible exact H | (rw [hy131]; exact H) | exact H
        have Ny131 := Aside0.mk hy131
        clear hy131
        have H' := Aside0.mk H
        clear H
        go_wp2_with (first | ((with_reducible refine gate_dst (N := 23) rfl ?_); refine Kd.R_lit (Kd.int .u8) _ 5 ?hg (N := 23) ?hd (xs := ([] : List Int)) (inner := []) (ok := fun _ => True) (okp := fun _ => True) ?hr ?hp (fun _ hk => hk) trivial (Below.refl _ _) (Nat.le_refl _) (by simp) ?_; (case hd => rfl); (case hg => rfl); (case hr => first | (go_simp; done) | (go_simp; rfl)); (case hp => exact (Reps.none _ _)); intro v132 w7 ho8 hb hg_ hnew_; clear hg_ hnew_; (first | rw [← Ny131.out] at ho8 | (simp only [Int.reduceToNat] at ho8; rw [← Ny131.out] at ho8)); have n0_ := Aside0.mk (Kd.R_lower ho8 (below_size (by repeat (first | (with_reducible first | exact HB.out | apply below_alloc | apply pw_below_drewN | apply below_drew1 | refine below_set ?_ GE124.out) | exact HB.out)))); have n1_ := Aside0.mk (blk_below (g := gb124) (o := .cells #[.bool true, .int .i64 a0_1, .int .i64 a0_2, .slice A0_3 l0_3.length c0_3, .int .i64 a0_4] 38 (0, 0)) (by (with_reducible repeat (first | refine blk_drewN ?_ _ | refine blk_drew ?_ | refine blk_alloc ?_ _)); exact BK124.out) hb); have n2_ := Aside0.mk (below_step (by repeat (first | (with_reducible first | exact HB.out | apply below_alloc | apply pw_below_drewN | apply below_drew1 | refine below_set ?_ GE124.out) | exact HB.out)) hb); clear BK124; clear HB; have HO133 := n0_; have BK124 := n1_; have HB := n2_; clear n0_ n1_ n2_; clear hb ho8))
        go_loopg [4, 5, 24] kj2 (fun kq v4 v5 v24 w' => ∃ (x4_2 : Int) (x5_2 : List Int) (x24_2 : Int), v4 = .int .u8 x4_2 ∧ v24 = .int .i64 x24_2 ∧ Aside0 (spec_StepBytes.l0 kq x3_2 x4_2 x5_2 x24_2 true a0_1 a0_2 l0_3 a0_4 = some r) ∧ Aside0 (kq ≤ kj2) ∧ Aside0 (Kd.R (Kd.int .u8) 5 w' w.heap.size (fun _ => True) v5 x5_2) ∧ Aside0 (w'.heap[gb124]? = some (.cells #[.bool true, .int .i64 a0_1, .int .i64 a0_2, (.slice A0_3 l0_3.length c0_3), .int .i64 a0_4] 38 (0, 0))) ∧ Aside0 (Below w.heap.size w w'))
        case atStart => exact ⟨(128), (y131), (0), (by first | rfl | (simp; done) | (simp [*]; done)), (by first | rfl | (simp; done) | (simp [*]; done)), H', ⟨Nat.le_refl _⟩, ⟨by (with_reducible repeat (first | apply Kd.R_alloc | apply Kd.R_drewN | apply Kd.R_drew)); exact HO133.out⟩, ⟨by (with_reducible repeat (first | refine blk_drewN ?_ _ | refine blk_drew ?_ | refine blk_alloc ?_ _)); exact BK124.out⟩, ⟨by repeat (first | (with_reducible first | exact HB.out | apply below_alloc | apply pw_below_drewN | apply below_drew1 | refine below_set ?_ GE124.out) | exact HB.out)⟩⟩
        case round =>
          clear H'
          try clear c2
          try clear p2
          try clear c6
          try clear c6b0
          try clear c6b1
          try clear hcz5_0
          try clear hcz5_1
          try clear hcz5_2
          try clear hcz5_3
          try clear hcz5_4
          try clear hfz5_0
          try clear hfz5_1
          try clear hfz5_2
          try clear hfz5_3
          try clear hfz5_4
          try clear p2
          obtain ⟨x4_2, x5_2, x24_2, rfl, rfl, HA, HK2, HO_5, BK124, HB⟩ := hrel
          cases gk with
          | zero => exact absurd HA.out (by simp [spec_StepBytes.l0])
          | succ k2 =>
            have H := HA.out
            clear HA
            simp only [spec_StepBytes.l0] at H
            by_cases c9 : x24_2 < 7
            · rw [if_pos c9] at H
              have c9b0 : decide (x24_2 < 7) = true := decide_eq_true c9
              clear c9
              obtain ⟨ji10, hji10⟩ : ∃ j_ : Int, (wrap64 (8 * x24_2)) = j_ := ⟨_, rfl⟩
              replace H : (if 0 ≤ (ji10) then (if x24_2 ≥ 4 then (if 0 ≤ (wrap64 (8 * (wrap64 (x24_2 - 4)))) then (if ((shr .i64 x3_2 (wrap64 (8 * (wrap64 (x24_2 - 4))))) % 256) = 0 then (if 0 ≤ x24_2 then (if (Go.bits .and .i64 (shr .i64 a0_4 x24_2) 1) = 1 then (if x5_2.length < 140737488355328 then (spec_StepBytes.l0 k2 x3_2 (Go.bits .or .u8 x4_2 (shl .u8 1 x24_2)) (x5_2 ++ [(shr .i64 x3_2 (wrap64 (8 * (wrap64 (x24_2 - 4))))) % 256]) (wrap64 (x24_2 + 1)) true a0_1 a0_2 l0_3 a0_4) else (none)) else (spec_StepBytes.l0 k2 x3_2 x4_2 x5_2 (wrap64 (x24_2 + 1)) true a0_1 a0_2 l0_3 a0_4)) else (none)) else (if 0 ≤ x24_2 then (if x5_2.length < 140737488355328 then (spec_StepBytes.l0 k2 x3_2 (Go.bits .or .u8 x4_2 (shl .u8 1 x24_2)) (x5_2 ++ [(shr .i64 x3_2 (wrap64 (8 * (wrap64 (x24_2 - 4))))) % 256]) (wrap64 (x24_2 + 1)) true a0_1 a0_2 l0_3 a0_4) else (none)) else (none))) else (none)) else (if ((shr .i64 a0_1 (ji10)) % 256) = 0 then (if 0 ≤ x24_2 then (if (Go.bits .and .i64 (shr .i64 a0_4 x24_2) 1) = 1 then (if x5_2.length < 140737488355328 then (spec_StepBytes.l0 k2 x3_2 (Go.bits .or .u8 x4_2 (shl .u8 1 x24_2)) (x5_2 ++ [(shr .i64 a0_1 (ji10)) % 256]) (wrap64 (x24_2 + 1)) true a0_1 a0_2 l0_3 a0_4) else (none)) else (spec_StepBytes.l0 k2 x3_2 x4_2 x5_2 (wrap64 (x24_2 + 1)) true a0_1 a0_2 l0_3 a0_4)) else (none)) else (if 0 ≤ x24_2 then (if x5_2.length < 140737488355328 then (spec_StepBytes.l0 k2 x3_2 (Go.bits .or .u8 x4_2 (shl .u8 1 x24_2)) (x5_2 ++ [(shr .i64 a0_1 (ji10)) % 256]) (wrap64 (x24_2 + 1)) true a0_1 a0_2 l0_3 a0_4) else (none)) else (none)))) else (none)) = some r := by first | (rw [hji10] at H; exact H) | (simp only [hji10] at H ⊢; exact H)
              have hji10w : (IntKind.i64.wrap (8 * x24_2)) = ji10 := (i64_w _).trans hji10
              by_cases c11 : 0 ≤ (ji10)
              · rw [if_pos c11] at H
                have c11b0 := eq_true c11
                have c11b1 : decide (0 ≤ (ji10)) = true := decide_eq_true c11
                clear c11
                obtain ⟨ji12, hji12⟩ : ∃ j_ : Int, (shr .i64 a0_1 (ji10)) = j_ := ⟨_, rfl⟩
                replace H : (if x24_2 ≥ 4 then (if 0 ≤ (wrap64 (8 * (wrap64 (x24_2 - 4)))) then (if ((shr .i64 x3_2 (wrap64 (8 * (wrap64 (x24_2 - 4))))) % 256) = 0 then (if 0 ≤ x24_2 then (if (Go.bits .and .i64 (shr .i64 a0_4 x24_2) 1) = 1 then (if x5_2.length < 140737488355328 then (spec_StepBytes.l0 k2 x3_2 (Go.bits .or .u8 x4_2 (shl .u8 1 x24_2)) (x5_2 ++ [(shr .i64 x3_2 (wrap64 (8 * (wrap64 (x24_2 - 4))))) % 256]) (wrap64 (x24_2 + 1)) true a0_1 a0_2 l0_3 a0_4) else (none)) else (spec_StepBytes.l0 k2 x3_2 x4_2 x5_2 (wrap64 (x24_2 + 1)) true a0_1 a0_2 l0_3 a0_4)) else (none)) else (if 0 ≤ x24_2 then (if x5_2.length < 140737488355328 then (spec_StepBytes.l0 k2 x3_2 (Go.bits .or .u8 x4_2 (shl .u8 1 x24_2)) (x5_2 ++ [(shr .i64 x3_2 (wrap64 (8 * (wrap64 (x24_2 - 4))))) % 256]) (wrap64 (x24_2 + 1)) true a0_1 a0_2 l0_3 a0_4) else (none)) else (none))) else (none)) else (if ((ji12) % 256) = 0 then (if 0 ≤ x24_2 then (if (Go.bits .and .i64 (shr .i64 a0_4 x24_2) 1) = 1 then (if x5_2.length < 140737488355328 then (spec_StepBytes.l0 k2 x3_2 (Go.bits .or .u8 x4_2 (shl .u8 1 x24_2)) (x5_2 ++ [(ji12) % 256]) (wrap64 (x24_2 + 1)) true a0_1 a0_2 l0_3 a0_4) else (none)) else (spec_StepBytes.l0 k2 x3_2 x4_2 x5_2 (wrap64 (x24_2 + 1)) true a0_1 a0_2 l0_3 a0_4)) else (none)) else (if 0 ≤ x24_2 then (if x5_2.length < 140737488355328 then (spec_StepBytes.l0 k2 x3_2 (Go.bits .or .u8 x4_2 (shl .u8 1 x24_2)) (x5_2 ++ [(ji12) % 256]) (wrap64 (x24_2 + 1)) true a0_1 a0_2 l0_3 a0_4) else (none)) else (none)))) = some r := by first | (rw [hji12] at H; exact H) | (simp only [hji12] at H ⊢; exact H)
                have hji12_ : (a0_1 / 2 ^ min (ji10).toNat 64) = ji12 := hji12
                have hji12z : (ji10) ≤ 64 → (a0_1 / 2 ^ (ji10).toNat) = ji12 := shr_small hji12
                by_cases c13 : x24_2 ≥ 4
                · rw [if_pos c13] at H
                  have c13b0 : decide (4 ≤ x24_2) = true := decide_eq_true c13
                  clear c13
                  obtain ⟨ji14, hji14⟩ : ∃ j_ : Int, (wrap64 (8 * (wrap64 (x24_2 - 4)))) = j_ := ⟨_, rfl⟩
                  replace H : (if 0 ≤ (ji14) then (if ((shr .i64 x3_2 (ji14)) % 256) = 0 then (if 0 ≤ x24_2 then (if (Go.bits .and .i64 (shr .i64 a0_4 x24_2) 1) = 1 then (if x5_2.length < 140737488355328 then (spec_StepBytes.l0 k2 x3_2 (Go.bits .or .u8 x4_2 (shl .u8 1 x24_2)) (x5_2 ++ [(shr .i64 x3_2 (ji14)) % 256]) (wrap64 (x24_2 + 1)) true a0_1 a0_2 l0_3 a0_4) else (none)) else (spec_StepBytes.l0 k2 x3_2 x4_2 x5_2 (wrap64 (x24_2 + 1)) true a0_1 a0_2 l0_3 a0_4)) else (none)) else (if 0 ≤ x24_2 then (if x5_2.length < 140737488355328 then (spec_StepBytes.l0 k2 x3_2 (Go.bits .or .u8 x4_2 (shl .u8 1 x24_2)) (x5_2 ++ [(shr .i64 x3_2 (ji14)) % 256]) (wrap64 (x24_2 + 1)) true a0_1 a0_2 l0_3 a0_4) else (none)) else (none))) else (none)) = some r := by first | (rw [hji14] at H; exact H) | (simp only [hji14] at H ⊢; exact H)
                  have hji14w : (IntKind.i64.wrap (8 * (wrap64 (x24_2 - 4)))) = ji14 := (i64_w _).trans hji14
                  by_cases c15 : 0 ≤ (ji14)
                  · rw [if_pos c15] at H
                    have c15b0 := eq_true c15
                    have c15b1 : decide (0 ≤ (ji14)) = true := decide_eq_true c15
                    clear c15
                    obtain ⟨ji16, hji16⟩ : ∃ j_ : Int, (shr .i64 x3_2 (ji14)) = j_ := ⟨_, rfl⟩
                    replace H : (if ((ji16) % 256) = 0 then (if 0 ≤ x24_2 then (if (Go.bits .and .i64 (shr .i64 a0_4 x24_2) 1) = 1 then (if x5_2.length < 140737488355328 then (spec_StepBytes.l0 k2 x3_2 (Go.bits .or .u8 x4_2 (shl .u8 1 x24_2)) (x5_2 ++ [(ji16) % 256]) (wrap64 (x24_2 + 1)) true a0_1 a0_2 l0_3 a0_4) else (none)) else (spec_StepBytes.l0 k2 x3_2 x4_2 x5_2 (wrap64 (x24_2 + 1)) true a0_1 a0_2 l0_3 a0_4)) else (none)) else (if 0 ≤ x24_2 then (if x5_2.length < 140737488355328 then (spec_StepBytes.l0 k2 x3_2 (Go.bits .or .u8 x4_2 (shl .u8 1 x24_2)) (x5_2 ++ [(ji16) % 256]) (wrap64 (x24_2 + 1)) true a0_1 a0_2 l0_3 a0_4) else (none)) else (none))) = some r := by first | (rw [hji16] at H; exact H) | (simp only [hji16] at H ⊢; exact H)
                    have hji16_ : (x3_2 / 2 ^ min (ji14).toNat 64) = ji16 := hji16
                    have hji16z : (ji14) ≤ 64 → (x3_2 / 2 ^ (ji14).toNat) = ji16 := shr_small hji16
                    by_cases c17 : ((ji16) % 256) = 0
                    · rw [if_pos c17] at H
                      have c17b0 : (((ji16) % 256) == 0) = true := beq_iff_eq.mpr c17
                      have c17b1 : (((ji16) % 256) != 0) = false := bne_eq_false_iff_eq.mpr c17
                      clear c17
                      by_cases c18 : 0 ≤ x24_2
                      · rw [if_pos c18] at H
                        have c18b0 := eq_true c18
                        have c18b1 : decide (0 ≤ x24_2) = true := decide_eq_true c18
                        clear c18
                        obtain ⟨ji19, hji19⟩ : ∃ j_ : Int, (shr .i64 a0_4 x24_2) = j_ := ⟨_, rfl⟩
                        replace H : (if (Go.bits .and .i64 (ji19) 1) = 1 then (if x5_2.length < 140737488355328 then (spec_StepBytes.l0 k2 x3_2 (Go.bits .or .u8 x4_2 (shl .u8 1 x24_2)) (x5_2 ++ [(ji16) % 256]) (wrap64 (x24_2 + 1)) true a0_1 a0_2 l0_3 a0_4) else (none)) else (spec_StepBytes.l0 k2 x3_2 x4_2 x5_2 (wrap64 (x24_2 + 1)) true a0_1 a0_2 l0_3 a0_4)) = some r := by first | (rw [hji19] at H; exact H) | (simp only [hji19] at H ⊢; exact H)
                        have hji19_ : (a0_4 / 2 ^ min x24_2.toNat 64) = ji19 := hji19
                        have hji19z : x24_2 ≤ 64 → (a0_4 / 2 ^ x24_2.toNat) = ji19 := shr_small hji19
                        by_cases c20 : (Go.bits .and .i64 (ji19) 1) = 1
                        · rw [if_pos c20] at H
                          have c20b0 : ((Go.bits .and .i64 (ji19) 1) == 1) = true := beq_iff_eq.mpr c20
                          have c20b1 : ((Go.bits .and .i64 (ji19) 1) != 1) = false := bne_eq_false_iff_eq.mpr c20
                          clear c20
                          have c21b0 := eq_true (of_decide_eq_true (by first | (with_reducible assumption) | assumption) : 0 ≤ x24_2)
                          obtain ⟨ji22, hji22⟩ : ∃ j_ : Int, (shl .u8 1 x24_2) = j_ := ⟨_, rfl⟩
                          replace H : (if x5_2.length < 140737488355328 then (spec_StepBytes.l0 k2 x3_2 (Go.bits .or .u8 x4_2 (ji22)) (x5_2 ++ [(ji16) % 256]) (wrap64 (x24_2 + 1)) true a0_1 a0_2 l0_3 a0_4) else (none)) = some r := by first | (rw [hji22] at H; exact H) | (simp only [hji22] at H ⊢; exact H)
                          have hji22_ : (IntKind.u8.wrap (1 * 2 ^ min x24_2.toNat 8)) = ji22 := hji22
                          have hji22z : x24_2 ≤ 8 → (IntKind.u8.wrap (1 * 2 ^ x24_2.toNat)) = ji22 := shl_small hji22
                          have hji22u : (IntKind.u8.wrap (2 ^ min x24_2.toNat 8)) = ji22 := by have h_ := hji22_; rw [Int.one_mul] at h_; exact h_
                          have hji22v : x24_2 ≤ 8 → (IntKind.u8.wrap (2 ^ x24_2.toNat)) = ji22 := fun hle_ => by have h_ := hji22z hle_; rw [Int.one_mul] at h_; exact h_
                          by_cases c23 : x5_2.length < 140737488355328
                          · rw [if_pos c23] at H
                            have LMc23 := Aside0.mk c23
                            clear c23
                            obtain ⟨y140, hy140⟩ : ∃ y_ : List Int, y_ = (x5_2 ++ [(ji16) % 256]) := ⟨_, rfl⟩
                            replace H : (spec_StepBytes.l0 k2 x3_2 (Go.bits .or .u8 x4_2 (ji22)) y140 (wrap64 (x24_2 + 1)) true a0_1 a0_2 l0_3 a0_4) = some r := by first | (rw [hy140]; with_reducible exact H) | (have H2_ := (Option.bind_some _ _).symm.trans H; rw [hy140]; with_reducible exact H2_) | (have H2_ := (Option.bind_some _ _).symm.trans H; with_reducible exact H2_) | with_reducible exact H | (rw [hy140]; exact H) | exact H
                            have Ny140 := Aside0.mk hy140
                            clear hy140
                            have H' := Aside0.mk H
                            clear H
                            have hcz24_0 : wr.cell? ⟨gb124, 0, none⟩ = some (.bool true) := (blk_cell BK124.out 0).trans rfl
                            have hcz24_1 : wr.cell? ⟨gb124, 1, none⟩ = some (.int .i64 a0_1) := (blk_cell BK124.out 1).trans rfl
                            have hcz24_2 : wr.cell? ⟨gb124, 2, none⟩ = some (.int .i64 a0_2) := (blk_cell BK124.out 2).trans rfl
                            have hcz24_3 : wr.cell? ⟨gb124, 3, none⟩ = some (.slice A0_3 l0_3.length c0_3) := (blk_cell BK124.out 3).trans rfl
                            have hcz24_4 : wr.cell? ⟨gb124, 4, none⟩ = some (.int .i64 a0_4) := (blk_cell BK124.out 4).trans rfl
                            have hfz24_0 := blk_frozen BK124.out 0
                            have hfz24_1 := blk_frozen BK124.out 1
                            have hfz24_2 := blk_frozen BK124.out 2
                            have hfz24_3 := blk_frozen BK124.out 3
                            have hfz24_4 := blk_frozen BK124.out 4
                            go_wp2_with (first | ((with_reducible refine gate_builtin (b := .append) (xs := #[.tmp 55, .tmp 57]) rfl ?_); at_builtin; refine Kd.R_append (Kd.int .u8) (w0 := w) w.heap.size rfl (.tmp 55) (.tmp 57) 22 5 (.int .u8 0) 1 rfl Tryd.underlying22 info5 rfl (by decide) (by omega) u5 x5_2 ((ji16) % 256) [.int .u8 ((ji16) % 256)] (fun _ => True) (fun _ => False) rfl rfl ?aP (fun _ hk => hk.elim) ?aF ?aO ?aB ?aS ?aL ?_; (case aP => exact rfl); (case aB => exact (by repeat (first | (with_reducible first | exact HB.out | apply below_alloc | apply pw_below_drewN | apply below_drew1 | refine below_set ?_ GE124.out) | exact HB.out))); (case aF => exact (fun _ _ => trivial)); (case aO => exact (by (with_reducible repeat (first | apply Kd.R_alloc | apply Kd.R_drewN | apply Kd.R_drew)); exact HO_5.out)); (case aS => exact (below_size (by repeat (first | (with_reducible first | exact HB.out | apply below_alloc | apply pw_below_drewN | apply below_drew1 | refine below_set ?_ GE124.out) | exact HB.out)))); (case aL => have := LMc23.out; omega); intro v141 w25 ho hb hg hat; rw [← Ny140.out] at ho; have n0_ := Aside0.mk (blk_grown (g := gb124) (o := .cells #[.bool true, .int .i64 a0_1, .int .i64 a0_2, .slice A0_3 l0_3.length c0_3, .int .i64 a0_4] 38 (0, 0)) (by (with_reducible repeat (first | refine blk_drewN ?_ _ | refine blk_drew ?_ | refine blk_alloc ?_ _)); exact BK124.out) hg (Kd.R_ne HO_5.out BK124.out (by decide))); have n1_ := Aside0.mk (hb); have n2_ := Aside0.mk (ho); clear BK124; clear HB; clear HO_5; have BK124 := n0_; have HB := n1_; have HO142 := n2_; clear n0_ n1_ n2_; clear ho hb hg hat))
                            go_roundg k2
                            case measure => have := HJ2.out; have := HK2.out; omega
                            case rel => exact ⟨(Go.bits .or .u8 x4_2 (ji22)), (y140), (wrap64 (x24_2 + 1)), (by first | rfl | (simp; done) | (simp only [← hji22] <;> (first | rfl | simp)) | (simp [*]; done)), (by first | rfl | (simp; done) | (simp [*]; done)), H', ⟨by have := HJ2.out; have := HK2.out; omega⟩, ⟨by (with_reducible repeat (first | apply Kd.R_alloc | apply Kd.R_drewN | apply Kd.R_drew)); exact HO142.out⟩, ⟨by (with_reducible repeat (first | refine blk_drewN ?_ _ | refine blk_drew ?_ | refine blk_alloc ?_ _)); exact BK124.out⟩, ⟨by repeat (first | (with_reducible first | exact HB.out | apply below_alloc | apply pw_below_drewN | apply below_drew1 | refine below_set ?_ GE124.out) | exact HB.out)⟩⟩
                          · rw [if_neg c23] at H
                            exact absurd H (by simp)
                        · rw [if_neg c20] at H
                          have c20b0 : ((Go.bits .and .i64 (ji19) 1) == 1) = false := beq_eq_false_iff_ne.mpr c20
                          have c20b1 : ((Go.bits .and .i64 (ji19) 1) != 1) = true := bne_iff_ne.mpr c20
                          have H' := Aside0.mk H
                          clear H
                          have hcz26_0 : wr.cell? ⟨gb124, 0, none⟩ = some (.bool true) := (blk_cell BK124.out 0).trans rfl
                          have hcz26_1 : wr.cell? ⟨gb124, 1, none⟩ = some (.int .i64 a0_1) := (blk_cell BK124.out 1).trans rfl
                          have hcz26_2 : wr.cell? ⟨gb124, 2, none⟩ = some (.int .i64 a0_2) := (blk_cell BK124.out 2).trans rfl
                          have hcz26_3 : wr.cell? ⟨gb124, 3, none⟩ = some (.slice A0_3 l0_3.length c0_3) := (blk_cell BK124.out 3).trans rfl
                          have hcz26_4 : wr.cell? ⟨gb124, 4, none⟩ = some (.int .i64 a0_4) := (blk_cell BK124.out 4).trans rfl
                          have hfz26_0 := blk_frozen BK124.out 0
                          have hfz26_1 := blk_frozen BK124.out 1
                          have hfz26_2 := blk_frozen BK124.out 2
                          have hfz26_3 := blk_frozen BK124.out 3
                          have hfz26_4 := blk_frozen BK124.out 4
                          go_wp2
                          go_roundg k2
                          case measure => have := HJ2.out; have := HK2.out; omega
                          case rel => exact ⟨(x4_2), (x5_2), (wrap64 (x24_2 + 1)), (by first | rfl | (simp; done) | (simp [*]; done)), (by first | rfl | (simp; done) | (simp [*]; done)), H', ⟨by have := HJ2.out; have := HK2.out; omega⟩, ⟨by (with_reducible repeat (first | apply Kd.R_alloc | apply Kd.R_drewN | apply Kd.R_drew)); exact HO_5.out⟩, ⟨by (with_reducible repeat (first | refine blk_drewN ?_ _ | refine blk_drew ?_ | refine blk_alloc ?_ _)); exact BK124.out⟩, ⟨by repeat (first | (with_reducible first | exact HB.out | apply below_alloc | apply pw_below_drewN | apply below_drew1 | refine below_set ?_ GE124.out) | exact HB.out)⟩⟩
                      · rw [if_neg c18] at H
                        exact absurd H (by simp)
                    · rw [if_neg c17] at H
                      have c17b0 : (((ji16) % 256) == 0) = false := beq_eq_false_iff_ne.mpr c17
                      have c17b1 : (((ji16) % 256) != 0) = true := bne_iff_ne.mpr c17
                      by_cases c27 : 0 ≤ x24_2
                      · rw [if_pos c27] at H
                        have c27b0 := eq_true c27
                        have c27b1 : decide (0 ≤ x24_2) = true := decide_eq_true c27
                        clear c27
                        obtain ⟨ji28, hji28⟩ : ∃ j_ : Int, (shl .u8 1 x24_2) = j_ := ⟨_, rfl⟩
                        replace H : (if x5_2.length < 140737488355328 then (spec_StepBytes.l0 k2 x3_2 (Go.bits .or .u8 x4_2 (ji28)) (x5_2 ++ [(ji16) % 256]) (wrap64 (x24_2 + 1)) true a0_1 a0_2 l0_3 a0_4) else (none)) = some r := by first | (rw [hji28] at H; exact H) | (simp only [hji28] at H ⊢; exact H)
                        have hji28_ : (IntKind.u8.wrap (1 * 2 ^ min x24_2.toNat 8)) = ji28 := hji28
                        have hji28z : x24_2 ≤ 8 → (IntKind.u8.wrap (1 * 2 ^ x24_2.toNat)) = ji28 := shl_small hji28
                        have hji28u : (IntKind.u8.wrap (2 ^ min x24_2.toNat 8)) = ji28 := by have h_ := hji28_; rw [Int.one_mul] at h_; exact h_
                        have hji28v : x24_2 ≤ 8 → (IntKind.u8.wrap (2 ^ x24_2.toNat)) = ji28 := fun hle_ => by have h_ := hji28z hle_; rw [Int.one_mul] at h_; exact h_
                        by_cases c29 : x5_2.length < 140737488355328
                        · rw [if_pos c29] at H
                          have LMc29 := Aside0.mk c29
                          clear c29
                          obtain ⟨y143, hy143⟩ : ∃ y_ : List Int, y_ = (x5_2 ++ [(ji16) % 256]) := ⟨_, rfl⟩
                          replace H : (spec_StepBytes.l0 k2 x3_2 (Go.bits .or .u8 x4_2 (ji28)) y143 (wrap64 (x24_2 + 1)) true a0_1 a0_2 l0_3 a0_4) = some r := by first | (rw [hy143]; with_reducible exact H) | (have H2_ := (Option.bind_some _ _).symm.trans H; rw [hy143]; with_reducible exact H2_) | (have H2_ := (Option.bind_some _ _).symm.trans H; with_reducible exact H2_) | with_reducible exact H | (rw [hy143]; exact H) | exact H
                          have Ny143 := Aside0.mk hy143
                          clear hy143
                          have H' := Aside0.mk H
                          clear H
                          have hcz30_0 : wr.cell? ⟨gb124, 0, none⟩ = some (.bool true) := (blk_cell BK124.out 0).trans rfl
                          have hcz30_1 : wr.cell? ⟨gb124, 1, none⟩ = some (.int .i64 a0_1) := (blk_cell BK124.out 1).trans rfl
                          have hcz30_2 : wr.cell? ⟨gb124, 2, none⟩ = some (.int .i64 a0_2) := (blk_cell BK124.out 2).trans rfl
                          have hcz30_3 : wr.cell? ⟨gb124, 3, none⟩ = some (.slice A0_3 l0_3.length c0_3) := (blk_cell BK124.out 3).trans rfl
                          have hcz30_4 : wr.cell? ⟨gb124, 4, none⟩ = some (.int .i64 a0_4) := (blk_cell BK124.out 4).trans rfl
                          have hfz30_0 := blk_frozen BK124.out 0
                          have hfz30_1 := blk_frozen BK124.out 1
                          have hfz30_2 := blk_frozen BK124.out 2
                          have hfz30_3 := blk_frozen BK124.out 3
                          have hfz30_4 := blk_frozen BK124.out 4
                          go_wp2_with (first | ((with_reducible refine gate_builtin (b := .append) (xs := #[.tmp 55, .tmp 57]) rfl ?_); at_builtin; refine Kd.R_append (Kd.int .u8) (w0 := w) w.heap.size rfl (.tmp 55) (.tmp 57) 22 5 (.int .u8 0) 1 rfl Tryd.underlying22 info5 rfl (by decide) (by omega) u5 x5_2 ((ji16) % 256) [.int .u8 ((ji16) % 256)] (fun _ => True) (fun _ => False) rfl rfl ?aP (fun _ hk => hk.elim) ?aF ?aO ?aB ?aS ?aL ?_; (case aP => exact rfl); (case aB => exact (by repeat (first | (with_reducible first | exact HB.out | apply below_alloc | apply pw_below_drewN | apply below_drew1 | refine below_set ?_ GE124.out) | exact HB.out))); (case aF => exact (fun _ _ => trivial)); (case aO => exact (by (with_reducible repeat (first | apply Kd.R_alloc | apply Kd.R_drewN | apply Kd.R_drew)); exact HO_5.out)); (case aS => exact (below_size (by repeat (first | (with_reducible first | exact HB.out | apply below_alloc | apply pw_below_drewN | apply below_drew1 | refine below_set ?_ GE124.out) | exact HB.out)))); (case aL => have := LMc29.out; omega); intro v144 w31 ho hb hg hat; rw [← Ny143.out] at ho; have n0_ := Aside0.mk (blk_grown (g := gb124) (o := .cells #[.bool true, .int .i64 a0_1, .int .i64 a0_2, .slice A0_3 l0_3.length c0_3, .int .i64 a0_4] 38 (0, 0)) (by (with_reducible repeat (first | refine blk_drewN ?_ _ | refine blk_drew ?_ | refine blk_alloc ?_ _)); exact BK124.out) hg (Kd.R_ne HO_5.out BK124.out (by decide))); have n1_ := Aside0.mk (hb); have n2_ := Aside0.mk (ho); clear BK124; clear HB; clear HO_5; have BK124 := n0_; have HB := n1_; have HO145 := n2_; clear n0_ n1_ n2_; clear ho hb hg hat))
                          go_roundg k2
                          case measure => have := HJ2.out; have := HK2.out; omega
                          case rel => exact ⟨(Go.bits .or .u8 x4_2 (ji28)), (y143), (wrap64 (x24_2 + 1)), (by first | rfl | (simp; done) | (simp only [← hji28] <;> (first | rfl | simp)) | (simp [*]; done)), (by first | rfl | (simp; done) | (simp [*]; done)), H', ⟨by have := HJ2.out; have := HK2.out; omega⟩, ⟨by (with_reducible repeat (first | apply Kd.R_alloc | apply Kd.R_drewN | apply Kd.R_drew)); exact HO145.out⟩, ⟨by (with_reducible repeat (first | refine blk_drewN ?_ _ | refine blk_drew ?_ | refine blk_alloc ?_ _)); exact BK124.out⟩, ⟨by repeat (first | (with_reducible first | exact HB.out | apply below_alloc | apply pw_below_drewN | apply below_drew1 | refine below_set ?_ GE124.out) | exact HB.out)⟩⟩
                        · rw [if_neg c29] at H
                          exact absurd H (by simp)
                      · rw [if_neg c27] at H
                        exact absurd H (by simp)
                  · rw [if_neg c15] at H
                    exact absurd H (by simp)
                · rw [if_neg c13] at H
                  have c13b0 : decide (4 ≤ x24_2) = false := decide_eq_false c13
                  clear c13
                  by_cases c32 : ((ji12) % 256) = 0
                  · rw [if_pos c32] at H
                    have c32b0 : (((ji12) % 256) == 0) = true := beq_iff_eq.mpr c32
                    have c32b1 : (((ji12) % 256) != 0) = false := bne_eq_false_iff_eq.mpr c32
                    clear c32
                    by_cases c33 : 0 ≤ x24_2
                    · rw [if_pos c33] at H
                      have c33b0 := eq_true c33
                      have c33b1 : decide (0 ≤ x24_2) = true := decide_eq_true c33
                      clear c33
                      obtain ⟨ji34, hji34⟩ : ∃ j_ : Int, (shr .i64 a0_4 x24_2) = j_ := ⟨_, rfl⟩
                      replace H : (if (Go.bits .and .i64 (ji34) 1) = 1 then (if x5_2.length < 140737488355328 then (spec_StepBytes.l0 k2 x3_2 (Go.bits .or .u8 x4_2 (shl .u8 1 x24_2)) (x5_2 ++ [(ji12) % 256]) (wrap64 (x24_2 + 1)) true a0_1 a0_2 l0_3 a0_4) else (none)) else (spec_StepBytes.l0 k2 x3_2 x4_2 x5_2 (wrap64 (x24_2 + 1)) true a0_1 a0_2 l0_3 a0_4)) = some r := by first | (rw [hji34] at H; exact H) | (simp only [hji34] at H ⊢; exact H)
                      have hji34_ : (a0_4 / 2 ^ min x24_2.toNat 64) = ji34 := hji34
                      have hji34z : x24_2 ≤ 64 → (a0_4 / 2 ^ x24_2.toNat) = ji34 := shr_small hji34
                      by_cases c35 : (Go.bits .and .i64 (ji34) 1) = 1
                      · rw [if_pos c35] at H
                        have c35b0 : ((Go.bits .and .i64 (ji34) 1) == 1) = true := beq_iff_eq.mpr c35
                        have c35b1 : ((Go.bits .and .i64 (ji34) 1) != 1) = false := bne_eq_false_iff_eq.mpr c35
                        clear c35
                        have c36b0 := eq_true (of_decide_eq_true (by first | (with_reducible assumption) | assumption) : 0 ≤ x24_2)
                        obtain ⟨ji37, hji37⟩ : ∃ j_ : Int, (shl .u8 1 x24_2) = j_ := ⟨_, rfl⟩
                        replace H : (if x5_2.length < 140737488355328 then (spec_StepBytes.l0 k2 x3_2 (Go.bits .or .u8 x4_2 (ji37)) (x5_2 ++ [(ji12) % 256]) (wrap64 (x24_2 + 1)) true a0_1 a0_2 l0_3 a0_4) else (none)) = some r := by first | (rw [hji37] at H; exact H) | (simp only [hji37] at H ⊢; exact H)
                        have hji37_ : (IntKind.u8.wrap (1 * 2 ^ min x24_2.toNat 8)) = ji37 := hji37
                        have hji37z : x24_2 ≤ 8 → (IntKind.u8.wrap (1 * 2 ^ x24_2.toNat)) = ji37 := shl_small hji37
                        have hji37u : (IntKind.u8.wrap (2 ^ min x24_2.toNat 8)) = ji37 := by have h_ := hji37_; rw [Int.one_mul] at h_; exact h_
                        have hji37v : x24_2 ≤ 8 → (IntKind.u8.wrap (2 ^ x24_2.toNat)) = ji37 := fun hle_ => by have h_ := hji37z hle_; rw [Int.one_mul] at h_; exact h_
                        by_cases c38 : x5_2.length < 140737488355328
                        · rw [if_pos c38] at H
                          have LMc38 := Aside0.mk c38
                          clear c38
                          obtain ⟨y146, hy146⟩ : ∃ y_ : List Int, y_ = (x5_2 ++ [(ji12) % 256]) := ⟨_, rfl⟩
                          replace H : (spec_StepBytes.l0 k2 x3_2 (Go.bits .or .u8 x4_2 (ji37)) y146 (wrap64 (x24_2 + 1)) true a0_1 a0_2 l0_3 a0_4) = some r := by first | (rw [hy146]; with_reducible exact H) | (have H2_ := (Option.bind_some _ _).symm.trans H; rw [hy146]; with_reducible exact H2_) | (have H2_ := (Option.bind_some _ _).symm.trans H; with_reducible exact H2_) | with_reducible exact H | (rw [hy146]; exact H) | exact H
                          have Ny146 := Aside0.mk hy146
                          clear hy146
                          have H' := Aside0.mk H
                          clear H
                          have hcz39_0 : wr.cell? ⟨gb124, 0, none⟩ = some (.bool true) := (blk_cell BK124.out 0).trans rfl
                          have hcz39_1 : wr.cell? ⟨gb124, 1, none⟩ = some (.int .i64 a0_1) := (blk_cell BK124.out 1).trans rfl
                          have hcz39_2 : wr.cell? ⟨gb124, 2, none⟩ = some (.int .i64 a0_2) := (blk_cell BK124.out 2).trans rfl
                          have hcz39_3 : wr.cell? ⟨gb124, 3, none⟩ = some (.slice A0_3 l0_3.length c0_3) := (blk_cell BK124.out 3).trans rfl
                          have hcz39_4 : wr.cell? ⟨gb124, 4, none⟩ = some (.int .i64 a0_4) := (blk_cell BK124.out 4).trans rfl
                          have hfz39_0 := blk_frozen BK124.out 0
                          have hfz39_1 := blk_frozen BK124.out 1
                          have hfz39_2 := blk_frozen BK124.out 2
                          have hfz39_3 := blk_frozen BK124.out 3
                          have hfz39_4 := blk_frozen BK124.out 4
                          go_wp2_with (first | ((with_reducible refine gate_builtin (b := .append) (xs := #[.tmp 55, .tmp 57]) rfl ?_); at_builtin; refine Kd.R_append (Kd.int .u8) (w0 := w) w.heap.size rfl (.tmp 55) (.tmp 57) 22 5 (.int .u8 0) 1 rfl Tryd.underlying22 info5 rfl (by decide) (by omega) u5 x5_2 ((ji12) % 256) [.int .u8 ((ji12) % 256)] (fun _ => True) (fun _ => False) rfl rfl ?aP (fun _ hk => hk.elim) ?aF ?aO ?aB ?aS ?aL ?_; (case aP => exact rfl); (case aB => exact (by repeat (first | (with_reducible first | exact HB.out | apply below_alloc | apply pw_below_drewN | apply below_drew1 | refine below_set ?_ GE124.out) | exact HB.out))); (case aF => exact (fun _ _ => trivial)); (case aO => exact (by (with_reducible repeat (first | apply Kd.R_alloc | apply Kd.R_drewN | apply Kd.R_drew)); exact HO_5.out)); (case aS => exact (below_size (by repeat (first | (with_reducible first | exact HB.out | apply below_alloc | apply pw_below_drewN | apply below_drew1 | refine below_set ?_ GE124.out) | exact HB.out)))); (case aL => have := LMc38.out; omega); intro v147 w40 ho hb hg hat; rw [← Ny146.out] at ho; have n0_ := Aside0.mk (blk_grown (g := gb124) (o := .cells #[.bool true, .int .i64 a0_1, .int .i64 a0_2, .slice A0_3 l0_3.length c0_3, .int .i64 a0_4] 38 (0, 0)) (by (with_reducible repeat (first | refine blk_drewN ?_ _ | refine blk_drew ?_ | refine blk_alloc ?_ _)); exact BK124.out) hg (Kd.R_ne HO_5.out BK124.out (by decide))); have n1_ := Aside0.mk (hb); have n2_ := Aside0.mk (ho); clear BK124; clear HB; clear HO_5; have BK124 := n0_; have HB := n1_; have HO148 := n2_; clear n0_ n1_ n2_; clear ho hb hg hat))
                          go_roundg k2
                          case measure => have := HJ2.out; have := HK2.out; omega
                          case rel => exact ⟨(Go.bits .or .u8 x4_2 (ji37)), (y146), (wrap64 (x24_2 + 1)), (by first | rfl | (simp; done) | (simp only [← hji37] <;> (first | rfl | simp)) | (simp [*]; done)), (by first | rfl | (simp; done) | (simp [*]; done)), H', ⟨by have := HJ2.out; have := HK2.out; omega⟩, ⟨by (with_reducible repeat (first | apply Kd.R_alloc | apply Kd.R_drewN | apply Kd.R_drew)); exact HO148.out⟩, ⟨by (with_reducible repeat (first | refine blk_drewN ?_ _ | refine blk_drew ?_ | refine blk_alloc ?_ _)); exact BK124.out⟩, ⟨by repeat (first | (with_reducible first | exact HB.out | apply below_alloc | apply pw_below_drewN | apply below_drew1 | refine below_set ?_ GE124.out) | exact HB.out)⟩⟩
                        · rw [if_neg c38] at H
                          exact absurd H (by simp)
                      · rw [if_neg c35] at H
                        have c35b0 : ((Go.bits .and .i64 (ji34) 1) == 1) = false := beq_eq_false_iff_ne.mpr c35
                        have c35b1 : ((Go.bits .and .i64 (ji34) 1) != 1) = true := bne_iff_ne.mpr c35
                        have H' := Aside0.mk H
                        clear H
                        have hcz41_0 : wr.cell? ⟨gb124, 0, none⟩ = some (.bool true) := (blk_cell BK124.out 0).trans rfl
                        have hcz41_1 : wr.cell? ⟨gb124, 1, none⟩ = some (.int .i64 a0_1) := (blk_cell BK124.out 1).trans rfl
                        have hcz41_2 : wr.cell? ⟨gb124, 2, none⟩ = some (.int .i64 a0_2) := (blk_cell BK124.out 2).trans rfl
                        have hcz41_3 : wr.cell? ⟨gb124, 3, none⟩ = some (.slice A0_3 l0_3.length c0_3) := (blk_cell BK124.out 3).trans rfl
                        have hcz41_4 : wr.cell? ⟨gb124, 4, none⟩ = some (.int .i64 a0_4) := (blk_cell BK124.out 4).trans rfl
                        have hfz41_0 := blk_frozen BK124.out 0
                        have hfz41_1 := blk_frozen BK124.out 1
                        have hfz41_2 := blk_frozen BK124.out 2
                        have hfz41_3 := blk_frozen BK124.out 3
                        have hfz41_4 := blk_frozen BK124.out 4
                        go_wp2
                        go_roundg k2
                        case measure => have := HJ2.out; have := HK2.out; omega
                        case rel => exact ⟨(x4_2), (x5_2), (wrap64 (x24_2 + 1)), (by first | rfl | (simp; done) | (simp [*]; done)), (by first | rfl | (simp; done) | (simp [*]; done)), H', ⟨by have := HJ2.out; have := HK2.out; omega⟩, ⟨by (with_reducible repeat (first | apply Kd.R_alloc | apply Kd.R_drewN | apply Kd.R_drew)); exact HO_5.out⟩, ⟨by (with_reducible repeat (first | refine blk_drewN ?_ _ | refine blk_drew ?_ | refine blk_alloc ?_ _)); exact BK124.out⟩, ⟨by repeat (first | (with_reducible first | exact HB.out | apply below_alloc | apply pw_below_drewN | apply below_drew1 | refine below_set ?_ GE124.out) | exact HB.out)⟩⟩
                    · rw [if_neg c33] at H
                      exact absurd H (by simp)
                  · rw [if_neg c32] at H
                    have c32b0 : (((ji12) % 256) == 0) = false := beq_eq_false_iff_ne.mpr c32
                    have c32b1 : (((ji12) % 256) != 0) = true := bne_iff_ne.mpr c32
                    by_cases c42 : 0 ≤ x24_2
                    · rw [if_pos c42] at H
                      have c42b0 := eq_true c42
                      have c42b1 : decide (0 ≤ x24_2) = true := decide_eq_true c42
                      clear c42
                      obtain ⟨ji43, hji43⟩ : ∃ j_ : Int, (shl .u8 1 x24_2) = j_ := ⟨_, rfl⟩
                      replace H : (if x5_2.length < 140737488355328 then (spec_StepBytes.l0 k2 x3_2 (Go.bits .or .u8 x4_2 (ji43)) (x5_2 ++ [(ji12) % 256]) (wrap64 (x24_2 + 1)) true a0_1 a0_2 l0_3 a0_4) else (none)) = some r := by first | (rw [hji43] at H; exact H) | (simp only [hji43] at H ⊢; exact H)
                      have hji43_ : (IntKind.u8.wrap (1 * 2 ^ min x24_2.toNat 8)) = ji43 := hji43
                      have hji43z : x24_2 ≤ 8 → (IntKind.u8.wrap (1 * 2 ^ x24_2.toNat)) = ji43 := shl_small hji43
                      have hji43u : (IntKind.u8.wrap (2 ^ min x24_2.toNat 8)) = ji43 := by have h_ := hji43_; rw [Int.one_mul] at h_; exact h_
                      have hji43v : x24_2 ≤ 8 → (IntKind.u8.wrap (2 ^ x24_2.toNat)) = ji43 := fun hle_ => by have h_ := hji43z hle_; rw [Int.one_mul] at h_; exact h_
                      by_cases c44 : x5_2.length < 140737488355328
                      · rw [if_pos c44] at H
                        have LMc44 := Aside0.mk c44
                        clear c44
                        obtain ⟨y149, hy149⟩ : ∃ y_ : List Int, y_ = (x5_2 ++ [(ji12) % 256]) := ⟨_, rfl⟩
                        replace H : (spec_StepBytes.l0 k2 x3_2 (Go.bits .or .u8 x4_2 (ji43)) y149 (wrap64 (x24_2 + 1)) true a0_1 a0_2 l0_3 a0_4) = some r := by first | (rw [hy149]; with_reducible exact H) | (have H2_ := (Option.bind_some _ _).symm.trans H; rw [hy149]; with_reducible exact H2_) | (have H2_ := (Option.bind_some _ _).symm.trans H; with_reducible exact H2_) | with_reducible exact H | (rw [hy149]; exact H) | exact H
                        have Ny149 := Aside0.mk hy149
                        clear hy149
                        have H' := Aside0.mk H
                        clear H
                        have hcz45_0 : wr.cell? ⟨gb124, 0, none⟩ = some (.bool true) := (blk_cell BK124.out 0).trans rfl
                        have hcz45_1 : wr.cell? ⟨gb124, 1, none⟩ = some (.int .i64 a0_1) := (blk_cell BK124.out 1).trans rfl
                        have hcz45_2 : wr.cell? ⟨gb124, 2, none⟩ = some (.int .i64 a0_2) := (blk_cell BK124.out 2).trans rfl
                        have hcz45_3 : wr.cell? ⟨gb124, 3, none⟩ = some (.slice A0_3 l0_3.length c0_3) := (blk_cell BK124.out 3).trans rfl
                        have hcz45_4 : wr.cell? ⟨gb124, 4, none⟩ = some (.int .i64 a0_4) := (blk_cell BK124.out 4).trans rfl
                        have hfz45_0 := blk_frozen BK124.out 0
                        have hfz45_1 := blk_frozen BK124.out 1
                        have hfz45_2 := blk_frozen BK124.out 2
                        have hfz45_3 := blk_frozen BK124.out 3
                        have hfz45_4 := blk_frozen BK124.out 4
                        go_wp2_with (first | ((with_reducible refine gate_builtin (b := .append) (xs := #[.tmp 55, .tmp 57]) rfl ?_); at_builtin; refine Kd.R_append (Kd.int .u8) (w0 := w) w.heap.size rfl (.tmp 55) (.tmp 57) 22 5 (.int .u8 0) 1 rfl Tryd.underlying22 info5 rfl (by decide) (by omega) u5 x5_2 ((ji12) % 256) [.int .u8 ((ji12) % 256)] (fun _ => True) (fun _ => False) rfl rfl ?aP (fun _ hk => hk.elim) ?aF ?aO ?aB ?aS ?aL ?_; (case aP => exact rfl); (case aB => exact (by repeat (first | (with_reducible first | exact HB.out | apply below_alloc | apply pw_below_drewN | apply below_drew1 | refine below_set ?_ GE124.out) | exact HB.out))); (case aF => exact (fun _ _ => trivial)); (case aO => exact (by (with_reducible repeat (first | apply Kd.R_alloc | apply Kd.R_drewN | apply Kd.R_drew)); exact HO_5.out)); (case aS => exact (below_size (by repeat (first | (with_reducible first | exact HB.out | apply below_alloc | apply pw_below_drewN | apply below_drew1 | refine below_set ?_ GE124.out) | exact HB.out)))); (case aL => have := LMc44.out; omega); intro v150 w46 ho hb hg hat; rw [← Ny149.out] at ho; have n0_ := Aside0.mk (blk_grown (g := gb124) (o := .cells #[.bool true, .int .i64 a0_1, .int .i64 a0_2, .slice A0_3 l0_3.length c0_3, .int .i64 a0_4] 38 (0, 0)) (by (with_reducible repeat (first | refine blk_drewN ?_ _ | refine blk_drew ?_ | refine blk_alloc ?_ _)); exact BK124.out) hg (Kd.R_ne HO_5.out BK124.out (by decide))); have n1_ := Aside0.mk (hb); have n2_ := Aside0.mk (ho); clear BK124; clear HB; clear HO_5; have BK124 := n0_; have HB := n1_; have HO151 := n2_; clear n0_ n1_ n2_; clear ho hb hg hat))
                        go_roundg k2
                        case measure => have := HJ2.out; have := HK2.out; omega
                        case rel => exact ⟨(Go.bits .or .u8 x4_2 (ji43)), (y149), (wrap64 (x24_2 + 1)), (by first | rfl | (simp; done) | (simp only [← hji43] <;> (first | rfl | simp)) | (simp [*]; done)), (by first | rfl | (simp; done) | (simp [*]; done)), H', ⟨by have := HJ2.out; have := HK2.out; omega⟩, ⟨by (with_reducible repeat (first | apply Kd.R_alloc | apply Kd.R_drewN | apply Kd.R_drew)); exact HO151.out⟩, ⟨by (with_reducible repeat (first | refine blk_drewN ?_ _ | refine blk_drew ?_ | refine blk_alloc ?_ _)); exact BK124.out⟩, ⟨by repeat (first | (with_reducible first | exact HB.out | apply below_alloc | apply pw_below_drewN | apply below_drew1 | refine below_set ?_ GE124.out) | exact HB.out)⟩⟩
                      · rw [if_neg c44] at H
                        exact absurd H (by simp)
                    · rw [if_neg c42] at H
                      exact absurd H (by simp)
              · rw [if_neg c11] at H
                exact absurd H (by simp)
            · rw [if_neg c9] at H
              have c9b0 : decide (x24_2 < 7) = false := decide_eq_false c9
              clear c9
              obtain ⟨y134, hy134⟩ : ∃ y_ : List Int, y_ = (([x4_2] : List Int)) := ⟨_, rfl⟩
              replace H : (if y134.length + x5_2.length < 140737488355328 then (some (y134 ++ x5_2)) else (none)) = some r := by first | (rw [hy134]; with_reducible exact H) | (have H2_ := (Option.bind_some _ _).symm.trans H; rw [hy134]; with_reducible exact H2_) | (have H2_ := (Option.bind_some _ _).symm.trans H; with_reducible exact H2_) | with_reducible exact H | (rw [hy134]; exact H) | exact H
              have Ny134 := Aside0.mk hy134
              clear hy134
              by_cases c47 : y134.length + x5_2.length < 140737488355328
              · rw [if_pos c47] at H
                have LMc47 := Aside0.mk c47
                clear c47
                obtain ⟨y137, hy137⟩ : ∃ y_ : List Int, y_ = (y134 ++ x5_2) := ⟨_, rfl⟩
                replace H : (some y137) = some r := by first | (rw [hy137]; with_reducible exact H) | (have H2_ := (Option.bind_some _ _).symm.trans H; rw [hy137]; with_reducible exact H2_) | (have H2_ := (Option.bind_some _ _).symm.trans H; with_reducible exact H2_) | with_reducible exact H | (rw [hy137]; exact H) | exact H
                have Ny137 := Aside0.mk hy137
                clear hy137
                obtain rfl := Option.some.inj H
                go_wp2_with (first | ((with_reducible refine gate_dst (N := 61) rfl ?_); refine Kd.R_lit (Kd.int .u8) _ 5 ?hg (N := 61) ?hd (xs := ([x4_2] : List Int)) (inner := [.int .u8 x4_2]) (ok := fun _ => True) (okp := fun _ => True) ?hr ?hp (fun _ hk => hk) trivial (Below.refl _ _) (Nat.le_refl _) (by simp) ?_; (case hd => rfl); (case hg => rfl); (case hr => first | (go_simp; done) | (go_simp; rfl)); (case hp => exact (Reps.one (show Kd.M (Kd.int .u8) _ _ _ x4_2 [.int .u8 x4_2] from rfl) (Reps.none _ _))); intro v135 w48 ho49 hb hg_ hnew_; clear hg_ hnew_; (first | rw [← Ny134.out] at ho49 | (simp only [Int.reduceToNat] at ho49; rw [← Ny134.out] at ho49)); have n0_ := Aside0.mk (Kd.R_elder' (by (with_reducible repeat (first | apply Kd.R_alloc | apply Kd.R_drewN | apply Kd.R_drew)); exact HO_5.out) (Kd.R_base ho49) hb); have n1_ := Aside0.mk (Kd.R_lower (Kd.R_new' ho49 (Kd.R_lt (by (with_reducible repeat (first | apply Kd.R_alloc | apply Kd.R_drewN | apply Kd.R_drew)); exact HO_5.out))) (below_size (by repeat (first | (with_reducible first | exact HB.out | apply below_alloc | apply pw_below_drewN | apply below_drew1 | refine below_set ?_ GE124.out) | exact HB.out)))); have n2_ := Aside0.mk (blk_below (g := gb124) (o := .cells #[.bool true, .int .i64 a0_1, .int .i64 a0_2, .slice A0_3 l0_3.length c0_3, .int .i64 a0_4] 38 (0, 0)) (by (with_reducible repeat (first | refine blk_drewN ?_ _ | refine blk_drew ?_ | refine blk_alloc ?_ _)); exact BK124.out) hb); have n3_ := Aside0.mk (below_step (by repeat (first | (with_reducible first | exact HB.out | apply below_alloc | apply pw_below_drewN | apply below_drew1 | refine below_set ?_ GE124.out) | exact HB.out)) hb); clear HO_5; clear BK124; clear HB; have HO_5 := n0_; have HO136 := n1_; have BK124 := n2_; have HB := n3_; clear n0_ n1_ n2_ n3_; clear hb ho49; obtain ⟨Ao51, co51, eo51⟩ := Kd.R_slice HO_5.out; subst eo51) | ((with_reducible refine gate_builtin (b := .append) (xs := #[.tmp 61, .tmp 62]) rfl ?_); at_builtin; refine Kd.R_append_rows (Kd.int .u8) (w0 := w) w.heap.size rfl (.tmp 61) (.tmp 62) 22 5 (.int .u8 0) 1 rfl Tryd.underlying22 info5 rfl (by decide) (by omega) v135 y134 x5_2 _ _ _ (fun k_ => some k_ ≠ (.slice Ao51 x5_2.length co51 : Value).ownBlock) (fun _ => False) rfl rfl ?aO ?aR (fun _ _ h => h) (fun _ h => h.elim) ?aF ?aB ?aS ?aL ?_; (case aR => repeat (first | exact (Kd.R_reads' HO_5.out).2.2 | (with_reducible refine Kd.C_alloc ?_ _) | (with_reducible refine Kd.C_drewN ?_ _) | (with_reducible refine Kd.C_drew ?_))); (case aB => exact (by repeat (first | (with_reducible first | exact HB.out | apply below_alloc | apply pw_below_drewN | apply below_drew1 | refine below_set ?_ GE124.out) | exact HB.out))); (case aF => exact (fun k_ hk => Kd.fresh' (Kd.R_lt (by (with_reducible repeat (first | apply Kd.R_alloc | apply Kd.R_drewN | apply Kd.R_drew)); exact HO_5.out)) k_ hk)); (case aO => exact (by (with_reducible repeat (first | apply Kd.R_alloc | apply Kd.R_drewN | apply Kd.R_drew)); exact Kd.R_mono HO136.out (fun _ hk => hk.2))); (case aS => exact (below_size (by repeat (first | (with_reducible first | exact HB.out | apply below_alloc | apply pw_below_drewN | apply below_drew1 | refine below_set ?_ GE124.out) | exact HB.out)))); (case aL => have := LMc47.out; omega); intro v138 w50 ho hb hg hat; rw [← Ny137.out] at ho; have n0_ := Aside0.mk (Kd.R_after (ok := (fun _ => True)) (by (with_reducible repeat (first | apply Kd.R_alloc | apply Kd.R_drewN | apply Kd.R_drew)); exact HO_5.out) hg hat); have n1_ := Aside0.mk (blk_grown (g := gb124) (o := .cells #[.bool true, .int .i64 a0_1, .int .i64 a0_2, .slice A0_3 l0_3.length c0_3, .int .i64 a0_4] 38 (0, 0)) (by (with_reducible repeat (first | refine blk_drewN ?_ _ | refine blk_drew ?_ | refine blk_alloc ?_ _)); exact BK124.out) hg (Kd.R_ne HO136.out BK124.out (by decide))); have n2_ := Aside0.mk (hb); have n3_ := Aside0.mk (ho); clear HO_5; clear BK124; clear HB; clear HO136; have HO_5 := n0_; have BK124 := n1_; have HB := n2_; have HO139 := n3_; clear n0_ n1_ n2_ n3_; clear ho hb hg hat))
                go_ret
                exact ⟨_, by first | rfl | (simp [errW_none, errW_some] <;> rfl) | (simp [*, errW_none, errW_some] <;> rfl), by (with_reducible repeat (first | apply Kd.R_alloc | apply Kd.R_drewN | apply Kd.R_drew)); exact Kd.R_mono HO139.out (fun _ hk => trivial), by repeat (first | (with_reducible first | exact HB.out | apply below_alloc | apply pw_below_drewN | apply below_drew1 | refine below_set ?_ GE124.out) | exact HB.out)⟩
              · rw [if_neg c47] at H
                exact absurd H (by simp)
  · replace c2 := Bool.eq_false_iff.mpr c2
    subst c2
    have H1 : ((some (([((l0_3.length : Int)) % 256] : List Int) : List Int)).bind fun y125 => (if y125.length + l0_3.length < 140737488355328 then (some (y125 ++ l0_3)) else (none))) = some r := by rw [if_neg (show ¬ (false = true) by decide)] at H; exact H
    clear H
    have H := H1
    clear H1
    obtain ⟨y125, hy125⟩ : ∃ y_ : List Int, y_ = (([((l0_3.length : Int)) % 256] : List Int)) := ⟨_, rfl⟩
    replace H : (if y125.length + l0_3.length < 140737488355328 then (some (y125 ++ l0_3)) else (none)) = some r := by first | (rw [hy125]; with_reducible exact H) | (have H2_ := (Option.bind_some _ _).symm.trans H; rw [hy125]; with_reducible exact H2_) | (have H2_ := (Option.bind_some _ _).symm.trans H; with_reducible exact H2_) | with_reducible exact H | (rw [hy125]; exact H) | exact H
    have Ny125 := Aside0.mk hy125
    clear hy125
    by_cases c52 : y125.length + l0_3.length < 140737488355328
    · rw [if_pos c52] at H
      have LMc52 := Aside0.mk c52
      clear c52
      obtain ⟨y128, hy128⟩ : ∃ y_ : List Int, y_ = (y125 ++ l0_3) := ⟨_, rfl⟩
      replace H : (some y128) = some r := by first | (rw [hy128]; with_reducible exact H) | (have H2_ := (Option.bind_some _ _).symm.trans H; rw [hy128]; with_reducible exact H2_) | (have H2_ := (Option.bind_some _ _).symm.trans H; with_reducible exact H2_) | with_reducible exact H | (rw [hy128]; exact H) | exact H
      have Ny128 := Aside0.mk hy128
      clear hy128
      obtain rfl := Option.some.inj H
      go_enter Tryd.func21, Tryd.ntmps21
      go_wp2_with (first | ((with_reducible refine gate_dst (N := 1) rfl ?_); refine box_event ?hg (N := 1) ?hd (cs := #[.bool false, .int .i64 a0_1, .int .i64 a0_2, .slice A0_3 l0_3.length c0_3, .int .i64 a0_4]) (t := 38) ?hr ?_; (case hd => rfl); (case hg => rfl); (case hr => first | (go_simp; done) | (go_simp; rfl)); intro gb124 hg w53 hbox hb; have n0_ := Aside0.mk (below_step (by repeat (first | (with_reducible first | exact HB.out | apply below_alloc | apply pw_below_drewN | apply below_drew1) | exact HB.out)) hb); have n1_ := Aside0.mk (hbox); have n2_ := Aside0.mk ((by rw [hg]; exact (below_size (by repeat (first | (with_reducible first | exact HB.out | apply below_alloc | apply pw_below_drewN | apply below_drew1) | exact HB.out))) : w.heap.size ≤ gb124)); have n3_ := Aside0.mk ((by rw [hg]; exact (below_size (by repeat (first | (with_reducible first | exact HB.out | apply below_alloc | apply pw_below_drewN | apply below_drew1) | exact HB.out))) : w.heap.size ≤ gb124)); clear HB; have HB := n0_; have BK124 := n1_; have GW124 := n2_; have GE124 := n3_; clear n0_ n1_ n2_ n3_; clear hb hbox hg; have hcz54_0 : w53.cell? ⟨gb124, 0, none⟩ = some (.bool false) := (blk_cell BK124.out 0).trans rfl; have hcz54_1 : w53.cell? ⟨gb124, 1, none⟩ = some (.int .i64 a0_1) := (blk_cell BK124.out 1).trans rfl; have hcz54_2 : w53.cell? ⟨gb124, 2, none⟩ = some (.int .i64 a0_2) := (blk_cell BK124.out 2).trans rfl; have hcz54_3 : w53.cell? ⟨gb124, 3, none⟩ = some (.slice A0_3 l0_3.length c0_3) := (blk_cell BK124.out 3).trans rfl; have hcz54_4 : w53.cell? ⟨gb124, 4, none⟩ = some (.int .i64 a0_4) := (blk_cell BK124.out 4).trans rfl; have hfz54_0 := blk_frozen BK124.out 0; have hfz54_1 := blk_frozen BK124.out 1; have hfz54_2 := blk_frozen BK124.out 2; have hfz54_3 := blk_frozen BK124.out 3; have hfz54_4 := blk_frozen BK124.out 4) | ((with_reducible refine gate_dst (N := 15) rfl ?_); refine Kd.R_lit (Kd.int .u8) _ 5 ?hg (N := 15) ?hd (xs := ([((l0_3.length : Int)) % 256] : List Int)) (inner := [.int .u8 (((l0_3.length : Int)) % 256)]) (ok := fun _ => True) (okp := fun _ => True) ?hr ?hp (fun _ hk => hk) trivial (Below.refl _ _) (Nat.le_refl _) (by simp) ?_; (case hd => rfl); (case hg => rfl); (case hr => first | (go_simp; done) | (go_simp; rfl)); (case hp => exact (Reps.one (show Kd.M (Kd.int .u8) _ _ _ (((l0_3.length : Int)) % 256) [.int .u8 (((l0_3.length : Int)) % 256)] from rfl) (Reps.none _ _))); intro v126 w55 ho56 hb hg_ hnew_; clear hg_ hnew_; (first | rw [← Ny125.out] at ho56 | (simp only [Int.reduceToNat] at ho56; rw [← Ny125.out] at ho56)); have n0_ := Aside0.mk (Kd.R_lower ho56 (below_size (by repeat (first | (with_reducible first | exact HB.out | apply below_alloc | apply pw_below_drewN | apply below_drew1 | refine below_set ?_ GE124.out) | exact HB.out)))); have n1_ := Aside0.mk (blk_below (g := gb124) (o := .cells #[.bool false, .int .i64 a0_1, .int .i64 a0_2, .slice A0_3 l0_3.length c0_3, .int .i64 a0_4] 38 (0, 0)) (by (with_reducible repeat (first | refine blk_drewN ?_ _ | refine blk_drew ?_ | refine blk_alloc ?_ _)); exact BK124.out) hb); have n2_ := Aside0.mk (below_step (by repeat (first | (with_reducible first | exact HB.out | apply below_alloc | apply pw_below_drewN | apply below_drew1 | refine below_set ?_ GE124.out) | exact HB.out)) hb); clear BK124; clear HB; have HO127 := n0_; have BK124 := n1_; have HB := n2_; clear n0_ n1_ n2_; clear hb ho56; have hcz57_0 : w55.cell? ⟨gb124, 0, none⟩ = some (.bool false) := (blk_cell BK124.out 0).trans rfl; have hcz57_1 : w55.cell? ⟨gb124, 1, none⟩ = some (.int .i64 a0_1) := (blk_cell BK124.out 1).trans rfl; have hcz57_2 : w55.cell? ⟨gb124, 2, none⟩ = some (.int .i64 a0_2) := (blk_cell BK124.out 2).trans rfl; have hcz57_3 : w55.cell? ⟨gb124, 3, none⟩ = some (.slice A0_3 l0_3.length c0_3) := (blk_cell BK124.out 3).trans rfl; have hcz57_4 : w55.cell? ⟨gb124, 4, none⟩ = some (.int .i64 a0_4) := (blk_cell BK124.out 4).trans rfl; have hfz57_0 := blk_frozen BK124.out 0; have hfz57_1 := blk_frozen BK124.out 1; have hfz57_2 := blk_frozen BK124.out 2; have hfz57_3 := blk_frozen BK124.out 3; have hfz57_4 := blk_frozen BK124.out 4) | ((with_reducible refine gate_builtin (b := .append) (xs := #[.tmp 15, .tmp 17]) rfl ?_); at_builtin; refine Kd.R_append_rows (Kd.int .u8) (w0 := w) w.heap.size rfl (.tmp 15) (.tmp 17) 22 5 (.int .u8 0) 1 rfl Tryd.underlying22 info5 rfl (by decide) (by omega) v126 y125 l0_3 _ _ _ (fun _ => True) (fun _ => False) rfl rfl ?aO ?aR (fun _ _ h => h) (fun _ h => h.elim) ?aF ?aB ?aS ?aL ?_; (case aR => repeat (first | exact (Kd.C_below HR0_3.out HB.out) | (with_reducible refine Kd.C_alloc ?_ _) | (with_reducible refine Kd.C_drewN ?_ _) | (with_reducible refine Kd.C_drew ?_))); (case aB => exact (by repeat (first | (with_reducible first | exact HB.out | apply below_alloc | apply pw_below_drewN | apply below_drew1 | refine below_set ?_ GE124.out) | exact HB.out))); (case aF => exact (fun _ _ => trivial)); (case aO => exact (by (with_reducible repeat (first | apply Kd.R_alloc | apply Kd.R_drewN | apply Kd.R_drew)); exact HO127.out)); (case aS => exact (below_size (by repeat (first | (with_reducible first | exact HB.out | apply below_alloc | apply pw_below_drewN | apply below_drew1 | refine below_set ?_ GE124.out) | exact HB.out)))); (case aL => have := LMc52.out; omega); intro v129 w58 ho hb hg hat; rw [← Ny128.out] at ho; have n0_ := Aside0.mk (blk_grown (g := gb124) (o := .cells #[.bool false, .int .i64 a0_1, .int .i64 a0_2, .slice A0_3 l0_3.length c0_3, .int .i64 a0_4] 38 (0, 0)) (by (with_reducible repeat (first | refine blk_drewN ?_ _ | refine blk_drew ?_ | refine blk_alloc ?_ _)); exact BK124.out) hg (Kd.R_ne HO127.out BK124.out (by decide))); have n1_ := Aside0.mk (hb); have n2_ := Aside0.mk (ho); clear BK124; clear HB; clear HO127; have BK124 := n0_; have HB := n1_; have HO130 := n2_; clear n0_ n1_ n2_; clear ho hb hg hat))
      go_ret
      exact ⟨_, by first | rfl | (simp [errW_none, errW_some] <;> rfl) | (simp [*, errW_none, errW_some] <;> rfl), by (with_reducible repeat (first | apply Kd.R_alloc | apply Kd.R_drewN | apply Kd.R_drew)); exact HO130.out, by repeat (first | (with_reducible first | exact HB.out | apply below_alloc | apply pw_below_drewN | apply below_drew1 | refine below_set ?_ GE124.out) | exact HB.out)⟩
    · rw [if_neg c52] at H
      exact absurd H (by simp)

/-! ### spec_Delta: function 12 -/
def spec_Delta.l0 : Nat → List Int → List (S38) → Int → Int → Option (List Int)
  | 0, _, _, _, _ => none
  | k + 1, x5, x17, x18, x19 => if x19 < x18 then (if 0 ≤ x19 then (if x19 < (x17.length : Int) then ((spec_StepBytes.f k ((rd_T38 x17 x19).f0) ((rd_T38 x17 x19).f1) ((rd_T38 x17 x19).f2) ((rd_T38 x17 x19).f3) ((rd_T38 x17 x19).f4)).bind fun t166 => (if x5.length + t166.length < 140737488355328 then (spec_Delta.l0 k (x5 ++ t166) x17 x18 (wrap64 (x19 + 1))) else (none))) else (none)) else (none)) else (some x5)
def spec_Delta.f (k : Nat) (l0 : List Int) (l1 : List (S38)) : Option (List Int) := (spec_Size7.f k (l0.length : Int)).bind fun t152 => ((spec_Made.f k l0 l1).bind fun t155 => ((spec_Size7.f k (t155.length : Int)).bind fun t158 => (if t152.length + t158.length < 140737488355328 then (spec_Delta.l0 k (t152 ++ t158) l1 (l1.length : Int) 0) else (none))))
theorem spec_Delta.mono_l : ∀ k, (∀ y0 y1 y2 y3, LeO (spec_Delta.l0 k y0 y1 y2 y3) (spec_Delta.l0 (k + 1) y0 y1 y2 y3))
  | 0 => fun _ _ _ _ r h => by simp [spec_Delta.l0] at h
  | k + 1 => by
    have ih0 := spec_Delta.mono_l k
    · intro y0 y1 y2 y3
      unfold spec_Delta.l0
      repeat' first
      | (with_reducible exact ih0 _ _ _ _)
      | (with_reducible exact spec_Made.mono _ _ _)
      | (with_reducible exact spec_Size7.mono _ _)
      | (with_reducible exact spec_StepBytes.mono _ _ _ _ _ _)
      | (with_reducible exact LeO.refl _)
      | (with_reducible exact LeO.none _)
      | (with_reducible refine LeO.ite ?_ ?_)
      | (with_reducible refine LeO.bind ?_ (fun _ => ?_))
      | exact ih0 _ _ _ _
      | exact spec_Made.mono _ _ _
      | exact spec_Size7.mono _ _
      | exact spec_StepBytes.mono _ _ _ _ _ _
      | exact LeO.none _
      | refine LeO.ite ?_ ?_
      | refine LeO.bind ?_ (fun _ => ?_)
theorem spec_Delta.mono : ∀ a0 a1 k, LeO (spec_Delta.f k a0 a1) (spec_Delta.f (k + 1) a0 a1) := by
  intro a0 a1 k
  have ih0 := spec_Delta.mono_l k
  unfold spec_Delta.f
  repeat' first
      | (with_reducible exact ih0 _ _ _ _)
      | (with_reducible exact spec_Made.mono _ _ _)
      | (with_reducible exact spec_Size7.mono _ _)
      | (with_reducible exact spec_StepBytes.mono _ _ _ _ _ _)
      | (with_reducible exact LeO.refl _)
      | (with_reducible exact LeO.none _)
      | (with_reducible refine LeO.ite ?_ ?_)
      | (with_reducible refine LeO.bind ?_ (fun _ => ?_))
      | exact ih0 _ _ _ _
      | exact spec_Made.mono _ _ _
      | exact spec_Size7.mono _ _
      | exact spec_StepBytes.mono _ _ _ _ _ _
      | exact LeO.none _
      | refine LeO.ite ?_ ?_
      | refine LeO.bind ?_ (fun _ => ?_)
set_option maxHeartbeats 8000000 in
set_option maxRecDepth 100000 in
theorem spec_Delta.calls (k : Nat) (A0 : Option Addr) (c0 : Nat) (l0 : List Int) (A1 : Option Addr) (c1 : Nat) (l1 : List (S38)) (r : List Int) (w : World) (hr0 : Kd.C (Kd.int .u8) w A0 l0.length l0) (hc0 : l0.length ≤ c0) (hr1 : Kd.C k38 w A1 l1.length l1) (hc1 : l1.length ≤ c1) (h : spec_Delta.f k l0 l1 = some r) :
    Calls Tryd.prog 12 #[.slice A0 l0.length c0, .slice A1 l1.length c1] w fun e w' => ∃ v0_ : Value, e = .returned (v0_) ∧ Kd.R (Kd.int .u8) 5 w' w.heap.size (fun _ => True) v0_ r ∧ Below w.heap.size w w' := by
  have hu38 := Tryd.underlying38
  have HR0 := Aside0.mk hr0
  have HC0 := Aside0.mk hc0
  clear hr0 hc0
  have HR1 := Aside0.mk hr1
  have HC1 := Aside0.mk hc1
  clear hr1 hc1
  have HB := Aside0.mk (Below.refl w.heap.size w)
  have H : ((spec_Size7.f k (l0.length : Int)).bind fun t152 => ((spec_Made.f k l0 l1).bind fun t155 => ((spec_Size7.f k (t155.length : Int)).bind fun t158 => (if t152.length + t158.length < 140737488355328 then (spec_Delta.l0 k (t152 ++ t158) l1 (l1.length : Int) 0) else (none))))) = some r := h
  clear h
  replace H := Option.bind_eq_some_iff.mp H
  obtain ⟨t152, A30, H⟩ := H
  replace H : ((spec_Made.f k l0 l1).bind fun t155 => ((spec_Size7.f k (t155.length : Int)).bind fun t158 => (if t152.length + t158.length < 140737488355328 then (spec_Delta.l0 k (t152 ++ t158) l1 (l1.length : Int) 0) else (none)))) = some r := H
  have A3 := Aside0.mk A30
  clear A30
  replace H := Option.bind_eq_some_iff.mp H
  obtain ⟨t155, A40, H⟩ := H
  replace H : ((spec_Size7.f k (t155.length : Int)).bind fun t158 => (if t152.length + t158.length < 140737488355328 then (spec_Delta.l0 k (t152 ++ t158) l1 (l1.length : Int) 0) else (none))) = some r := H
  have A4 := Aside0.mk A40
  clear A40
  replace H := Option.bind_eq_some_iff.mp H
  obtain ⟨t158, A50, H⟩ := H
  replace H : (if t152.length + t158.length < 140737488355328 then (spec_Delta.l0 k (t152 ++ t158) l1 (l1.length : Int) 0) else (none)) = some r := H
  have A5 := Aside0.mk A50
  clear A50
  by_cases c6 : t152.length + t158.length < 140737488355328
  · rw [if_pos c6] at H
    have LMc6 := Aside0.mk c6
    clear c6
    obtain ⟨y161, hy161⟩ : ∃ y_ : List Int, y_ = (t152 ++ t158) := ⟨_, rfl⟩
    replace H : (spec_Delta.l0 k y161 l1 (l1.length : Int) 0) = some r := by first | (rw [hy161]; with_reducible exact H) | (have H2_ := (Option.bind_some _ _).symm.trans H; rw [hy161]; with_reducible exact H2_) | (have H2_ := (Option.bind_some _ _).symm.trans H; with_reducible exact H2_) | with_reducible exact H | (rw [hy161]; exact H) | exact H
    have Ny161 := Aside0.mk hy161
    clear hy161
    have H' := Aside0.mk H
    clear H
    go_enter Tryd.func12, Tryd.ntmps12
    go_wp2_with (first | ((with_reducible refine gate_callee (f := 20) rfl ?_); refine goesL_ (some 10) rfl rfl Tryd.func20 (by kernel_rfl) rfl #[.int .i64 (l0.length : Int)] rfl (by (try simp only [List.map_toArray, List.map_cons, List.map_nil]); first | done | rfl | (simp only [List.length_drop, List.length_take]; rfl)) ?_; (with_reducible refine (spec_Size7.calls k (l0.length : Int) t152 _ A3.out).mono ?_); rintro e w7 ⟨v153, rfl, ho0, hb⟩; refine ⟨_, rfl, ?_⟩; have n0_ := Aside0.mk (Kd.R_lower ho0 (below_size (by repeat (first | (with_reducible first | exact HB.out | apply below_alloc | apply pw_below_drewN | apply below_drew1) | exact HB.out)))); have n1_ := Aside0.mk (below_step (by repeat (first | (with_reducible first | exact HB.out | apply below_alloc | apply pw_below_drewN | apply below_drew1) | exact HB.out)) hb); clear HB; have HO154 := n0_; have HB := n1_; clear n0_ n1_; (try clear hb); (try clear hb2); (try clear hk); (try clear hi); (try clear ho0)) | ((with_reducible refine gate_callee (f := 14) rfl ?_); refine goesL_ (some 13) rfl rfl Tryd.func14 (by kernel_rfl) rfl #[.slice A0 l0.length c0, .slice A1 l1.length c1] rfl (by (try simp only [List.map_toArray, List.map_cons, List.map_nil]); first | done | rfl | (simp only [List.length_drop, List.length_take]; rfl)) ?_; (with_reducible refine (spec_Made.calls k _ _ l0 _ _ l1 t155 _ ?side1 ?side2 ?side3 ?side4 A4.out).mono ?_); (case side1 => repeat (first | exact (Kd.C_below HR0.out HB.out) | (with_reducible refine Kd.C_alloc ?_ _) | (with_reducible refine Kd.C_drewN ?_ _) | (with_reducible refine Kd.C_drew ?_))); (case side2 => exact HC0.out); (case side3 => repeat (first | exact (Kd.C_below HR1.out HB.out) | (with_reducible refine Kd.C_alloc ?_ _) | (with_reducible refine Kd.C_drewN ?_ _) | (with_reducible refine Kd.C_drew ?_))); (case side4 => exact HC1.out); rintro e w8 ⟨v156, rfl, ho0, hb⟩; refine ⟨_, rfl, ?_⟩; have n0_ := Aside0.mk (Kd.R_elder' (by (with_reducible repeat (first | apply Kd.R_alloc | apply Kd.R_drewN | apply Kd.R_drew)); exact HO154.out) (Kd.R_base ho0) hb); have n1_ := Aside0.mk (Kd.R_lower (Kd.R_new' ho0 (Kd.R_lt (by (with_reducible repeat (first | apply Kd.R_alloc | apply Kd.R_drewN | apply Kd.R_drew)); exact HO154.out))) (below_size (by repeat (first | (with_reducible first | exact HB.out | apply below_alloc | apply pw_below_drewN | apply below_drew1) | exact HB.out)))); have n2_ := Aside0.mk (below_step (by repeat (first | (with_reducible first | exact HB.out | apply below_alloc | apply pw_below_drewN | apply below_drew1) | exact HB.out)) hb); clear HO154; clear HB; have HO154 := n0_; have HO157 := n1_; have HB := n2_; clear n0_ n1_ n2_; (try clear hb); (try clear hb2); (try clear hk); (try clear hi); (try clear ho0); obtain ⟨Ao9, co9, eo9⟩ := Kd.R_slice HO157.out; subst eo9) | ((with_reducible refine gate_callee (f := 20) rfl ?_); refine goesL_ (some 15) rfl rfl Tryd.func20 (by kernel_rfl) rfl #[.int .i64 (t155.length : Int)] rfl (by (try simp only [List.map_toArray, List.map_cons, List.map_nil]); first | done | rfl | (simp only [List.length_drop, List.length_take]; rfl)) ?_; (with_reducible refine (spec_Size7.calls k (t155.length : Int) t158 _ A5.out).mono ?_); rintro e w10 ⟨v159, rfl, ho0, hb⟩; refine ⟨_, rfl, ?_⟩; have n0_ := Aside0.mk (Kd.R_elder' (by (with_reducible repeat (first | apply Kd.R_alloc | apply Kd.R_drewN | apply Kd.R_drew)); exact HO154.out) (Kd.R_base ho0) hb); have n1_ := Aside0.mk (Kd.R_elder' (by (with_reducible repeat (first | apply Kd.R_alloc | apply Kd.R_drewN | apply Kd.R_drew)); exact HO157.out) (Kd.R_base ho0) hb); have n2_ := Aside0.mk (Kd.R_lower (Kd.R_new' (Kd.R_new' ho0 (Kd.R_lt (by (with_reducible repeat (first | apply Kd.R_alloc | apply Kd.R_drewN | apply Kd.R_drew)); exact HO154.out))) (Kd.R_lt (by (with_reducible repeat (first | apply Kd.R_alloc | apply Kd.R_drewN | apply Kd.R_drew)); exact HO157.out))) (below_size (by repeat (first | (with_reducible first | exact HB.out | apply below_alloc | apply pw_below_drewN | apply below_drew1) | exact HB.out)))); have n3_ := Aside0.mk (below_step (by repeat (first | (with_reducible first | exact HB.out | apply below_alloc | apply pw_below_drewN | apply below_drew1) | exact HB.out)) hb); clear HO154; clear HO157; clear HB; have HO154 := n0_; have HO157 := n1_; have HO160 := n2_; have HB := n3_; clear n0_ n1_ n2_ n3_; (try clear hb); (try clear hb2); (try clear hk); (try clear hi); (try clear ho0); obtain ⟨Ao12, co12, eo12⟩ := Kd.R_slice HO160.out; subst eo12) | ((with_reducible refine gate_builtin (b := .append) (xs := #[.tmp 10, .tmp 15]) rfl ?_); at_builtin; refine Kd.R_append_rows (Kd.int .u8) (w0 := w) w.heap.size rfl (.tmp 10) (.tmp 15) 22 5 (.int .u8 0) 1 rfl Tryd.underlying22 info5 rfl (by decide) (by omega) v153 t152 t158 _ _ _ (fun k_ => some k_ ≠ (.slice Ao9 t155.length co9 : Value).ownBlock ∧ some k_ ≠ (.slice Ao12 t158.length co12 : Value).ownBlock) (fun _ => False) rfl rfl ?aO ?aR (fun _ _ h => h) (fun _ h => h.elim) ?aF ?aB ?aS ?aL ?_; (case aR => repeat (first | exact (Kd.R_reads' HO160.out).2.2 | (with_reducible refine Kd.C_alloc ?_ _) | (with_reducible refine Kd.C_drewN ?_ _) | (with_reducible refine Kd.C_drew ?_))); (case aB => exact (by repeat (first | (with_reducible first | exact HB.out | apply below_alloc | apply pw_below_drewN | apply below_drew1) | exact HB.out))); (case aF => exact (fun k_ hk => ⟨Kd.fresh' (Kd.R_lt (by (with_reducible repeat (first | apply Kd.R_alloc | apply Kd.R_drewN | apply Kd.R_drew)); exact HO157.out)) k_ hk, Kd.fresh' (Kd.R_lt (by (with_reducible repeat (first | apply Kd.R_alloc | apply Kd.R_drewN | apply Kd.R_drew)); exact HO160.out)) k_ hk⟩)); (case aO => exact (by (with_reducible repeat (first | apply Kd.R_alloc | apply Kd.R_drewN | apply Kd.R_drew)); exact Kd.R_mono HO154.out (fun _ hk => ⟨hk.1.2, hk.2⟩))); (case aS => exact (below_size (by repeat (first | (with_reducible first | exact HB.out | apply below_alloc | apply pw_below_drewN | apply below_drew1) | exact HB.out)))); (case aL => have := LMc6.out; omega); intro v162 w11 ho hb hg hat; rw [← Ny161.out] at ho; have n0_ := Aside0.mk (Kd.R_after (ok := (fun k_ => some k_ ≠ (.slice Ao12 t158.length co12 : Value).ownBlock)) (by (with_reducible repeat (first | apply Kd.R_alloc | apply Kd.R_drewN | apply Kd.R_drew)); exact Kd.R_mono HO157.out (fun _ hk => ⟨hk.2, hk.1.2⟩)) hg hat); have n1_ := Aside0.mk (Kd.R_after (ok := (fun k_ => some k_ ≠ (.slice Ao9 t155.length co9 : Value).ownBlock)) (by (with_reducible repeat (first | apply Kd.R_alloc | apply Kd.R_drewN | apply Kd.R_drew)); exact Kd.R_mono HO160.out (fun _ hk => ⟨hk.2, hk.1.2⟩)) hg hat); have n2_ := Aside0.mk (hb); have n3_ := Aside0.mk (ho); clear HO157; clear HO160; clear HB; clear HO154; have HO157 := n0_; have HO160 := n1_; have HB := n2_; have HO163 := n3_; clear n0_ n1_ n2_ n3_; clear ho hb hg hat))
    go_loopg [5, 19] k (fun kq v5 v19 w' => ∃ (x5_1 : List Int) (x19_1 : Int), v19 = .int .i64 x19_1 ∧ Aside0 (spec_Delta.l0 kq x5_1 l1 (l1.length : Int) x19_1 = some r) ∧ Aside0 (kq ≤ k) ∧ Aside0 (Kd.R (Kd.int .u8) 5 w' w.heap.size (fun _ => True) v5 x5_1) ∧ Aside0 (Below w.heap.size w w'))
    case atStart => exact ⟨(y161), (0), (by first | rfl | (simp; done) | (simp [*]; done)), H', ⟨Nat.le_refl _⟩, ⟨by (with_reducible repeat (first | apply Kd.R_alloc | apply Kd.R_drewN | apply Kd.R_drew)); exact Kd.R_mono HO163.out (fun _ hk => trivial)⟩, ⟨by repeat (first | (with_reducible first | exact HB.out | apply below_alloc | apply pw_below_drewN | apply below_drew1) | exact HB.out)⟩⟩
    case round =>
      clear H'
      try clear c1
      try clear c2
      try clear p2
      try clear c6
      try clear c12
      obtain ⟨x5_1, x19_1, rfl, HA, HK1, HO_5, HB⟩ := hrel
      cases gk with
      | zero => exact absurd HA.out (by simp [spec_Delta.l0])
      | succ k1 =>
        have H := HA.out
        clear HA
        simp only [spec_Delta.l0] at H
        by_cases c13 : x19_1 < (l1.length : Int)
        · rw [if_pos c13] at H
          have c13b0 : decide (x19_1 < (l1.length : Int)) = true := decide_eq_true c13
          clear c13
          by_cases c14 : 0 ≤ x19_1
          · rw [if_pos c14] at H
            have c14b0 : decide (0 ≤ x19_1) = true := decide_eq_true c14
            clear c14
            by_cases c15 : x19_1 < (l1.length : Int)
            · rw [if_pos c15] at H
              have c15b0 : decide (x19_1 < (l1.length : Int)) = true := decide_eq_true c15
              clear c15
              replace H := Option.bind_eq_some_iff.mp H
              obtain ⟨t166, A160, H⟩ := H
              replace H : (if x5_1.length + t166.length < 140737488355328 then (spec_Delta.l0 k1 (x5_1 ++ t166) l1 (l1.length : Int) (wrap64 (x19_1 + 1))) else (none)) = some r := H
              have A16 := Aside0.mk A160
              clear A160
              by_cases c17 : x5_1.length + t166.length < 140737488355328
              · rw [if_pos c17] at H
                have LMc17 := Aside0.mk c17
                clear c17
                obtain ⟨y169, hy169⟩ : ∃ y_ : List Int, y_ = (x5_1 ++ t166) := ⟨_, rfl⟩
                replace H : (spec_Delta.l0 k1 y169 l1 (l1.length : Int) (wrap64 (x19_1 + 1))) = some r := by first | (rw [hy169]; with_reducible exact H) | (have H2_ := (Option.bind_some _ _).symm.trans H; rw [hy169]; with_reducible exact H2_) | (have H2_ := (Option.bind_some _ _).symm.trans H; with_reducible exact H2_) | with_reducible exact H | (rw [hy169]; exact H) | exact H
                have Ny169 := Aside0.mk hy169
                clear hy169
                have H' := Aside0.mk H
                clear H
                have p164 : 0 ≤ (x19_1 : Int) := of_decide_eq_true (by first | (with_reducible assumption) | assumption)
                have q164 : x19_1 < (l1.length : Int) := of_decide_eq_true (by first | (with_reducible assumption) | assumption)
                obtain ⟨ad164, A164_3, c164_3, e164, hx164_0, hx164_1, hx164_2, hx164_3, hx164_4, hl164_3, hi164_3⟩ := at_T38 HR1.out x19_1 p164 q164
                cases e164
                replace hx164_0 := (HB.out.cell (World.block_lt_of_cell? w _ hx164_0)).trans hx164_0
                replace hx164_1 := (HB.out.cell (World.block_lt_of_cell? w _ hx164_1)).trans hx164_1
                replace hx164_2 := (HB.out.cell (World.block_lt_of_cell? w _ hx164_2)).trans hx164_2
                replace hx164_3 := (HB.out.cell (World.block_lt_of_cell? w _ hx164_3)).trans hx164_3
                replace hx164_4 := (HB.out.cell (World.block_lt_of_cell? w _ hx164_4)).trans hx164_4
                have HR164_3 := Aside0.mk hi164_3
                have HC164_3 := Aside0.mk hl164_3
                clear hi164_3 hl164_3
                replace p164 := eq_true p164
                replace q164 := eq_true q164
                go_wp2_with (first | ((with_reducible refine gate_dst (N := 7) rfl ?_); refine box_event ?hg (N := 7) ?hd (cs := #[.bool false, .int .i64 0, .int .i64 0, .slice none 0 0, .int .i64 0]) (t := 38) ?hr ?_; (case hd => rfl); (case hg => rfl); (case hr => first | (go_simp; done) | (go_simp; rfl)); intro gb165 hg w18 hbox hb; have n0_ := Aside0.mk (Kd.R_below (by (with_reducible repeat (first | apply Kd.R_alloc | apply Kd.R_drewN | apply Kd.R_drew)); exact HO_5.out) hb); have n1_ := Aside0.mk (below_step (by repeat (first | (with_reducible first | exact HB.out | apply below_alloc | apply pw_below_drewN | apply below_drew1) | exact HB.out)) hb); have n2_ := Aside0.mk (hbox); have n3_ := Aside0.mk ((by rw [hg]; exact (below_size (by repeat (first | (with_reducible first | exact HB.out | apply below_alloc | apply pw_below_drewN | apply below_drew1) | exact HB.out))) : w.heap.size ≤ gb165)); have n4_ := Aside0.mk ((by rw [hg]; exact (below_size (by repeat (first | (with_reducible first | exact HB.out | apply below_alloc | apply pw_below_drewN | apply below_drew1) | exact HB.out))) : w.heap.size ≤ gb165)); clear HO_5; clear HB; have HO_5 := n0_; have HB := n1_; have BK165 := n2_; have GW165 := n3_; have GE165 := n4_; clear n0_ n1_ n2_ n3_ n4_; clear hb hbox hg; have hcz19_0 : w18.cell? ⟨gb165, 0, none⟩ = some (.bool false) := (blk_cell BK165.out 0).trans rfl; have hcz19_1 : w18.cell? ⟨gb165, 1, none⟩ = some (.int .i64 0) := (blk_cell BK165.out 1).trans rfl; have hcz19_2 : w18.cell? ⟨gb165, 2, none⟩ = some (.int .i64 0) := (blk_cell BK165.out 2).trans rfl; have hcz19_3 : w18.cell? ⟨gb165, 3, none⟩ = some (.slice none 0 0) := (blk_cell BK165.out 3).trans rfl; have hcz19_4 : w18.cell? ⟨gb165, 4, none⟩ = some (.int .i64 0) := (blk_cell BK165.out 4).trans rfl; have hfz19_0 := blk_frozen BK165.out 0; have hfz19_1 := blk_frozen BK165.out 1; have hfz19_2 := blk_frozen BK165.out 2; have hfz19_3 := blk_frozen BK165.out 3; have hfz19_4 := blk_frozen BK165.out 4) | ((with_reducible refine gate_callee (f := 21) rfl ?_); refine goesL_ (some 25) rfl rfl Tryd.func21 (by kernel_rfl) rfl #[.agg #[.bool ((rd_T38 l1 x19_1).f0), .int .i64 ((rd_T38 l1 x19_1).f1), .int .i64 ((rd_T38 l1 x19_1).f2), .slice A164_3 ((rd_T38 l1 x19_1).f3).length c164_3, .int .i64 ((rd_T38 l1 x19_1).f4)]] rfl (by (try simp only [List.map_toArray, List.map_cons, List.map_nil]); first | done | rfl | (simp only [List.length_drop, List.length_take]; rfl)) ?_; (with_reducible refine (spec_StepBytes.calls k1 ((rd_T38 l1 x19_1).f0) ((rd_T38 l1 x19_1).f1) ((rd_T38 l1 x19_1).f2) _ _ ((rd_T38 l1 x19_1).f3) ((rd_T38 l1 x19_1).f4) t166 _ ?side1 ?side2 A16.out).mono ?_); (case side1 => exact Kd.C_below HR164_3.out (by repeat (first | (with_reducible first | exact HB.out | apply below_alloc | apply pw_below_drewN | apply below_drew1 | refine below_set ?_ GE165.out) | exact HB.out))); (case side2 => exact HC164_3.out); rintro e w20 ⟨v167, rfl, ho0, hb⟩; refine ⟨_, rfl, ?_⟩; have n0_ := Aside0.mk (Kd.R_elder' (by (with_reducible repeat (first | apply Kd.R_alloc | apply Kd.R_drewN | apply Kd.R_drew)); exact (Kd.R_mono (Kd.R_far (p := ⟨gb165, 4, none⟩) (Kd.R_far (p := ⟨gb165, 3, none⟩) (Kd.R_far (p := ⟨gb165, 2, none⟩) (Kd.R_far (p := ⟨gb165, 1, none⟩) (Kd.R_far (p := ⟨gb165, 0, none⟩) (Kd.R_types HO_5.out BK165.out (by decide)) (fun _ hk => hk.2) (.bool ((rd_T38 l1 x19_1).f0))) (fun _ hk => hk.2) (.int .i64 ((rd_T38 l1 x19_1).f1))) (fun _ hk => hk.2) (.int .i64 ((rd_T38 l1 x19_1).f2))) (fun _ hk => hk.2) (.slice A164_3 ((rd_T38 l1 x19_1).f3).length c164_3)) (fun _ hk => hk.2) (.int .i64 ((rd_T38 l1 x19_1).f4))) (fun _ h_ => h_.1))) (Kd.R_base ho0) hb); have n1_ := Aside0.mk (Kd.R_lower (Kd.R_new' ho0 (Kd.R_lt (by (with_reducible repeat (first | apply Kd.R_alloc | apply Kd.R_drewN | apply Kd.R_drew)); exact (Kd.R_mono (Kd.R_far (p := ⟨gb165, 4, none⟩) (Kd.R_far (p := ⟨gb165, 3, none⟩) (Kd.R_far (p := ⟨gb165, 2, none⟩) (Kd.R_far (p := ⟨gb165, 1, none⟩) (Kd.R_far (p := ⟨gb165, 0, none⟩) (Kd.R_types HO_5.out BK165.out (by decide)) (fun _ hk => hk.2) (.bool ((rd_T38 l1 x19_1).f0))) (fun _ hk => hk.2) (.int .i64 ((rd_T38 l1 x19_1).f1))) (fun _ hk => hk.2) (.int .i64 ((rd_T38 l1 x19_1).f2))) (fun _ hk => hk.2) (.slice A164_3 ((rd_T38 l1 x19_1).f3).length c164_3)) (fun _ hk => hk.2) (.int .i64 ((rd_T38 l1 x19_1).f4))) (fun _ h_ => h_.1))))) (below_size (by repeat (first | (with_reducible first | exact HB.out | apply below_alloc | apply pw_below_drewN | apply below_drew1 | refine below_set ?_ GE165.out) | exact HB.out)))); have n2_ := Aside0.mk (blk_below (g := gb165) (o := .cells #[.bool ((rd_T38 l1 x19_1).f0), .int .i64 ((rd_T38 l1 x19_1).f1), .int .i64 ((rd_T38 l1 x19_1).f2), .slice A164_3 ((rd_T38 l1 x19_1).f3).length c164_3, .int .i64 ((rd_T38 l1 x19_1).f4)] 38 (0, 0)) (by (with_reducible repeat (first | refine blk_drewN ?_ _ | refine blk_drew ?_ | refine blk_alloc ?_ _)); refine blk_put (cs := #[.bool ((rd_T38 l1 x19_1).f0), .int .i64 ((rd_T38 l1 x19_1).f1), .int .i64 ((rd_T38 l1 x19_1).f2), .slice A164_3 ((rd_T38 l1 x19_1).f3).length c164_3, .int .i64 0]) ?_ 4 _ rfl; (with_reducible repeat (first | refine blk_drewN ?_ _ | refine blk_drew ?_ | refine blk_alloc ?_ _)); refine blk_put (cs := #[.bool ((rd_T38 l1 x19_1).f0), .int .i64 ((rd_T38 l1 x19_1).f1), .int .i64 ((rd_T38 l1 x19_1).f2), .slice none 0 0, .int .i64 0]) ?_ 3 _ rfl; (with_reducible repeat (first | refine blk_drewN ?_ _ | refine blk_drew ?_ | refine blk_alloc ?_ _)); refine blk_put (cs := #[.bool ((rd_T38 l1 x19_1).f0), .int .i64 ((rd_T38 l1 x19_1).f1), .int .i64 0, .slice none 0 0, .int .i64 0]) ?_ 2 _ rfl; (with_reducible repeat (first | refine blk_drewN ?_ _ | refine blk_drew ?_ | refine blk_alloc ?_ _)); refine blk_put (cs := #[.bool ((rd_T38 l1 x19_1).f0), .int .i64 0, .int .i64 0, .slice none 0 0, .int .i64 0]) ?_ 1 _ rfl; (with_reducible repeat (first | refine blk_drewN ?_ _ | refine blk_drew ?_ | refine blk_alloc ?_ _)); refine blk_put (cs := #[.bool false, .int .i64 0, .int .i64 0, .slice none 0 0, .int .i64 0]) ?_ 0 _ rfl; (with_reducible repeat (first | refine blk_drewN ?_ _ | refine blk_drew ?_ | refine blk_alloc ?_ _)); exact BK165.out) hb); have n3_ := Aside0.mk (below_step (by repeat (first | (with_reducible first | exact HB.out | apply below_alloc | apply pw_below_drewN | apply below_drew1 | refine below_set ?_ GE165.out) | exact HB.out)) hb); clear HO_5; clear BK165; clear HB; have HO_5 := n0_; have HO168 := n1_; have BK165 := n2_; have HB := n3_; clear n0_ n1_ n2_ n3_; (try clear hb); (try clear hb2); (try clear hk); (try clear hi); (try clear ho0); obtain ⟨Ao22, co22, eo22⟩ := Kd.R_slice HO168.out; subst eo22) | ((with_reducible refine gate_builtin (b := .append) (xs := #[.tmp 23, .tmp 25]) rfl ?_); at_builtin; refine Kd.R_append_rows (Kd.int .u8) (w0 := w) w.heap.size rfl (.tmp 23) (.tmp 25) 22 5 (.int .u8 0) 1 rfl Tryd.underlying22 info5 rfl (by decide) (by omega) u5 x5_1 t166 _ _ _ (fun k_ => some k_ ≠ (.slice Ao22 t166.length co22 : Value).ownBlock) (fun _ => False) rfl rfl ?aO ?aR (fun _ _ h => h) (fun _ h => h.elim) ?aF ?aB ?aS ?aL ?_; (case aR => repeat (first | exact (Kd.R_reads' HO168.out).2.2 | (with_reducible refine Kd.C_alloc ?_ _) | (with_reducible refine Kd.C_drewN ?_ _) | (with_reducible refine Kd.C_drew ?_))); (case aB => exact (by repeat (first | (with_reducible first | exact HB.out | apply below_alloc | apply pw_below_drewN | apply below_drew1 | refine below_set ?_ GE165.out) | exact HB.out))); (case aF => exact (fun k_ hk => Kd.fresh' (Kd.R_lt (by (with_reducible repeat (first | apply Kd.R_alloc | apply Kd.R_drewN | apply Kd.R_drew)); exact HO168.out)) k_ hk)); (case aO => exact (by (with_reducible repeat (first | apply Kd.R_alloc | apply Kd.R_drewN | apply Kd.R_drew)); exact Kd.R_mono HO_5.out (fun _ hk => hk.2))); (case aS => exact (below_size (by repeat (first | (with_reducible first | exact HB.out | apply below_alloc | apply pw_below_drewN | apply below_drew1 | refine below_set ?_ GE165.out) | exact HB.out)))); (case aL => have := LMc17.out; omega); intro v170 w21 ho hb hg hat; rw [← Ny169.out] at ho; have n0_ := Aside0.mk (blk_grown (g := gb165) (o := .cells #[.bool ((rd_T38 l1 x19_1).f0), .int .i64 ((rd_T38 l1 x19_1).f1), .int .i64 ((rd_T38 l1 x19_1).f2), .slice A164_3 ((rd_T38 l1 x19_1).f3).length c164_3, .int .i64 ((rd_T38 l1 x19_1).f4)] 38 (0, 0)) (by (with_reducible repeat (first | refine blk_drewN ?_ _ | refine blk_drew ?_ | refine blk_alloc ?_ _)); exact BK165.out) hg (Kd.R_ne HO_5.out BK165.out (by decide))); have n1_ := Aside0.mk (Kd.R_after (ok := (fun _ => True)) (by (with_reducible repeat (first | apply Kd.R_alloc | apply Kd.R_drewN | apply Kd.R_drew)); exact HO168.out) hg hat); have n2_ := Aside0.mk (hb); have n3_ := Aside0.mk (ho); clear BK165; clear HO168; clear HB; clear HO_5; have BK165 := n0_; have HO168 := n1_; have HB := n2_; have HO171 := n3_; clear n0_ n1_ n2_ n3_; clear ho hb hg hat))
                go_roundg k1
                case measure => have := HK1.out; omega
                case rel => exact ⟨(y169), (wrap64 (x19_1 + 1)), (by first | rfl | (simp; done) | (simp [*]; done)), H', ⟨by have := HK1.out; omega⟩, ⟨by (with_reducible repeat (first | apply Kd.R_alloc | apply Kd.R_drewN | apply Kd.R_drew)); exact Kd.R_mono HO171.out (fun _ hk => trivial)⟩, ⟨by repeat (first | (with_reducible first | exact HB.out | apply below_alloc | apply pw_below_drewN | apply below_drew1 | refine below_set ?_ GE165.out) | exact HB.out)⟩⟩
              · rw [if_neg c17] at H
                exact absurd H (by simp)
            · rw [if_neg c15] at H
              exact absurd H (by simp)
          · rw [if_neg c14] at H
            exact absurd H (by simp)
        · rw [if_neg c13] at H
          have c13b0 : decide (x19_1 < (l1.length : Int)) = false := decide_eq_false c13
          clear c13
          obtain rfl := Option.some.inj H
          go_wp2
          go_ret
          exact ⟨_, by first | rfl | (simp [errW_none, errW_some] <;> rfl) | (simp [*, errW_none, errW_some] <;> rfl), by (with_reducible repeat (first | apply Kd.R_alloc | apply Kd.R_drewN | apply Kd.R_drew)); exact HO_5.out, by repeat (first | (with_reducible first | exact HB.out | apply below_alloc | apply pw_below_drewN | apply below_drew1) | exact HB.out)⟩
  · rw [if_neg c6] at H
    exact absurd H (by simp)

/-! ### laws_deltaSame: function 13 -/
def laws_deltaSame.f (l0 : List Int) (l1 : List Int) : Option (Bool) := some ((strOfNums l0).toList == (strOfNums l1).toList)
set_option maxHeartbeats 8000000 in
set_option maxRecDepth 100000 in
theorem laws_deltaSame.calls (A0 : Option Addr) (c0 : Nat) (l0 : List Int) (A1 : Option Addr) (c1 : Nat) (l1 : List Int) (r : Bool) (w : World) (hr0 : Kd.C (Kd.int .u8) w A0 l0.length l0) (hc0 : l0.length ≤ c0) (hr1 : Kd.C (Kd.int .u8) w A1 l1.length l1) (hc1 : l1.length ≤ c1) (h : laws_deltaSame.f l0 l1 = some r) :
    Calls Tryd.prog 13 #[.slice A0 l0.length c0, .slice A1 l1.length c1] w fun e w' => e = .returned (.bool r) ∧ Drawn0 w w' := by
  have HR0 := Aside0.mk hr0
  have HC0 := Aside0.mk hc0
  clear hr0 hc0
  have HR1 := Aside0.mk hr1
  have HC1 := Aside0.mk hc1
  clear hr1 hc1
  have H : (some ((strOfNums l0).toList == (strOfNums l1).toList)) = some r := h
  clear h
  obtain rfl := Option.some.inj H
  have hcv3 := Kd.C_string (P := Tryd.prog) (A := A0) (c := c0) Tryd.underlying22 Tryd.underlying5 Tryd.underlying9 HR0.out
  have hcv4 := Kd.C_string (P := Tryd.prog) (A := A1) (c := c1) Tryd.underlying22 Tryd.underlying5 Tryd.underlying9 HR1.out
  go_enter Tryd.func13, Tryd.ntmps13
  go_wp2
  go_ret
  exact ⟨by first | rfl | (simp; done) | (simp [*]; done), by repeat (first | exact Drawn0.refl _ | apply Drawn0.step)⟩

/-- THE ONE PURE STATEMENT of laws_deltaSame: yours. -/
def laws_deltaSame.Pure : Prop := ∀ (l0 : List Int) (l1 : List Int), l0.length ≤ maxLen → l0.length * 1 ≤ 140737488351232 → (∀ x ∈ l0, (Lit.int .u8 x).wf = true) → l1.length ≤ maxLen → l1.length * 1 ≤ 140737488351232 → (∀ x ∈ l1, (Lit.int .u8 x).wf = true) → laws_deltaSame.f l0 l1 = some true
theorem laws_deltaSame.walk (P : laws_deltaSame.Pure) (a0 : Option Addr) (len0 cap0 : Nat) (z0 : List Int) (a1 : Option Addr) (len1 cap1 : Nat) (z1 : List Int) (w : World) (w0 : (a0 = none ∧ len0 = 0 ∧ cap0 = 0 ∧ z0 = []) ∨ ∃ x, a0 = some x ∧ len0 ≤ cap0 ∧ cap0 ≤ maxLen ∧ z0.length = cap0 ∧ (∀ i, i < z0.length → w.cell? (x.add i) = some (.int .u8 (z0.getD i 0))) ∧ ∀ n ∈ z0, (Lit.int .u8 n).wf = true) (y0 : len0 * 1 ≤ 140737488351232) (w1 : (a1 = none ∧ len1 = 0 ∧ cap1 = 0 ∧ z1 = []) ∨ ∃ x, a1 = some x ∧ len1 ≤ cap1 ∧ cap1 ≤ maxLen ∧ z1.length = cap1 ∧ (∀ i, i < z1.length → w.cell? (x.add i) = some (.int .u8 (z1.getD i 0))) ∧ ∀ n ∈ z1, (Lit.int .u8 n).wf = true) (y1 : len1 * 1 ≤ 140737488351232) :
    Calls Tryd.prog 13 #[.slice a0 len0 cap0, .slice a1 len1 cap1] w fun e w' => e = .returned (.bool true) ∧ Below w.heap.size w w' := by
  obtain ⟨l0, rfl, hr0, hm0, hw0, hc0⟩ := ReadsInt.ofRowC w0
  obtain ⟨l1, rfl, hr1, hm1, hw1, hc1⟩ := ReadsInt.ofRowC w1
  have h := P l0 l1 hm0 y0 hw0 hm1 y1 hw1
  refine (laws_deltaSame.calls _ _ l0 _ _ l1 true w (Kd.C_of_reads (d := (0 : Int)) (h1 := fun _ => rfl) hr0) hc0 (Kd.C_of_reads (d := (0 : Int)) (h1 := fun _ => rfl) hr1) hc1 h).mono ?_
  rintro e w' ⟨rfl, hd⟩
  exact ⟨rfl, hd.below⟩

/-! ### laws_deltaSmall: function 15 -/
def laws_deltaSmall.l0 : Nat → List (List Int) → Int → Int → Option (Bool)
  | 0, _, _, _ => none
  | k + 1, x5, x6, x7 => if x7 < x6 then (if 0 ≤ x7 then (if x7 < (x5.length : Int) then (if ((rd_L3 x5 x7).length : Int) > 1000000 then (some false) else (laws_deltaSmall.l0 k x5 x6 (wrap64 (x7 + 1)))) else (none)) else (none)) else (some true)
def laws_deltaSmall.f (k : Nat) (l0 : List (List Int)) : Option (Bool) := laws_deltaSmall.l0 k l0 (l0.length : Int) 0
theorem laws_deltaSmall.mono_l : ∀ k, (∀ y0 y1 y2, LeO (laws_deltaSmall.l0 k y0 y1 y2) (laws_deltaSmall.l0 (k + 1) y0 y1 y2))
  | 0 => fun _ _ _ r h => by simp [laws_deltaSmall.l0] at h
  | k + 1 => by
    have ih0 := laws_deltaSmall.mono_l k
    · intro y0 y1 y2
      unfold laws_deltaSmall.l0
      repeat' first
      | (with_reducible exact ih0 _ _ _)
      | (with_reducible exact LeO.refl _)
      | (with_reducible exact LeO.none _)
      | (with_reducible refine LeO.ite ?_ ?_)
      | (with_reducible refine LeO.bind ?_ (fun _ => ?_))
      | exact ih0 _ _ _
      | exact LeO.none _
      | refine LeO.ite ?_ ?_
      | refine LeO.bind ?_ (fun _ => ?_)
theorem laws_deltaSmall.mono : ∀ a0 k, LeO (laws_deltaSmall.f k a0) (laws_deltaSmall.f (k + 1) a0) := by
  intro a0 k
  have ih0 := laws_deltaSmall.mono_l k
  unfold laws_deltaSmall.f
  repeat' first
      | (with_reducible exact ih0 _ _ _)
      | (with_reducible exact LeO.refl _)
      | (with_reducible exact LeO.none _)
      | (with_reducible refine LeO.ite ?_ ?_)
      | (with_reducible refine LeO.bind ?_ (fun _ => ?_))
      | exact ih0 _ _ _
      | exact LeO.none _
      | refine LeO.ite ?_ ?_
      | refine LeO.bind ?_ (fun _ => ?_)
set_option maxHeartbeats 8000000 in
set_option maxRecDepth 100000 in
theorem laws_deltaSmall.calls (k : Nat) (A0 : Option Addr) (c0 : Nat) (l0 : List (List Int)) (r : Bool) (w : World) (hr0 : Kd.C (Kd.slice 5 (Kd.int .u8)) w A0 l0.length l0) (hc0 : l0.length ≤ c0) (h : laws_deltaSmall.f k l0 = some r) :
    Calls Tryd.prog 15 #[.slice A0 l0.length c0] w fun e w' => e = .returned (.bool r) ∧ Drawn0 w w' := by
  have HR0 := Aside0.mk hr0
  have HC0 := Aside0.mk hc0
  clear hr0 hc0
  have H : (laws_deltaSmall.l0 k l0 (l0.length : Int) 0) = some r := h
  clear h
  have H' := Aside0.mk H
  clear H
  go_enter Tryd.func15, Tryd.ntmps15
  go_wp2
  go_loopg [7] k (fun kq v7 w' => ∃ (x7_1 : Int), v7 = .int .i64 x7_1 ∧ Aside0 (laws_deltaSmall.l0 kq l0 (l0.length : Int) x7_1 = some r) ∧ Aside0 (kq ≤ k) ∧ Drawn0 w w')
  case atStart => exact ⟨(0), (by first | rfl | (simp; done) | (simp [*]; done)), H', ⟨Nat.le_refl _⟩, by repeat (first | exact Drawn0.refl _ | apply Drawn0.step)⟩
  case round =>
    clear H'
    try clear c1
    obtain ⟨x7_1, rfl, HA, HK1, ⟨m1, rfl⟩⟩ := hrel
    cases gk with
    | zero => exact absurd HA.out (by simp [laws_deltaSmall.l0])
    | succ k1 =>
      have H := HA.out
      clear HA
      simp only [laws_deltaSmall.l0] at H
      by_cases c2 : x7_1 < (l0.length : Int)
      · rw [if_pos c2] at H
        have c2b0 : decide (x7_1 < (l0.length : Int)) = true := decide_eq_true c2
        clear c2
        by_cases c3 : 0 ≤ x7_1
        · rw [if_pos c3] at H
          have c3b0 : decide (0 ≤ x7_1) = true := decide_eq_true c3
          clear c3
          by_cases c4 : x7_1 < (l0.length : Int)
          · rw [if_pos c4] at H
            have c4b0 : decide (x7_1 < (l0.length : Int)) = true := decide_eq_true c4
            clear c4
            by_cases c5 : ((rd_L3 l0 x7_1).length : Int) > 1000000
            · rw [if_pos c5] at H
              have c5b0 : decide (1000000 < ((rd_L3 l0 x7_1).length : Int)) = true := decide_eq_true c5
              have c5b1 : decide (1000000 < (rd_L3 l0 x7_1).length) = true := decide_eq_true (by omega)
              clear c5
              obtain rfl := Option.some.inj H
              have p172 : 0 ≤ (x7_1 : Int) := of_decide_eq_true (by first | (with_reducible assumption) | assumption)
              have q172 : x7_1 < (l0.length : Int) := of_decide_eq_true (by first | (with_reducible assumption) | assumption)
              obtain ⟨ad172, A172_0, c172_0, e172, hx172_0, hl172_0, hi172_0⟩ := at_L3 HR0.out x7_1 p172 q172
              cases e172
              have HR172_0 := Aside0.mk hi172_0
              have HC172_0 := Aside0.mk hl172_0
              clear hi172_0 hl172_0
              replace p172 := eq_true p172
              replace q172 := eq_true q172
              go_wp2
              go_ret
              exact ⟨by first | rfl | (simp; done) | (simp [*]; done), by repeat (first | exact Drawn0.refl _ | apply Drawn0.step)⟩
            · rw [if_neg c5] at H
              have c5b0 : decide (1000000 < ((rd_L3 l0 x7_1).length : Int)) = false := decide_eq_false c5
              have c5b1 : decide (1000000 < (rd_L3 l0 x7_1).length) = false := decide_eq_false (by omega)
              clear c5
              have H' := Aside0.mk H
              clear H
              have p172 : 0 ≤ (x7_1 : Int) := of_decide_eq_true (by first | (with_reducible assumption) | assumption)
              have q172 : x7_1 < (l0.length : Int) := of_decide_eq_true (by first | (with_reducible assumption) | assumption)
              obtain ⟨ad172, A172_0, c172_0, e172, hx172_0, hl172_0, hi172_0⟩ := at_L3 HR0.out x7_1 p172 q172
              cases e172
              have HR172_0 := Aside0.mk hi172_0
              have HC172_0 := Aside0.mk hl172_0
              clear hi172_0 hl172_0
              replace p172 := eq_true p172
              replace q172 := eq_true q172
              go_wp2
              go_roundg k1
              case measure => have := HK1.out; omega
              case rel => exact ⟨(wrap64 (x7_1 + 1)), (by first | rfl | (simp; done) | (simp [*]; done)), H', ⟨by have := HK1.out; omega⟩, by repeat (first | exact Drawn0.refl _ | apply Drawn0.step)⟩
          · rw [if_neg c4] at H
            exact absurd H (by simp)
        · rw [if_neg c3] at H
          exact absurd H (by simp)
      · rw [if_neg c2] at H
        have c2b0 : decide (x7_1 < (l0.length : Int)) = false := decide_eq_false c2
        clear c2
        obtain rfl := Option.some.inj H
        go_wp2
        go_ret
        exact ⟨by first | rfl | (simp; done) | (simp [*]; done), by repeat (first | exact Drawn0.refl _ | apply Drawn0.step)⟩

end Go.Proofs.YtlboochpbplhlaaDoor.QAll
