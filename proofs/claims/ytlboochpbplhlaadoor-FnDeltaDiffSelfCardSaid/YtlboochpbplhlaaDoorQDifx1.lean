-- WRITTEN BY A PROGRAM OF THIS SESSION, out of the loaded program, with words of the kit
import Derived.Test.YtlboochpbplhlaaDoorQDifx0
namespace Go.Proofs.YtlboochpbplhlaaDoor.QDif
open Go.RowKit Go.Proofs.YtlboochpbplhlaaDoorW.PrintWords Go.Proofs.YtlboochpbplhlaaDoorW.PrintLast Go.Proofs.YtlboochpbplhlaaDoorW.PrintMore
attribute [local go_sem] max2_int min2_int max_two min_two max_three min_three max_four min_four   -- for this text's walks alone
set_option linter.unusedVariables false
set_option linter.unusedSimpArgs false

/-! ### packfile_deltaEncodeSize: function 37 -/
def packfile_deltaEncodeSize.l0 : Nat → Int → List Int → Int → Option (List Int)
  | 0, _, _, _ => none
  | k + 1, x0, x3, x4 => if x0 = 0 then (if x3.length < 140737488355328 then (some (x3 ++ [(x4) % 256])) else (none)) else (if x3.length < 140737488355328 then (packfile_deltaEncodeSize.l0 k (x0 / 128) (x3 ++ [(Go.bits .or .i64 x4 128) % 256]) (Go.bits .and .i64 x0 127)) else (none))
def packfile_deltaEncodeSize.f (k : Nat) (a0 : Int) : Option (List Int) := packfile_deltaEncodeSize.l0 k (a0 / 128) ([] : List Int) (Go.bits .and .i64 a0 127)
theorem packfile_deltaEncodeSize.mono_l : ∀ k, (∀ y0 y1 y2, LeO (packfile_deltaEncodeSize.l0 k y0 y1 y2) (packfile_deltaEncodeSize.l0 (k + 1) y0 y1 y2))
  | 0 => fun _ _ _ r h => by simp [packfile_deltaEncodeSize.l0] at h
  | k + 1 => by
    have ih0 := packfile_deltaEncodeSize.mono_l k
    · intro y0 y1 y2
      unfold packfile_deltaEncodeSize.l0
      repeat' first
      | (with_reducible exact ih0 _ _ _)
      | (with_reducible exact LeO.refl _)
      | (with_reducible exact LeO.none _)
      | (with_reducible refine LeO.ite ?_ ?_)
      | (with_reducible refine LeO.bind ?_ (fun _ => ?_))
      | exact ih0 _ _ _
      | exact LeO.none _
      | refine LeO.ite ?_ ?_
      | refine LeO.bind ?_ (fun _ => ?_)
theorem packfile_deltaEncodeSize.mono : ∀ a0 k, LeO (packfile_deltaEncodeSize.f k a0) (packfile_deltaEncodeSize.f (k + 1) a0) := by
  intro a0 k
  have ih0 := packfile_deltaEncodeSize.mono_l k
  unfold packfile_deltaEncodeSize.f
  repeat' first
      | (with_reducible exact ih0 _ _ _)
      | (with_reducible exact LeO.refl _)
      | (with_reducible exact LeO.none _)
      | (with_reducible refine LeO.ite ?_ ?_)
      | (with_reducible refine LeO.bind ?_ (fun _ => ?_))
      | exact ih0 _ _ _
      | exact LeO.none _
      | refine LeO.ite ?_ ?_
      | refine LeO.bind ?_ (fun _ => ?_)
set_option maxHeartbeats 8000000 in
set_option maxRecDepth 100000 in
theorem packfile_deltaEncodeSize.calls (k : Nat) (a0 : Int) (r : List Int) (w : World) (h : packfile_deltaEncodeSize.f k a0 = some r) :
    Calls Tryd.prog 37 #[.int .i64 a0] w fun e w' => ∃ v0_ : Value, e = .returned (v0_) ∧ Kd.R (Kd.int .u8) 5 w' w.heap.size (fun _ => True) v0_ r ∧ Below w.heap.size w w' := by
  have HB := Aside0.mk (Below.refl w.heap.size w)
  have H : (packfile_deltaEncodeSize.l0 k (a0 / 128) ([] : List Int) (Go.bits .and .i64 a0 127)) = some r := h
  clear h
  have H' := Aside0.mk H
  clear H
  go_enter Tryd.func37, Tryd.ntmps37
  go_wp2
  go_loopg [0, 3, 4] k (fun kq v0 v3 v4 w' => ∃ (x0_1 : Int) (x3_1 : List Int) (x4_1 : Int), v0 = .int .i64 x0_1 ∧ v4 = .int .i64 x4_1 ∧ Aside0 (packfile_deltaEncodeSize.l0 kq x0_1 x3_1 x4_1 = some r) ∧ Aside0 (kq ≤ k) ∧ Aside0 (Kd.R (Kd.int .u8) 5 w' w.heap.size (fun _ => True) v3 x3_1) ∧ Aside0 (Below w.heap.size w w'))
  case atStart => exact ⟨(a0 / 128), (([] : List Int)), (Go.bits .and .i64 a0 127), (by first | rfl | (simp; done) | (simp [*]; done)), (by first | rfl | (simp; done) | (simp [*]; done)), H', ⟨Nat.le_refl _⟩, ⟨by first | exact Kd.R_nil _ _ _ _ _ | exact Kd.N_nil _ _ _ _ _ | exact Kd.V_nil _ _ _ _ _ | exact Kd.Q_nil _ _ _ _ _ | exact Kd.S_nil _ _ _ _ _⟩, ⟨by repeat (first | (with_reducible first | exact HB.out | apply below_alloc | apply pw_below_drewN | apply below_drew1) | exact HB.out)⟩⟩
  case round =>
    clear H'
    obtain ⟨x0_1, x3_1, x4_1, rfl, rfl, HA, HK1, HO_3, HB⟩ := hrel
    cases gk with
    | zero => exact absurd HA.out (by simp [packfile_deltaEncodeSize.l0])
    | succ k1 =>
      have H := HA.out
      clear HA
      simp only [packfile_deltaEncodeSize.l0] at H
      by_cases c2 : x0_1 = 0
      · rw [if_pos c2] at H
        have c2b0 : (x0_1 == 0) = true := beq_iff_eq.mpr c2
        have c2b1 : (x0_1 != 0) = false := bne_eq_false_iff_eq.mpr c2
        clear c2
        by_cases c3 : x3_1.length < 140737488355328
        · rw [if_pos c3] at H
          have LMc3 := Aside0.mk c3
          clear c3
          obtain ⟨y101, hy101⟩ : ∃ y_ : List Int, y_ = (x3_1 ++ [(x4_1) % 256]) := ⟨_, rfl⟩
          replace H : (some y101) = some r := by first | (rw [hy101]; with_reducible exact H) | (have H2_ := (Option.bind_some _ _).symm.trans H; rw [hy101]; with_reducible exact H2_) | (have H2_ := (Option.bind_some _ _).symm.trans H; with_reducible exact H2_) | with_reducible exact H | (rw [hy101]; exact H) | exact H
          have Ny101 := Aside0.mk hy101
          clear hy101
          obtain rfl := Option.some.inj H
          go_wp2_with (first | ((with_reducible refine gate_builtin (b := .append) (xs := #[.tmp 21, .tmp 24]) rfl ?_); at_builtin; refine Kd.R_append (Kd.int .u8) (w0 := w) w.heap.size rfl (.tmp 21) (.tmp 24) 22 5 (.int .u8 0) 1 rfl Tryd.underlying22 info5 rfl (by decide) (by omega) u3 x3_1 ((x4_1) % 256) [.int .u8 ((x4_1) % 256)] (fun _ => True) (fun _ => False) rfl rfl ?aP (fun _ hk => hk.elim) ?aF ?aO ?aB ?aS ?aL ?_; (case aP => exact rfl); (case aB => exact (by repeat (first | (with_reducible first | exact HB.out | apply below_alloc | apply pw_below_drewN | apply below_drew1) | exact HB.out))); (case aF => exact (fun _ _ => trivial)); (case aO => exact (by (with_reducible repeat (first | apply Kd.R_alloc | apply Kd.R_drewN | apply Kd.R_drew)); exact HO_3.out)); (case aS => exact (below_size (by repeat (first | (with_reducible first | exact HB.out | apply below_alloc | apply pw_below_drewN | apply below_drew1) | exact HB.out)))); (case aL => have := LMc3.out; omega); intro v102 w4 ho hb hg hat; rw [← Ny101.out] at ho; have n0_ := Aside0.mk (hb); have n1_ := Aside0.mk (ho); clear HB; clear HO_3; have HB := n0_; have HO103 := n1_; clear n0_ n1_; clear ho hb hg hat))
          go_ret
          exact ⟨_, by first | rfl | (simp [errW_none, errW_some] <;> rfl) | (simp [*, errW_none, errW_some] <;> rfl), by (with_reducible repeat (first | apply Kd.R_alloc | apply Kd.R_drewN | apply Kd.R_drew)); exact HO103.out, by repeat (first | (with_reducible first | exact HB.out | apply below_alloc | apply pw_below_drewN | apply below_drew1) | exact HB.out)⟩
        · rw [if_neg c3] at H
          exact absurd H (by simp)
      · rw [if_neg c2] at H
        have c2b0 : (x0_1 == 0) = false := beq_eq_false_iff_ne.mpr c2
        have c2b1 : (x0_1 != 0) = true := bne_iff_ne.mpr c2
        by_cases c5 : x3_1.length < 140737488355328
        · rw [if_pos c5] at H
          have LMc5 := Aside0.mk c5
          clear c5
          obtain ⟨y104, hy104⟩ : ∃ y_ : List Int, y_ = (x3_1 ++ [(Go.bits .or .i64 x4_1 128) % 256]) := ⟨_, rfl⟩
          replace H : (packfile_deltaEncodeSize.l0 k1 (x0_1 / 128) y104 (Go.bits .and .i64 x0_1 127)) = some r := by first | (rw [hy104]; with_reducible exact H) | (have H2_ := (Option.bind_some _ _).symm.trans H; rw [hy104]; with_reducible exact H2_) | (have H2_ := (Option.bind_some _ _).symm.trans H; with_reducible exact H2_) | with_reducible exact H | (rw [hy104]; exact H) | exact H
          have Ny104 := Aside0.mk hy104
          clear hy104
          have H' := Aside0.mk H
          clear H
          go_wp2_with (first | ((with_reducible refine gate_builtin (b := .append) (xs := #[.tmp 11, .tmp 15]) rfl ?_); at_builtin; refine Kd.R_append (Kd.int .u8) (w0 := w) w.heap.size rfl (.tmp 11) (.tmp 15) 22 5 (.int .u8 0) 1 rfl Tryd.underlying22 info5 rfl (by decide) (by omega) u3 x3_1 ((Go.bits .or .i64 x4_1 128) % 256) [.int .u8 ((Go.bits .or .i64 x4_1 128) % 256)] (fun _ => True) (fun _ => False) rfl rfl ?aP (fun _ hk => hk.elim) ?aF ?aO ?aB ?aS ?aL ?_; (case aP => exact rfl); (case aB => exact (by repeat (first | (with_reducible first | exact HB.out | apply below_alloc | apply pw_below_drewN | apply below_drew1) | exact HB.out))); (case aF => exact (fun _ _ => trivial)); (case aO => exact (by (with_reducible repeat (first | apply Kd.R_alloc | apply Kd.R_drewN | apply Kd.R_drew)); exact HO_3.out)); (case aS => exact (below_size (by repeat (first | (with_reducible first | exact HB.out | apply below_alloc | apply pw_below_drewN | apply below_drew1) | exact HB.out)))); (case aL => have := LMc5.out; omega); intro v105 w6 ho hb hg hat; rw [← Ny104.out] at ho; have n0_ := Aside0.mk (hb); have n1_ := Aside0.mk (ho); clear HB; clear HO_3; have HB := n0_; have HO106 := n1_; clear n0_ n1_; clear ho hb hg hat))
          go_roundg k1
          case measure => have := HK1.out; omega
          case rel => exact ⟨(x0_1 / 128), (y104), (Go.bits .and .i64 x0_1 127), (by first | rfl | (simp; done) | (simp [*]; done)), (by first | rfl | (simp; done) | (simp [*]; done)), H', ⟨by have := HK1.out; omega⟩, ⟨by (with_reducible repeat (first | apply Kd.R_alloc | apply Kd.R_drewN | apply Kd.R_drew)); exact HO106.out⟩, ⟨by repeat (first | (with_reducible first | exact HB.out | apply below_alloc | apply pw_below_drewN | apply below_drew1) | exact HB.out)⟩⟩
        · rw [if_neg c5] at H
          exact absurd H (by simp)

/-! ### packfile_encodeCopyOperation: function 42 -/
mutual
def packfile_encodeCopyOperation.l0 : Nat → Int → Int → Int → List Int → Int → Option (List Int)
  | 0, _, _, _, _, _ => none
  | k + 1, x0, x1, x5, x6, x7 => if x7 < 4 then (if 0 ≤ (IntKind.u64.wrap (x7 * 8)) then (if (Go.bits .and .i64 x0 (shl .i64 255 (IntKind.u64.wrap (x7 * 8)))) = 0 then (packfile_encodeCopyOperation.l0 k x0 x1 x5 x6 (IntKind.u64.wrap (x7 + 1))) else (if x6.length < 140737488355328 then (if 0 ≤ x7 then (packfile_encodeCopyOperation.l0 k x0 x1 (Go.bits .or .i64 x5 (shl .i64 1 x7)) (x6 ++ [(shr .i64 (Go.bits .and .i64 x0 (shl .i64 255 (IntKind.u64.wrap (x7 * 8)))) (IntKind.u64.wrap (x7 * 8))) % 256]) (IntKind.u64.wrap (x7 + 1))) else (none)) else (none))) else (none)) else (packfile_encodeCopyOperation.l1 k x1 x5 x6 0)
def packfile_encodeCopyOperation.l1 : Nat → Int → Int → List Int → Int → Option (List Int)
  | 0, _, _, _, _ => none
  | k + 1, x1, x5, x6, x7 => if x7 < 3 then (if 0 ≤ (IntKind.u64.wrap (x7 * 8)) then (if (Go.bits .and .i64 x1 (shl .i64 255 (IntKind.u64.wrap (x7 * 8)))) = 0 then (packfile_encodeCopyOperation.l1 k x1 x5 x6 (IntKind.u64.wrap (x7 + 1))) else (if x6.length < 140737488355328 then (if 0 ≤ x7 then (packfile_encodeCopyOperation.l1 k x1 (Go.bits .or .i64 x5 (shl .i64 16 x7)) (x6 ++ [(shr .i64 (Go.bits .and .i64 x1 (shl .i64 255 (IntKind.u64.wrap (x7 * 8)))) (IntKind.u64.wrap (x7 * 8))) % 256]) (IntKind.u64.wrap (x7 + 1))) else (none)) else (none))) else (none)) else ((some (([(x5) % 256] : List Int) : List Int)).bind fun y113 => (if y113.length + x6.length < 140737488355328 then (some (y113 ++ x6)) else (none)))
end
def packfile_encodeCopyOperation.f (k : Nat) (a0 : Int) (a1 : Int) : Option (List Int) := packfile_encodeCopyOperation.l0 k a0 a1 128 ([] : List Int) 0
theorem packfile_encodeCopyOperation.mono_l : ∀ k, (∀ y0 y1 y2 y3 y4, LeO (packfile_encodeCopyOperation.l0 k y0 y1 y2 y3 y4) (packfile_encodeCopyOperation.l0 (k + 1) y0 y1 y2 y3 y4)) ∧ (∀ y0 y1 y2 y3, LeO (packfile_encodeCopyOperation.l1 k y0 y1 y2 y3) (packfile_encodeCopyOperation.l1 (k + 1) y0 y1 y2 y3))
  | 0 => ⟨fun _ _ _ _ _ r h => by simp [packfile_encodeCopyOperation.l0] at h, fun _ _ _ _ r h => by simp [packfile_encodeCopyOperation.l1] at h⟩
  | k + 1 => by
    obtain ⟨ih0, ih1⟩ := packfile_encodeCopyOperation.mono_l k
    refine ⟨?_, ?_⟩
    · intro y0 y1 y2 y3 y4
      unfold packfile_encodeCopyOperation.l0
      repeat' first
      | (with_reducible exact ih0 _ _ _ _ _)
      | (with_reducible exact ih1 _ _ _ _)
      | (with_reducible exact LeO.refl _)
      | (with_reducible exact LeO.none _)
      | (with_reducible refine LeO.ite ?_ ?_)
      | (with_reducible refine LeO.bind ?_ (fun _ => ?_))
      | exact ih0 _ _ _ _ _
      | exact ih1 _ _ _ _
      | exact LeO.none _
      | refine LeO.ite ?_ ?_
      | refine LeO.bind ?_ (fun _ => ?_)
    · intro y0 y1 y2 y3
      unfold packfile_encodeCopyOperation.l1
      repeat' first
      | (with_reducible exact ih0 _ _ _ _ _)
      | (with_reducible exact ih1 _ _ _ _)
      | (with_reducible exact LeO.refl _)
      | (with_reducible exact LeO.none _)
      | (with_reducible refine LeO.ite ?_ ?_)
      | (with_reducible refine LeO.bind ?_ (fun _ => ?_))
      | exact ih0 _ _ _ _ _
      | exact ih1 _ _ _ _
      | exact LeO.none _
      | refine LeO.ite ?_ ?_
      | refine LeO.bind ?_ (fun _ => ?_)
theorem packfile_encodeCopyOperation.mono : ∀ a0 a1 k, LeO (packfile_encodeCopyOperation.f k a0 a1) (packfile_encodeCopyOperation.f (k + 1) a0 a1) := by
  intro a0 a1 k
  obtain ⟨ih0, ih1⟩ := packfile_encodeCopyOperation.mono_l k
  unfold packfile_encodeCopyOperation.f
  repeat' first
      | (with_reducible exact ih0 _ _ _ _ _)
      | (with_reducible exact ih1 _ _ _ _)
      | (with_reducible exact LeO.refl _)
      | (with_reducible exact LeO.none _)
      | (with_reducible refine LeO.ite ?_ ?_)
      | (with_reducible refine LeO.bind ?_ (fun _ => ?_))
      | exact ih0 _ _ _ _ _
      | exact ih1 _ _ _ _
      | exact LeO.none _
      | refine LeO.ite ?_ ?_
      | refine LeO.bind ?_ (fun _ => ?_)
set_option maxHeartbeats 8000000 in
set_option maxRecDepth 100000 in
theorem packfile_encodeCopyOperation.calls (k : Nat) (a0 : Int) (a1 : Int) (r : List Int) (w : World) (h : packfile_encodeCopyOperation.f k a0 a1 = some r) :
    Calls Tryd.prog 42 #[.int .i64 a0, .int .i64 a1] w fun e w' => ∃ v0_ : Value, e = .returned (v0_) ∧ Kd.R (Kd.int .u8) 5 w' w.heap.size (fun _ => True) v0_ r ∧ Below w.heap.size w w' := by
  have HB := Aside0.mk (Below.refl w.heap.size w)
  have H : (packfile_encodeCopyOperation.l0 k a0 a1 128 ([] : List Int) 0) = some r := h
  clear h
  have H' := Aside0.mk H
  clear H
  go_enter Tryd.func42, Tryd.ntmps42
  go_wp2
  go_loopg [5, 6, 7] k (fun kq v5 v6 v7 w' => ∃ (x5_1 : Int) (x6_1 : List Int) (x7_1 : Int), v5 = .int .i64 x5_1 ∧ v7 = .int .u64 x7_1 ∧ Aside0 (packfile_encodeCopyOperation.l0 kq a0 a1 x5_1 x6_1 x7_1 = some r) ∧ Aside0 (kq ≤ k) ∧ Aside0 (Kd.R (Kd.int .u8) 5 w' w.heap.size (fun _ => True) v6 x6_1) ∧ Aside0 (Below w.heap.size w w'))
  case atStart => exact ⟨(128), (([] : List Int)), (0), (by first | rfl | (simp; done) | (simp [*]; done)), (by first | rfl | (simp; done) | (simp [*]; done)), H', ⟨Nat.le_refl _⟩, ⟨by first | exact Kd.R_nil _ _ _ _ _ | exact Kd.N_nil _ _ _ _ _ | exact Kd.V_nil _ _ _ _ _ | exact Kd.Q_nil _ _ _ _ _ | exact Kd.S_nil _ _ _ _ _⟩, ⟨by repeat (first | (with_reducible first | exact HB.out | apply below_alloc | apply pw_below_drewN | apply below_drew1) | exact HB.out)⟩⟩
  case round =>
    clear H'
    try clear p2
    obtain ⟨x5_1, x6_1, x7_1, rfl, rfl, HA, HK1, HO_6, HB⟩ := hrel
    cases gk with
    | zero => exact absurd HA.out (by simp [packfile_encodeCopyOperation.l0])
    | succ k1 =>
      have H := HA.out
      clear HA
      simp only [packfile_encodeCopyOperation.l0] at H
      by_cases c3 : x7_1 < 4
      · rw [if_pos c3] at H
        have c3b0 : decide (x7_1 < 4) = true := decide_eq_true c3
        clear c3
        obtain ⟨ji4, hji4⟩ : ∃ j_ : Int, (IntKind.u64.wrap (x7_1 * 8)) = j_ := ⟨_, rfl⟩
        replace H : (if 0 ≤ (ji4) then (if (Go.bits .and .i64 a0 (shl .i64 255 (ji4))) = 0 then (packfile_encodeCopyOperation.l0 k1 a0 a1 x5_1 x6_1 (IntKind.u64.wrap (x7_1 + 1))) else (if x6_1.length < 140737488355328 then (if 0 ≤ x7_1 then (packfile_encodeCopyOperation.l0 k1 a0 a1 (Go.bits .or .i64 x5_1 (shl .i64 1 x7_1)) (x6_1 ++ [(shr .i64 (Go.bits .and .i64 a0 (shl .i64 255 (ji4))) (ji4)) % 256]) (IntKind.u64.wrap (x7_1 + 1))) else (none)) else (none))) else (none)) = some r := by first | (rw [hji4] at H; exact H) | (simp only [hji4] at H ⊢; exact H)
        by_cases c5 : 0 ≤ (ji4)
        · rw [if_pos c5] at H
          have c5b0 := eq_true c5
          have c5b1 : decide (0 ≤ (ji4)) = true := decide_eq_true c5
          clear c5
          obtain ⟨ji6, hji6⟩ : ∃ j_ : Int, (shl .i64 255 (ji4)) = j_ := ⟨_, rfl⟩
          replace H : (if (Go.bits .and .i64 a0 (ji6)) = 0 then (packfile_encodeCopyOperation.l0 k1 a0 a1 x5_1 x6_1 (IntKind.u64.wrap (x7_1 + 1))) else (if x6_1.length < 140737488355328 then (if 0 ≤ x7_1 then (packfile_encodeCopyOperation.l0 k1 a0 a1 (Go.bits .or .i64 x5_1 (shl .i64 1 x7_1)) (x6_1 ++ [(shr .i64 (Go.bits .and .i64 a0 (ji6)) (ji4)) % 256]) (IntKind.u64.wrap (x7_1 + 1))) else (none)) else (none))) = some r := by first | (rw [hji6] at H; exact H) | (simp only [hji6] at H ⊢; exact H)
          have hji6_ : (IntKind.i64.wrap (255 * 2 ^ min (ji4).toNat 64)) = ji6 := hji6
          have hji6z : (ji4) ≤ 64 → (IntKind.i64.wrap (255 * 2 ^ (ji4).toNat)) = ji6 := shl_small hji6
          have hji6y : (wrap64 (255 * 2 ^ min (ji4).toNat 64)) = ji6 := (i64_w _).symm.trans hji6_
          have hji6x : (ji4) ≤ 64 → (wrap64 (255 * 2 ^ (ji4).toNat)) = ji6 := fun h_ => (i64_w _).symm.trans (hji6z h_)
          by_cases c7 : (Go.bits .and .i64 a0 (ji6)) = 0
          · rw [if_pos c7] at H
            have c7b0 : ((Go.bits .and .i64 a0 (ji6)) == 0) = true := beq_iff_eq.mpr c7
            have c7b1 : ((Go.bits .and .i64 a0 (ji6)) != 0) = false := bne_eq_false_iff_eq.mpr c7
            clear c7
            have H' := Aside0.mk H
            clear H
            go_wp2
            go_roundg k1
            case measure => have := HK1.out; omega
            case rel => exact ⟨(x5_1), (x6_1), (IntKind.u64.wrap (x7_1 + 1)), (by first | rfl | (simp; done) | (simp [*]; done)), (by first | rfl | (simp; done) | (simp [*]; done)), H', ⟨by have := HK1.out; omega⟩, ⟨by (with_reducible repeat (first | apply Kd.R_alloc | apply Kd.R_drewN | apply Kd.R_drew)); exact HO_6.out⟩, ⟨by repeat (first | (with_reducible first | exact HB.out | apply below_alloc | apply pw_below_drewN | apply below_drew1) | exact HB.out)⟩⟩
          · rw [if_neg c7] at H
            have c7b0 : ((Go.bits .and .i64 a0 (ji6)) == 0) = false := beq_eq_false_iff_ne.mpr c7
            have c7b1 : ((Go.bits .and .i64 a0 (ji6)) != 0) = true := bne_iff_ne.mpr c7
            have c8b0 := eq_true (of_decide_eq_true (by first | (with_reducible assumption) | assumption) : 0 ≤ (ji4))
            obtain ⟨ji9, hji9⟩ : ∃ j_ : Int, (shr .i64 (Go.bits .and .i64 a0 (ji6)) (ji4)) = j_ := ⟨_, rfl⟩
            replace H : (if x6_1.length < 140737488355328 then (if 0 ≤ x7_1 then (packfile_encodeCopyOperation.l0 k1 a0 a1 (Go.bits .or .i64 x5_1 (shl .i64 1 x7_1)) (x6_1 ++ [(ji9) % 256]) (IntKind.u64.wrap (x7_1 + 1))) else (none)) else (none)) = some r := by first | (rw [hji9] at H; exact H) | (simp only [hji9] at H ⊢; exact H)
            have hji9_ : ((Go.bits .and .i64 a0 (ji6)) / 2 ^ min (ji4).toNat 64) = ji9 := hji9
            have hji9z : (ji4) ≤ 64 → ((Go.bits .and .i64 a0 (ji6)) / 2 ^ (ji4).toNat) = ji9 := shr_small hji9
            by_cases c10 : x6_1.length < 140737488355328
            · rw [if_pos c10] at H
              have LMc10 := Aside0.mk c10
              clear c10
              obtain ⟨y107, hy107⟩ : ∃ y_ : List Int, y_ = (x6_1 ++ [(ji9) % 256]) := ⟨_, rfl⟩
              replace H : (if 0 ≤ x7_1 then (packfile_encodeCopyOperation.l0 k1 a0 a1 (Go.bits .or .i64 x5_1 (shl .i64 1 x7_1)) y107 (IntKind.u64.wrap (x7_1 + 1))) else (none)) = some r := by first | (rw [hy107]; with_reducible exact H) | (have H2_ := (Option.bind_some _ _).symm.trans H; rw [hy107]; with_reducible exact H2_) | (have H2_ := (Option.bind_some _ _).symm.trans H; with_reducible exact H2_) | with_reducible exact H | (rw [hy107]; exact H) | exact H
              have Ny107 := Aside0.mk hy107
              clear hy107
              by_cases c11 : 0 ≤ x7_1
              · rw [if_pos c11] at H
                have c11b0 := eq_true c11
                have c11b1 : decide (0 ≤ x7_1) = true := decide_eq_true c11
                clear c11
                obtain ⟨ji12, hji12⟩ : ∃ j_ : Int, (shl .i64 1 x7_1) = j_ := ⟨_, rfl⟩
                replace H : (packfile_encodeCopyOperation.l0 k1 a0 a1 (Go.bits .or .i64 x5_1 (ji12)) y107 (IntKind.u64.wrap (x7_1 + 1))) = some r := by first | (rw [hji12] at H; exact H) | (simp only [hji12] at H ⊢; exact H)
                have hji12_ : (IntKind.i64.wrap (1 * 2 ^ min x7_1.toNat 64)) = ji12 := hji12
                have hji12z : x7_1 ≤ 64 → (IntKind.i64.wrap (1 * 2 ^ x7_1.toNat)) = ji12 := shl_small hji12
                have hji12u : (IntKind.i64.wrap (2 ^ min x7_1.toNat 64)) = ji12 := by have h_ := hji12_; rw [Int.one_mul] at h_; exact h_
                have hji12v : x7_1 ≤ 64 → (IntKind.i64.wrap (2 ^ x7_1.toNat)) = ji12 := fun hle_ => by have h_ := hji12z hle_; rw [Int.one_mul] at h_; exact h_
                have hji12y : (wrap64 (1 * 2 ^ min x7_1.toNat 64)) = ji12 := (i64_w _).symm.trans hji12_
                have hji12x : x7_1 ≤ 64 → (wrap64 (1 * 2 ^ x7_1.toNat)) = ji12 := fun h_ => (i64_w _).symm.trans (hji12z h_)
                have H' := Aside0.mk H
                clear H
                go_wp2_with (first | ((with_reducible refine gate_builtin (b := .append) (xs := #[.tmp 21, .tmp 29]) rfl ?_); at_builtin; refine Kd.R_append (Kd.int .u8) (w0 := w) w.heap.size rfl (.tmp 21) (.tmp 29) 22 5 (.int .u8 0) 1 rfl Tryd.underlying22 info5 rfl (by decide) (by omega) u6 x6_1 ((ji9) % 256) [.int .u8 ((ji9) % 256)] (fun _ => True) (fun _ => False) rfl rfl ?aP (fun _ hk => hk.elim) ?aF ?aO ?aB ?aS ?aL ?_; (case aP => exact rfl); (case aB => exact (by repeat (first | (with_reducible first | exact HB.out | apply below_alloc | apply pw_below_drewN | apply below_drew1) | exact HB.out))); (case aF => exact (fun _ _ => trivial)); (case aO => exact (by (with_reducible repeat (first | apply Kd.R_alloc | apply Kd.R_drewN | apply Kd.R_drew)); exact HO_6.out)); (case aS => exact (below_size (by repeat (first | (with_reducible first | exact HB.out | apply below_alloc | apply pw_below_drewN | apply below_drew1) | exact HB.out)))); (case aL => have := LMc10.out; omega); intro v108 w13 ho hb hg hat; rw [← Ny107.out] at ho; have n0_ := Aside0.mk (hb); have n1_ := Aside0.mk (ho); clear HB; clear HO_6; have HB := n0_; have HO109 := n1_; clear n0_ n1_; clear ho hb hg hat))
                go_roundg k1
                case measure => have := HK1.out; omega
                case rel => exact ⟨(Go.bits .or .i64 x5_1 (ji12)), (y107), (IntKind.u64.wrap (x7_1 + 1)), (by first | rfl | (simp; done) | (simp only [← hji12] <;> (first | rfl | simp)) | (simp [*]; done)), (by first | rfl | (simp; done) | (simp [*]; done)), H', ⟨by have := HK1.out; omega⟩, ⟨by (with_reducible repeat (first | apply Kd.R_alloc | apply Kd.R_drewN | apply Kd.R_drew)); exact HO109.out⟩, ⟨by repeat (first | (with_reducible first | exact HB.out | apply below_alloc | apply pw_below_drewN | apply below_drew1) | exact HB.out)⟩⟩
              · rw [if_neg c11] at H
                exact absurd H (by simp)
            · rw [if_neg c10] at H
              exact absurd H (by simp)
        · rw [if_neg c5] at H
          exact absurd H (by simp)
      · rw [if_neg c3] at H
        have c3b0 : decide (x7_1 < 4) = false := decide_eq_false c3
        clear c3
        have H' := Aside0.mk H
        clear H
        go_wp2
        go_loopg [5, 6, 7] k1 (fun kq v5 v6 v7 w' => ∃ (x5_2 : Int) (x6_2 : List Int) (x7_2 : Int), v5 = .int .i64 x5_2 ∧ v7 = .int .u64 x7_2 ∧ Aside0 (packfile_encodeCopyOperation.l1 kq a1 x5_2 x6_2 x7_2 = some r) ∧ Aside0 (kq ≤ k1) ∧ Aside0 (Kd.R (Kd.int .u8) 5 w' w.heap.size (fun _ => True) v6 x6_2) ∧ Aside0 (Below w.heap.size w w'))
        case atStart => exact ⟨(x5_1), (x6_1), (0), (by first | rfl | (simp; done) | (simp [*]; done)), (by first | rfl | (simp; done) | (simp [*]; done)), H', ⟨Nat.le_refl _⟩, ⟨by (with_reducible repeat (first | apply Kd.R_alloc | apply Kd.R_drewN | apply Kd.R_drew)); exact HO_6.out⟩, ⟨by repeat (first | (with_reducible first | exact HB.out | apply below_alloc | apply pw_below_drewN | apply below_drew1) | exact HB.out)⟩⟩
        case round =>
          clear H'
          try clear c1
          try clear p2
          try clear c3
          try clear c3b0
          try clear c4
          try clear c5
          try clear c5b0
          try clear c5b1
          try clear p6
          try clear c7
          try clear c7b0
          try clear c7b1
          try clear c8
          try clear c8b0
          try clear c10
          try clear c11
          try clear c11b0
          try clear c11b1
          try clear p2
          obtain ⟨x5_2, x6_2, x7_2, rfl, rfl, HA, HK2, HO_6, HB⟩ := hrel
          cases gk with
          | zero => exact absurd HA.out (by simp [packfile_encodeCopyOperation.l1])
          | succ k2 =>
            have H := HA.out
            clear HA
            simp only [packfile_encodeCopyOperation.l1] at H
            by_cases c14 : x7_2 < 3
            · rw [if_pos c14] at H
              have c14b0 : decide (x7_2 < 3) = true := decide_eq_true c14
              clear c14
              obtain ⟨ji15, hji15⟩ : ∃ j_ : Int, (IntKind.u64.wrap (x7_2 * 8)) = j_ := ⟨_, rfl⟩
              replace H : (if 0 ≤ (ji15) then (if (Go.bits .and .i64 a1 (shl .i64 255 (ji15))) = 0 then (packfile_encodeCopyOperation.l1 k2 a1 x5_2 x6_2 (IntKind.u64.wrap (x7_2 + 1))) else (if x6_2.length < 140737488355328 then (if 0 ≤ x7_2 then (packfile_encodeCopyOperation.l1 k2 a1 (Go.bits .or .i64 x5_2 (shl .i64 16 x7_2)) (x6_2 ++ [(shr .i64 (Go.bits .and .i64 a1 (shl .i64 255 (ji15))) (ji15)) % 256]) (IntKind.u64.wrap (x7_2 + 1))) else (none)) else (none))) else (none)) = some r := by first | (rw [hji15] at H; exact H) | (simp only [hji15] at H ⊢; exact H)
              by_cases c16 : 0 ≤ (ji15)
              · rw [if_pos c16] at H
                have c16b0 := eq_true c16
                have c16b1 : decide (0 ≤ (ji15)) = true := decide_eq_true c16
                clear c16
                obtain ⟨ji17, hji17⟩ : ∃ j_ : Int, (shl .i64 255 (ji15)) = j_ := ⟨_, rfl⟩
                replace H : (if (Go.bits .and .i64 a1 (ji17)) = 0 then (packfile_encodeCopyOperation.l1 k2 a1 x5_2 x6_2 (IntKind.u64.wrap (x7_2 + 1))) else (if x6_2.length < 140737488355328 then (if 0 ≤ x7_2 then (packfile_encodeCopyOperation.l1 k2 a1 (Go.bits .or .i64 x5_2 (shl .i64 16 x7_2)) (x6_2 ++ [(shr .i64 (Go.bits .and .i64 a1 (ji17)) (ji15)) % 256]) (IntKind.u64.wrap (x7_2 + 1))) else (none)) else (none))) = some r := by first | (rw [hji17] at H; exact H) | (simp only [hji17] at H ⊢; exact H)
                have hji17_ : (IntKind.i64.wrap (255 * 2 ^ min (ji15).toNat 64)) = ji17 := hji17
                have hji17z : (ji15) ≤ 64 → (IntKind.i64.wrap (255 * 2 ^ (ji15).toNat)) = ji17 := shl_small hji17
                have hji17y : (wrap64 (255 * 2 ^ min (ji15).toNat 64)) = ji17 := (i64_w _).symm.trans hji17_
                have hji17x : (ji15) ≤ 64 → (wrap64 (255 * 2 ^ (ji15).toNat)) = ji17 := fun h_ => (i64_w _).symm.trans (hji17z h_)
                by_cases c18 : (Go.bits .and .i64 a1 (ji17)) = 0
                · rw [if_pos c18] at H
                  have c18b0 : ((Go.bits .and .i64 a1 (ji17)) == 0) = true := beq_iff_eq.mpr c18
                  have c18b1 : ((Go.bits .and .i64 a1 (ji17)) != 0) = false := bne_eq_false_iff_eq.mpr c18
                  clear c18
                  have H' := Aside0.mk H
                  clear H
                  go_wp2
                  go_roundg k2
                  case measure => have := HK1.out; have := HK2.out; omega
                  case rel => exact ⟨(x5_2), (x6_2), (IntKind.u64.wrap (x7_2 + 1)), (by first | rfl | (simp; done) | (simp [*]; done)), (by first | rfl | (simp; done) | (simp [*]; done)), H', ⟨by have := HK1.out; have := HK2.out; omega⟩, ⟨by (with_reducible repeat (first | apply Kd.R_alloc | apply Kd.R_drewN | apply Kd.R_drew)); exact HO_6.out⟩, ⟨by repeat (first | (with_reducible first | exact HB.out | apply below_alloc | apply pw_below_drewN | apply below_drew1) | exact HB.out)⟩⟩
                · rw [if_neg c18] at H
                  have c18b0 : ((Go.bits .and .i64 a1 (ji17)) == 0) = false := beq_eq_false_iff_ne.mpr c18
                  have c18b1 : ((Go.bits .and .i64 a1 (ji17)) != 0) = true := bne_iff_ne.mpr c18
                  have c19b0 := eq_true (of_decide_eq_true (by first | (with_reducible assumption) | assumption) : 0 ≤ (ji15))
                  obtain ⟨ji20, hji20⟩ : ∃ j_ : Int, (shr .i64 (Go.bits .and .i64 a1 (ji17)) (ji15)) = j_ := ⟨_, rfl⟩
                  replace H : (if x6_2.length < 140737488355328 then (if 0 ≤ x7_2 then (packfile_encodeCopyOperation.l1 k2 a1 (Go.bits .or .i64 x5_2 (shl .i64 16 x7_2)) (x6_2 ++ [(ji20) % 256]) (IntKind.u64.wrap (x7_2 + 1))) else (none)) else (none)) = some r := by first | (rw [hji20] at H; exact H) | (simp only [hji20] at H ⊢; exact H)
                  have hji20_ : ((Go.bits .and .i64 a1 (ji17)) / 2 ^ min (ji15).toNat 64) = ji20 := hji20
                  have hji20z : (ji15) ≤ 64 → ((Go.bits .and .i64 a1 (ji17)) / 2 ^ (ji15).toNat) = ji20 := shr_small hji20
                  by_cases c21 : x6_2.length < 140737488355328
                  · rw [if_pos c21] at H
                    have LMc21 := Aside0.mk c21
                    clear c21
                    obtain ⟨y110, hy110⟩ : ∃ y_ : List Int, y_ = (x6_2 ++ [(ji20) % 256]) := ⟨_, rfl⟩
                    replace H : (if 0 ≤ x7_2 then (packfile_encodeCopyOperation.l1 k2 a1 (Go.bits .or .i64 x5_2 (shl .i64 16 x7_2)) y110 (IntKind.u64.wrap (x7_2 + 1))) else (none)) = some r := by first | (rw [hy110]; with_reducible exact H) | (have H2_ := (Option.bind_some _ _).symm.trans H; rw [hy110]; with_reducible exact H2_) | (have H2_ := (Option.bind_some _ _).symm.trans H; with_reducible exact H2_) | with_reducible exact H | (rw [hy110]; exact H) | exact H
                    have Ny110 := Aside0.mk hy110
                    clear hy110
                    by_cases c22 : 0 ≤ x7_2
                    · rw [if_pos c22] at H
                      have c22b0 := eq_true c22
                      have c22b1 : decide (0 ≤ x7_2) = true := decide_eq_true c22
                      clear c22
                      obtain ⟨ji23, hji23⟩ : ∃ j_ : Int, (shl .i64 16 x7_2) = j_ := ⟨_, rfl⟩
                      replace H : (packfile_encodeCopyOperation.l1 k2 a1 (Go.bits .or .i64 x5_2 (ji23)) y110 (IntKind.u64.wrap (x7_2 + 1))) = some r := by first | (rw [hji23] at H; exact H) | (simp only [hji23] at H ⊢; exact H)
                      have hji23_ : (IntKind.i64.wrap (16 * 2 ^ min x7_2.toNat 64)) = ji23 := hji23
                      have hji23z : x7_2 ≤ 64 → (IntKind.i64.wrap (16 * 2 ^ x7_2.toNat)) = ji23 := shl_small hji23
                      have hji23y : (wrap64 (16 * 2 ^ min x7_2.toNat 64)) = ji23 := (i64_w _).symm.trans hji23_
                      have hji23x : x7_2 ≤ 64 → (wrap64 (16 * 2 ^ x7_2.toNat)) = ji23 := fun h_ => (i64_w _).symm.trans (hji23z h_)
                      have H' := Aside0.mk H
                      clear H
                      go_wp2_with (first | ((with_reducible refine gate_builtin (b := .append) (xs := #[.tmp 46, .tmp 54]) rfl ?_); at_builtin; refine Kd.R_append (Kd.int .u8) (w0 := w) w.heap.size rfl (.tmp 46) (.tmp 54) 22 5 (.int .u8 0) 1 rfl Tryd.underlying22 info5 rfl (by decide) (by omega) u6 x6_2 ((ji20) % 256) [.int .u8 ((ji20) % 256)] (fun _ => True) (fun _ => False) rfl rfl ?aP (fun _ hk => hk.elim) ?aF ?aO ?aB ?aS ?aL ?_; (case aP => exact rfl); (case aB => exact (by repeat (first | (with_reducible first | exact HB.out | apply below_alloc | apply pw_below_drewN | apply below_drew1) | exact HB.out))); (case aF => exact (fun _ _ => trivial)); (case aO => exact (by (with_reducible repeat (first | apply Kd.R_alloc | apply Kd.R_drewN | apply Kd.R_drew)); exact HO_6.out)); (case aS => exact (below_size (by repeat (first | (with_reducible first | exact HB.out | apply below_alloc | apply pw_below_drewN | apply below_drew1) | exact HB.out)))); (case aL => have := LMc21.out; omega); intro v111 w24 ho hb hg hat; rw [← Ny110.out] at ho; have n0_ := Aside0.mk (hb); have n1_ := Aside0.mk (ho); clear HB; clear HO_6; have HB := n0_; have HO112 := n1_; clear n0_ n1_; clear ho hb hg hat))
                      go_roundg k2
                      case measure => have := HK1.out; have := HK2.out; omega
                      case rel => exact ⟨(Go.bits .or .i64 x5_2 (ji23)), (y110), (IntKind.u64.wrap (x7_2 + 1)), (by first | rfl | (simp; done) | (simp only [← hji23] <;> (first | rfl | simp)) | (simp [*]; done)), (by first | rfl | (simp; done) | (simp [*]; done)), H', ⟨by have := HK1.out; have := HK2.out; omega⟩, ⟨by (with_reducible repeat (first | apply Kd.R_alloc | apply Kd.R_drewN | apply Kd.R_drew)); exact HO112.out⟩, ⟨by repeat (first | (with_reducible first | exact HB.out | apply below_alloc | apply pw_below_drewN | apply below_drew1) | exact HB.out)⟩⟩
                    · rw [if_neg c22] at H
                      exact absurd H (by simp)
                  · rw [if_neg c21] at H
                    exact absurd H (by simp)
              · rw [if_neg c16] at H
                exact absurd H (by simp)
            · rw [if_neg c14] at H
              have c14b0 : decide (x7_2 < 3) = false := decide_eq_false c14
              clear c14
              obtain ⟨y113, hy113⟩ : ∃ y_ : List Int, y_ = (([(x5_2) % 256] : List Int)) := ⟨_, rfl⟩
              replace H : (if y113.length + x6_2.length < 140737488355328 then (some (y113 ++ x6_2)) else (none)) = some r := by first | (rw [hy113]; with_reducible exact H) | (have H2_ := (Option.bind_some _ _).symm.trans H; rw [hy113]; with_reducible exact H2_) | (have H2_ := (Option.bind_some _ _).symm.trans H; with_reducible exact H2_) | with_reducible exact H | (rw [hy113]; exact H) | exact H
              have Ny113 := Aside0.mk hy113
              clear hy113
              by_cases c25 : y113.length + x6_2.length < 140737488355328
              · rw [if_pos c25] at H
                have LMc25 := Aside0.mk c25
                clear c25
                obtain ⟨y116, hy116⟩ : ∃ y_ : List Int, y_ = (y113 ++ x6_2) := ⟨_, rfl⟩
                replace H : (some y116) = some r := by first | (rw [hy116]; with_reducible exact H) | (have H2_ := (Option.bind_some _ _).symm.trans H; rw [hy116]; with_reducible exact H2_) | (have H2_ := (Option.bind_some _ _).symm.trans H; with_reducible exact H2_) | with_reducible exact H | (rw [hy116]; exact H) | exact H
                have Ny116 := Aside0.mk hy116
                clear hy116
                obtain rfl := Option.some.inj H
                go_wp2_with (first | ((with_reducible refine gate_dst (N := 62) rfl ?_); refine Kd.R_lit (Kd.int .u8) _ 5 ?hg (N := 62) ?hd (xs := ([(x5_2) % 256] : List Int)) (inner := [.int .u8 ((x5_2) % 256)]) (ok := fun _ => True) (okp := fun _ => True) ?hr ?hp (fun _ hk => hk) trivial (Below.refl _ _) (Nat.le_refl _) (by simp) ?_; (case hd => rfl); (case hg => rfl); (case hr => first | (go_simp; done) | (go_simp; rfl)); (case hp => exact (Reps.one (show Kd.M (Kd.int .u8) _ _ _ ((x5_2) % 256) [.int .u8 ((x5_2) % 256)] from rfl) (Reps.none _ _))); intro v114 w26 ho27 hb hg_ hnew_; clear hg_ hnew_; (first | rw [← Ny113.out] at ho27 | (simp only [Int.reduceToNat] at ho27; rw [← Ny113.out] at ho27)); have n0_ := Aside0.mk (Kd.R_elder' (by (with_reducible repeat (first | apply Kd.R_alloc | apply Kd.R_drewN | apply Kd.R_drew)); exact HO_6.out) (Kd.R_base ho27) hb); have n1_ := Aside0.mk (Kd.R_lower (Kd.R_new' ho27 (Kd.R_lt (by (with_reducible repeat (first | apply Kd.R_alloc | apply Kd.R_drewN | apply Kd.R_drew)); exact HO_6.out))) (below_size (by repeat (first | (with_reducible first | exact HB.out | apply below_alloc | apply pw_below_drewN | apply below_drew1) | exact HB.out)))); have n2_ := Aside0.mk (below_step (by repeat (first | (with_reducible first | exact HB.out | apply below_alloc | apply pw_below_drewN | apply below_drew1) | exact HB.out)) hb); clear HO_6; clear HB; have HO_6 := n0_; have HO115 := n1_; have HB := n2_; clear n0_ n1_ n2_; clear hb ho27; obtain ⟨Ao29, co29, eo29⟩ := Kd.R_slice HO_6.out; subst eo29) | ((with_reducible refine gate_builtin (b := .append) (xs := #[.tmp 62, .tmp 63]) rfl ?_); at_builtin; refine Kd.R_append_rows (Kd.int .u8) (w0 := w) w.heap.size rfl (.tmp 62) (.tmp 63) 22 5 (.int .u8 0) 1 rfl Tryd.underlying22 info5 rfl (by decide) (by omega) v114 y113 x6_2 _ _ _ (fun k_ => some k_ ≠ (.slice Ao29 x6_2.length co29 : Value).ownBlock) (fun _ => False) rfl rfl ?aO ?aR (fun _ _ h => h) (fun _ h => h.elim) ?aF ?aB ?aS ?aL ?_; (case aR => repeat (first | exact (Kd.R_reads' HO_6.out).2.2 | (with_reducible refine Kd.C_alloc ?_ _) | (with_reducible refine Kd.C_drewN ?_ _) | (with_reducible refine Kd.C_drew ?_))); (case aB => exact (by repeat (first | (with_reducible first | exact HB.out | apply below_alloc | apply pw_below_drewN | apply below_drew1) | exact HB.out))); (case aF => exact (fun k_ hk => Kd.fresh' (Kd.R_lt (by (with_reducible repeat (first | apply Kd.R_alloc | apply Kd.R_drewN | apply Kd.R_drew)); exact HO_6.out)) k_ hk)); (case aO => exact (by (with_reducible repeat (first | apply Kd.R_alloc | apply Kd.R_drewN | apply Kd.R_drew)); exact Kd.R_mono HO115.out (fun _ hk => hk.2))); (case aS => exact (below_size (by repeat (first | (with_reducible first | exact HB.out | apply below_alloc | apply pw_below_drewN | apply below_drew1) | exact HB.out)))); (case aL => have := LMc25.out; omega); intro v117 w28 ho hb hg hat; rw [← Ny116.out] at ho; have n0_ := Aside0.mk (Kd.R_after (ok := (fun _ => True)) (by (with_reducible repeat (first | apply Kd.R_alloc | apply Kd.R_drewN | apply Kd.R_drew)); exact HO_6.out) hg hat); have n1_ := Aside0.mk (hb); have n2_ := Aside0.mk (ho); clear HO_6; clear HB; clear HO115; have HO_6 := n0_; have HB := n1_; have HO118 := n2_; clear n0_ n1_ n2_; clear ho hb hg hat))
                go_ret
                exact ⟨_, by first | rfl | (simp [errW_none, errW_some] <;> rfl) | (simp [*, errW_none, errW_some] <;> rfl), by (with_reducible repeat (first | apply Kd.R_alloc | apply Kd.R_drewN | apply Kd.R_drew)); exact Kd.R_mono HO118.out (fun _ hk => trivial), by repeat (first | (with_reducible first | exact HB.out | apply below_alloc | apply pw_below_drewN | apply below_drew1) | exact HB.out)⟩
              · rw [if_neg c25] at H
                exact absurd H (by simp)

/-! ### packfile_matchLength: function 50 -/
def packfile_matchLength.l0 : Nat → List Int → List Int → Int → Int → Int → Int → Int → Option (Int)
  | 0, _, _, _, _, _, _, _ => none
  | k + 1, x0, x1, x2, x3, x8, x9, x10 => if x3 < x9 then (if x2 < x10 then (if 0 ≤ x3 then (if x3 < (x0.length : Int) then (if 0 ≤ x2 then (if x2 < (x1.length : Int) then (if (rd x0 x3) = (rd x1 x2) then (packfile_matchLength.l0 k x0 x1 (wrap64 (x2 + 1)) (wrap64 (x3 + 1)) (wrap64 (x8 + 1)) x9 x10) else (some x8)) else (none)) else (none)) else (none)) else (none)) else (some x8)) else (some x8)
def packfile_matchLength.f (k : Nat) (l0 : List Int) (l1 : List Int) (a2 : Int) (a3 : Int) : Option (Int) := packfile_matchLength.l0 k l0 l1 a2 a3 0 (l0.length : Int) (l1.length : Int)
theorem packfile_matchLength.mono_l : ∀ k, (∀ y0 y1 y2 y3 y4 y5 y6, LeO (packfile_matchLength.l0 k y0 y1 y2 y3 y4 y5 y6) (packfile_matchLength.l0 (k + 1) y0 y1 y2 y3 y4 y5 y6))
  | 0 => fun _ _ _ _ _ _ _ r h => by simp [packfile_matchLength.l0] at h
  | k + 1 => by
    have ih0 := packfile_matchLength.mono_l k
    · intro y0 y1 y2 y3 y4 y5 y6
      unfold packfile_matchLength.l0
      repeat' first
      | (with_reducible exact ih0 _ _ _ _ _ _ _)
      | (with_reducible exact LeO.refl _)
      | (with_reducible exact LeO.none _)
      | (with_reducible refine LeO.ite ?_ ?_)
      | (with_reducible refine LeO.bind ?_ (fun _ => ?_))
      | exact ih0 _ _ _ _ _ _ _
      | exact LeO.none _
      | refine LeO.ite ?_ ?_
      | refine LeO.bind ?_ (fun _ => ?_)
theorem packfile_matchLength.mono : ∀ a0 a1 a2 a3 k, LeO (packfile_matchLength.f k a0 a1 a2 a3) (packfile_matchLength.f (k + 1) a0 a1 a2 a3) := by
  intro a0 a1 a2 a3 k
  have ih0 := packfile_matchLength.mono_l k
  unfold packfile_matchLength.f
  repeat' first
      | (with_reducible exact ih0 _ _ _ _ _ _ _)
      | (with_reducible exact LeO.refl _)
      | (with_reducible exact LeO.none _)
      | (with_reducible refine LeO.ite ?_ ?_)
      | (with_reducible refine LeO.bind ?_ (fun _ => ?_))
      | exact ih0 _ _ _ _ _ _ _
      | exact LeO.none _
      | refine LeO.ite ?_ ?_
      | refine LeO.bind ?_ (fun _ => ?_)
set_option maxHeartbeats 8000000 in
set_option maxRecDepth 100000 in
theorem packfile_matchLength.calls (k : Nat) (A0 : Option Addr) (c0 : Nat) (l0 : List Int) (A1 : Option Addr) (c1 : Nat) (l1 : List Int) (a2 : Int) (a3 : Int) (r : Int) (w : World) (hr0 : Kd.C (Kd.int .u8) w A0 l0.length l0) (hc0 : l0.length ≤ c0) (hr1 : Kd.C (Kd.int .u8) w A1 l1.length l1) (hc1 : l1.length ≤ c1) (h : packfile_matchLength.f k l0 l1 a2 a3 = some r) :
    Calls Tryd.prog 50 #[.slice A0 l0.length c0, .slice A1 l1.length c1, .int .i64 a2, .int .i64 a3] w fun e w' => e = .returned (.int .i64 r) ∧ Drawn0 w w' := by
  have HR0 := Aside0.mk hr0
  have HC0 := Aside0.mk hc0
  clear hr0 hc0
  have HR1 := Aside0.mk hr1
  have HC1 := Aside0.mk hc1
  clear hr1 hc1
  have H : (packfile_matchLength.l0 k l0 l1 a2 a3 0 (l0.length : Int) (l1.length : Int)) = some r := h
  clear h
  have H' := Aside0.mk H
  clear H
  go_enter Tryd.func50, Tryd.ntmps50
  go_wp2
  repeat (go_quiet (fail); try go_wp2)
  go_loopg [2, 3, 8] k (fun kq v2 v3 v8 w' => ∃ (x2_1 : Int) (x3_1 : Int) (x8_1 : Int), v2 = .int .i64 x2_1 ∧ v3 = .int .i64 x3_1 ∧ v8 = .int .i64 x8_1 ∧ Aside0 (packfile_matchLength.l0 kq l0 l1 x2_1 x3_1 x8_1 (l0.length : Int) (l1.length : Int) = some r) ∧ Aside0 (kq ≤ k) ∧ Drawn0 w w')
  case atStart => exact ⟨(a2), (a3), (0), (by first | rfl | (simp; done) | (simp [*]; done)), (by first | rfl | (simp; done) | (simp [*]; done)), (by first | rfl | (simp; done) | (simp [*]; done)), H', ⟨Nat.le_refl _⟩, by repeat (first | exact Drawn0.refl _ | apply Drawn0.step)⟩
  case round =>
    clear H'
    try clear c1
    try clear p2
    obtain ⟨x2_1, x3_1, x8_1, rfl, rfl, rfl, HA, HK1, ⟨m1, rfl⟩⟩ := hrel
    cases gk with
    | zero => exact absurd HA.out (by simp [packfile_matchLength.l0])
    | succ k1 =>
      have H := HA.out
      clear HA
      simp only [packfile_matchLength.l0] at H
      by_cases c5 : x3_1 < (l0.length : Int)
      · rw [if_pos c5] at H
        have c5b0 : decide (x3_1 < (l0.length : Int)) = true := decide_eq_true c5
        clear c5
        by_cases c6 : x2_1 < (l1.length : Int)
        · rw [if_pos c6] at H
          have c6b0 : decide (x2_1 < (l1.length : Int)) = true := decide_eq_true c6
          clear c6
          by_cases c7 : 0 ≤ x3_1
          · rw [if_pos c7] at H
            have c7b0 : decide (0 ≤ x3_1) = true := decide_eq_true c7
            clear c7
            by_cases c8 : x3_1 < (l0.length : Int)
            · rw [if_pos c8] at H
              have c8b0 : decide (x3_1 < (l0.length : Int)) = true := decide_eq_true c8
              clear c8
              by_cases c9 : 0 ≤ x2_1
              · rw [if_pos c9] at H
                have c9b0 : decide (0 ≤ x2_1) = true := decide_eq_true c9
                clear c9
                by_cases c10 : x2_1 < (l1.length : Int)
                · rw [if_pos c10] at H
                  have c10b0 : decide (x2_1 < (l1.length : Int)) = true := decide_eq_true c10
                  clear c10
                  by_cases c11 : (rd l0 x3_1) = (rd l1 x2_1)
                  · rw [if_pos c11] at H
                    have c11b0 : ((rd l0 x3_1) == (rd l1 x2_1)) = true := beq_iff_eq.mpr c11
                    have c11b1 : ((rd l0 x3_1) != (rd l1 x2_1)) = false := bne_eq_false_iff_eq.mpr c11
                    clear c11
                    have H' := Aside0.mk H
                    clear H
                    have p119 : 0 ≤ (x3_1 : Int) := of_decide_eq_true (by first | (with_reducible assumption) | assumption)
                    have q119 : x3_1 < (l0.length : Int) := of_decide_eq_true (by first | (with_reducible assumption) | assumption)
                    obtain ⟨ad119, e119, hx119_0⟩ := Kd.at_int HR0.out x3_1 p119 q119
                    cases e119
                    replace p119 := eq_true p119
                    replace q119 := eq_true q119
                    have p120 : 0 ≤ (x2_1 : Int) := of_decide_eq_true (by first | (with_reducible assumption) | assumption)
                    have q120 : x2_1 < (l1.length : Int) := of_decide_eq_true (by first | (with_reducible assumption) | assumption)
                    obtain ⟨ad120, e120, hx120_0⟩ := Kd.at_int HR1.out x2_1 p120 q120
                    cases e120
                    replace p120 := eq_true p120
                    replace q120 := eq_true q120
                    go_wp2
                    repeat (go_quiet (fail); try go_wp2)
                    go_roundg k1
                    case measure => have := HK1.out; omega
                    case rel => exact ⟨(wrap64 (x2_1 + 1)), (wrap64 (x3_1 + 1)), (wrap64 (x8_1 + 1)), (by first | rfl | (simp; done) | (simp [*]; done)), (by first | rfl | (simp; done) | (simp [*]; done)), (by first | rfl | (simp; done) | (simp [*]; done)), H', ⟨by have := HK1.out; omega⟩, by repeat (first | exact Drawn0.refl _ | apply Drawn0.step)⟩
                  · rw [if_neg c11] at H
                    have c11b0 : ((rd l0 x3_1) == (rd l1 x2_1)) = false := beq_eq_false_iff_ne.mpr c11
                    have c11b1 : ((rd l0 x3_1) != (rd l1 x2_1)) = true := bne_iff_ne.mpr c11
                    obtain rfl := Option.some.inj H
                    have p119 : 0 ≤ (x3_1 : Int) := of_decide_eq_true (by first | (with_reducible assumption) | assumption)
                    have q119 : x3_1 < (l0.length : Int) := of_decide_eq_true (by first | (with_reducible assumption) | assumption)
                    obtain ⟨ad119, e119, hx119_0⟩ := Kd.at_int HR0.out x3_1 p119 q119
                    cases e119
                    replace p119 := eq_true p119
                    replace q119 := eq_true q119
                    have p120 : 0 ≤ (x2_1 : Int) := of_decide_eq_true (by first | (with_reducible assumption) | assumption)
                    have q120 : x2_1 < (l1.length : Int) := of_decide_eq_true (by first | (with_reducible assumption) | assumption)
                    obtain ⟨ad120, e120, hx120_0⟩ := Kd.at_int HR1.out x2_1 p120 q120
                    cases e120
                    replace p120 := eq_true p120
                    replace q120 := eq_true q120
                    go_wp2
                    repeat (go_quiet (fail); try go_wp2)
                    go_ret
                    exact ⟨by first | rfl | (simp; done) | (simp [*]; done), by repeat (first | exact Drawn0.refl _ | apply Drawn0.step)⟩
                · rw [if_neg c10] at H
                  exact absurd H (by simp)
              · rw [if_neg c9] at H
                exact absurd H (by simp)
            · rw [if_neg c8] at H
              exact absurd H (by simp)
          · rw [if_neg c7] at H
            exact absurd H (by simp)
        · rw [if_neg c6] at H
          have c6b0 : decide (x2_1 < (l1.length : Int)) = false := decide_eq_false c6
          clear c6
          obtain rfl := Option.some.inj H
          go_wp2
          repeat (go_quiet (fail); try go_wp2)
          go_ret
          exact ⟨by first | rfl | (simp; done) | (simp [*]; done), by repeat (first | exact Drawn0.refl _ | apply Drawn0.step)⟩
      · rw [if_neg c5] at H
        have c5b0 : decide (x3_1 < (l0.length : Int)) = false := decide_eq_false c5
        clear c5
        obtain rfl := Option.some.inj H
        go_wp2
        repeat (go_quiet (fail); try go_wp2)
        go_ret
        exact ⟨by first | rfl | (simp; done) | (simp [*]; done), by repeat (first | exact Drawn0.refl _ | apply Drawn0.step)⟩

end Go.Proofs.YtlboochpbplhlaaDoor.QDif
