-- WRITTEN BY A PROGRAM OF THIS SESSION, out of the loaded program, with words of the kit
import Derived.Test.YtlnfkpmmnennbaaQAllx0
namespace Go.Proofs.Ytlnfkpmmnennbaa.QAll
open Go.RowKit Go.Proofs.YtlnfkpmmnennbaaW.PrintWords Go.Proofs.YtlnfkpmmnennbaaW.PrintLast Go.Proofs.YtlnfkpmmnennbaaW.PrintMore
attribute [local go_sem] max2_int min2_int max_two min_two max_three min_three max_four min_four   -- for this text's walks alone
set_option linter.unusedVariables false
set_option linter.unusedSimpArgs false

/-! ### path_scanChunk: function 48 -/
mutual
def path_scanChunk.j1 : Nat → ByteArray → Bool → Option (Bool × ByteArray × ByteArray)
  | 0, _, _ => none
  | k + 1, x0, x2 => path_scanChunk.l1 k x0 x2 false 0
def path_scanChunk.l1 : Nat → ByteArray → Bool → Bool → Int → Option (Bool × ByteArray × ByteArray)
  | 0, _, _, _, _ => none
  | k + 1, x0, x2, x5, x6 => if x6 < (x0.size : Int) then (if 0 ≤ x6 then (if (bt x0 x6) = 92 then (if (wrap64 (x6 + 1)) < (x0.size : Int) then (path_scanChunk.l1 k x0 x2 x5 (wrap64 ((wrap64 (x6 + 1)) + 1))) else (path_scanChunk.l1 k x0 x2 x5 (wrap64 (x6 + 1)))) else (if (bt x0 x6) = 91 then (path_scanChunk.l1 k x0 x2 true (wrap64 (x6 + 1))) else (if (bt x0 x6) = 93 then (path_scanChunk.l1 k x0 x2 false (wrap64 (x6 + 1))) else (if (bt x0 x6) = 42 then (if x5 = true then (path_scanChunk.l1 k x0 x2 x5 (wrap64 (x6 + 1))) else (if x6 ≤ (x0.size : Int) then (some (x2, x0.extract 0 (x6 : Int).toNat, x0.extract (x6 : Int).toNat x0.size)) else (none))) else (path_scanChunk.l1 k x0 x2 x5 (wrap64 (x6 + 1))))))) else (none)) else (some (x2, x0, (⟨#[]⟩ : ByteArray)))
def path_scanChunk.l0 : Nat → ByteArray → Bool → Option (Bool × ByteArray × ByteArray)
  | 0, _, _ => none
  | k + 1, x0, x2 => if (x0.size : Int) > 0 then (if 0 < (x0.size : Int) then (if (bt x0 0) = 42 then (if 1 ≤ (x0.size : Int) then (path_scanChunk.l0 k (x0.extract 1 x0.size) true) else (none)) else (path_scanChunk.j1 k x0 x2)) else (none)) else (path_scanChunk.j1 k x0 x2)
end
def path_scanChunk.f (k : Nat) (a0 : ByteArray) : Option (Bool × ByteArray × ByteArray) := path_scanChunk.l0 k a0 false
theorem path_scanChunk.mono_l : ∀ k, (∀ y0 y1, LeO (path_scanChunk.j1 k y0 y1) (path_scanChunk.j1 (k + 1) y0 y1)) ∧ (∀ y0 y1 y2 y3, LeO (path_scanChunk.l1 k y0 y1 y2 y3) (path_scanChunk.l1 (k + 1) y0 y1 y2 y3)) ∧ (∀ y0 y1, LeO (path_scanChunk.l0 k y0 y1) (path_scanChunk.l0 (k + 1) y0 y1))
  | 0 => ⟨fun _ _ r h => by simp [path_scanChunk.j1] at h, fun _ _ _ _ r h => by simp [path_scanChunk.l1] at h, fun _ _ r h => by simp [path_scanChunk.l0] at h⟩
  | k + 1 => by
    obtain ⟨ih0, ih1, ih2⟩ := path_scanChunk.mono_l k
    refine ⟨?_, ?_, ?_⟩
    · intro y0 y1
      unfold path_scanChunk.j1
      repeat' first
      | (with_reducible exact ih0 _ _)
      | (with_reducible exact ih1 _ _ _ _)
      | (with_reducible exact ih2 _ _)
      | (with_reducible exact LeO.refl _)
      | (with_reducible exact LeO.none _)
      | (with_reducible refine LeO.ite ?_ ?_)
      | (with_reducible refine LeO.bind ?_ (fun _ => ?_))
      | exact ih0 _ _
      | exact ih1 _ _ _ _
      | exact ih2 _ _
      | exact LeO.none _
      | refine LeO.ite ?_ ?_
      | refine LeO.bind ?_ (fun _ => ?_)
    · intro y0 y1 y2 y3
      unfold path_scanChunk.l1
      repeat' first
      | (with_reducible exact ih0 _ _)
      | (with_reducible exact ih1 _ _ _ _)
      | (with_reducible exact ih2 _ _)
      | (with_reducible exact LeO.refl _)
      | (with_reducible exact LeO.none _)
      | (with_reducible refine LeO.ite ?_ ?_)
      | (with_reducible refine LeO.bind ?_ (fun _ => ?_))
      | exact ih0 _ _
      | exact ih1 _ _ _ _
      | exact ih2 _ _
      | exact LeO.none _
      | refine LeO.ite ?_ ?_
      | refine LeO.bind ?_ (fun _ => ?_)
    · intro y0 y1
      unfold path_scanChunk.l0
      repeat' first
      | (with_reducible exact ih0 _ _)
      | (with_reducible exact ih1 _ _ _ _)
      | (with_reducible exact ih2 _ _)
      | (with_reducible exact LeO.refl _)
      | (with_reducible exact LeO.none _)
      | (with_reducible refine LeO.ite ?_ ?_)
      | (with_reducible refine LeO.bind ?_ (fun _ => ?_))
      | exact ih0 _ _
      | exact ih1 _ _ _ _
      | exact ih2 _ _
      | exact LeO.none _
      | refine LeO.ite ?_ ?_
      | refine LeO.bind ?_ (fun _ => ?_)
theorem path_scanChunk.mono : ∀ a0 k, LeO (path_scanChunk.f k a0) (path_scanChunk.f (k + 1) a0) := by
  intro a0 k
  obtain ⟨ih0, ih1, ih2⟩ := path_scanChunk.mono_l k
  unfold path_scanChunk.f
  repeat' first
      | (with_reducible exact ih0 _ _)
      | (with_reducible exact ih1 _ _ _ _)
      | (with_reducible exact ih2 _ _)
      | (with_reducible exact LeO.refl _)
      | (with_reducible exact LeO.none _)
      | (with_reducible refine LeO.ite ?_ ?_)
      | (with_reducible refine LeO.bind ?_ (fun _ => ?_))
      | exact ih0 _ _
      | exact ih1 _ _ _ _
      | exact ih2 _ _
      | exact LeO.none _
      | refine LeO.ite ?_ ?_
      | refine LeO.bind ?_ (fun _ => ?_)
set_option maxHeartbeats 8000000 in
set_option maxRecDepth 100000 in
theorem path_scanChunk.calls (k : Nat) (a0 : ByteArray) (r1 : Bool) (r2 : ByteArray) (r3 : ByteArray) (w : World) (h : path_scanChunk.f k a0 = some (r1, r2, r3)) :
    Calls Try.prog 48 #[.string a0] w fun e w' => e = .returned (.tuple #[.bool r1, .string r2, .string r3]) ∧ Drawn0 w w' := by
  have H : (path_scanChunk.l0 k a0 false) = some (r1, r2, r3) := h
  clear h
  have HC2 := Aside0.mk H
  clear H
  go_enter Try.func48, Try.ntmps48
  go_upto_block 0 with (fail)
  repeat (go_quiet (fail); go_upto_block 0 with (fail))
  go_cut [0, 2] (fun v0 v2 wc => ∃ (kq : Nat) (x0_1 : ByteArray) (x2_1 : Bool), v0 = .string x0_1 ∧ v2 = .bool x2_1 ∧ Aside0 (path_scanChunk.j1 kq x0_1 x2_1 = some (r1, r2, r3)) ∧ Aside0 (kq ≤ k) ∧ Drawn0 w wc)
  case first =>
    have H := HC2.out
    clear HC2
    have H' := Aside0.mk H
    clear H
    go_wp2
    repeat (go_quiet (fail); try go_wp2)
    go_loopg [0, 2] k (fun kq v0 v2 w' => ∃ (x0_1 : ByteArray) (x2_1 : Bool), v0 = .string x0_1 ∧ v2 = .bool x2_1 ∧ Aside0 (path_scanChunk.l0 kq x0_1 x2_1 = some (r1, r2, r3)) ∧ Aside0 (kq ≤ k) ∧ Drawn0 w w')
    case atStart => exact ⟨(a0), (false), (by first | rfl | (simp; done) | (simp [*]; done)), (by first | rfl | (simp; done) | (simp [*]; done)), H', ⟨Nat.le_refl _⟩, by repeat (first | exact Drawn0.refl _ | apply Drawn0.step)⟩
    case round =>
      clear H'
      try clear p2
      obtain ⟨x0_1, x2_1, rfl, rfl, HA, HK1, ⟨m1, rfl⟩⟩ := hrel
      cases gk with
      | zero => exact absurd HA.out (by simp [path_scanChunk.l0])
      | succ k1 =>
        have H := HA.out
        clear HA
        simp only [path_scanChunk.l0] at H
        by_cases c3 : (x0_1.size : Int) > 0
        · rw [if_pos c3] at H
          have c3b0 : decide (0 < (x0_1.size : Int)) = true := decide_eq_true c3
          have c3b1 : decide (0 < x0_1.size) = true := decide_eq_true (by omega)
          clear c3
          (first | rw [c3b0] | (simp only [i64_w, i32_w]; rw [c3b0]) | skip)
          by_cases c4 : 0 < (x0_1.size : Int)
          · rw [if_pos c4] at H
            have c4b0 : decide (0 < (x0_1.size : Int)) = true := decide_eq_true c4
            have c4b1 : decide (0 < x0_1.size) = true := decide_eq_true (by omega)
            clear c4
            by_cases c6 : (bt x0_1 0) = 42
            · rw [if_pos c6] at H
              have c6b0 : ((bt x0_1 0) == 42) = true := beq_iff_eq.mpr c6
              have c6b1 : ((bt x0_1 0) != 42) = false := bne_eq_false_iff_eq.mpr c6
              clear c6
              by_cases c7 : 1 ≤ (x0_1.size : Int)
              · rw [if_pos c7] at H
                have c7b0 := eq_true c7
                have c7b1 : decide (1 ≤ (x0_1.size : Int)) = true := decide_eq_true c7
                clear c7
                have H' := Aside0.mk H
                clear H
                have p5 : 0 ≤ (0 : Int) := (by omega)
                have q5 : 0 < x0_1.size := (by have : (0 : Int) < (x0_1.size : Int) := of_decide_eq_true (by first | (with_reducible assumption) | assumption); omega)
                have hx5 : ∀ h : 0 < x0_1.size, ((x0_1[0]'h).toNat : Int) = bt x0_1 0 := bt_at x0_1 0
                clear p5
                have qi5 : (0 < (x0_1.size : Int)) = True := eq_true (of_decide_eq_true (by first | (with_reducible assumption) | assumption))
                replace q5 := eq_true q5
                go_wp2
                repeat (go_quiet (fail); try go_wp2)
                go_roundg k1
                case measure => have := HK1.out; omega
                case rel => exact ⟨(x0_1.extract 1 x0_1.size), (true), (by first | rfl | (simp; done) | (simp [*]; done)), (by first | rfl | (simp; done) | (simp [*]; done)), H', ⟨by have := HK1.out; omega⟩, by repeat (first | exact Drawn0.refl _ | apply Drawn0.step)⟩
              · rw [if_neg c7] at H
                exact absurd H (by simp)
            · rw [if_neg c6] at H
              have c6b0 : ((bt x0_1 0) == 42) = false := beq_eq_false_iff_ne.mpr c6
              have c6b1 : ((bt x0_1 0) != 42) = true := bne_iff_ne.mpr c6
              have H' := Aside0.mk H
              clear H
              have p5 : 0 ≤ (0 : Int) := (by omega)
              have q5 : 0 < x0_1.size := (by have : (0 : Int) < (x0_1.size : Int) := of_decide_eq_true (by first | (with_reducible assumption) | assumption); omega)
              have hx5 : ∀ h : 0 < x0_1.size, ((x0_1[0]'h).toNat : Int) = bt x0_1 0 := bt_at x0_1 0
              clear p5
              have qi5 : (0 < (x0_1.size : Int)) = True := eq_true (of_decide_eq_true (by first | (with_reducible assumption) | assumption))
              replace q5 := eq_true q5
              go_wp2
              repeat (go_quiet (fail); try go_wp2)
              go_meet
              case rel => exact ⟨_, (x0_1), (x2_1), (by first | rfl | (simp; done) | (simp [*]; done)), (by first | rfl | (simp; done) | (simp [*]; done)), H', ⟨by have := HK1.out; first | omega | exact Nat.le_refl _⟩, by repeat (first | exact Drawn0.refl _ | apply Drawn0.step)⟩
          · rw [if_neg c4] at H
            exact absurd H (by simp)
        · rw [if_neg c3] at H
          have c3b0 : decide (0 < (x0_1.size : Int)) = false := decide_eq_false c3
          have c3b1 : decide (0 < x0_1.size) = false := decide_eq_false (by omega)
          clear c3
          (first | rw [c3b0] | (simp only [i64_w, i32_w]; rw [c3b0]) | skip)
          have H' := Aside0.mk H
          clear H
          go_wp2
          repeat (go_quiet (fail); try go_wp2)
          go_meet
          case rel => exact ⟨_, (x0_1), (x2_1), (by first | rfl | (simp; done) | (simp [*]; done)), (by first | rfl | (simp; done) | (simp [*]; done)), H', ⟨by have := HK1.out; first | omega | exact Nat.le_refl _⟩, by repeat (first | exact Drawn0.refl _ | apply Drawn0.step)⟩
  case rest =>
    clear HC2
    try clear p2
    try clear c3
    try clear c3b0
    try clear c3b1
    try clear c4
    try clear c4b0
    try clear c4b1
    try clear p5
    try clear q5
    try clear hx5
    try clear qi5
    try clear c6
    try clear c6b0
    try clear c6b1
    try clear c7
    try clear c7b0
    try clear c7b1
    try clear p2
    try clear p5
    try clear q5
    obtain ⟨kq, x0_1, x2_1, rfl, rfl, HA, HJ1, ⟨mc1, rfl⟩⟩ := hcut
    cases kq with
    | zero => exact absurd HA.out (by simp [path_scanChunk.j1])
    | succ kj1 =>
      have H := HA.out
      clear HA
      simp only [path_scanChunk.j1] at H
      have H' := Aside0.mk H
      clear H
      go_wp2
      repeat (go_quiet (fail); try go_wp2)
      go_loopg [2, 5, 6] kj1 (fun kq v2 v5 v6 w' => ∃ (x2_2 : Bool) (x5_2 : Bool) (x6_2 : Int), v2 = .bool x2_2 ∧ v5 = .bool x5_2 ∧ v6 = .int .i64 x6_2 ∧ Aside0 (path_scanChunk.l1 kq x0_1 x2_2 x5_2 x6_2 = some (r1, r2, r3)) ∧ Aside0 (kq ≤ kj1) ∧ Drawn0 w w')
      case atStart => exact ⟨(x2_1), (false), (0), (by first | rfl | (simp; done) | (simp [*]; done)), (by first | rfl | (simp; done) | (simp [*]; done)), (by first | rfl | (simp; done) | (simp [*]; done)), H', ⟨Nat.le_refl _⟩, by repeat (first | exact Drawn0.refl _ | apply Drawn0.step)⟩
      case round =>
        clear H'
        try clear c1
        try clear p2
        try clear c3
        try clear c3b0
        try clear c3b1
        try clear c4
        try clear c4b0
        try clear c4b1
        try clear p5
        try clear q5
        try clear hx5
        try clear qi5
        try clear c6
        try clear c6b0
        try clear c6b1
        try clear c7
        try clear c7b0
        try clear c7b1
        try clear p2
        try clear p5
        try clear q5
        obtain ⟨x2_2, x5_2, x6_2, rfl, rfl, rfl, HA, HK2, ⟨m2, rfl⟩⟩ := hrel
        cases gk with
        | zero => exact absurd HA.out (by simp [path_scanChunk.l1])
        | succ k2 =>
          have H := HA.out
          clear HA
          simp only [path_scanChunk.l1] at H
          by_cases c8 : x6_2 < (x0_1.size : Int)
          · rw [if_pos c8] at H
            have c8b0 : decide (x6_2 < (x0_1.size : Int)) = true := decide_eq_true c8
            clear c8
            by_cases c9 : 0 ≤ x6_2
            · rw [if_pos c9] at H
              have c9b0 : decide (0 ≤ x6_2) = true := decide_eq_true c9
              clear c9
              by_cases c11 : (bt x0_1 x6_2) = 92
              · rw [if_pos c11] at H
                have c11b0 : ((bt x0_1 x6_2) == 92) = true := beq_iff_eq.mpr c11
                have c11b1 : ((bt x0_1 x6_2) != 92) = false := bne_eq_false_iff_eq.mpr c11
                clear c11
                by_cases c12 : (wrap64 (x6_2 + 1)) < (x0_1.size : Int)
                · rw [if_pos c12] at H
                  have c12b0 : decide ((wrap64 (x6_2 + 1)) < (x0_1.size : Int)) = true := decide_eq_true c12
                  clear c12
                  have H' := Aside0.mk H
                  clear H
                  have p10 : 0 ≤ (x6_2 : Int) := of_decide_eq_true (by first | (with_reducible assumption) | assumption)
                  have q10 : x6_2 < (x0_1.size : Int) := of_decide_eq_true (by first | (with_reducible assumption) | assumption)
                  have hx10 := bt_at x0_1 x6_2
                  replace p10 := eq_true p10
                  replace q10 := eq_true q10
                  go_wp2
                  repeat (go_quiet (fail); try go_wp2)
                  go_roundg k2
                  case measure => have := HJ1.out; have := HK2.out; omega
                  case rel => exact ⟨(x2_2), (x5_2), (wrap64 ((wrap64 (x6_2 + 1)) + 1)), (by first | rfl | (simp; done) | (simp [*]; done)), (by first | rfl | (simp; done) | (simp [*]; done)), (by first | rfl | (simp; done) | (simp [*]; done)), H', ⟨by have := HJ1.out; have := HK2.out; omega⟩, by repeat (first | exact Drawn0.refl _ | apply Drawn0.step)⟩
                · rw [if_neg c12] at H
                  have c12b0 : decide ((wrap64 (x6_2 + 1)) < (x0_1.size : Int)) = false := decide_eq_false c12
                  clear c12
                  have H' := Aside0.mk H
                  clear H
                  have p10 : 0 ≤ (x6_2 : Int) := of_decide_eq_true (by first | (with_reducible assumption) | assumption)
                  have q10 : x6_2 < (x0_1.size : Int) := of_decide_eq_true (by first | (with_reducible assumption) | assumption)
                  have hx10 := bt_at x0_1 x6_2
                  replace p10 := eq_true p10
                  replace q10 := eq_true q10
                  go_wp2
                  repeat (go_quiet (fail); try go_wp2)
                  go_roundg k2
                  case measure => have := HJ1.out; have := HK2.out; omega
                  case rel => exact ⟨(x2_2), (x5_2), (wrap64 (x6_2 + 1)), (by first | rfl | (simp; done) | (simp [*]; done)), (by first | rfl | (simp; done) | (simp [*]; done)), (by first | rfl | (simp; done) | (simp [*]; done)), H', ⟨by have := HJ1.out; have := HK2.out; omega⟩, by repeat (first | exact Drawn0.refl _ | apply Drawn0.step)⟩
              · rw [if_neg c11] at H
                have c11b0 : ((bt x0_1 x6_2) == 92) = false := beq_eq_false_iff_ne.mpr c11
                have c11b1 : ((bt x0_1 x6_2) != 92) = true := bne_iff_ne.mpr c11
                by_cases c13 : (bt x0_1 x6_2) = 91
                · rw [if_pos c13] at H
                  have c13b0 : ((bt x0_1 x6_2) == 91) = true := beq_iff_eq.mpr c13
                  have c13b1 : ((bt x0_1 x6_2) != 91) = false := bne_eq_false_iff_eq.mpr c13
                  clear c13
                  have H' := Aside0.mk H
                  clear H
                  have p10 : 0 ≤ (x6_2 : Int) := of_decide_eq_true (by first | (with_reducible assumption) | assumption)
                  have q10 : x6_2 < (x0_1.size : Int) := of_decide_eq_true (by first | (with_reducible assumption) | assumption)
                  have hx10 := bt_at x0_1 x6_2
                  replace p10 := eq_true p10
                  replace q10 := eq_true q10
                  go_wp2
                  repeat (go_quiet (fail); try go_wp2)
                  go_roundg k2
                  case measure => have := HJ1.out; have := HK2.out; omega
                  case rel => exact ⟨(x2_2), (true), (wrap64 (x6_2 + 1)), (by first | rfl | (simp; done) | (simp [*]; done)), (by first | rfl | (simp; done) | (simp [*]; done)), (by first | rfl | (simp; done) | (simp [*]; done)), H', ⟨by have := HJ1.out; have := HK2.out; omega⟩, by repeat (first | exact Drawn0.refl _ | apply Drawn0.step)⟩
                · rw [if_neg c13] at H
                  have c13b0 : ((bt x0_1 x6_2) == 91) = false := beq_eq_false_iff_ne.mpr c13
                  have c13b1 : ((bt x0_1 x6_2) != 91) = true := bne_iff_ne.mpr c13
                  by_cases c14 : (bt x0_1 x6_2) = 93
                  · rw [if_pos c14] at H
                    have c14b0 : ((bt x0_1 x6_2) == 93) = true := beq_iff_eq.mpr c14
                    have c14b1 : ((bt x0_1 x6_2) != 93) = false := bne_eq_false_iff_eq.mpr c14
                    clear c14
                    have H' := Aside0.mk H
                    clear H
                    have p10 : 0 ≤ (x6_2 : Int) := of_decide_eq_true (by first | (with_reducible assumption) | assumption)
                    have q10 : x6_2 < (x0_1.size : Int) := of_decide_eq_true (by first | (with_reducible assumption) | assumption)
                    have hx10 := bt_at x0_1 x6_2
                    replace p10 := eq_true p10
                    replace q10 := eq_true q10
                    go_wp2
                    repeat (go_quiet (fail); try go_wp2)
                    go_roundg k2
                    case measure => have := HJ1.out; have := HK2.out; omega
                    case rel => exact ⟨(x2_2), (false), (wrap64 (x6_2 + 1)), (by first | rfl | (simp; done) | (simp [*]; done)), (by first | rfl | (simp; done) | (simp [*]; done)), (by first | rfl | (simp; done) | (simp [*]; done)), H', ⟨by have := HJ1.out; have := HK2.out; omega⟩, by repeat (first | exact Drawn0.refl _ | apply Drawn0.step)⟩
                  · rw [if_neg c14] at H
                    have c14b0 : ((bt x0_1 x6_2) == 93) = false := beq_eq_false_iff_ne.mpr c14
                    have c14b1 : ((bt x0_1 x6_2) != 93) = true := bne_iff_ne.mpr c14
                    by_cases c15 : (bt x0_1 x6_2) = 42
                    · rw [if_pos c15] at H
                      have c15b0 : ((bt x0_1 x6_2) == 42) = true := beq_iff_eq.mpr c15
                      have c15b1 : ((bt x0_1 x6_2) != 42) = false := bne_eq_false_iff_eq.mpr c15
                      clear c15
                      by_cases c16 : x5_2 = true
                      · subst c16
                        have H1 : (path_scanChunk.l1 k2 x0_1 x2_2 true (wrap64 (x6_2 + 1))) = some (r1, r2, r3) := by rw [if_pos rfl] at H; exact H
                        clear H
                        have H := H1
                        clear H1
                        have H' := Aside0.mk H
                        clear H
                        have p10 : 0 ≤ (x6_2 : Int) := of_decide_eq_true (by first | (with_reducible assumption) | assumption)
                        have q10 : x6_2 < (x0_1.size : Int) := of_decide_eq_true (by first | (with_reducible assumption) | assumption)
                        have hx10 := bt_at x0_1 x6_2
                        replace p10 := eq_true p10
                        replace q10 := eq_true q10
                        go_wp2
                        repeat (go_quiet (fail); try go_wp2)
                        go_roundg k2
                        case measure => have := HJ1.out; have := HK2.out; omega
                        case rel => exact ⟨(x2_2), (true), (wrap64 (x6_2 + 1)), (by first | rfl | (simp; done) | (simp [*]; done)), (by first | rfl | (simp; done) | (simp [*]; done)), (by first | rfl | (simp; done) | (simp [*]; done)), H', ⟨by have := HJ1.out; have := HK2.out; omega⟩, by repeat (first | exact Drawn0.refl _ | apply Drawn0.step)⟩
                      · replace c16 := Bool.eq_false_iff.mpr c16
                        subst c16
                        have H1 : (if x6_2 ≤ (x0_1.size : Int) then (some (x2_2, x0_1.extract 0 (x6_2 : Int).toNat, x0_1.extract (x6_2 : Int).toNat x0_1.size)) else (none)) = some (r1, r2, r3) := by rw [if_neg (show ¬ (false = true) by decide)] at H; exact H
                        clear H
                        have H := H1
                        clear H1
                        have c17b0 := eq_true (of_decide_eq_true (by first | (with_reducible assumption) | assumption) : 0 ≤ x6_2)
                        by_cases c18 : x6_2 ≤ (x0_1.size : Int)
                        · rw [if_pos c18] at H
                          have c18b0 := eq_true c18
                          have c18b1 : decide (x6_2 ≤ (x0_1.size : Int)) = true := decide_eq_true c18
                          clear c18
                          have c19b0 := eq_true (of_decide_eq_true (by first | (with_reducible assumption) | assumption) : 0 ≤ x6_2)
                          have c20b0 := eq_true (of_decide_eq_true (by first | (with_reducible assumption) | assumption) : x6_2 ≤ (x0_1.size : Int))
                          simp only [Option.some.injEq, Prod.mk.injEq] at H
                          obtain ⟨rfl, rfl, rfl⟩ := H
                          have p10 : 0 ≤ (x6_2 : Int) := of_decide_eq_true (by first | (with_reducible assumption) | assumption)
                          have q10 : x6_2 < (x0_1.size : Int) := of_decide_eq_true (by first | (with_reducible assumption) | assumption)
                          have hx10 := bt_at x0_1 x6_2
                          replace p10 := eq_true p10
                          replace q10 := eq_true q10
                          go_wp2
                          repeat (go_quiet (fail); try go_wp2)
                          go_ret3
                          exact ⟨by first | rfl | (simp; done) | (simp [*]; done), by repeat (first | exact Drawn0.refl _ | apply Drawn0.step)⟩
                        · rw [if_neg c18] at H
                          exact absurd H (by simp)
                    · rw [if_neg c15] at H
                      have c15b0 : ((bt x0_1 x6_2) == 42) = false := beq_eq_false_iff_ne.mpr c15
                      have c15b1 : ((bt x0_1 x6_2) != 42) = true := bne_iff_ne.mpr c15
                      have H' := Aside0.mk H
                      clear H
                      have p10 : 0 ≤ (x6_2 : Int) := of_decide_eq_true (by first | (with_reducible assumption) | assumption)
                      have q10 : x6_2 < (x0_1.size : Int) := of_decide_eq_true (by first | (with_reducible assumption) | assumption)
                      have hx10 := bt_at x0_1 x6_2
                      replace p10 := eq_true p10
                      replace q10 := eq_true q10
                      go_wp2
                      repeat (go_quiet (fail); try go_wp2)
                      go_roundg k2
                      case measure => have := HJ1.out; have := HK2.out; omega
                      case rel => exact ⟨(x2_2), (x5_2), (wrap64 (x6_2 + 1)), (by first | rfl | (simp; done) | (simp [*]; done)), (by first | rfl | (simp; done) | (simp [*]; done)), (by first | rfl | (simp; done) | (simp [*]; done)), H', ⟨by have := HJ1.out; have := HK2.out; omega⟩, by repeat (first | exact Drawn0.refl _ | apply Drawn0.step)⟩
            · rw [if_neg c9] at H
              exact absurd H (by simp)
          · rw [if_neg c8] at H
            have c8b0 : decide (x6_2 < (x0_1.size : Int)) = false := decide_eq_false c8
            clear c8
            simp only [Option.some.injEq, Prod.mk.injEq] at H
            obtain ⟨rfl, rfl, rfl⟩ := H
            go_wp2
            repeat (go_quiet (fail); try go_wp2)
            go_ret3
            exact ⟨by first | rfl | (simp; done) | (simp [*]; done), by repeat (first | exact Drawn0.refl _ | apply Drawn0.step)⟩

/-! ### utf8_decodeRuneInStringSlow: function 53 -/
def utf8_decodeRuneInStringSlow.f (a0 : ByteArray) : Option (Int × Int) := if (a0.size : Int) < 1 then (some (65533, 0)) else (if 0 < (a0.size : Int) then (none) else (none))
set_option maxHeartbeats 8000000 in
set_option maxRecDepth 100000 in
theorem utf8_decodeRuneInStringSlow.calls (a0 : ByteArray) (r1 : Int) (r2 : Int) (w : World) (h : utf8_decodeRuneInStringSlow.f a0 = some (r1, r2)) :
    Calls Try.prog 53 #[.string a0] w fun e w' => e = .returned (.tuple #[.int .i32 r1, .int .i64 r2]) ∧ Below w.heap.size w w' := by
  have hu89 := Try.underlying89
  have HB := Aside0.mk (Below.refl w.heap.size w)
  have H : (if (a0.size : Int) < 1 then (some (65533, 0)) else (if 0 < (a0.size : Int) then (none) else (none))) = some (r1, r2) := h
  clear h
  by_cases c2 : (a0.size : Int) < 1
  · rw [if_pos c2] at H
    have c2b0 : decide ((a0.size : Int) < 1) = true := decide_eq_true c2
    have c2b1 : decide (a0.size < 1) = true := decide_eq_true (by omega)
    clear c2
    simp only [Option.some.injEq, Prod.mk.injEq] at H
    obtain ⟨rfl, rfl⟩ := H
    go_enter Try.func53, Try.ntmps53
    go_wp2
    go_ret2
    exact ⟨by first | rfl | (simp [errW_none, errW_some] <;> rfl) | (simp [*, errW_none, errW_some] <;> rfl), by repeat (first | (with_reducible first | exact HB.out | apply below_alloc | apply pw_below_drewN | apply below_drew1) | exact HB.out)⟩
  · rw [if_neg c2] at H
    have c2b0 : decide ((a0.size : Int) < 1) = false := decide_eq_false c2
    have c2b1 : decide (a0.size < 1) = false := decide_eq_false (by omega)
    clear c2
    by_cases c3 : 0 < (a0.size : Int)
    · rw [if_pos c3] at H
      have c3b0 : decide (0 < (a0.size : Int)) = true := decide_eq_true c3
      have c3b1 : decide (0 < a0.size) = true := decide_eq_true (by omega)
      clear c3
      exact absurd H (by simp)
    · rw [if_neg c3] at H
      exact absurd H (by simp)

/-! ### utf8_DecodeRuneInString: function 51 -/
def utf8_DecodeRuneInString.f (a0 : ByteArray) : Option (Int × Int) := if a0.toList = ([] : List UInt8) then ((utf8_decodeRuneInStringSlow.f a0).bind fun bt191 => (some (bt191.1, bt191.2))) else (if 0 < (a0.size : Int) then (if (bt a0 0) < 128 then (some (wrap32 (bt a0 0), 1)) else ((utf8_decodeRuneInStringSlow.f a0).bind fun bt193 => (some (bt193.1, bt193.2)))) else (none))
set_option maxHeartbeats 8000000 in
set_option maxRecDepth 100000 in
theorem utf8_DecodeRuneInString.calls (a0 : ByteArray) (r1 : Int) (r2 : Int) (w : World) (h : utf8_DecodeRuneInString.f a0 = some (r1, r2)) :
    Calls Try.prog 51 #[.string a0] w fun e w' => e = .returned (.tuple #[.int .i32 r1, .int .i64 r2]) ∧ Below w.heap.size w w' := by
  have HB := Aside0.mk (Below.refl w.heap.size w)
  have H : (if a0.toList = ([] : List UInt8) then ((utf8_decodeRuneInStringSlow.f a0).bind fun bt191 => (some (bt191.1, bt191.2))) else (if 0 < (a0.size : Int) then (if (bt a0 0) < 128 then (some (wrap32 (bt a0 0), 1)) else ((utf8_decodeRuneInStringSlow.f a0).bind fun bt193 => (some (bt193.1, bt193.2)))) else (none))) = some (r1, r2) := h
  clear h
  by_cases c2 : a0.toList = ([] : List UInt8)
  · rw [if_pos c2] at H
    have c2b0 : (a0.toList == ([] : List UInt8)) = true := beq_iff_eq.mpr c2
    have c2b1 : (a0.toList != ([] : List UInt8)) = false := bne_eq_false_iff_eq.mpr c2
    clear c2
    replace H := Option.bind_eq_some_iff.mp H
    obtain ⟨⟨t191, t192⟩, A30, H⟩ := H
    replace H : (some (t191, t192)) = some (r1, r2) := H
    have A3 := Aside0.mk A30
    clear A30
    simp only [Option.some.injEq, Prod.mk.injEq] at H
    obtain ⟨rfl, rfl⟩ := H
    go_enter Try.func51, Try.ntmps51
    go_wp2_with (first | ((with_reducible refine gate_callee (f := 53) rfl ?_); refine goesL_ (some 16) rfl rfl Try.func53 (by kernel_rfl) rfl #[.string a0] rfl (by (try simp only [List.map_toArray, List.map_cons, List.map_nil]); first | done | rfl | (simp only [List.length_drop, List.length_take]; rfl)) ?_; (with_reducible refine (utf8_decodeRuneInStringSlow.calls a0 t191 t192 _ A3.out).mono ?_); rintro e w4 ⟨rfl, hb⟩; refine ⟨_, rfl, ?_⟩; have n0_ := Aside0.mk (below_step (by repeat (first | (with_reducible first | exact HB.out | apply below_alloc | apply pw_below_drewN | apply below_drew1) | exact HB.out)) hb); clear HB; have HB := n0_; clear n0_; (try clear hb); (try clear hb2); (try clear hk); (try clear hi)))
    go_ret2
    exact ⟨by first | rfl | (simp [errW_none, errW_some] <;> rfl) | (simp [*, errW_none, errW_some] <;> rfl), by repeat (first | (with_reducible first | exact HB.out | apply below_alloc | apply pw_below_drewN | apply below_drew1) | exact HB.out)⟩
  · rw [if_neg c2] at H
    have c2b0 : (a0.toList == ([] : List UInt8)) = false := beq_eq_false_iff_ne.mpr c2
    have c2b1 : (a0.toList != ([] : List UInt8)) = true := bne_iff_ne.mpr c2
    by_cases c5 : 0 < (a0.size : Int)
    · rw [if_pos c5] at H
      have c5b0 : decide (0 < (a0.size : Int)) = true := decide_eq_true c5
      have c5b1 : decide (0 < a0.size) = true := decide_eq_true (by omega)
      clear c5
      by_cases c7 : (bt a0 0) < 128
      · rw [if_pos c7] at H
        have c7b0 : decide ((bt a0 0) < 128) = true := decide_eq_true c7
        clear c7
        simp only [Option.some.injEq, Prod.mk.injEq] at H
        obtain ⟨rfl, rfl⟩ := H
        have p6 : 0 ≤ (0 : Int) := (by omega)
        have q6 : 0 < a0.size := (by have : (0 : Int) < (a0.size : Int) := of_decide_eq_true (by first | (with_reducible assumption) | assumption); omega)
        have hx6 : ∀ h : 0 < a0.size, ((a0[0]'h).toNat : Int) = bt a0 0 := bt_at a0 0
        clear p6
        have qi6 : (0 < (a0.size : Int)) = True := eq_true (of_decide_eq_true (by first | (with_reducible assumption) | assumption))
        replace q6 := eq_true q6
        have p8 : 0 ≤ (0 : Int) := (by omega)
        have q8 : 0 < a0.size := (by have : (0 : Int) < (a0.size : Int) := of_decide_eq_true (by first | (with_reducible assumption) | assumption); omega)
        have hx8 : ∀ h : 0 < a0.size, ((a0[0]'h).toNat : Int) = bt a0 0 := bt_at a0 0
        clear p8
        have qi8 : (0 < (a0.size : Int)) = True := eq_true (of_decide_eq_true (by first | (with_reducible assumption) | assumption))
        replace q8 := eq_true q8
        go_enter Try.func51, Try.ntmps51
        go_wp2
        go_ret2
        exact ⟨by first | rfl | (simp [errW_none, errW_some] <;> rfl) | (simp [*, errW_none, errW_some] <;> rfl), by repeat (first | (with_reducible first | exact HB.out | apply below_alloc | apply pw_below_drewN | apply below_drew1) | exact HB.out)⟩
      · rw [if_neg c7] at H
        have c7b0 : decide ((bt a0 0) < 128) = false := decide_eq_false c7
        clear c7
        replace H := Option.bind_eq_some_iff.mp H
        obtain ⟨⟨t193, t194⟩, A90, H⟩ := H
        replace H : (some (t193, t194)) = some (r1, r2) := H
        have A9 := Aside0.mk A90
        clear A90
        simp only [Option.some.injEq, Prod.mk.injEq] at H
        obtain ⟨rfl, rfl⟩ := H
        have p6 : 0 ≤ (0 : Int) := (by omega)
        have q6 : 0 < a0.size := (by have : (0 : Int) < (a0.size : Int) := of_decide_eq_true (by first | (with_reducible assumption) | assumption); omega)
        have hx6 : ∀ h : 0 < a0.size, ((a0[0]'h).toNat : Int) = bt a0 0 := bt_at a0 0
        clear p6
        have qi6 : (0 < (a0.size : Int)) = True := eq_true (of_decide_eq_true (by first | (with_reducible assumption) | assumption))
        replace q6 := eq_true q6
        go_enter Try.func51, Try.ntmps51
        go_wp2_with (first | ((with_reducible refine gate_callee (f := 53) rfl ?_); refine goesL_ (some 16) rfl rfl Try.func53 (by kernel_rfl) rfl #[.string a0] rfl (by (try simp only [List.map_toArray, List.map_cons, List.map_nil]); first | done | rfl | (simp only [List.length_drop, List.length_take]; rfl)) ?_; (with_reducible refine (utf8_decodeRuneInStringSlow.calls a0 t193 t194 _ A9.out).mono ?_); rintro e w10 ⟨rfl, hb⟩; refine ⟨_, rfl, ?_⟩; have n0_ := Aside0.mk (below_step (by repeat (first | (with_reducible first | exact HB.out | apply below_alloc | apply pw_below_drewN | apply below_drew1) | exact HB.out)) hb); clear HB; have HB := n0_; clear n0_; (try clear hb); (try clear hb2); (try clear hk); (try clear hi)))
        go_ret2
        exact ⟨by first | rfl | (simp [errW_none, errW_some] <;> rfl) | (simp [*, errW_none, errW_some] <;> rfl), by repeat (first | (with_reducible first | exact HB.out | apply below_alloc | apply pw_below_drewN | apply below_drew1) | exact HB.out)⟩
    · rw [if_neg c5] at H
      exact absurd H (by simp)

/-! ### path_getEsc: function 52 -/
def path_getEsc.f (a0 : ByteArray) : Option (Int × ByteArray × Option Int) := none
set_option maxHeartbeats 8000000 in
set_option maxRecDepth 100000 in
theorem path_getEsc.calls (a0 : ByteArray) (r1 : Int) (r2 : ByteArray) (r3 : Option Int) (w : World) (h : path_getEsc.f a0 = some (r1, r2, r3)) :
    Calls Try.prog 52 #[.string a0] w fun e w' => e = .returned (.tuple #[.int .i32 r1, .string r2, errW r3]) ∧ Below w.heap.size w w' := by
  have HB := Aside0.mk (Below.refl w.heap.size w)
  have H : (none) = some (r1, r2, r3) := h
  clear h
  exact absurd H (by simp)

/-! ### path_matchChunk: function 50 -/
mutual
def path_matchChunk.l0 : Nat → ByteArray → ByteArray → Bool → Option (ByteArray × Bool × Option Int)
  | 0, _, _, _ => none
  | k + 1, x0, x1, x7 => if (x0.size : Int) > 0 then (if x7 = true then (path_matchChunk.j1 k x0 x1 true) else (path_matchChunk.j1 k x0 x1 ((x1.size : Int) == 0))) else (if x7 = true then (some ((⟨#[]⟩ : ByteArray), false, none)) else (some (x1, true, none)))
def path_matchChunk.j1 : Nat → ByteArray → ByteArray → Bool → Option (ByteArray × Bool × Option Int)
  | 0, _, _, _ => none
  | k + 1, x0, x1, x7 => if 0 < (x0.size : Int) then (if (bt x0 0) = 91 then (none) else (if (bt x0 0) = 63 then (if x7 = true then (if 1 ≤ (x0.size : Int) then (path_matchChunk.l0 k (x0.extract 1 x0.size) x1 x7) else (none)) else (if 0 < (x1.size : Int) then ((utf8_DecodeRuneInString.f x1).bind fun bt195 => (if 0 ≤ bt195.2 then (if bt195.2 ≤ (x1.size : Int) then (if 1 ≤ (x0.size : Int) then (path_matchChunk.l0 k (x0.extract 1 x0.size) (x1.extract (bt195.2 : Int).toNat x1.size) ((bt x1 0) == 47)) else (none)) else (none)) else (none))) else (none))) else (if (bt x0 0) = 92 then (none) else (if x7 = true then (if 1 ≤ (x0.size : Int) then (path_matchChunk.l0 k (x0.extract 1 x0.size) x1 x7) else (none)) else (if 0 < (x1.size : Int) then (if 1 ≤ (x1.size : Int) then (if 1 ≤ (x0.size : Int) then (path_matchChunk.l0 k (x0.extract 1 x0.size) (x1.extract 1 x1.size) ((bt x0 0) != (bt x1 0))) else (none)) else (none)) else (none)))))) else (none)
end
def path_matchChunk.f (k : Nat) (a0 : ByteArray) (a1 : ByteArray) : Option (ByteArray × Bool × Option Int) := path_matchChunk.l0 k a0 a1 false
theorem path_matchChunk.mono_l : ∀ k, (∀ y0 y1 y2, LeO (path_matchChunk.l0 k y0 y1 y2) (path_matchChunk.l0 (k + 1) y0 y1 y2)) ∧ (∀ y0 y1 y2, LeO (path_matchChunk.j1 k y0 y1 y2) (path_matchChunk.j1 (k + 1) y0 y1 y2))
  | 0 => ⟨fun _ _ _ r h => by simp [path_matchChunk.l0] at h, fun _ _ _ r h => by simp [path_matchChunk.j1] at h⟩
  | k + 1 => by
    obtain ⟨ih0, ih1⟩ := path_matchChunk.mono_l k
    refine ⟨?_, ?_⟩
    · intro y0 y1 y2
      unfold path_matchChunk.l0
      repeat' first
      | (with_reducible exact ih0 _ _ _)
      | (with_reducible exact ih1 _ _ _)
      | (with_reducible exact LeO.refl _)
      | (with_reducible exact LeO.none _)
      | (with_reducible refine LeO.ite ?_ ?_)
      | (with_reducible refine LeO.bind ?_ (fun _ => ?_))
      | exact ih0 _ _ _
      | exact ih1 _ _ _
      | exact LeO.none _
      | refine LeO.ite ?_ ?_
      | refine LeO.bind ?_ (fun _ => ?_)
    · intro y0 y1 y2
      unfold path_matchChunk.j1
      repeat' first
      | (with_reducible exact ih0 _ _ _)
      | (with_reducible exact ih1 _ _ _)
      | (with_reducible exact LeO.refl _)
      | (with_reducible exact LeO.none _)
      | (with_reducible refine LeO.ite ?_ ?_)
      | (with_reducible refine LeO.bind ?_ (fun _ => ?_))
      | exact ih0 _ _ _
      | exact ih1 _ _ _
      | exact LeO.none _
      | refine LeO.ite ?_ ?_
      | refine LeO.bind ?_ (fun _ => ?_)
theorem path_matchChunk.mono : ∀ a0 a1 k, LeO (path_matchChunk.f k a0 a1) (path_matchChunk.f (k + 1) a0 a1) := by
  intro a0 a1 k
  obtain ⟨ih0, ih1⟩ := path_matchChunk.mono_l k
  unfold path_matchChunk.f
  repeat' first
      | (with_reducible exact ih0 _ _ _)
      | (with_reducible exact ih1 _ _ _)
      | (with_reducible exact LeO.refl _)
      | (with_reducible exact LeO.none _)
      | (with_reducible refine LeO.ite ?_ ?_)
      | (with_reducible refine LeO.bind ?_ (fun _ => ?_))
      | exact ih0 _ _ _
      | exact ih1 _ _ _
      | exact LeO.none _
      | refine LeO.ite ?_ ?_
      | refine LeO.bind ?_ (fun _ => ?_)
set_option maxHeartbeats 8000000 in
set_option maxRecDepth 100000 in
theorem path_matchChunk.calls (k : Nat) (a0 : ByteArray) (a1 : ByteArray) (r1 : ByteArray) (r2 : Bool) (r3 : Option Int) (w : World) (h : path_matchChunk.f k a0 a1 = some (r1, r2, r3)) :
    Calls Try.prog 50 #[.string a0, .string a1] w fun e w' => e = .returned (.tuple #[.string r1, .bool r2, errW r3]) ∧ Below w.heap.size w w' := by
  have hu74 := Try.underlying74
  have HB := Aside0.mk (Below.refl w.heap.size w)
  have H : (path_matchChunk.l0 k a0 a1 false) = some (r1, r2, r3) := h
  clear h
  have H' := Aside0.mk H
  clear H
  go_enter Try.func50, Try.ntmps50
  go_wp2
  repeat (go_quiet (fail); try go_wp2)
  go_loopg [0, 1, 7] k (fun kq v0 v1 v7 w' => ∃ (x0_1 : ByteArray) (x1_1 : ByteArray) (x7_1 : Bool), v0 = .string x0_1 ∧ v1 = .string x1_1 ∧ v7 = .bool x7_1 ∧ Aside0 (path_matchChunk.l0 kq x0_1 x1_1 x7_1 = some (r1, r2, r3)) ∧ Aside0 (kq ≤ k) ∧ Aside0 (Below w.heap.size w w'))
  case atStart => exact ⟨(a0), (a1), (false), (by first | rfl | (simp; done) | (simp [*]; done)), (by first | rfl | (simp; done) | (simp [*]; done)), (by first | rfl | (simp; done) | (simp [*]; done)), H', ⟨Nat.le_refl _⟩, ⟨by repeat (first | (with_reducible first | exact HB.out | apply below_alloc | apply pw_below_drewN | apply below_drew1) | exact HB.out)⟩⟩
  case round =>
    clear H'
    try clear p2
    obtain ⟨x0_1, x1_1, x7_1, rfl, rfl, rfl, HA, HK1, HB⟩ := hrel
    cases gk with
    | zero => exact absurd HA.out (by simp [path_matchChunk.l0])
    | succ k1 =>
      have H := HA.out
      clear HA
      simp only [path_matchChunk.l0] at H
      by_cases c3 : (x0_1.size : Int) > 0
      · rw [if_pos c3] at H
        have c3b0 : decide (0 < (x0_1.size : Int)) = true := decide_eq_true c3
        have c3b1 : decide (0 < x0_1.size) = true := decide_eq_true (by omega)
        clear c3
        have HC4 := Aside0.mk H
        clear H
        go_upto_region 3 with (fail)
        repeat (go_quiet (fail); go_upto_region 3 with (fail))
        go_cut [7] (fun v7 wc => ∃ (kq : Nat) (x7_3 : Bool), v7 = .bool x7_3 ∧ Aside0 (path_matchChunk.j1 kq x0_1 x1_1 x7_3 = some (r1, r2, r3)) ∧ Aside0 (kq ≤ k1) ∧ Aside0 (Below w.heap.size w wc))
        case first =>
          have H := HC4.out
          clear HC4
          by_cases c5 : x7_1 = true
          · subst c5
            have H1 : (path_matchChunk.j1 k1 x0_1 x1_1 true) = some (r1, r2, r3) := by rw [if_pos rfl] at H; exact H
            clear H
            have H := H1
            clear H1
            have H' := Aside0.mk H
            clear H
            go_wp2
            repeat (go_quiet (fail); try go_wp2)
            go_meet
            case rel => exact ⟨_, (true), (by first | rfl | (simp; done) | (simp [*]; done)), H', ⟨by have := HK1.out; first | omega | exact Nat.le_refl _⟩, ⟨by repeat (first | (with_reducible first | exact HB.out | apply below_alloc | apply pw_below_drewN | apply below_drew1) | exact HB.out)⟩⟩
          · replace c5 := Bool.eq_false_iff.mpr c5
            subst c5
            have H1 : (path_matchChunk.j1 k1 x0_1 x1_1 ((x1_1.size : Int) == 0)) = some (r1, r2, r3) := by rw [if_neg (show ¬ (false = true) by decide)] at H; exact H
            clear H
            have H := H1
            clear H1
            have H' := Aside0.mk H
            clear H
            go_wp2
            repeat (go_quiet (fail); try go_wp2)
            go_meet
            case rel => exact ⟨_, (((x1_1.size : Int) == 0)), (by first | rfl | (simp; done) | (simp [*]; done)), H', ⟨by have := HK1.out; first | omega | exact Nat.le_refl _⟩, ⟨by repeat (first | (with_reducible first | exact HB.out | apply below_alloc | apply pw_below_drewN | apply below_drew1) | exact HB.out)⟩⟩
        case rest =>
          clear HC4
          try clear p2
          try clear c3
          try clear c3b0
          try clear c3b1
          try clear c5
          try clear p2
          obtain ⟨kq, x7_3, rfl, HA, HJ3, HB⟩ := hcut
          cases kq with
          | zero => exact absurd HA.out (by simp [path_matchChunk.j1])
          | succ kj3 =>
            have H := HA.out
            clear HA
            simp only [path_matchChunk.j1] at H
            by_cases c6 : 0 < (x0_1.size : Int)
            · rw [if_pos c6] at H
              have c6b0 : decide (0 < (x0_1.size : Int)) = true := decide_eq_true c6
              have c6b1 : decide (0 < x0_1.size) = true := decide_eq_true (by omega)
              clear c6
              by_cases c8 : (bt x0_1 0) = 91
              · rw [if_pos c8] at H
                exact absurd H (by simp)
              · rw [if_neg c8] at H
                have c8b0 : ((bt x0_1 0) == 91) = false := beq_eq_false_iff_ne.mpr c8
                have c8b1 : ((bt x0_1 0) != 91) = true := bne_iff_ne.mpr c8
                by_cases c9 : (bt x0_1 0) = 63
                · rw [if_pos c9] at H
                  have c9b0 : ((bt x0_1 0) == 63) = true := beq_iff_eq.mpr c9
                  have c9b1 : ((bt x0_1 0) != 63) = false := bne_eq_false_iff_eq.mpr c9
                  clear c9
                  by_cases c10 : x7_3 = true
                  · subst c10
                    have H1 : (if 1 ≤ (x0_1.size : Int) then (path_matchChunk.l0 kj3 (x0_1.extract 1 x0_1.size) x1_1 true) else (none)) = some (r1, r2, r3) := by rw [if_pos rfl] at H; exact H
                    clear H
                    have H := H1
                    clear H1
                    by_cases c11 : 1 ≤ (x0_1.size : Int)
                    · rw [if_pos c11] at H
                      have c11b0 := eq_true c11
                      have c11b1 : decide (1 ≤ (x0_1.size : Int)) = true := decide_eq_true c11
                      clear c11
                      have H' := Aside0.mk H
                      clear H
                      have p7 : 0 ≤ (0 : Int) := (by omega)
                      have q7 : 0 < x0_1.size := (by have : (0 : Int) < (x0_1.size : Int) := of_decide_eq_true (by first | (with_reducible assumption) | assumption); omega)
                      have hx7 : ∀ h : 0 < x0_1.size, ((x0_1[0]'h).toNat : Int) = bt x0_1 0 := bt_at x0_1 0
                      clear p7
                      have qi7 : (0 < (x0_1.size : Int)) = True := eq_true (of_decide_eq_true (by first | (with_reducible assumption) | assumption))
                      replace q7 := eq_true q7
                      go_wp2
                      repeat (go_quiet (fail); try go_wp2)
                      go_roundg kj3
                      case measure => have := HK1.out; have := HJ3.out; omega
                      case rel => exact ⟨(x0_1.extract 1 x0_1.size), (x1_1), (true), (by first | rfl | (simp; done) | (simp [*]; done)), (by first | rfl | (simp; done) | (simp [*]; done)), (by first | rfl | (simp; done) | (simp [*]; done)), H', ⟨by have := HK1.out; have := HJ3.out; omega⟩, ⟨by repeat (first | (with_reducible first | exact HB.out | apply below_alloc | apply pw_below_drewN | apply below_drew1) | exact HB.out)⟩⟩
                    · rw [if_neg c11] at H
                      exact absurd H (by simp)
                  · replace c10 := Bool.eq_false_iff.mpr c10
                    subst c10
                    have H1 : (if 0 < (x1_1.size : Int) then ((utf8_DecodeRuneInString.f x1_1).bind fun bt195 => (if 0 ≤ bt195.2 then (if bt195.2 ≤ (x1_1.size : Int) then (if 1 ≤ (x0_1.size : Int) then (path_matchChunk.l0 kj3 (x0_1.extract 1 x0_1.size) (x1_1.extract (bt195.2 : Int).toNat x1_1.size) ((bt x1_1 0) == 47)) else (none)) else (none)) else (none))) else (none)) = some (r1, r2, r3) := by rw [if_neg (show ¬ (false = true) by decide)] at H; exact H
                    clear H
                    have H := H1
                    clear H1
                    by_cases c12 : 0 < (x1_1.size : Int)
                    · rw [if_pos c12] at H
                      have c12b0 : decide (0 < (x1_1.size : Int)) = true := decide_eq_true c12
                      have c12b1 : decide (0 < x1_1.size) = true := decide_eq_true (by omega)
                      clear c12
                      replace H := Option.bind_eq_some_iff.mp H
                      obtain ⟨⟨t195, t196⟩, A140, H⟩ := H
                      replace H : (if 0 ≤ t196 then (if t196 ≤ (x1_1.size : Int) then (if 1 ≤ (x0_1.size : Int) then (path_matchChunk.l0 kj3 (x0_1.extract 1 x0_1.size) (x1_1.extract (t196 : Int).toNat x1_1.size) ((bt x1_1 0) == 47)) else (none)) else (none)) else (none)) = some (r1, r2, r3) := H
                      have A14 := Aside0.mk A140
                      clear A140
                      by_cases c15 : 0 ≤ t196
                      · rw [if_pos c15] at H
                        have c15b0 := eq_true c15
                        have c15b1 : decide (0 ≤ t196) = true := decide_eq_true c15
                        clear c15
                        by_cases c16 : t196 ≤ (x1_1.size : Int)
                        · rw [if_pos c16] at H
                          have c16b0 := eq_true c16
                          have c16b1 : decide (t196 ≤ (x1_1.size : Int)) = true := decide_eq_true c16
                          clear c16
                          by_cases c17 : 1 ≤ (x0_1.size : Int)
                          · rw [if_pos c17] at H
                            have c17b0 := eq_true c17
                            have c17b1 : decide (1 ≤ (x0_1.size : Int)) = true := decide_eq_true c17
                            clear c17
                            have H' := Aside0.mk H
                            clear H
                            have p7 : 0 ≤ (0 : Int) := (by omega)
                            have q7 : 0 < x0_1.size := (by have : (0 : Int) < (x0_1.size : Int) := of_decide_eq_true (by first | (with_reducible assumption) | assumption); omega)
                            have hx7 : ∀ h : 0 < x0_1.size, ((x0_1[0]'h).toNat : Int) = bt x0_1 0 := bt_at x0_1 0
                            clear p7
                            have qi7 : (0 < (x0_1.size : Int)) = True := eq_true (of_decide_eq_true (by first | (with_reducible assumption) | assumption))
                            replace q7 := eq_true q7
                            have p13 : 0 ≤ (0 : Int) := (by omega)
                            have q13 : 0 < x1_1.size := (by have : (0 : Int) < (x1_1.size : Int) := of_decide_eq_true (by first | (with_reducible assumption) | assumption); omega)
                            have hx13 : ∀ h : 0 < x1_1.size, ((x1_1[0]'h).toNat : Int) = bt x1_1 0 := bt_at x1_1 0
                            clear p13
                            have qi13 : (0 < (x1_1.size : Int)) = True := eq_true (of_decide_eq_true (by first | (with_reducible assumption) | assumption))
                            replace q13 := eq_true q13
                            go_wp2_with (first | (go_at_call 51; (with_reducible refine (utf8_DecodeRuneInString.calls x1_1 t195 t196 _ A14.out).mono ?_); rintro e w18 ⟨rfl, hb⟩; have n0_ := Aside0.mk (below_step (by repeat (first | (with_reducible first | exact HB.out | apply below_alloc | apply pw_below_drewN | apply below_drew1) | exact HB.out)) hb); clear HB; have HB := n0_; clear n0_; (try clear hb); (try clear hb2); (try clear hk); (try clear hi)))
                            repeat (go_quiet (first | (go_at_call 51; (with_reducible refine (utf8_DecodeRuneInString.calls x1_1 t195 t196 _ A14.out).mono ?_); rintro e w18 ⟨rfl, hb⟩; have n0_ := Aside0.mk (below_step (by repeat (first | (with_reducible first | exact HB.out | apply below_alloc | apply pw_below_drewN | apply below_drew1) | exact HB.out)) hb); clear HB; have HB := n0_; clear n0_; (try clear hb); (try clear hb2); (try clear hk); (try clear hi))); try go_wp2_with (first | (go_at_call 51; (with_reducible refine (utf8_DecodeRuneInString.calls x1_1 t195 t196 _ A14.out).mono ?_); rintro e w18 ⟨rfl, hb⟩; have n0_ := Aside0.mk (below_step (by repeat (first | (with_reducible first | exact HB.out | apply below_alloc | apply pw_below_drewN | apply below_drew1) | exact HB.out)) hb); clear HB; have HB := n0_; clear n0_; (try clear hb); (try clear hb2); (try clear hk); (try clear hi))))
                            go_roundg kj3
                            case measure => have := HK1.out; have := HJ3.out; omega
                            case rel => exact ⟨(x0_1.extract 1 x0_1.size), (x1_1.extract (t196 : Int).toNat x1_1.size), (((bt x1_1 0) == 47)), (by first | rfl | (simp; done) | (simp [*]; done)), (by first | rfl | (simp; done) | (simp [*]; done)), (by first | rfl | (simp; done) | (simp [*]; done)), H', ⟨by have := HK1.out; have := HJ3.out; omega⟩, ⟨by repeat (first | (with_reducible first | exact HB.out | apply below_alloc | apply pw_below_drewN | apply below_drew1) | exact HB.out)⟩⟩
                          · rw [if_neg c17] at H
                            exact absurd H (by simp)
                        · rw [if_neg c16] at H
                          exact absurd H (by simp)
                      · rw [if_neg c15] at H
                        exact absurd H (by simp)
                    · rw [if_neg c12] at H
                      exact absurd H (by simp)
                · rw [if_neg c9] at H
                  have c9b0 : ((bt x0_1 0) == 63) = false := beq_eq_false_iff_ne.mpr c9
                  have c9b1 : ((bt x0_1 0) != 63) = true := bne_iff_ne.mpr c9
                  by_cases c19 : (bt x0_1 0) = 92
                  · rw [if_pos c19] at H
                    exact absurd H (by simp)
                  · rw [if_neg c19] at H
                    have c19b0 : ((bt x0_1 0) == 92) = false := beq_eq_false_iff_ne.mpr c19
                    have c19b1 : ((bt x0_1 0) != 92) = true := bne_iff_ne.mpr c19
                    by_cases c20 : x7_3 = true
                    · subst c20
                      have H1 : (if 1 ≤ (x0_1.size : Int) then (path_matchChunk.l0 kj3 (x0_1.extract 1 x0_1.size) x1_1 true) else (none)) = some (r1, r2, r3) := by rw [if_pos rfl] at H; exact H
                      clear H
                      have H := H1
                      clear H1
                      by_cases c21 : 1 ≤ (x0_1.size : Int)
                      · rw [if_pos c21] at H
                        have c21b0 := eq_true c21
                        have c21b1 : decide (1 ≤ (x0_1.size : Int)) = true := decide_eq_true c21
                        clear c21
                        have H' := Aside0.mk H
                        clear H
                        have p7 : 0 ≤ (0 : Int) := (by omega)
                        have q7 : 0 < x0_1.size := (by have : (0 : Int) < (x0_1.size : Int) := of_decide_eq_true (by first | (with_reducible assumption) | assumption); omega)
                        have hx7 : ∀ h : 0 < x0_1.size, ((x0_1[0]'h).toNat : Int) = bt x0_1 0 := bt_at x0_1 0
                        clear p7
                        have qi7 : (0 < (x0_1.size : Int)) = True := eq_true (of_decide_eq_true (by first | (with_reducible assumption) | assumption))
                        replace q7 := eq_true q7
                        go_wp2
                        repeat (go_quiet (fail); try go_wp2)
                        go_roundg kj3
                        case measure => have := HK1.out; have := HJ3.out; omega
                        case rel => exact ⟨(x0_1.extract 1 x0_1.size), (x1_1), (true), (by first | rfl | (simp; done) | (simp [*]; done)), (by first | rfl | (simp; done) | (simp [*]; done)), (by first | rfl | (simp; done) | (simp [*]; done)), H', ⟨by have := HK1.out; have := HJ3.out; omega⟩, ⟨by repeat (first | (with_reducible first | exact HB.out | apply below_alloc | apply pw_below_drewN | apply below_drew1) | exact HB.out)⟩⟩
                      · rw [if_neg c21] at H
                        exact absurd H (by simp)
                    · replace c20 := Bool.eq_false_iff.mpr c20
                      subst c20
                      have H1 : (if 0 < (x1_1.size : Int) then (if 1 ≤ (x1_1.size : Int) then (if 1 ≤ (x0_1.size : Int) then (path_matchChunk.l0 kj3 (x0_1.extract 1 x0_1.size) (x1_1.extract 1 x1_1.size) ((bt x0_1 0) != (bt x1_1 0))) else (none)) else (none)) else (none)) = some (r1, r2, r3) := by rw [if_neg (show ¬ (false = true) by decide)] at H; exact H
                      clear H
                      have H := H1
                      clear H1
                      by_cases c23 : 0 < (x1_1.size : Int)
                      · rw [if_pos c23] at H
                        have c23b0 : decide (0 < (x1_1.size : Int)) = true := decide_eq_true c23
                        have c23b1 : decide (0 < x1_1.size) = true := decide_eq_true (by omega)
                        clear c23
                        by_cases c25 : 1 ≤ (x1_1.size : Int)
                        · rw [if_pos c25] at H
                          have c25b0 := eq_true c25
                          have c25b1 : decide (1 ≤ (x1_1.size : Int)) = true := decide_eq_true c25
                          clear c25
                          by_cases c26 : 1 ≤ (x0_1.size : Int)
                          · rw [if_pos c26] at H
                            have c26b0 := eq_true c26
                            have c26b1 : decide (1 ≤ (x0_1.size : Int)) = true := decide_eq_true c26
                            clear c26
                            have H' := Aside0.mk H
                            clear H
                            have p7 : 0 ≤ (0 : Int) := (by omega)
                            have q7 : 0 < x0_1.size := (by have : (0 : Int) < (x0_1.size : Int) := of_decide_eq_true (by first | (with_reducible assumption) | assumption); omega)
                            have hx7 : ∀ h : 0 < x0_1.size, ((x0_1[0]'h).toNat : Int) = bt x0_1 0 := bt_at x0_1 0
                            clear p7
                            have qi7 : (0 < (x0_1.size : Int)) = True := eq_true (of_decide_eq_true (by first | (with_reducible assumption) | assumption))
                            replace q7 := eq_true q7
                            have p22 : 0 ≤ (0 : Int) := (by omega)
                            have q22 : 0 < x0_1.size := (by have : (0 : Int) < (x0_1.size : Int) := of_decide_eq_true (by first | (with_reducible assumption) | assumption); omega)
                            have hx22 : ∀ h : 0 < x0_1.size, ((x0_1[0]'h).toNat : Int) = bt x0_1 0 := bt_at x0_1 0
                            clear p22
                            have qi22 : (0 < (x0_1.size : Int)) = True := eq_true (of_decide_eq_true (by first | (with_reducible assumption) | assumption))
                            replace q22 := eq_true q22
                            have p24 : 0 ≤ (0 : Int) := (by omega)
                            have q24 : 0 < x1_1.size := (by have : (0 : Int) < (x1_1.size : Int) := of_decide_eq_true (by first | (with_reducible assumption) | assumption); omega)
                            have hx24 : ∀ h : 0 < x1_1.size, ((x1_1[0]'h).toNat : Int) = bt x1_1 0 := bt_at x1_1 0
                            clear p24
                            have qi24 : (0 < (x1_1.size : Int)) = True := eq_true (of_decide_eq_true (by first | (with_reducible assumption) | assumption))
                            replace q24 := eq_true q24
                            go_wp2
                            repeat (go_quiet (fail); try go_wp2)
                            go_roundg kj3
                            case measure => have := HK1.out; have := HJ3.out; omega
                            case rel => exact ⟨(x0_1.extract 1 x0_1.size), (x1_1.extract 1 x1_1.size), (((bt x0_1 0) != (bt x1_1 0))), (by first | rfl | (simp; done) | (simp [*]; done)), (by first | rfl | (simp; done) | (simp [*]; done)), (by first | rfl | (simp; done) | (simp [*]; done)), H', ⟨by have := HK1.out; have := HJ3.out; omega⟩, ⟨by repeat (first | (with_reducible first | exact HB.out | apply below_alloc | apply pw_below_drewN | apply below_drew1) | exact HB.out)⟩⟩
                          · rw [if_neg c26] at H
                            exact absurd H (by simp)
                        · rw [if_neg c25] at H
                          exact absurd H (by simp)
                      · rw [if_neg c23] at H
                        exact absurd H (by simp)
            · rw [if_neg c6] at H
              exact absurd H (by simp)
      · rw [if_neg c3] at H
        have c3b0 : decide (0 < (x0_1.size : Int)) = false := decide_eq_false c3
        have c3b1 : decide (0 < x0_1.size) = false := decide_eq_false (by omega)
        clear c3
        by_cases c27 : x7_1 = true
        · subst c27
          have H1 : (some ((⟨#[]⟩ : ByteArray), false, none)) = some (r1, r2, r3) := by rw [if_pos rfl] at H; exact H
          clear H
          have H := H1
          clear H1
          simp only [Option.some.injEq, Prod.mk.injEq] at H
          obtain ⟨rfl, rfl, rfl⟩ := H
          go_wp2
          repeat (go_quiet (fail); try go_wp2)
          go_ret3
          exact ⟨by first | rfl | (simp [errW_none, errW_some] <;> rfl) | (simp [*, errW_none, errW_some] <;> rfl), by repeat (first | (with_reducible first | exact HB.out | apply below_alloc | apply pw_below_drewN | apply below_drew1) | exact HB.out)⟩
        · replace c27 := Bool.eq_false_iff.mpr c27
          subst c27
          have H1 : (some (x1_1, true, none)) = some (r1, r2, r3) := by rw [if_neg (show ¬ (false = true) by decide)] at H; exact H
          clear H
          have H := H1
          clear H1
          simp only [Option.some.injEq, Prod.mk.injEq] at H
          obtain ⟨rfl, rfl, rfl⟩ := H
          go_wp2
          repeat (go_quiet (fail); try go_wp2)
          go_ret3
          exact ⟨by first | rfl | (simp [errW_none, errW_some] <;> rfl) | (simp [*, errW_none, errW_some] <;> rfl), by repeat (first | (with_reducible first | exact HB.out | apply below_alloc | apply pw_below_drewN | apply below_drew1) | exact HB.out)⟩

end Go.Proofs.Ytlnfkpmmnennbaa.QAll
