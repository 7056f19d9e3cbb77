-- WRITTEN BY A PROGRAM OF THIS SESSION, out of the loaded program, with words of the kit
import Derived.Test.YtiiaghjbpcpgoaaDoorQAllx0
import Derived.Test.YtiiaghjbpcpgoaaDoorQAllx1
namespace Go.Proofs.YtiiaghjbpcpgoaaDoor.QAll
open Go.RowKit Go.Proofs.YtiiaghjbpcpgoaaDoorW.PrintWords Go.Proofs.YtiiaghjbpcpgoaaDoorW.PrintLast Go.Proofs.YtiiaghjbpcpgoaaDoorW.PrintMore
attribute [local go_sem] max2_int min2_int max_two min_two max_three min_three max_four min_four   -- for this text's walks alone
set_option linter.unusedVariables false
set_option linter.unusedSimpArgs false

/-! ### spec_readHex4: function 13 -/
mutual
def spec_readHex4.l0 : Nat → List Int → Int → Int → Option (Int × Int)
  | 0, _, _, _ => none
  | k + 1, x0, x4, x7 => if x7 < 4 then (if 0 ≤ x7 then (if x7 < (x0.length : Int) then (if (rd x0 x7) ≥ 48 then (spec_readHex4.j1 k x0 x4 (rd x0 x7) x7 (decide ((rd x0 x7) ≤ 57))) else (spec_readHex4.j1 k x0 x4 (rd x0 x7) x7 false)) else (none)) else (none)) else (some (x4, 0))
def spec_readHex4.j1 : Nat → List Int → Int → Int → Int → Bool → Option (Int × Int)
  | 0, _, _, _, _, _ => none
  | k + 1, x0, x4, x6, x7, x14 => if x14 = true then (spec_readHex4.j2 k x0 x4 x6 x7 x14) else (if x6 ≥ 97 then (spec_readHex4.j2 k x0 x4 x6 x7 (decide (x6 ≤ 102))) else (spec_readHex4.j2 k x0 x4 x6 x7 false))
def spec_readHex4.j2 : Nat → List Int → Int → Int → Int → Bool → Option (Int × Int)
  | 0, _, _, _, _, _ => none
  | k + 1, x0, x4, x6, x7, x14 => if x14 = true then ((spec_nibble.f x6).bind fun t125 => (spec_readHex4.l0 k x0 (wrap64 ((wrap64 (x4 * 16)) + (wrap64 (t125)))) (wrap64 (x7 + 1)))) else (if x6 ≥ 65 then (if x6 ≤ 70 then (some (0, 2)) else (some (0, 1))) else (some (0, 1)))
end
def spec_readHex4.f (k : Nat) (l0 : List Int) : Option (Int × Int) := spec_readHex4.l0 k l0 0 0
theorem spec_readHex4.mono_l : ∀ k, (∀ y0 y1 y2, LeO (spec_readHex4.l0 k y0 y1 y2) (spec_readHex4.l0 (k + 1) y0 y1 y2)) ∧ (∀ y0 y1 y2 y3 y4, LeO (spec_readHex4.j1 k y0 y1 y2 y3 y4) (spec_readHex4.j1 (k + 1) y0 y1 y2 y3 y4)) ∧ (∀ y0 y1 y2 y3 y4, LeO (spec_readHex4.j2 k y0 y1 y2 y3 y4) (spec_readHex4.j2 (k + 1) y0 y1 y2 y3 y4))
  | 0 => ⟨fun _ _ _ r h => by simp [spec_readHex4.l0] at h, fun _ _ _ _ _ r h => by simp [spec_readHex4.j1] at h, fun _ _ _ _ _ r h => by simp [spec_readHex4.j2] at h⟩
  | k + 1 => by
    obtain ⟨ih0, ih1, ih2⟩ := spec_readHex4.mono_l k
    refine ⟨?_, ?_, ?_⟩
    · intro y0 y1 y2
      unfold spec_readHex4.l0
      repeat' first
      | (with_reducible exact ih0 _ _ _)
      | (with_reducible exact ih1 _ _ _ _ _)
      | (with_reducible exact ih2 _ _ _ _ _)
      | (with_reducible exact LeO.refl _)
      | (with_reducible exact LeO.none _)
      | (with_reducible refine LeO.ite ?_ ?_)
      | (with_reducible refine LeO.bind ?_ (fun _ => ?_))
      | exact ih0 _ _ _
      | exact ih1 _ _ _ _ _
      | exact ih2 _ _ _ _ _
      | exact LeO.none _
      | refine LeO.ite ?_ ?_
      | refine LeO.bind ?_ (fun _ => ?_)
    · intro y0 y1 y2 y3 y4
      unfold spec_readHex4.j1
      repeat' first
      | (with_reducible exact ih0 _ _ _)
      | (with_reducible exact ih1 _ _ _ _ _)
      | (with_reducible exact ih2 _ _ _ _ _)
      | (with_reducible exact LeO.refl _)
      | (with_reducible exact LeO.none _)
      | (with_reducible refine LeO.ite ?_ ?_)
      | (with_reducible refine LeO.bind ?_ (fun _ => ?_))
      | exact ih0 _ _ _
      | exact ih1 _ _ _ _ _
      | exact ih2 _ _ _ _ _
      | exact LeO.none _
      | refine LeO.ite ?_ ?_
      | refine LeO.bind ?_ (fun _ => ?_)
    · intro y0 y1 y2 y3 y4
      unfold spec_readHex4.j2
      repeat' first
      | (with_reducible exact ih0 _ _ _)
      | (with_reducible exact ih1 _ _ _ _ _)
      | (with_reducible exact ih2 _ _ _ _ _)
      | (with_reducible exact LeO.refl _)
      | (with_reducible exact LeO.none _)
      | (with_reducible refine LeO.ite ?_ ?_)
      | (with_reducible refine LeO.bind ?_ (fun _ => ?_))
      | exact ih0 _ _ _
      | exact ih1 _ _ _ _ _
      | exact ih2 _ _ _ _ _
      | exact LeO.none _
      | refine LeO.ite ?_ ?_
      | refine LeO.bind ?_ (fun _ => ?_)
theorem spec_readHex4.mono : ∀ a0 k, LeO (spec_readHex4.f k a0) (spec_readHex4.f (k + 1) a0) := by
  intro a0 k
  obtain ⟨ih0, ih1, ih2⟩ := spec_readHex4.mono_l k
  unfold spec_readHex4.f
  repeat' first
      | (with_reducible exact ih0 _ _ _)
      | (with_reducible exact ih1 _ _ _ _ _)
      | (with_reducible exact ih2 _ _ _ _ _)
      | (with_reducible exact LeO.refl _)
      | (with_reducible exact LeO.none _)
      | (with_reducible refine LeO.ite ?_ ?_)
      | (with_reducible refine LeO.bind ?_ (fun _ => ?_))
      | exact ih0 _ _ _
      | exact ih1 _ _ _ _ _
      | exact ih2 _ _ _ _ _
      | exact LeO.none _
      | refine LeO.ite ?_ ?_
      | refine LeO.bind ?_ (fun _ => ?_)
set_option maxHeartbeats 8000000 in
set_option maxRecDepth 100000 in
theorem spec_readHex4.calls (k : Nat) (A0 : Option Addr) (c0 : Nat) (l0 : List Int) (r1 : Int) (r2 : Int) (w : World) (hr0 : Kd.C (Kd.int .u8) w A0 l0.length l0) (hc0 : l0.length ≤ c0) (h : spec_readHex4.f k l0 = some (r1, r2)) :
    Calls Tryd.prog 13 #[.slice A0 l0.length c0] w fun e w' => e = .returned (.tuple #[.int .i64 r1, .int .i64 r2]) ∧ Drawn0 w w' := by
  have HR0 := Aside0.mk hr0
  have HC0 := Aside0.mk hc0
  clear hr0 hc0
  have H : (spec_readHex4.l0 k l0 0 0) = some (r1, r2) := h
  clear h
  have H' := Aside0.mk H
  clear H
  go_enter Tryd.func13, Tryd.ntmps13
  go_wp2
  go_loopg [4, 7] k (fun kq v4 v7 w' => ∃ (x4_1 : Int) (x7_1 : Int), v4 = .int .i64 x4_1 ∧ v7 = .int .i64 x7_1 ∧ Aside0 (spec_readHex4.l0 kq l0 x4_1 x7_1 = some (r1, r2)) ∧ Aside0 (kq ≤ k) ∧ Drawn0 w w')
  case atStart => exact ⟨(0), (0), (by first | rfl | (simp; done) | (simp [*]; done)), (by first | rfl | (simp; done) | (simp [*]; done)), H', ⟨Nat.le_refl _⟩, by repeat (first | exact Drawn0.refl _ | apply Drawn0.step)⟩
  case round =>
    clear H'
    try clear c1
    obtain ⟨x4_1, x7_1, rfl, rfl, HA, HK1, ⟨m1, rfl⟩⟩ := hrel
    cases gk with
    | zero => exact absurd HA.out (by simp [spec_readHex4.l0])
    | succ k1 =>
      have H := HA.out
      clear HA
      simp only [spec_readHex4.l0] at H
      by_cases c2 : x7_1 < 4
      · rw [if_pos c2] at H
        have c2b0 : decide (x7_1 < 4) = true := decide_eq_true c2
        clear c2
        by_cases c3 : 0 ≤ x7_1
        · rw [if_pos c3] at H
          have c3b0 : decide (0 ≤ x7_1) = true := decide_eq_true c3
          clear c3
          by_cases c4 : x7_1 < (l0.length : Int)
          · rw [if_pos c4] at H
            have c4b0 : decide (x7_1 < (l0.length : Int)) = true := decide_eq_true c4
            clear c4
            have HC5 := Aside0.mk H
            clear H
            have p124 : 0 ≤ (x7_1 : Int) := of_decide_eq_true (by first | (with_reducible assumption) | assumption)
            have q124 : x7_1 < (l0.length : Int) := of_decide_eq_true (by first | (with_reducible assumption) | assumption)
            obtain ⟨ad124, e124, hx124_0⟩ := Kd.at_int HR0.out x7_1 p124 q124
            cases e124
            replace p124 := eq_true p124
            replace q124 := eq_true q124
            go_upto_region 7 with (fail)
            go_cut [14] (fun v14 wc => ∃ (kq : Nat) (x14_4 : Bool), v14 = .bool x14_4 ∧ Aside0 (spec_readHex4.j1 kq l0 x4_1 (rd l0 x7_1) x7_1 x14_4 = some (r1, r2)) ∧ Aside0 (kq ≤ k1) ∧ Drawn0 w wc)
            case first =>
              have H := HC5.out
              clear HC5
              by_cases c6 : (rd l0 x7_1) ≥ 48
              · rw [if_pos c6] at H
                have c6b0 : decide (48 ≤ (rd l0 x7_1)) = true := decide_eq_true c6
                clear c6
                (first | rw [c6b0] | (simp only [i64_w, i32_w]; rw [c6b0]) | skip)
                have H' := Aside0.mk H
                clear H
                go_wp2
                go_meet
                case rel => exact ⟨_, (decide ((rd l0 x7_1) ≤ 57)), (by first | rfl | (simp; done) | (simp [*]; done)), H', ⟨by have := HK1.out; first | omega | exact Nat.le_refl _⟩, by repeat (first | exact Drawn0.refl _ | apply Drawn0.step)⟩
              · rw [if_neg c6] at H
                have c6b0 : decide (48 ≤ (rd l0 x7_1)) = false := decide_eq_false c6
                clear c6
                (first | rw [c6b0] | (simp only [i64_w, i32_w]; rw [c6b0]) | skip)
                have H' := Aside0.mk H
                clear H
                go_wp2
                go_meet
                case rel => exact ⟨_, (false), (by first | rfl | (simp; done) | (simp [*]; done)), H', ⟨by have := HK1.out; first | omega | exact Nat.le_refl _⟩, by repeat (first | exact Drawn0.refl _ | apply Drawn0.step)⟩
            case rest =>
              clear HC5
              try clear c1
              try clear p1
              try clear q1
              try clear hx1
              try clear c2
              try clear c2b0
              try clear p2
              try clear c3
              try clear c3b0
              try clear c4
              try clear c4b0
              try clear c6
              try clear c6b0
              try clear hx124_0
              try clear p124
              try clear q124
              obtain ⟨kq, x14_4, rfl, HA, HJ4, ⟨mc4, rfl⟩⟩ := hcut
              cases kq with
              | zero => exact absurd HA.out (by simp [spec_readHex4.j1])
              | succ kj4 =>
                have H := HA.out
                clear HA
                simp only [spec_readHex4.j1] at H
                have HC7 := Aside0.mk H
                clear H
                go_upto_if 14 with (fail)
                go_cut [14] (fun v14 wc => ∃ (kq : Nat) (x14_6 : Bool), v14 = .bool x14_6 ∧ Aside0 (spec_readHex4.j2 kq l0 x4_1 (rd l0 x7_1) x7_1 x14_6 = some (r1, r2)) ∧ Aside0 (kq ≤ kj4) ∧ Drawn0 w wc)
                case first =>
                  have H := HC7.out
                  clear HC7
                  by_cases c8 : x14_4 = true
                  · subst c8
                    have H1 : (spec_readHex4.j2 kj4 l0 x4_1 (rd l0 x7_1) x7_1 true) = some (r1, r2) := by rw [if_pos rfl] at H; exact H
                    clear H
                    have H := H1
                    clear H1
                    have H' := Aside0.mk H
                    clear H
                    go_wp2
                    go_meet
                    case rel => exact ⟨_, (true), (by first | rfl | (simp; done) | (simp [*]; done)), H', ⟨by have := HK1.out; have := HJ4.out; first | omega | exact Nat.le_refl _⟩, by repeat (first | exact Drawn0.refl _ | apply Drawn0.step)⟩
                  · replace c8 := Bool.eq_false_iff.mpr c8
                    subst c8
                    have H1 : (if (rd l0 x7_1) ≥ 97 then (spec_readHex4.j2 kj4 l0 x4_1 (rd l0 x7_1) x7_1 (decide ((rd l0 x7_1) ≤ 102))) else (spec_readHex4.j2 kj4 l0 x4_1 (rd l0 x7_1) x7_1 false)) = some (r1, r2) := by rw [if_neg (show ¬ (false = true) by decide)] at H; exact H
                    clear H
                    have H := H1
                    clear H1
                    by_cases c9 : (rd l0 x7_1) ≥ 97
                    · rw [if_pos c9] at H
                      have c9b0 : decide (97 ≤ (rd l0 x7_1)) = true := decide_eq_true c9
                      clear c9
                      (first | rw [c9b0] | (simp only [i64_w, i32_w]; rw [c9b0]) | skip)
                      have H' := Aside0.mk H
                      clear H
                      go_wp2
                      go_meet
                      case rel => exact ⟨_, (decide ((rd l0 x7_1) ≤ 102)), (by first | rfl | (simp; done) | (simp [*]; done)), H', ⟨by have := HK1.out; have := HJ4.out; first | omega | exact Nat.le_refl _⟩, by repeat (first | exact Drawn0.refl _ | apply Drawn0.step)⟩
                    · rw [if_neg c9] at H
                      have c9b0 : decide (97 ≤ (rd l0 x7_1)) = false := decide_eq_false c9
                      clear c9
                      (first | rw [c9b0] | (simp only [i64_w, i32_w]; rw [c9b0]) | skip)
                      have H' := Aside0.mk H
                      clear H
                      go_wp2
                      go_meet
                      case rel => exact ⟨_, (false), (by first | rfl | (simp; done) | (simp [*]; done)), H', ⟨by have := HK1.out; have := HJ4.out; first | omega | exact Nat.le_refl _⟩, by repeat (first | exact Drawn0.refl _ | apply Drawn0.step)⟩
                case rest =>
                  clear HC7
                  try clear c1
                  try clear p1
                  try clear q1
                  try clear hx1
                  try clear c2
                  try clear c2b0
                  try clear p2
                  try clear c3
                  try clear c3b0
                  try clear c4
                  try clear c4b0
                  try clear c6
                  try clear c6b0
                  try clear c8
                  try clear c9
                  try clear c9b0
                  try clear hx124_0
                  try clear p1
                  try clear p124
                  try clear p2
                  try clear q1
                  try clear q124
                  obtain ⟨kq, x14_6, rfl, HA, HJ6, ⟨mc6, rfl⟩⟩ := hcut
                  cases kq with
                  | zero => exact absurd HA.out (by simp [spec_readHex4.j2])
                  | succ kj6 =>
                    have H := HA.out
                    clear HA
                    simp only [spec_readHex4.j2] at H
                    by_cases c10 : x14_6 = true
                    · subst c10
                      have H1 : ((spec_nibble.f (rd l0 x7_1)).bind fun t125 => (spec_readHex4.l0 kj6 l0 (wrap64 ((wrap64 (x4_1 * 16)) + (wrap64 (t125)))) (wrap64 (x7_1 + 1)))) = some (r1, r2) := by rw [if_pos rfl] at H; exact H
                      clear H
                      have H := H1
                      clear H1
                      replace H := Option.bind_eq_some_iff.mp H
                      obtain ⟨t125, A110, H⟩ := H
                      replace H : (spec_readHex4.l0 kj6 l0 (wrap64 ((wrap64 (x4_1 * 16)) + (wrap64 (t125)))) (wrap64 (x7_1 + 1))) = some (r1, r2) := H
                      have A11 := Aside0.mk A110
                      clear A110
                      have H' := Aside0.mk H
                      clear H
                      go_wp2_with (first | ((with_reducible refine gate_callee (f := 20) rfl ?_); refine goesL_ (some 30) rfl rfl Tryd.func20 (by kernel_rfl) rfl #[.int .u8 (rd l0 x7_1)] rfl (by (try simp only [List.map_toArray, List.map_cons, List.map_nil]); first | done | rfl | (simp only [List.length_drop, List.length_take]; rfl)) ?_; (with_reducible refine (spec_nibble.calls (rd l0 x7_1) t125 _ A11.out).mono ?_); rintro e w' ⟨rfl, ⟨nd, rfl⟩⟩; refine ⟨_, rfl, ?_⟩))
                      go_roundg kj6
                      case measure => have := HK1.out; have := HJ4.out; have := HJ6.out; omega
                      case rel => exact ⟨(wrap64 ((wrap64 (x4_1 * 16)) + (wrap64 (t125)))), (wrap64 (x7_1 + 1)), (by first | rfl | (simp; done) | (simp [*]; done)), (by first | rfl | (simp; done) | (simp [*]; done)), H', ⟨by have := HK1.out; have := HJ4.out; have := HJ6.out; omega⟩, by repeat (first | exact Drawn0.refl _ | apply Drawn0.step)⟩
                    · replace c10 := Bool.eq_false_iff.mpr c10
                      subst c10
                      have H1 : (if (rd l0 x7_1) ≥ 65 then (if (rd l0 x7_1) ≤ 70 then (some (0, 2)) else (some (0, 1))) else (some (0, 1))) = some (r1, r2) := by rw [if_neg (show ¬ (false = true) by decide)] at H; exact H
                      clear H
                      have H := H1
                      clear H1
                      by_cases c12 : (rd l0 x7_1) ≥ 65
                      · rw [if_pos c12] at H
                        have c12b0 : decide (65 ≤ (rd l0 x7_1)) = true := decide_eq_true c12
                        clear c12
                        by_cases c13 : (rd l0 x7_1) ≤ 70
                        · rw [if_pos c13] at H
                          have c13b0 : decide ((rd l0 x7_1) ≤ 70) = true := decide_eq_true c13
                          clear c13
                          simp only [Option.some.injEq, Prod.mk.injEq] at H
                          obtain ⟨rfl, rfl⟩ := H
                          go_wp2
                          go_ret2
                          exact ⟨by first | rfl | (simp; done) | (simp [*]; done), by repeat (first | exact Drawn0.refl _ | apply Drawn0.step)⟩
                        · rw [if_neg c13] at H
                          have c13b0 : decide ((rd l0 x7_1) ≤ 70) = false := decide_eq_false c13
                          clear c13
                          simp only [Option.some.injEq, Prod.mk.injEq] at H
                          obtain ⟨rfl, rfl⟩ := H
                          go_wp2
                          go_ret2
                          exact ⟨by first | rfl | (simp; done) | (simp [*]; done), by repeat (first | exact Drawn0.refl _ | apply Drawn0.step)⟩
                      · rw [if_neg c12] at H
                        have c12b0 : decide (65 ≤ (rd l0 x7_1)) = false := decide_eq_false c12
                        clear c12
                        simp only [Option.some.injEq, Prod.mk.injEq] at H
                        obtain ⟨rfl, rfl⟩ := H
                        go_wp2
                        go_ret2
                        exact ⟨by first | rfl | (simp; done) | (simp [*]; done), by repeat (first | exact Drawn0.refl _ | apply Drawn0.step)⟩
          · rw [if_neg c4] at H
            exact absurd H (by simp)
        · rw [if_neg c3] at H
          exact absurd H (by simp)
      · rw [if_neg c2] at H
        have c2b0 : decide (x7_1 < 4) = false := decide_eq_false c2
        clear c2
        simp only [Option.some.injEq, Prod.mk.injEq] at H
        obtain ⟨rfl, rfl⟩ := H
        go_wp2
        go_ret2
        exact ⟨by first | rfl | (simp; done) | (simp [*]; done), by repeat (first | exact Drawn0.refl _ | apply Drawn0.step)⟩

/-! ### spec_SameLines: function 10 -/
def spec_SameLines.l0 : Nat → List (List Int) → List (List Int) → Int → Int → Option (Bool)
  | 0, _, _, _, _ => none
  | k + 1, x0, x1, x12, x13 => if x13 < x12 then (if 0 ≤ x13 then (if x13 < (x0.length : Int) then (if x13 < (x1.length : Int) then (if (strOfNums (rd_L1 x0 x13)).toList = (strOfNums (rd_L1 x1 x13)).toList then (spec_SameLines.l0 k x0 x1 x12 (wrap64 (x13 + 1))) else (some false)) else (none)) else (none)) else (none)) else (some true)
def spec_SameLines.f (k : Nat) (l0 : List (List Int)) (l1 : List (List Int)) : Option (Bool) := if (l0.length : Int) = (l1.length : Int) then (spec_SameLines.l0 k l0 l1 (l0.length : Int) 0) else (some false)
theorem spec_SameLines.mono_l : ∀ k, (∀ y0 y1 y2 y3, LeO (spec_SameLines.l0 k y0 y1 y2 y3) (spec_SameLines.l0 (k + 1) y0 y1 y2 y3))
  | 0 => fun _ _ _ _ r h => by simp [spec_SameLines.l0] at h
  | k + 1 => by
    have ih0 := spec_SameLines.mono_l k
    · intro y0 y1 y2 y3
      unfold spec_SameLines.l0
      repeat' first
      | (with_reducible exact ih0 _ _ _ _)
      | (with_reducible exact LeO.refl _)
      | (with_reducible exact LeO.none _)
      | (with_reducible refine LeO.ite ?_ ?_)
      | (with_reducible refine LeO.bind ?_ (fun _ => ?_))
      | exact ih0 _ _ _ _
      | exact LeO.none _
      | refine LeO.ite ?_ ?_
      | refine LeO.bind ?_ (fun _ => ?_)
theorem spec_SameLines.mono : ∀ a0 a1 k, LeO (spec_SameLines.f k a0 a1) (spec_SameLines.f (k + 1) a0 a1) := by
  intro a0 a1 k
  have ih0 := spec_SameLines.mono_l k
  unfold spec_SameLines.f
  repeat' first
      | (with_reducible exact ih0 _ _ _ _)
      | (with_reducible exact LeO.refl _)
      | (with_reducible exact LeO.none _)
      | (with_reducible refine LeO.ite ?_ ?_)
      | (with_reducible refine LeO.bind ?_ (fun _ => ?_))
      | exact ih0 _ _ _ _
      | exact LeO.none _
      | refine LeO.ite ?_ ?_
      | refine LeO.bind ?_ (fun _ => ?_)
/-! ### bytes_Equal: function 28 -/
def bytes_Equal.f (l0 : List Int) (l1 : List Int) : Option (Bool) := some ((strOfNums l0).toList == (strOfNums l1).toList)
set_option maxHeartbeats 8000000 in
set_option maxRecDepth 100000 in
theorem bytes_Equal.calls (A0 : Option Addr) (c0 : Nat) (l0 : List Int) (A1 : Option Addr) (c1 : Nat) (l1 : List Int) (r : Bool) (w : World) (hr0 : Kd.C (Kd.int .u8) w A0 l0.length l0) (hc0 : l0.length ≤ c0) (hr1 : Kd.C (Kd.int .u8) w A1 l1.length l1) (hc1 : l1.length ≤ c1) (h : bytes_Equal.f l0 l1 = some r) :
    Calls Tryd.prog 28 #[.slice A0 l0.length c0, .slice A1 l1.length c1] w fun e w' => e = .returned (.bool r) ∧ Drawn0 w w' := by
  have HR0 := Aside0.mk hr0
  have HC0 := Aside0.mk hc0
  clear hr0 hc0
  have HR1 := Aside0.mk hr1
  have HC1 := Aside0.mk hc1
  clear hr1 hc1
  have H : (some ((strOfNums l0).toList == (strOfNums l1).toList)) = some r := h
  clear h
  obtain rfl := Option.some.inj H
  have hcv3 := Kd.C_string (P := Tryd.prog) (A := A0) (c := c0) Tryd.underlying25 Tryd.underlying5 Tryd.underlying9 HR0.out
  have hcv4 := Kd.C_string (P := Tryd.prog) (A := A1) (c := c1) Tryd.underlying25 Tryd.underlying5 Tryd.underlying9 HR1.out
  go_enter Tryd.func28, Tryd.ntmps28
  go_wp2
  go_ret
  exact ⟨by first | rfl | (simp; done) | (simp [*]; done), by repeat (first | exact Drawn0.refl _ | apply Drawn0.step)⟩

end Go.Proofs.YtiiaghjbpcpgoaaDoor.QAll
