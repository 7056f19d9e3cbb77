-- WRITTEN BY A PROGRAM OF THIS SESSION, out of the loaded program, with words of the kit
import Derived.Test.YtjeaehefnpjabaaDoorQFnRefValidx0
namespace Go.Proofs.YtjeaehefnpjabaaDoor.QFnRefValid
open Go.RowKit Go.Proofs.YtjeaehefnpjabaaDoorW.PrintWords Go.Proofs.YtjeaehefnpjabaaDoorW.PrintLast Go.Proofs.YtjeaehefnpjabaaDoorW.PrintMore
attribute [local go_sem] max2_int min2_int max_two min_two max_three min_three max_four min_four   -- for this text's walks alone
set_option linter.unusedVariables false
set_option linter.unusedSimpArgs false

/-! ### laws_zzFits16: function 4 -/
def laws_zzFits16.l0 : Nat → List ByteArray → Int → Int → Option (Bool)
  | 0, _, _, _ => none
  | k + 1, x8, x9, x10 => if x10 < x9 then (if 0 ≤ x10 then (if x10 < (x8.length : Int) then (if ((rdOf ByteArray.empty x8 x10).size : Int) > 2147483647 then (some false) else (laws_zzFits16.l0 k x8 x9 (wrap64 (x10 + 1)))) else (none)) else (none)) else (some true)
def laws_zzFits16.f (k : Nat) (l0 : List ByteArray) : Option (Bool) := if (l0.length : Int) > 2147483647 then (some false) else (laws_zzFits16.l0 k l0 (l0.length : Int) 0)
theorem laws_zzFits16.mono_l : ∀ k, (∀ y0 y1 y2, LeO (laws_zzFits16.l0 k y0 y1 y2) (laws_zzFits16.l0 (k + 1) y0 y1 y2))
  | 0 => fun _ _ _ r h => by simp [laws_zzFits16.l0] at h
  | k + 1 => by
    have ih0 := laws_zzFits16.mono_l k
    · intro y0 y1 y2
      unfold laws_zzFits16.l0
      repeat' first
      | (with_reducible exact ih0 _ _ _)
      | (with_reducible exact LeO.refl _)
      | (with_reducible exact LeO.none _)
      | (with_reducible refine LeO.ite ?_ ?_)
      | (with_reducible refine LeO.bind ?_ (fun _ => ?_))
      | exact ih0 _ _ _
      | exact LeO.none _
      | refine LeO.ite ?_ ?_
      | refine LeO.bind ?_ (fun _ => ?_)
theorem laws_zzFits16.mono : ∀ a0 k, LeO (laws_zzFits16.f k a0) (laws_zzFits16.f (k + 1) a0) := by
  intro a0 k
  have ih0 := laws_zzFits16.mono_l k
  unfold laws_zzFits16.f
  repeat' first
      | (with_reducible exact ih0 _ _ _)
      | (with_reducible exact LeO.refl _)
      | (with_reducible exact LeO.none _)
      | (with_reducible refine LeO.ite ?_ ?_)
      | (with_reducible refine LeO.bind ?_ (fun _ => ?_))
      | exact ih0 _ _ _
      | exact LeO.none _
      | refine LeO.ite ?_ ?_
      | refine LeO.bind ?_ (fun _ => ?_)
set_option maxHeartbeats 8000000 in
set_option maxRecDepth 100000 in
theorem laws_zzFits16.calls (k : Nat) (A0 : Option Addr) (c0 : Nat) (l0 : List ByteArray) (r : Bool) (w : World) (hr0 : Kd.C Kd.string w A0 l0.length l0) (hc0 : l0.length ≤ c0) (h : laws_zzFits16.f k l0 = some r) :
    Calls Tryd.prog 4 #[.slice A0 l0.length c0] w fun e w' => e = .returned (.bool r) ∧ Drawn0 w w' := by
  have HR0 := Aside0.mk hr0
  have HC0 := Aside0.mk hc0
  clear hr0 hc0
  have H : (if (l0.length : Int) > 2147483647 then (some false) else (laws_zzFits16.l0 k l0 (l0.length : Int) 0)) = some r := h
  clear h
  by_cases c2 : (l0.length : Int) > 2147483647
  · rw [if_pos c2] at H
    have c2b0 : decide (2147483647 < (l0.length : Int)) = true := decide_eq_true c2
    have c2b1 : decide (2147483647 < l0.length) = true := decide_eq_true (by omega)
    clear c2
    obtain rfl := Option.some.inj H
    go_enter Tryd.func4, Tryd.ntmps4
    go_wp2
    go_ret
    exact ⟨by first | rfl | (simp; done) | (simp [*]; done), by repeat (first | exact Drawn0.refl _ | apply Drawn0.step)⟩
  · rw [if_neg c2] at H
    have c2b0 : decide (2147483647 < (l0.length : Int)) = false := decide_eq_false c2
    have c2b1 : decide (2147483647 < l0.length) = false := decide_eq_false (by omega)
    clear c2
    have H' := Aside0.mk H
    clear H
    go_enter Tryd.func4, Tryd.ntmps4
    go_wp2
    go_loopg [10] k (fun kq v10 w' => ∃ (x10_1 : Int), v10 = .int .i64 x10_1 ∧ Aside0 (laws_zzFits16.l0 kq l0 (l0.length : Int) x10_1 = some r) ∧ Aside0 (kq ≤ k) ∧ Drawn0 w w')
    case atStart => exact ⟨(0), (by first | rfl | (simp; done) | (simp [*]; done)), H', ⟨Nat.le_refl _⟩, by repeat (first | exact Drawn0.refl _ | apply Drawn0.step)⟩
    case round =>
      clear H'
      try clear c2
      try clear c2b0
      try clear c2b1
      try clear p2
      obtain ⟨x10_1, rfl, HA, HK1, ⟨m1, rfl⟩⟩ := hrel
      cases gk with
      | zero => exact absurd HA.out (by simp [laws_zzFits16.l0])
      | succ k1 =>
        have H := HA.out
        clear HA
        simp only [laws_zzFits16.l0] at H
        by_cases c3 : x10_1 < (l0.length : Int)
        · rw [if_pos c3] at H
          have c3b0 : decide (x10_1 < (l0.length : Int)) = true := decide_eq_true c3
          clear c3
          by_cases c4 : 0 ≤ x10_1
          · rw [if_pos c4] at H
            have c4b0 : decide (0 ≤ x10_1) = true := decide_eq_true c4
            clear c4
            by_cases c5 : x10_1 < (l0.length : Int)
            · rw [if_pos c5] at H
              have c5b0 : decide (x10_1 < (l0.length : Int)) = true := decide_eq_true c5
              clear c5
              by_cases c6 : ((rdOf ByteArray.empty l0 x10_1).size : Int) > 2147483647
              · rw [if_pos c6] at H
                have c6b0 : decide (2147483647 < ((rdOf ByteArray.empty l0 x10_1).size : Int)) = true := decide_eq_true c6
                have c6b1 : decide (2147483647 < (rdOf ByteArray.empty l0 x10_1).size) = true := decide_eq_true (by omega)
                clear c6
                obtain rfl := Option.some.inj H
                have p101 : 0 ≤ (x10_1 : Int) := of_decide_eq_true (by first | (with_reducible assumption) | assumption)
                have q101 : x10_1 < (l0.length : Int) := of_decide_eq_true (by first | (with_reducible assumption) | assumption)
                obtain ⟨ad101, e101, hx101_0⟩ := Kd.at_string HR0.out x10_1 p101 q101
                cases e101
                replace p101 := eq_true p101
                replace q101 := eq_true q101
                go_wp2
                go_ret
                exact ⟨by first | rfl | (simp; done) | (simp [*]; done), by repeat (first | exact Drawn0.refl _ | apply Drawn0.step)⟩
              · rw [if_neg c6] at H
                have c6b0 : decide (2147483647 < ((rdOf ByteArray.empty l0 x10_1).size : Int)) = false := decide_eq_false c6
                have c6b1 : decide (2147483647 < (rdOf ByteArray.empty l0 x10_1).size) = false := decide_eq_false (by omega)
                clear c6
                have H' := Aside0.mk H
                clear H
                have p101 : 0 ≤ (x10_1 : Int) := of_decide_eq_true (by first | (with_reducible assumption) | assumption)
                have q101 : x10_1 < (l0.length : Int) := of_decide_eq_true (by first | (with_reducible assumption) | assumption)
                obtain ⟨ad101, e101, hx101_0⟩ := Kd.at_string HR0.out x10_1 p101 q101
                cases e101
                replace p101 := eq_true p101
                replace q101 := eq_true q101
                go_wp2
                go_roundg k1
                case measure => have := HK1.out; omega
                case rel => exact ⟨(wrap64 (x10_1 + 1)), (by first | rfl | (simp; done) | (simp [*]; done)), H', ⟨by have := HK1.out; omega⟩, by repeat (first | exact Drawn0.refl _ | apply Drawn0.step)⟩
            · rw [if_neg c5] at H
              exact absurd H (by simp)
          · rw [if_neg c4] at H
            exact absurd H (by simp)
        · rw [if_neg c3] at H
          have c3b0 : decide (x10_1 < (l0.length : Int)) = false := decide_eq_false c3
          clear c3
          obtain rfl := Option.some.inj H
          go_wp2
          go_ret
          exact ⟨by first | rfl | (simp; done) | (simp [*]; done), by repeat (first | exact Drawn0.refl _ | apply Drawn0.step)⟩

/-! ### spec_Small: function 5 -/
def spec_Small.l0 : Nat → ByteArray → Int → Int → Option (Bool)
  | 0, _, _, _ => none
  | k + 1, x0, x6, x7 => if x7 < x6 then (if 0 ≤ x7 then (if x7 < (x0.size : Int) then (if (bt x0 x7) ≥ 97 then (if (bt x0 x7) ≤ 122 then (spec_Small.l0 k x0 x6 (wrap64 (x7 + 1))) else (if (bt x0 x7) ≥ 65 then (if (bt x0 x7) ≤ 90 then (spec_Small.l0 k x0 x6 (wrap64 (x7 + 1))) else (if (bt x0 x7) ≥ 48 then (if ((bt x0 x7) ≤ 57) then (spec_Small.l0 k x0 x6 (wrap64 (x7 + 1))) else (some false)) else (some false))) else (if (bt x0 x7) ≥ 48 then (if ((bt x0 x7) ≤ 57) then (spec_Small.l0 k x0 x6 (wrap64 (x7 + 1))) else (some false)) else (some false)))) else (if (bt x0 x7) ≥ 65 then (if (bt x0 x7) ≤ 90 then (spec_Small.l0 k x0 x6 (wrap64 (x7 + 1))) else (if (bt x0 x7) ≥ 48 then (if ((bt x0 x7) ≤ 57) then (spec_Small.l0 k x0 x6 (wrap64 (x7 + 1))) else (some false)) else (some false))) else (if (bt x0 x7) ≥ 48 then (if ((bt x0 x7) ≤ 57) then (spec_Small.l0 k x0 x6 (wrap64 (x7 + 1))) else (some false)) else (some false)))) else (none)) else (none)) else (some (!(x0.toList.isEmpty)))
def spec_Small.f (k : Nat) (a0 : ByteArray) : Option (Bool) := spec_Small.l0 k a0 (a0.size : Int) 0
theorem spec_Small.mono_l : ∀ k, (∀ y0 y1 y2, LeO (spec_Small.l0 k y0 y1 y2) (spec_Small.l0 (k + 1) y0 y1 y2))
  | 0 => fun _ _ _ r h => by simp [spec_Small.l0] at h
  | k + 1 => by
    have ih0 := spec_Small.mono_l k
    · intro y0 y1 y2
      unfold spec_Small.l0
      repeat' first
      | (with_reducible exact ih0 _ _ _)
      | (with_reducible exact LeO.refl _)
      | (with_reducible exact LeO.none _)
      | (with_reducible refine LeO.ite ?_ ?_)
      | (with_reducible refine LeO.bind ?_ (fun _ => ?_))
      | exact ih0 _ _ _
      | exact LeO.none _
      | refine LeO.ite ?_ ?_
      | refine LeO.bind ?_ (fun _ => ?_)
theorem spec_Small.mono : ∀ a0 k, LeO (spec_Small.f k a0) (spec_Small.f (k + 1) a0) := by
  intro a0 k
  have ih0 := spec_Small.mono_l k
  unfold spec_Small.f
  repeat' first
      | (with_reducible exact ih0 _ _ _)
      | (with_reducible exact LeO.refl _)
      | (with_reducible exact LeO.none _)
      | (with_reducible refine LeO.ite ?_ ?_)
      | (with_reducible refine LeO.bind ?_ (fun _ => ?_))
      | exact ih0 _ _ _
      | exact LeO.none _
      | refine LeO.ite ?_ ?_
      | refine LeO.bind ?_ (fun _ => ?_)
set_option maxHeartbeats 8000000 in
set_option maxRecDepth 100000 in
theorem spec_Small.calls (k : Nat) (a0 : ByteArray) (r : Bool) (w : World) (h : spec_Small.f k a0 = some r) :
    Calls Tryd.prog 5 #[.string a0] w fun e w' => e = .returned (.bool r) ∧ Drawn0 w w' := by
  have H : (spec_Small.l0 k a0 (a0.size : Int) 0) = some r := h
  clear h
  have H' := Aside0.mk H
  clear H
  go_enter Tryd.func5, Tryd.ntmps5
  go_wp2
  go_loopg [7] k (fun kq v7 w' => ∃ (x7_1 : Int), v7 = .int .i64 x7_1 ∧ Aside0 (spec_Small.l0 kq a0 (a0.size : Int) x7_1 = some r) ∧ Aside0 (kq ≤ k) ∧ Drawn0 w w')
  case atStart => exact ⟨(0), (by first | rfl | (simp; done) | (simp [*]; done)), H', ⟨Nat.le_refl _⟩, by repeat (first | exact Drawn0.refl _ | apply Drawn0.step)⟩
  case round =>
    clear H'
    obtain ⟨x7_1, rfl, HA, HK1, ⟨m1, rfl⟩⟩ := hrel
    cases gk with
    | zero => exact absurd HA.out (by simp [spec_Small.l0])
    | succ k1 =>
      have H := HA.out
      clear HA
      simp only [spec_Small.l0] at H
      by_cases c2 : x7_1 < (a0.size : Int)
      · rw [if_pos c2] at H
        have c2b0 : decide (x7_1 < (a0.size : Int)) = true := decide_eq_true c2
        clear c2
        by_cases c3 : 0 ≤ x7_1
        · rw [if_pos c3] at H
          have c3b0 : decide (0 ≤ x7_1) = true := decide_eq_true c3
          clear c3
          by_cases c4 : x7_1 < (a0.size : Int)
          · rw [if_pos c4] at H
            have c4b0 : decide (x7_1 < (a0.size : Int)) = true := decide_eq_true c4
            clear c4
            by_cases c6 : (bt a0 x7_1) ≥ 97
            · rw [if_pos c6] at H
              have c6b0 : decide (97 ≤ (bt a0 x7_1)) = true := decide_eq_true c6
              clear c6
              by_cases c7 : (bt a0 x7_1) ≤ 122
              · rw [if_pos c7] at H
                have c7b0 : decide ((bt a0 x7_1) ≤ 122) = true := decide_eq_true c7
                clear c7
                have H' := Aside0.mk H
                clear H
                have p5 : 0 ≤ (x7_1 : Int) := of_decide_eq_true (by first | (with_reducible assumption) | assumption)
                have q5 : x7_1 < (a0.size : Int) := of_decide_eq_true (by first | (with_reducible assumption) | assumption)
                have hx5 := bt_at a0 x7_1
                replace p5 := eq_true p5
                replace q5 := eq_true q5
                go_wp2
                go_roundg k1
                case measure => have := HK1.out; omega
                case rel => exact ⟨(wrap64 (x7_1 + 1)), (by first | rfl | (simp; done) | (simp [*]; done)), H', ⟨by have := HK1.out; omega⟩, by repeat (first | exact Drawn0.refl _ | apply Drawn0.step)⟩
              · rw [if_neg c7] at H
                have c7b0 : decide ((bt a0 x7_1) ≤ 122) = false := decide_eq_false c7
                clear c7
                by_cases c8 : (bt a0 x7_1) ≥ 65
                · rw [if_pos c8] at H
                  have c8b0 : decide (65 ≤ (bt a0 x7_1)) = true := decide_eq_true c8
                  clear c8
                  by_cases c9 : (bt a0 x7_1) ≤ 90
                  · rw [if_pos c9] at H
                    have c9b0 : decide ((bt a0 x7_1) ≤ 90) = true := decide_eq_true c9
                    clear c9
                    have H' := Aside0.mk H
                    clear H
                    have p5 : 0 ≤ (x7_1 : Int) := of_decide_eq_true (by first | (with_reducible assumption) | assumption)
                    have q5 : x7_1 < (a0.size : Int) := of_decide_eq_true (by first | (with_reducible assumption) | assumption)
                    have hx5 := bt_at a0 x7_1
                    replace p5 := eq_true p5
                    replace q5 := eq_true q5
                    go_wp2
                    go_roundg k1
                    case measure => have := HK1.out; omega
                    case rel => exact ⟨(wrap64 (x7_1 + 1)), (by first | rfl | (simp; done) | (simp [*]; done)), H', ⟨by have := HK1.out; omega⟩, by repeat (first | exact Drawn0.refl _ | apply Drawn0.step)⟩
                  · rw [if_neg c9] at H
                    have c9b0 : decide ((bt a0 x7_1) ≤ 90) = false := decide_eq_false c9
                    clear c9
                    by_cases c10 : (bt a0 x7_1) ≥ 48
                    · rw [if_pos c10] at H
                      have c10b0 : decide (48 ≤ (bt a0 x7_1)) = true := decide_eq_true c10
                      clear c10
                      by_cases c11 : ((bt a0 x7_1) ≤ 57)
                      · rw [if_pos c11] at H
                        have c11b0 : decide ((bt a0 x7_1) ≤ 57) = true := decide_eq_true c11
                        clear c11
                        have H' := Aside0.mk H
                        clear H
                        have p5 : 0 ≤ (x7_1 : Int) := of_decide_eq_true (by first | (with_reducible assumption) | assumption)
                        have q5 : x7_1 < (a0.size : Int) := of_decide_eq_true (by first | (with_reducible assumption) | assumption)
                        have hx5 := bt_at a0 x7_1
                        replace p5 := eq_true p5
                        replace q5 := eq_true q5
                        go_wp2
                        go_roundg k1
                        case measure => have := HK1.out; omega
                        case rel => exact ⟨(wrap64 (x7_1 + 1)), (by first | rfl | (simp; done) | (simp [*]; done)), H', ⟨by have := HK1.out; omega⟩, by repeat (first | exact Drawn0.refl _ | apply Drawn0.step)⟩
                      · rw [if_neg c11] at H
                        have c11b0 : decide ((bt a0 x7_1) ≤ 57) = false := decide_eq_false c11
                        clear c11
                        obtain rfl := Option.some.inj H
                        have p5 : 0 ≤ (x7_1 : Int) := of_decide_eq_true (by first | (with_reducible assumption) | assumption)
                        have q5 : x7_1 < (a0.size : Int) := of_decide_eq_true (by first | (with_reducible assumption) | assumption)
                        have hx5 := bt_at a0 x7_1
                        replace p5 := eq_true p5
                        replace q5 := eq_true q5
                        go_wp2
                        go_ret
                        exact ⟨by first | rfl | (simp; done) | (simp [*]; done), by repeat (first | exact Drawn0.refl _ | apply Drawn0.step)⟩
                    · rw [if_neg c10] at H
                      have c10b0 : decide (48 ≤ (bt a0 x7_1)) = false := decide_eq_false c10
                      clear c10
                      obtain rfl := Option.some.inj H
                      have p5 : 0 ≤ (x7_1 : Int) := of_decide_eq_true (by first | (with_reducible assumption) | assumption)
                      have q5 : x7_1 < (a0.size : Int) := of_decide_eq_true (by first | (with_reducible assumption) | assumption)
                      have hx5 := bt_at a0 x7_1
                      replace p5 := eq_true p5
                      replace q5 := eq_true q5
                      go_wp2
                      go_ret
                      exact ⟨by first | rfl | (simp; done) | (simp [*]; done), by repeat (first | exact Drawn0.refl _ | apply Drawn0.step)⟩
                · rw [if_neg c8] at H
                  have c8b0 : decide (65 ≤ (bt a0 x7_1)) = false := decide_eq_false c8
                  clear c8
                  by_cases c12 : (bt a0 x7_1) ≥ 48
                  · rw [if_pos c12] at H
                    have c12b0 : decide (48 ≤ (bt a0 x7_1)) = true := decide_eq_true c12
                    clear c12
                    by_cases c13 : ((bt a0 x7_1) ≤ 57)
                    · rw [if_pos c13] at H
                      have c13b0 : decide ((bt a0 x7_1) ≤ 57) = true := decide_eq_true c13
                      clear c13
                      have H' := Aside0.mk H
                      clear H
                      have p5 : 0 ≤ (x7_1 : Int) := of_decide_eq_true (by first | (with_reducible assumption) | assumption)
                      have q5 : x7_1 < (a0.size : Int) := of_decide_eq_true (by first | (with_reducible assumption) | assumption)
                      have hx5 := bt_at a0 x7_1
                      replace p5 := eq_true p5
                      replace q5 := eq_true q5
                      go_wp2
                      go_roundg k1
                      case measure => have := HK1.out; omega
                      case rel => exact ⟨(wrap64 (x7_1 + 1)), (by first | rfl | (simp; done) | (simp [*]; done)), H', ⟨by have := HK1.out; omega⟩, by repeat (first | exact Drawn0.refl _ | apply Drawn0.step)⟩
                    · rw [if_neg c13] at H
                      have c13b0 : decide ((bt a0 x7_1) ≤ 57) = false := decide_eq_false c13
                      clear c13
                      obtain rfl := Option.some.inj H
                      have p5 : 0 ≤ (x7_1 : Int) := of_decide_eq_true (by first | (with_reducible assumption) | assumption)
                      have q5 : x7_1 < (a0.size : Int) := of_decide_eq_true (by first | (with_reducible assumption) | assumption)
                      have hx5 := bt_at a0 x7_1
                      replace p5 := eq_true p5
                      replace q5 := eq_true q5
                      go_wp2
                      go_ret
                      exact ⟨by first | rfl | (simp; done) | (simp [*]; done), by repeat (first | exact Drawn0.refl _ | apply Drawn0.step)⟩
                  · rw [if_neg c12] at H
                    have c12b0 : decide (48 ≤ (bt a0 x7_1)) = false := decide_eq_false c12
                    clear c12
                    obtain rfl := Option.some.inj H
                    have p5 : 0 ≤ (x7_1 : Int) := of_decide_eq_true (by first | (with_reducible assumption) | assumption)
                    have q5 : x7_1 < (a0.size : Int) := of_decide_eq_true (by first | (with_reducible assumption) | assumption)
                    have hx5 := bt_at a0 x7_1
                    replace p5 := eq_true p5
                    replace q5 := eq_true q5
                    go_wp2
                    go_ret
                    exact ⟨by first | rfl | (simp; done) | (simp [*]; done), by repeat (first | exact Drawn0.refl _ | apply Drawn0.step)⟩
            · rw [if_neg c6] at H
              have c6b0 : decide (97 ≤ (bt a0 x7_1)) = false := decide_eq_false c6
              clear c6
              by_cases c14 : (bt a0 x7_1) ≥ 65
              · rw [if_pos c14] at H
                have c14b0 : decide (65 ≤ (bt a0 x7_1)) = true := decide_eq_true c14
                clear c14
                by_cases c15 : (bt a0 x7_1) ≤ 90
                · rw [if_pos c15] at H
                  have c15b0 : decide ((bt a0 x7_1) ≤ 90) = true := decide_eq_true c15
                  clear c15
                  have H' := Aside0.mk H
                  clear H
                  have p5 : 0 ≤ (x7_1 : Int) := of_decide_eq_true (by first | (with_reducible assumption) | assumption)
                  have q5 : x7_1 < (a0.size : Int) := of_decide_eq_true (by first | (with_reducible assumption) | assumption)
                  have hx5 := bt_at a0 x7_1
                  replace p5 := eq_true p5
                  replace q5 := eq_true q5
                  go_wp2
                  go_roundg k1
                  case measure => have := HK1.out; omega
                  case rel => exact ⟨(wrap64 (x7_1 + 1)), (by first | rfl | (simp; done) | (simp [*]; done)), H', ⟨by have := HK1.out; omega⟩, by repeat (first | exact Drawn0.refl _ | apply Drawn0.step)⟩
                · rw [if_neg c15] at H
                  have c15b0 : decide ((bt a0 x7_1) ≤ 90) = false := decide_eq_false c15
                  clear c15
                  by_cases c16 : (bt a0 x7_1) ≥ 48
                  · rw [if_pos c16] at H
                    have c16b0 : decide (48 ≤ (bt a0 x7_1)) = true := decide_eq_true c16
                    clear c16
                    by_cases c17 : ((bt a0 x7_1) ≤ 57)
                    · rw [if_pos c17] at H
                      have c17b0 : decide ((bt a0 x7_1) ≤ 57) = true := decide_eq_true c17
                      clear c17
                      have H' := Aside0.mk H
                      clear H
                      have p5 : 0 ≤ (x7_1 : Int) := of_decide_eq_true (by first | (with_reducible assumption) | assumption)
                      have q5 : x7_1 < (a0.size : Int) := of_decide_eq_true (by first | (with_reducible assumption) | assumption)
                      have hx5 := bt_at a0 x7_1
                      replace p5 := eq_true p5
                      replace q5 := eq_true q5
                      go_wp2
                      go_roundg k1
                      case measure => have := HK1.out; omega
                      case rel => exact ⟨(wrap64 (x7_1 + 1)), (by first | rfl | (simp; done) | (simp [*]; done)), H', ⟨by have := HK1.out; omega⟩, by repeat (first | exact Drawn0.refl _ | apply Drawn0.step)⟩
                    · rw [if_neg c17] at H
                      have c17b0 : decide ((bt a0 x7_1) ≤ 57) = false := decide_eq_false c17
                      clear c17
                      obtain rfl := Option.some.inj H
                      have p5 : 0 ≤ (x7_1 : Int) := of_decide_eq_true (by first | (with_reducible assumption) | assumption)
                      have q5 : x7_1 < (a0.size : Int) := of_decide_eq_true (by first | (with_reducible assumption) | assumption)
                      have hx5 := bt_at a0 x7_1
                      replace p5 := eq_true p5
                      replace q5 := eq_true q5
                      go_wp2
                      go_ret
                      exact ⟨by first | rfl | (simp; done) | (simp [*]; done), by repeat (first | exact Drawn0.refl _ | apply Drawn0.step)⟩
                  · rw [if_neg c16] at H
                    have c16b0 : decide (48 ≤ (bt a0 x7_1)) = false := decide_eq_false c16
                    clear c16
                    obtain rfl := Option.some.inj H
                    have p5 : 0 ≤ (x7_1 : Int) := of_decide_eq_true (by first | (with_reducible assumption) | assumption)
                    have q5 : x7_1 < (a0.size : Int) := of_decide_eq_true (by first | (with_reducible assumption) | assumption)
                    have hx5 := bt_at a0 x7_1
                    replace p5 := eq_true p5
                    replace q5 := eq_true q5
                    go_wp2
                    go_ret
                    exact ⟨by first | rfl | (simp; done) | (simp [*]; done), by repeat (first | exact Drawn0.refl _ | apply Drawn0.step)⟩
              · rw [if_neg c14] at H
                have c14b0 : decide (65 ≤ (bt a0 x7_1)) = false := decide_eq_false c14
                clear c14
                by_cases c18 : (bt a0 x7_1) ≥ 48
                · rw [if_pos c18] at H
                  have c18b0 : decide (48 ≤ (bt a0 x7_1)) = true := decide_eq_true c18
                  clear c18
                  by_cases c19 : ((bt a0 x7_1) ≤ 57)
                  · rw [if_pos c19] at H
                    have c19b0 : decide ((bt a0 x7_1) ≤ 57) = true := decide_eq_true c19
                    clear c19
                    have H' := Aside0.mk H
                    clear H
                    have p5 : 0 ≤ (x7_1 : Int) := of_decide_eq_true (by first | (with_reducible assumption) | assumption)
                    have q5 : x7_1 < (a0.size : Int) := of_decide_eq_true (by first | (with_reducible assumption) | assumption)
                    have hx5 := bt_at a0 x7_1
                    replace p5 := eq_true p5
                    replace q5 := eq_true q5
                    go_wp2
                    go_roundg k1
                    case measure => have := HK1.out; omega
                    case rel => exact ⟨(wrap64 (x7_1 + 1)), (by first | rfl | (simp; done) | (simp [*]; done)), H', ⟨by have := HK1.out; omega⟩, by repeat (first | exact Drawn0.refl _ | apply Drawn0.step)⟩
                  · rw [if_neg c19] at H
                    have c19b0 : decide ((bt a0 x7_1) ≤ 57) = false := decide_eq_false c19
                    clear c19
                    obtain rfl := Option.some.inj H
                    have p5 : 0 ≤ (x7_1 : Int) := of_decide_eq_true (by first | (with_reducible assumption) | assumption)
                    have q5 : x7_1 < (a0.size : Int) := of_decide_eq_true (by first | (with_reducible assumption) | assumption)
                    have hx5 := bt_at a0 x7_1
                    replace p5 := eq_true p5
                    replace q5 := eq_true q5
                    go_wp2
                    go_ret
                    exact ⟨by first | rfl | (simp; done) | (simp [*]; done), by repeat (first | exact Drawn0.refl _ | apply Drawn0.step)⟩
                · rw [if_neg c18] at H
                  have c18b0 : decide (48 ≤ (bt a0 x7_1)) = false := decide_eq_false c18
                  clear c18
                  obtain rfl := Option.some.inj H
                  have p5 : 0 ≤ (x7_1 : Int) := of_decide_eq_true (by first | (with_reducible assumption) | assumption)
                  have q5 : x7_1 < (a0.size : Int) := of_decide_eq_true (by first | (with_reducible assumption) | assumption)
                  have hx5 := bt_at a0 x7_1
                  replace p5 := eq_true p5
                  replace q5 := eq_true q5
                  go_wp2
                  go_ret
                  exact ⟨by first | rfl | (simp; done) | (simp [*]; done), by repeat (first | exact Drawn0.refl _ | apply Drawn0.step)⟩
          · rw [if_neg c4] at H
            exact absurd H (by simp)
        · rw [if_neg c3] at H
          exact absurd H (by simp)
      · rw [if_neg c2] at H
        have c2b0 : decide (x7_1 < (a0.size : Int)) = false := decide_eq_false c2
        clear c2
        obtain rfl := Option.some.inj H
        go_wp2
        go_ret
        exact ⟨by first | rfl | (simp; done) | (simp [*]; done), by repeat (first | exact Drawn0.refl _ | apply Drawn0.step)⟩

/-! ### stringslite_HasSuffix: function 16 -/
def stringslite_HasSuffix.f (a0 : ByteArray) (a1 : ByteArray) : Option (Bool) := if (a0.size : Int) ≥ (a1.size : Int) then (if 0 ≤ (wrap64 ((a0.size : Int) - (a1.size : Int))) then (if (wrap64 ((a0.size : Int) - (a1.size : Int))) ≤ (a0.size : Int) then (some ((a0.extract ((wrap64 ((a0.size : Int) - (a1.size : Int))) : Int).toNat a0.size).toList == a1.toList)) else (none)) else (none)) else (some false)
set_option maxHeartbeats 8000000 in
set_option maxRecDepth 100000 in
theorem stringslite_HasSuffix.calls (a0 : ByteArray) (a1 : ByteArray) (r : Bool) (w : World) (h : stringslite_HasSuffix.f a0 a1 = some r) :
    Calls Tryd.prog 16 #[.string a0, .string a1] w fun e w' => e = .returned (.bool r) ∧ Drawn0 w w' := by
  have H : (if (a0.size : Int) ≥ (a1.size : Int) then (if 0 ≤ (wrap64 ((a0.size : Int) - (a1.size : Int))) then (if (wrap64 ((a0.size : Int) - (a1.size : Int))) ≤ (a0.size : Int) then (some ((a0.extract ((wrap64 ((a0.size : Int) - (a1.size : Int))) : Int).toNat a0.size).toList == a1.toList)) else (none)) else (none)) else (some false)) = some r := h
  clear h
  by_cases c3 : (a0.size : Int) ≥ (a1.size : Int)
  · rw [if_pos c3] at H
    have c3b0 : decide ((a1.size : Int) ≤ (a0.size : Int)) = true := decide_eq_true c3
    have c3b1 : decide (a1.size ≤ a0.size) = true := decide_eq_true (Int.ofNat_le.mp c3)
    clear c3
    obtain ⟨ji4, hji4⟩ : ∃ j_ : Int, (wrap64 ((a0.size : Int) - (a1.size : Int))) = j_ := ⟨_, rfl⟩
    replace H : (if 0 ≤ (ji4) then (if (ji4) ≤ (a0.size : Int) then (some ((a0.extract ((ji4) : Int).toNat a0.size).toList == a1.toList)) else (none)) else (none)) = some r := by first | (rw [hji4] at H; exact H) | (simp only [hji4] at H ⊢; exact H)
    have hji4w : (IntKind.i64.wrap ((a0.size : Int) - (a1.size : Int))) = ji4 := (i64_w _).trans hji4
    by_cases c5 : 0 ≤ (ji4)
    · rw [if_pos c5] at H
      have c5b0 := eq_true c5
      have c5b1 : decide (0 ≤ (ji4)) = true := decide_eq_true c5
      clear c5
      by_cases c6 : (ji4) ≤ (a0.size : Int)
      · rw [if_pos c6] at H
        have c6b0 := eq_true c6
        have c6b1 : decide ((ji4) ≤ (a0.size : Int)) = true := decide_eq_true c6
        clear c6
        obtain rfl := Option.some.inj H
        go_enter Tryd.func16, Tryd.ntmps16
        go_wp2
        go_ret
        exact ⟨by first | rfl | (simp; done) | (simp only [← hji4] <;> (first | rfl | simp)) | (simp [*]; done), by repeat (first | exact Drawn0.refl _ | apply Drawn0.step)⟩
      · rw [if_neg c6] at H
        exact absurd H (by simp)
    · rw [if_neg c5] at H
      exact absurd H (by simp)
  · rw [if_neg c3] at H
    have c3b0 : decide ((a1.size : Int) ≤ (a0.size : Int)) = false := decide_eq_false c3
    have c3b1 : decide (a1.size ≤ a0.size) = false := decide_eq_false (fun h => c3 (Int.ofNat_le.mpr h))
    clear c3
    obtain rfl := Option.some.inj H
    go_enter Tryd.func16, Tryd.ntmps16
    go_wp2
    go_ret
    exact ⟨by first | rfl | (simp; done) | (simp [*]; done), by repeat (first | exact Drawn0.refl _ | apply Drawn0.step)⟩

/-! ### strings_HasSuffix: function 8 -/
def strings_HasSuffix.f (a0 : ByteArray) (a1 : ByteArray) : Option (Bool) := (stringslite_HasSuffix.f a0 a1).bind fun t102 => (some t102)
set_option maxHeartbeats 8000000 in
set_option maxRecDepth 100000 in
theorem strings_HasSuffix.calls (a0 : ByteArray) (a1 : ByteArray) (r : Bool) (w : World) (h : strings_HasSuffix.f a0 a1 = some r) :
    Calls Tryd.prog 8 #[.string a0, .string a1] w fun e w' => e = .returned (.bool r) ∧ Drawn0 w w' := by
  have H : ((stringslite_HasSuffix.f a0 a1).bind fun t102 => (some t102)) = some r := h
  clear h
  replace H := Option.bind_eq_some_iff.mp H
  obtain ⟨t102, A30, H⟩ := H
  replace H : (some t102) = some r := H
  have A3 := Aside0.mk A30
  clear A30
  obtain rfl := Option.some.inj H
  go_enter Tryd.func8, Tryd.ntmps8
  go_wp2_with (first | ((with_reducible refine gate_callee (f := 16) rfl ?_); refine goesL_ (some 7) rfl rfl Tryd.func16 (by kernel_rfl) rfl #[.string a0, .string a1] rfl (by (try simp only [List.map_toArray, List.map_cons, List.map_nil]); first | done | rfl | (simp only [List.length_drop, List.length_take]; rfl)) ?_; (with_reducible refine (stringslite_HasSuffix.calls a0 a1 t102 _ A3.out).mono ?_); rintro e w' ⟨rfl, ⟨nd, rfl⟩⟩; refine ⟨_, rfl, ?_⟩))
  go_ret
  exact ⟨by first | rfl | (simp; done) | (simp [*]; done), by repeat (first | exact Drawn0.refl _ | apply Drawn0.step)⟩

/-! ### plumbing_zzIndex: function 17 -/
def plumbing_zzIndex.l0 : Nat → ByteArray → ByteArray → Int → Option (Int)
  | 0, _, _, _ => none
  | k + 1, x0, x1, x5 => if (wrap64 (x5 + (x1.size : Int))) ≤ (x0.size : Int) then (if 0 ≤ x5 then (if x5 ≤ (wrap64 (x5 + (x1.size : Int))) then (if (x0.extract (x5 : Int).toNat ((wrap64 (x5 + (x1.size : Int))) : Int).toNat).toList = x1.toList then (some x5) else (plumbing_zzIndex.l0 k x0 x1 (wrap64 (x5 + 1)))) else (none)) else (none)) else (some (-1))
def plumbing_zzIndex.f (k : Nat) (a0 : ByteArray) (a1 : ByteArray) : Option (Int) := plumbing_zzIndex.l0 k a0 a1 0
theorem plumbing_zzIndex.mono_l : ∀ k, (∀ y0 y1 y2, LeO (plumbing_zzIndex.l0 k y0 y1 y2) (plumbing_zzIndex.l0 (k + 1) y0 y1 y2))
  | 0 => fun _ _ _ r h => by simp [plumbing_zzIndex.l0] at h
  | k + 1 => by
    have ih0 := plumbing_zzIndex.mono_l k
    · intro y0 y1 y2
      unfold plumbing_zzIndex.l0
      repeat' first
      | (with_reducible exact ih0 _ _ _)
      | (with_reducible exact LeO.refl _)
      | (with_reducible exact LeO.none _)
      | (with_reducible refine LeO.ite ?_ ?_)
      | (with_reducible refine LeO.bind ?_ (fun _ => ?_))
      | exact ih0 _ _ _
      | exact LeO.none _
      | refine LeO.ite ?_ ?_
      | refine LeO.bind ?_ (fun _ => ?_)
theorem plumbing_zzIndex.mono : ∀ a0 a1 k, LeO (plumbing_zzIndex.f k a0 a1) (plumbing_zzIndex.f (k + 1) a0 a1) := by
  intro a0 a1 k
  have ih0 := plumbing_zzIndex.mono_l k
  unfold plumbing_zzIndex.f
  repeat' first
      | (with_reducible exact ih0 _ _ _)
      | (with_reducible exact LeO.refl _)
      | (with_reducible exact LeO.none _)
      | (with_reducible refine LeO.ite ?_ ?_)
      | (with_reducible refine LeO.bind ?_ (fun _ => ?_))
      | exact ih0 _ _ _
      | exact LeO.none _
      | refine LeO.ite ?_ ?_
      | refine LeO.bind ?_ (fun _ => ?_)
set_option maxHeartbeats 8000000 in
set_option maxRecDepth 100000 in
theorem plumbing_zzIndex.calls (k : Nat) (a0 : ByteArray) (a1 : ByteArray) (r : Int) (w : World) (h : plumbing_zzIndex.f k a0 a1 = some r) :
    Calls Tryd.prog 17 #[.string a0, .string a1] w fun e w' => e = .returned (.int .i64 r) ∧ Drawn0 w w' := by
  have H : (plumbing_zzIndex.l0 k a0 a1 0) = some r := h
  clear h
  have H' := Aside0.mk H
  clear H
  go_enter Tryd.func17, Tryd.ntmps17
  go_wp2
  go_loopg [5] k (fun kq v5 w' => ∃ (x5_1 : Int), v5 = .int .i64 x5_1 ∧ Aside0 (plumbing_zzIndex.l0 kq a0 a1 x5_1 = some r) ∧ Aside0 (kq ≤ k) ∧ Drawn0 w w')
  case atStart => exact ⟨(0), (by first | rfl | (simp; done) | (simp [*]; done)), H', ⟨Nat.le_refl _⟩, by repeat (first | exact Drawn0.refl _ | apply Drawn0.step)⟩
  case round =>
    clear H'
    try clear c1
    try clear p2
    obtain ⟨x5_1, rfl, HA, HK1, ⟨m1, rfl⟩⟩ := hrel
    cases gk with
    | zero => exact absurd HA.out (by simp [plumbing_zzIndex.l0])
    | succ k1 =>
      have H := HA.out
      clear HA
      simp only [plumbing_zzIndex.l0] at H
      by_cases c3 : (wrap64 (x5_1 + (a1.size : Int))) ≤ (a0.size : Int)
      · rw [if_pos c3] at H
        have c3b0 : decide ((wrap64 (x5_1 + (a1.size : Int))) ≤ (a0.size : Int)) = true := decide_eq_true c3
        clear c3
        by_cases c4 : 0 ≤ x5_1
        · rw [if_pos c4] at H
          have c4b0 := eq_true c4
          have c4b1 : decide (0 ≤ x5_1) = true := decide_eq_true c4
          clear c4
          by_cases c5 : x5_1 ≤ (wrap64 (x5_1 + (a1.size : Int)))
          · rw [if_pos c5] at H
            have c5b0 := eq_true c5
            have c5b1 : decide (x5_1 ≤ (wrap64 (x5_1 + (a1.size : Int)))) = true := decide_eq_true c5
            have c6b0 := eq_true (of_decide_eq_true (by first | (with_reducible assumption) | assumption) : (wrap64 (x5_1 + (a1.size : Int))) ≤ (a0.size : Int))
            by_cases c7 : (a0.extract (x5_1 : Int).toNat ((wrap64 (x5_1 + (a1.size : Int))) : Int).toNat).toList = a1.toList
            · rw [if_pos c7] at H
              have c7b0 : ((a0.extract (x5_1 : Int).toNat ((wrap64 (x5_1 + (a1.size : Int))) : Int).toNat).toList == a1.toList) = true := beq_iff_eq.mpr c7
              have c7b1 : ((a0.extract (x5_1 : Int).toNat ((wrap64 (x5_1 + (a1.size : Int))) : Int).toNat).toList != a1.toList) = false := bne_eq_false_iff_eq.mpr c7
              clear c7
              obtain rfl := Option.some.inj H
              go_wp2
              go_ret
              exact ⟨by first | rfl | (simp; done) | (simp [*]; done), by repeat (first | exact Drawn0.refl _ | apply Drawn0.step)⟩
            · rw [if_neg c7] at H
              have c7b0 : ((a0.extract (x5_1 : Int).toNat ((wrap64 (x5_1 + (a1.size : Int))) : Int).toNat).toList == a1.toList) = false := beq_eq_false_iff_ne.mpr c7
              have c7b1 : ((a0.extract (x5_1 : Int).toNat ((wrap64 (x5_1 + (a1.size : Int))) : Int).toNat).toList != a1.toList) = true := bne_iff_ne.mpr c7
              have H' := Aside0.mk H
              clear H
              go_wp2
              go_roundg k1
              case measure => have := HK1.out; omega
              case rel => exact ⟨(wrap64 (x5_1 + 1)), (by first | rfl | (simp; done) | (simp [*]; done)), H', ⟨by have := HK1.out; omega⟩, by repeat (first | exact Drawn0.refl _ | apply Drawn0.step)⟩
          · rw [if_neg c5] at H
            exact absurd H (by simp)
        · rw [if_neg c4] at H
          exact absurd H (by simp)
      · rw [if_neg c3] at H
        have c3b0 : decide ((wrap64 (x5_1 + (a1.size : Int))) ≤ (a0.size : Int)) = false := decide_eq_false c3
        clear c3
        obtain rfl := Option.some.inj H
        go_wp2
        go_ret
        exact ⟨by first | rfl | (simp; done) | (simp [*]; done), by repeat (first | exact Drawn0.refl _ | apply Drawn0.step)⟩

/-! ### plumbing_zzSplit: function 9 -/
def plumbing_zzSplit.l0 : Nat → ByteArray → ByteArray → List ByteArray → Option (List ByteArray)
  | 0, _, _, _ => none
  | k + 1, x0, x1, x5 => (plumbing_zzIndex.f k x0 x1).bind fun t103 => (if t103 < 0 then (if x5.length < 8796093022208 then (some (x5 ++ [x0])) else (none)) else (if 0 ≤ t103 then (if t103 ≤ (x0.size : Int) then (if x5.length < 8796093022208 then (if 0 ≤ (wrap64 (t103 + (x1.size : Int))) then (if (wrap64 (t103 + (x1.size : Int))) ≤ (x0.size : Int) then (plumbing_zzSplit.l0 k (x0.extract ((wrap64 (t103 + (x1.size : Int))) : Int).toNat x0.size) x1 (x5 ++ [x0.extract 0 (t103 : Int).toNat])) else (none)) else (none)) else (none)) else (none)) else (none)))
def plumbing_zzSplit.f (k : Nat) (a0 : ByteArray) (a1 : ByteArray) : Option (List ByteArray) := plumbing_zzSplit.l0 k a0 a1 ([] : List ByteArray)
theorem plumbing_zzSplit.mono_l : ∀ k, (∀ y0 y1 y2, LeO (plumbing_zzSplit.l0 k y0 y1 y2) (plumbing_zzSplit.l0 (k + 1) y0 y1 y2))
  | 0 => fun _ _ _ r h => by simp [plumbing_zzSplit.l0] at h
  | k + 1 => by
    have ih0 := plumbing_zzSplit.mono_l k
    · intro y0 y1 y2
      unfold plumbing_zzSplit.l0
      repeat' first
      | (with_reducible exact ih0 _ _ _)
      | (with_reducible exact plumbing_zzIndex.mono _ _ _)
      | (with_reducible exact LeO.refl _)
      | (with_reducible exact LeO.none _)
      | (with_reducible refine LeO.ite ?_ ?_)
      | (with_reducible refine LeO.bind ?_ (fun _ => ?_))
      | exact ih0 _ _ _
      | exact plumbing_zzIndex.mono _ _ _
      | exact LeO.none _
      | refine LeO.ite ?_ ?_
      | refine LeO.bind ?_ (fun _ => ?_)
theorem plumbing_zzSplit.mono : ∀ a0 a1 k, LeO (plumbing_zzSplit.f k a0 a1) (plumbing_zzSplit.f (k + 1) a0 a1) := by
  intro a0 a1 k
  have ih0 := plumbing_zzSplit.mono_l k
  unfold plumbing_zzSplit.f
  repeat' first
      | (with_reducible exact ih0 _ _ _)
      | (with_reducible exact plumbing_zzIndex.mono _ _ _)
      | (with_reducible exact LeO.refl _)
      | (with_reducible exact LeO.none _)
      | (with_reducible refine LeO.ite ?_ ?_)
      | (with_reducible refine LeO.bind ?_ (fun _ => ?_))
      | exact ih0 _ _ _
      | exact plumbing_zzIndex.mono _ _ _
      | exact LeO.none _
      | refine LeO.ite ?_ ?_
      | refine LeO.bind ?_ (fun _ => ?_)
set_option maxHeartbeats 8000000 in
set_option maxRecDepth 100000 in
theorem plumbing_zzSplit.calls (k : Nat) (a0 : ByteArray) (a1 : ByteArray) (r : List ByteArray) (w : World) (h : plumbing_zzSplit.f k a0 a1 = some r) :
    Calls Tryd.prog 9 #[.string a0, .string a1] w fun e w' => ∃ v0_ : Value, e = .returned (v0_) ∧ Kd.R Kd.string 9 w' w.heap.size (fun _ => True) v0_ r ∧ Below w.heap.size w w' := by
  have HB := Aside0.mk (Below.refl w.heap.size w)
  have H : (plumbing_zzSplit.l0 k a0 a1 ([] : List ByteArray)) = some r := h
  clear h
  have H' := Aside0.mk H
  clear H
  go_enter Tryd.func9, Tryd.ntmps9
  go_wp2
  go_loopg [0, 5] k (fun kq v0 v5 w' => ∃ (x0_1 : ByteArray) (x5_1 : List ByteArray), v0 = .string x0_1 ∧ Aside0 (plumbing_zzSplit.l0 kq x0_1 a1 x5_1 = some r) ∧ Aside0 (kq ≤ k) ∧ Aside0 (Kd.R Kd.string 9 w' w.heap.size (fun _ => True) v5 x5_1) ∧ Aside0 (Below w.heap.size w w'))
  case atStart => exact ⟨(a0), (([] : List ByteArray)), (by first | rfl | (simp; done) | (simp [*]; done)), H', ⟨Nat.le_refl _⟩, ⟨by first | exact Kd.R_nil _ _ _ _ _ | exact Kd.N_nil _ _ _ _ _ | exact Kd.V_nil _ _ _ _ _ | exact Kd.Q_nil _ _ _ _ _ | exact Kd.S_nil _ _ _ _ _⟩, ⟨by repeat (first | (with_reducible first | exact HB.out | apply below_alloc | apply pw_below_drewN | apply below_drew1) | exact HB.out)⟩⟩
  case round =>
    clear H'
    try clear p2
    obtain ⟨x0_1, x5_1, rfl, HA, HK1, HO_5, HB⟩ := hrel
    cases gk with
    | zero => exact absurd HA.out (by simp [plumbing_zzSplit.l0])
    | succ k1 =>
      have H := HA.out
      clear HA
      simp only [plumbing_zzSplit.l0] at H
      replace H := Option.bind_eq_some_iff.mp H
      obtain ⟨t103, A30, H⟩ := H
      replace H : (if t103 < 0 then (if x5_1.length < 8796093022208 then (some (x5_1 ++ [x0_1])) else (none)) else (if 0 ≤ t103 then (if t103 ≤ (x0_1.size : Int) then (if x5_1.length < 8796093022208 then (if 0 ≤ (wrap64 (t103 + (a1.size : Int))) then (if (wrap64 (t103 + (a1.size : Int))) ≤ (x0_1.size : Int) then (plumbing_zzSplit.l0 k1 (x0_1.extract ((wrap64 (t103 + (a1.size : Int))) : Int).toNat x0_1.size) a1 (x5_1 ++ [x0_1.extract 0 (t103 : Int).toNat])) else (none)) else (none)) else (none)) else (none)) else (none))) = some r := H
      have A3 := Aside0.mk A30
      clear A30
      by_cases c4 : t103 < 0
      · rw [if_pos c4] at H
        have c4b0 : decide (t103 < 0) = true := decide_eq_true c4
        clear c4
        by_cases c5 : x5_1.length < 8796093022208
        · rw [if_pos c5] at H
          have LMc5 := Aside0.mk c5
          clear c5
          obtain ⟨y104, hy104⟩ : ∃ y_ : List ByteArray, y_ = (x5_1 ++ [x0_1]) := ⟨_, rfl⟩
          replace H : (some y104) = some r := by first | (rw [hy104]; with_reducible exact H) | (have H2_ := (Option.bind_some _ _).symm.trans H; rw [hy104]; with_reducible exact H2_) | (have H2_ := (Option.bind_some _ _).symm.trans H; with_reducible exact H2_) | with_reducible exact H | (rw [hy104]; exact H) | exact H
          have Ny104 := Aside0.mk hy104
          clear hy104
          obtain rfl := Option.some.inj H
          go_wp2_with (first | ((with_reducible refine gate_callee (f := 17) rfl ?_); refine goesL_ (some 9) rfl rfl Tryd.func17 (by kernel_rfl) rfl #[.string x0_1, .string a1] rfl (by (try simp only [List.map_toArray, List.map_cons, List.map_nil]); first | done | rfl | (simp only [List.length_drop, List.length_take]; rfl)) ?_; (with_reducible refine (plumbing_zzIndex.calls k1 x0_1 a1 t103 _ A3.out).mono ?_); rintro e w' ⟨rfl, ⟨nd, rfl⟩⟩; refine ⟨_, rfl, ?_⟩) | ((with_reducible refine gate_builtin (b := .append) (xs := #[.tmp 12, .tmp 14]) rfl ?_); at_builtin; refine Kd.R_append Kd.string (w0 := w) w.heap.size rfl (.tmp 12) (.tmp 14) 22 9 (.string ⟨#[]⟩) 16 rfl Tryd.underlying22 info9 rfl (by decide) (by omega) u5 x5_1 x0_1 [.string x0_1] (fun _ => True) (fun _ => False) rfl rfl ?aP (fun _ hk => hk.elim) ?aF ?aO ?aB ?aS ?aL ?_; (case aP => exact rfl); (case aB => exact (by repeat (first | (with_reducible first | exact HB.out | apply below_alloc | apply pw_below_drewN | apply below_drew1) | exact HB.out))); (case aF => exact (fun _ _ => trivial)); (case aO => exact (by (with_reducible repeat (first | apply Kd.R_alloc | apply Kd.R_drewN | apply Kd.R_drew)); exact HO_5.out)); (case aS => exact (below_size (by repeat (first | (with_reducible first | exact HB.out | apply below_alloc | apply pw_below_drewN | apply below_drew1) | exact HB.out)))); (case aL => have := LMc5.out; omega); intro v105 w6 ho hb hg hat; rw [← Ny104.out] at ho; have n0_ := Aside0.mk (hb); have n1_ := Aside0.mk (ho); clear HB; clear HO_5; have HB := n0_; have HO106 := n1_; clear n0_ n1_; clear ho hb hg hat))
          go_ret
          exact ⟨_, by first | rfl | (simp [errW_none, errW_some] <;> rfl) | (simp [*, errW_none, errW_some] <;> rfl), by (with_reducible repeat (first | apply Kd.R_alloc | apply Kd.R_drewN | apply Kd.R_drew)); exact HO106.out, by repeat (first | (with_reducible first | exact HB.out | apply below_alloc | apply pw_below_drewN | apply below_drew1) | exact HB.out)⟩
        · rw [if_neg c5] at H
          exact absurd H (by simp)
      · rw [if_neg c4] at H
        have c4b0 : decide (t103 < 0) = false := decide_eq_false c4
        clear c4
        by_cases c7 : 0 ≤ t103
        · rw [if_pos c7] at H
          have c7b0 := eq_true c7
          have c7b1 : decide (0 ≤ t103) = true := decide_eq_true c7
          clear c7
          by_cases c8 : t103 ≤ (x0_1.size : Int)
          · rw [if_pos c8] at H
            have c8b0 := eq_true c8
            have c8b1 : decide (t103 ≤ (x0_1.size : Int)) = true := decide_eq_true c8
            clear c8
            by_cases c9 : x5_1.length < 8796093022208
            · rw [if_pos c9] at H
              have LMc9 := Aside0.mk c9
              clear c9
              obtain ⟨y107, hy107⟩ : ∃ y_ : List ByteArray, y_ = (x5_1 ++ [x0_1.extract 0 (t103 : Int).toNat]) := ⟨_, rfl⟩
              replace H : (if 0 ≤ (wrap64 (t103 + (a1.size : Int))) then (if (wrap64 (t103 + (a1.size : Int))) ≤ (x0_1.size : Int) then (plumbing_zzSplit.l0 k1 (x0_1.extract ((wrap64 (t103 + (a1.size : Int))) : Int).toNat x0_1.size) a1 y107) else (none)) else (none)) = some r := by first | (rw [hy107]; with_reducible exact H) | (have H2_ := (Option.bind_some _ _).symm.trans H; rw [hy107]; with_reducible exact H2_) | (have H2_ := (Option.bind_some _ _).symm.trans H; with_reducible exact H2_) | with_reducible exact H | (rw [hy107]; exact H) | exact H
              have Ny107 := Aside0.mk hy107
              clear hy107
              obtain ⟨ji10, hji10⟩ : ∃ j_ : Int, (wrap64 (t103 + (a1.size : Int))) = j_ := ⟨_, rfl⟩
              replace H : (if 0 ≤ (ji10) then (if (ji10) ≤ (x0_1.size : Int) then (plumbing_zzSplit.l0 k1 (x0_1.extract ((ji10) : Int).toNat x0_1.size) a1 y107) else (none)) else (none)) = some r := by first | (rw [hji10] at H; exact H) | (simp only [hji10] at H ⊢; exact H)
              (try rw [hji10] at A3)
              have hji10w : (IntKind.i64.wrap (t103 + (a1.size : Int))) = ji10 := (i64_w _).trans hji10
              by_cases c11 : 0 ≤ (ji10)
              · rw [if_pos c11] at H
                have c11b0 := eq_true c11
                have c11b1 : decide (0 ≤ (ji10)) = true := decide_eq_true c11
                clear c11
                by_cases c12 : (ji10) ≤ (x0_1.size : Int)
                · rw [if_pos c12] at H
                  have c12b0 := eq_true c12
                  have c12b1 : decide ((ji10) ≤ (x0_1.size : Int)) = true := decide_eq_true c12
                  clear c12
                  have H' := Aside0.mk H
                  clear H
                  go_wp2_with (first | ((with_reducible refine gate_callee (f := 17) rfl ?_); refine goesL_ (some 9) rfl rfl Tryd.func17 (by kernel_rfl) rfl #[.string x0_1, .string a1] rfl (by (try simp only [List.map_toArray, List.map_cons, List.map_nil]); first | done | rfl | (simp only [List.length_drop, List.length_take]; rfl)) ?_; (with_reducible refine (plumbing_zzIndex.calls k1 x0_1 a1 t103 _ A3.out).mono ?_); rintro e w' ⟨rfl, ⟨nd, rfl⟩⟩; refine ⟨_, rfl, ?_⟩) | ((with_reducible refine gate_builtin (b := .append) (xs := #[.tmp 16, .tmp 20]) rfl ?_); at_builtin; refine Kd.R_append Kd.string (w0 := w) w.heap.size rfl (.tmp 16) (.tmp 20) 22 9 (.string ⟨#[]⟩) 16 rfl Tryd.underlying22 info9 rfl (by decide) (by omega) u5 x5_1 (x0_1.extract 0 (t103 : Int).toNat) [.string (x0_1.extract 0 (t103 : Int).toNat)] (fun _ => True) (fun _ => False) rfl rfl ?aP (fun _ hk => hk.elim) ?aF ?aO ?aB ?aS ?aL ?_; (case aP => exact rfl); (case aB => exact (by repeat (first | (with_reducible first | exact HB.out | apply below_alloc | apply pw_below_drewN | apply below_drew1) | exact HB.out))); (case aF => exact (fun _ _ => trivial)); (case aO => exact (by (with_reducible repeat (first | apply Kd.R_alloc | apply Kd.R_drewN | apply Kd.R_drew)); exact HO_5.out)); (case aS => exact (below_size (by repeat (first | (with_reducible first | exact HB.out | apply below_alloc | apply pw_below_drewN | apply below_drew1) | exact HB.out)))); (case aL => have := LMc9.out; omega); intro v108 w13 ho hb hg hat; rw [← Ny107.out] at ho; have n0_ := Aside0.mk (hb); have n1_ := Aside0.mk (ho); clear HB; clear HO_5; have HB := n0_; have HO109 := n1_; clear n0_ n1_; clear ho hb hg hat))
                  go_roundg k1
                  case measure => have := HK1.out; omega
                  case rel => exact ⟨(x0_1.extract ((ji10) : Int).toNat x0_1.size), (y107), (by first | rfl | (simp; done) | (simp only [← hji10] <;> (first | rfl | simp)) | (simp [*]; done)), H', ⟨by have := HK1.out; omega⟩, ⟨by (with_reducible repeat (first | apply Kd.R_alloc | apply Kd.R_drewN | apply Kd.R_drew)); exact HO109.out⟩, ⟨by repeat (first | (with_reducible first | exact HB.out | apply below_alloc | apply pw_below_drewN | apply below_drew1) | exact HB.out)⟩⟩
                · rw [if_neg c12] at H
                  exact absurd H (by simp)
              · rw [if_neg c11] at H
                exact absurd H (by simp)
            · rw [if_neg c9] at H
              exact absurd H (by simp)
          · rw [if_neg c8] at H
            exact absurd H (by simp)
        · rw [if_neg c7] at H
          exact absurd H (by simp)

/-! ### stringslite_HasPrefix: function 18 -/
def stringslite_HasPrefix.f (a0 : ByteArray) (a1 : ByteArray) : Option (Bool) := if (a0.size : Int) ≥ (a1.size : Int) then (if 0 ≤ (a1.size : Int) then (if (a1.size : Int) ≤ (a0.size : Int) then (some ((a0.extract 0 ((a1.size : Int) : Int).toNat).toList == a1.toList)) else (none)) else (none)) else (some false)
set_option maxHeartbeats 8000000 in
set_option maxRecDepth 100000 in
theorem stringslite_HasPrefix.calls (a0 : ByteArray) (a1 : ByteArray) (r : Bool) (w : World) (h : stringslite_HasPrefix.f a0 a1 = some r) :
    Calls Tryd.prog 18 #[.string a0, .string a1] w fun e w' => e = .returned (.bool r) ∧ Drawn0 w w' := by
  have H : (if (a0.size : Int) ≥ (a1.size : Int) then (if 0 ≤ (a1.size : Int) then (if (a1.size : Int) ≤ (a0.size : Int) then (some ((a0.extract 0 ((a1.size : Int) : Int).toNat).toList == a1.toList)) else (none)) else (none)) else (some false)) = some r := h
  clear h
  by_cases c3 : (a0.size : Int) ≥ (a1.size : Int)
  · rw [if_pos c3] at H
    have c3b0 : decide ((a1.size : Int) ≤ (a0.size : Int)) = true := decide_eq_true c3
    have c3b1 : decide (a1.size ≤ a0.size) = true := decide_eq_true (Int.ofNat_le.mp c3)
    clear c3
    by_cases c4 : 0 ≤ (a1.size : Int)
    · rw [if_pos c4] at H
      have c4b0 := eq_true c4
      have c4b1 : decide (0 ≤ (a1.size : Int)) = true := decide_eq_true c4
      clear c4
      by_cases c5 : (a1.size : Int) ≤ (a0.size : Int)
      · rw [if_pos c5] at H
        have c5b0 := eq_true c5
        have c5b1 : decide ((a1.size : Int) ≤ (a0.size : Int)) = true := decide_eq_true c5
        clear c5
        obtain rfl := Option.some.inj H
        go_enter Tryd.func18, Tryd.ntmps18
        go_wp2
        go_ret
        exact ⟨by first | rfl | (simp; done) | (simp [*]; done), by repeat (first | exact Drawn0.refl _ | apply Drawn0.step)⟩
      · rw [if_neg c5] at H
        exact absurd H (by simp)
    · rw [if_neg c4] at H
      exact absurd H (by simp)
  · rw [if_neg c3] at H
    have c3b0 : decide ((a1.size : Int) ≤ (a0.size : Int)) = false := decide_eq_false c3
    have c3b1 : decide (a1.size ≤ a0.size) = false := decide_eq_false (fun h => c3 (Int.ofNat_le.mpr h))
    clear c3
    obtain rfl := Option.some.inj H
    go_enter Tryd.func18, Tryd.ntmps18
    go_wp2
    go_ret
    exact ⟨by first | rfl | (simp; done) | (simp [*]; done), by repeat (first | exact Drawn0.refl _ | apply Drawn0.step)⟩

/-! ### strings_HasPrefix: function 12 -/
def strings_HasPrefix.f (a0 : ByteArray) (a1 : ByteArray) : Option (Bool) := (stringslite_HasPrefix.f a0 a1).bind fun t110 => (some t110)
set_option maxHeartbeats 8000000 in
set_option maxRecDepth 100000 in
theorem strings_HasPrefix.calls (a0 : ByteArray) (a1 : ByteArray) (r : Bool) (w : World) (h : strings_HasPrefix.f a0 a1 = some r) :
    Calls Tryd.prog 12 #[.string a0, .string a1] w fun e w' => e = .returned (.bool r) ∧ Drawn0 w w' := by
  have H : ((stringslite_HasPrefix.f a0 a1).bind fun t110 => (some t110)) = some r := h
  clear h
  replace H := Option.bind_eq_some_iff.mp H
  obtain ⟨t110, A30, H⟩ := H
  replace H : (some t110) = some r := H
  have A3 := Aside0.mk A30
  clear A30
  obtain rfl := Option.some.inj H
  go_enter Tryd.func12, Tryd.ntmps12
  go_wp2_with (first | ((with_reducible refine gate_callee (f := 18) rfl ?_); refine goesL_ (some 7) rfl rfl Tryd.func18 (by kernel_rfl) rfl #[.string a0, .string a1] rfl (by (try simp only [List.map_toArray, List.map_cons, List.map_nil]); first | done | rfl | (simp only [List.length_drop, List.length_take]; rfl)) ?_; (with_reducible refine (stringslite_HasPrefix.calls a0 a1 t110 _ A3.out).mono ?_); rintro e w' ⟨rfl, ⟨nd, rfl⟩⟩; refine ⟨_, rfl, ?_⟩))
  go_ret
  exact ⟨by first | rfl | (simp; done) | (simp [*]; done), by repeat (first | exact Drawn0.refl _ | apply Drawn0.step)⟩

/-! ### plumbing_ReferenceName_IsBranch: function 10 -/
def plumbing_ReferenceName_IsBranch.f (a0 : ByteArray) : Option (Bool) := (strings_HasPrefix.f a0 (⟨#[114, 101, 102, 115, 47, 104, 101, 97, 100, 115, 47]⟩ : ByteArray)).bind fun t111 => (some t111)
set_option maxHeartbeats 8000000 in
set_option maxRecDepth 100000 in
theorem plumbing_ReferenceName_IsBranch.calls (a0 : ByteArray) (r : Bool) (w : World) (h : plumbing_ReferenceName_IsBranch.f a0 = some r) :
    Calls Tryd.prog 10 #[.string a0] w fun e w' => e = .returned (.bool r) ∧ Drawn0 w w' := by
  have H : ((strings_HasPrefix.f a0 (⟨#[114, 101, 102, 115, 47, 104, 101, 97, 100, 115, 47]⟩ : ByteArray)).bind fun t111 => (some t111)) = some r := h
  clear h
  replace H := Option.bind_eq_some_iff.mp H
  obtain ⟨t111, A20, H⟩ := H
  replace H : (some t111) = some r := H
  have A2 := Aside0.mk A20
  clear A20
  obtain rfl := Option.some.inj H
  go_enter Tryd.func10, Tryd.ntmps10
  go_wp2_with (first | ((with_reducible refine gate_callee (f := 12) rfl ?_); refine goesL_ (some 4) rfl rfl Tryd.func12 (by kernel_rfl) rfl #[.string a0, .string (⟨#[114, 101, 102, 115, 47, 104, 101, 97, 100, 115, 47]⟩ : ByteArray)] rfl (by (try simp only [List.map_toArray, List.map_cons, List.map_nil]); first | done | rfl | (simp only [List.length_drop, List.length_take]; rfl)) ?_; (with_reducible refine (strings_HasPrefix.calls a0 (⟨#[114, 101, 102, 115, 47, 104, 101, 97, 100, 115, 47]⟩ : ByteArray) t111 _ A2.out).mono ?_); rintro e w' ⟨rfl, ⟨nd, rfl⟩⟩; refine ⟨_, rfl, ?_⟩))
  go_ret
  exact ⟨by first | rfl | (simp; done) | (simp [*]; done), by repeat (first | exact Drawn0.refl _ | apply Drawn0.step)⟩

/-! ### plumbing_ReferenceName_IsTag: function 11 -/
def plumbing_ReferenceName_IsTag.f (a0 : ByteArray) : Option (Bool) := (strings_HasPrefix.f a0 (⟨#[114, 101, 102, 115, 47, 116, 97, 103, 115, 47]⟩ : ByteArray)).bind fun t112 => (some t112)
set_option maxHeartbeats 8000000 in
set_option maxRecDepth 100000 in
theorem plumbing_ReferenceName_IsTag.calls (a0 : ByteArray) (r : Bool) (w : World) (h : plumbing_ReferenceName_IsTag.f a0 = some r) :
    Calls Tryd.prog 11 #[.string a0] w fun e w' => e = .returned (.bool r) ∧ Drawn0 w w' := by
  have H : ((strings_HasPrefix.f a0 (⟨#[114, 101, 102, 115, 47, 116, 97, 103, 115, 47]⟩ : ByteArray)).bind fun t112 => (some t112)) = some r := h
  clear h
  replace H := Option.bind_eq_some_iff.mp H
  obtain ⟨t112, A20, H⟩ := H
  replace H : (some t112) = some r := H
  have A2 := Aside0.mk A20
  clear A20
  obtain rfl := Option.some.inj H
  go_enter Tryd.func11, Tryd.ntmps11
  go_wp2_with (first | ((with_reducible refine gate_callee (f := 12) rfl ?_); refine goesL_ (some 4) rfl rfl Tryd.func12 (by kernel_rfl) rfl #[.string a0, .string (⟨#[114, 101, 102, 115, 47, 116, 97, 103, 115, 47]⟩ : ByteArray)] rfl (by (try simp only [List.map_toArray, List.map_cons, List.map_nil]); first | done | rfl | (simp only [List.length_drop, List.length_take]; rfl)) ?_; (with_reducible refine (strings_HasPrefix.calls a0 (⟨#[114, 101, 102, 115, 47, 116, 97, 103, 115, 47]⟩ : ByteArray) t112 _ A2.out).mono ?_); rintro e w' ⟨rfl, ⟨nd, rfl⟩⟩; refine ⟨_, rfl, ?_⟩))
  go_ret
  exact ⟨by first | rfl | (simp; done) | (simp [*]; done), by repeat (first | exact Drawn0.refl _ | apply Drawn0.step)⟩

/-! ### plumbing_zzContains: function 13 -/
def plumbing_zzContains.f (k : Nat) (a0 : ByteArray) (a1 : ByteArray) : Option (Bool) := (plumbing_zzIndex.f k a0 a1).bind fun t113 => (some (decide (t113 ≥ 0)))
theorem plumbing_zzContains.mono : ∀ a0 a1 k, LeO (plumbing_zzContains.f k a0 a1) (plumbing_zzContains.f (k + 1) a0 a1) := by
  intro a0 a1 k
  unfold plumbing_zzContains.f
  repeat' first
      | (with_reducible exact plumbing_zzIndex.mono _ _ _)
      | (with_reducible exact LeO.refl _)
      | (with_reducible exact LeO.none _)
      | (with_reducible refine LeO.ite ?_ ?_)
      | (with_reducible refine LeO.bind ?_ (fun _ => ?_))
      | exact plumbing_zzIndex.mono _ _ _
      | exact LeO.none _
      | refine LeO.ite ?_ ?_
      | refine LeO.bind ?_ (fun _ => ?_)
set_option maxHeartbeats 8000000 in
set_option maxRecDepth 100000 in
theorem plumbing_zzContains.calls (k : Nat) (a0 : ByteArray) (a1 : ByteArray) (r : Bool) (w : World) (h : plumbing_zzContains.f k a0 a1 = some r) :
    Calls Tryd.prog 13 #[.string a0, .string a1] w fun e w' => e = .returned (.bool r) ∧ Drawn0 w w' := by
  have H : ((plumbing_zzIndex.f k a0 a1).bind fun t113 => (some (decide (t113 ≥ 0)))) = some r := h
  clear h
  replace H := Option.bind_eq_some_iff.mp H
  obtain ⟨t113, A30, H⟩ := H
  replace H : (some (decide (t113 ≥ 0))) = some r := H
  have A3 := Aside0.mk A30
  clear A30
  obtain rfl := Option.some.inj H
  go_enter Tryd.func13, Tryd.ntmps13
  go_wp2_with (first | ((with_reducible refine gate_callee (f := 17) rfl ?_); refine goesL_ (some 7) rfl rfl Tryd.func17 (by kernel_rfl) rfl #[.string a0, .string a1] rfl (by (try simp only [List.map_toArray, List.map_cons, List.map_nil]); first | done | rfl | (simp only [List.length_drop, List.length_take]; rfl)) ?_; (with_reducible refine (plumbing_zzIndex.calls k a0 a1 t113 _ A3.out).mono ?_); rintro e w' ⟨rfl, ⟨nd, rfl⟩⟩; refine ⟨_, rfl, ?_⟩))
  go_ret
  exact ⟨by first | rfl | (simp; done) | (simp [*]; done), by repeat (first | exact Drawn0.refl _ | apply Drawn0.step)⟩

end Go.Proofs.YtjeaehefnpjabaaDoor.QFnRefValid
