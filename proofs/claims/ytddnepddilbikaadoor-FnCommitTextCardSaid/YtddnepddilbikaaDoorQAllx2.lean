-- WRITTEN BY A PROGRAM OF THIS SESSION, out of the loaded program, with words of the kit
import Derived.Test.YtddnepddilbikaaDoorQAllx0
import Derived.Test.YtddnepddilbikaaDoorQAllx1
namespace Go.Proofs.YtddnepddilbikaaDoor.QAll
open Go.RowKit Go.Proofs.YtddnepddilbikaaDoorW.PrintWords Go.Proofs.YtddnepddilbikaaDoorW.PrintLast Go.Proofs.YtddnepddilbikaaDoorW.PrintMore
attribute [local go_sem] max2_int min2_int max_two min_two max_three min_three max_four min_four   -- for this text's walks alone
set_option linter.unusedVariables false
set_option linter.unusedSimpArgs false

/-! ### spec_Has: function 42 -/
def spec_Has.l0 : Nat → ByteArray → Int → Int → Int → Option (Bool)
  | 0, _, _, _, _ => none
  | k + 1, x0, x1, x7, x8 => if x8 < x7 then (if 0 ≤ x8 then (if x8 < (x0.size : Int) then (if (bt x0 x8) = x1 then (some true) else (spec_Has.l0 k x0 x1 x7 (wrap64 (x8 + 1)))) else (none)) else (none)) else (some false)
def spec_Has.f (k : Nat) (a0 : ByteArray) (a1 : Int) : Option (Bool) := spec_Has.l0 k a0 a1 (a0.size : Int) 0
theorem spec_Has.mono_l : ∀ k, (∀ y0 y1 y2 y3, LeO (spec_Has.l0 k y0 y1 y2 y3) (spec_Has.l0 (k + 1) y0 y1 y2 y3))
  | 0 => fun _ _ _ _ r h => by simp [spec_Has.l0] at h
  | k + 1 => by
    have ih0 := spec_Has.mono_l k
    · intro y0 y1 y2 y3
      unfold spec_Has.l0
      repeat' first
      | (with_reducible exact ih0 _ _ _ _)
      | (with_reducible exact LeO.refl _)
      | (with_reducible exact LeO.none _)
      | (with_reducible refine LeO.ite ?_ ?_)
      | (with_reducible refine LeO.bind ?_ (fun _ => ?_))
      | exact ih0 _ _ _ _
      | exact LeO.none _
      | refine LeO.ite ?_ ?_
      | refine LeO.bind ?_ (fun _ => ?_)
theorem spec_Has.mono : ∀ a0 a1 k, LeO (spec_Has.f k a0 a1) (spec_Has.f (k + 1) a0 a1) := by
  intro a0 a1 k
  have ih0 := spec_Has.mono_l k
  unfold spec_Has.f
  repeat' first
      | (with_reducible exact ih0 _ _ _ _)
      | (with_reducible exact LeO.refl _)
      | (with_reducible exact LeO.none _)
      | (with_reducible refine LeO.ite ?_ ?_)
      | (with_reducible refine LeO.bind ?_ (fun _ => ?_))
      | exact ih0 _ _ _ _
      | exact LeO.none _
      | refine LeO.ite ?_ ?_
      | refine LeO.bind ?_ (fun _ => ?_)
set_option maxHeartbeats 8000000 in
set_option maxRecDepth 100000 in
theorem spec_Has.calls (k : Nat) (a0 : ByteArray) (a1 : Int) (r : Bool) (w : World) (h : spec_Has.f k a0 a1 = some r) :
    Calls Tryd.prog 42 #[.string a0, .int .u8 a1] w fun e w' => e = .returned (.bool r) ∧ Drawn0 w w' := by
  have H : (spec_Has.l0 k a0 a1 (a0.size : Int) 0) = some r := h
  clear h
  have H' := Aside0.mk H
  clear H
  go_enter Tryd.func42, Tryd.ntmps42
  go_wp2
  go_loopg [8] k (fun kq v8 w' => ∃ (x8_1 : Int), v8 = .int .i64 x8_1 ∧ Aside0 (spec_Has.l0 kq a0 a1 (a0.size : Int) x8_1 = some r) ∧ Aside0 (kq ≤ k) ∧ Drawn0 w w')
  case atStart => exact ⟨(0), (by first | rfl | (simp; done) | (simp [*]; done)), H', ⟨Nat.le_refl _⟩, by repeat (first | exact Drawn0.refl _ | apply Drawn0.step)⟩
  case round =>
    clear H'
    try clear p2
    obtain ⟨x8_1, rfl, HA, HK1, ⟨m1, rfl⟩⟩ := hrel
    cases gk with
    | zero => exact absurd HA.out (by simp [spec_Has.l0])
    | succ k1 =>
      have H := HA.out
      clear HA
      simp only [spec_Has.l0] at H
      by_cases c3 : x8_1 < (a0.size : Int)
      · rw [if_pos c3] at H
        have c3b0 : decide (x8_1 < (a0.size : Int)) = true := decide_eq_true c3
        clear c3
        by_cases c4 : 0 ≤ x8_1
        · rw [if_pos c4] at H
          have c4b0 : decide (0 ≤ x8_1) = true := decide_eq_true c4
          clear c4
          by_cases c5 : x8_1 < (a0.size : Int)
          · rw [if_pos c5] at H
            have c5b0 : decide (x8_1 < (a0.size : Int)) = true := decide_eq_true c5
            clear c5
            by_cases c7 : (bt a0 x8_1) = a1
            · rw [if_pos c7] at H
              have c7b0 : ((bt a0 x8_1) == a1) = true := beq_iff_eq.mpr c7
              have c7b1 : ((bt a0 x8_1) != a1) = false := bne_eq_false_iff_eq.mpr c7
              clear c7
              obtain rfl := Option.some.inj H
              have p6 : 0 ≤ (x8_1 : Int) := of_decide_eq_true (by first | (with_reducible assumption) | assumption)
              have q6 : x8_1 < (a0.size : Int) := of_decide_eq_true (by first | (with_reducible assumption) | assumption)
              have hx6 := bt_at a0 x8_1
              replace p6 := eq_true p6
              replace q6 := eq_true q6
              go_wp2
              go_ret
              exact ⟨by first | rfl | (simp; done) | (simp [*]; done), by repeat (first | exact Drawn0.refl _ | apply Drawn0.step)⟩
            · rw [if_neg c7] at H
              have c7b0 : ((bt a0 x8_1) == a1) = false := beq_eq_false_iff_ne.mpr c7
              have c7b1 : ((bt a0 x8_1) != a1) = true := bne_iff_ne.mpr c7
              have H' := Aside0.mk H
              clear H
              have p6 : 0 ≤ (x8_1 : Int) := of_decide_eq_true (by first | (with_reducible assumption) | assumption)
              have q6 : x8_1 < (a0.size : Int) := of_decide_eq_true (by first | (with_reducible assumption) | assumption)
              have hx6 := bt_at a0 x8_1
              replace p6 := eq_true p6
              replace q6 := eq_true q6
              go_wp2
              go_roundg k1
              case measure => have := HK1.out; omega
              case rel => exact ⟨(wrap64 (x8_1 + 1)), (by first | rfl | (simp; done) | (simp [*]; done)), H', ⟨by have := HK1.out; omega⟩, by repeat (first | exact Drawn0.refl _ | apply Drawn0.step)⟩
          · rw [if_neg c5] at H
            exact absurd H (by simp)
        · rw [if_neg c4] at H
          exact absurd H (by simp)
      · rw [if_neg c3] at H
        have c3b0 : decide (x8_1 < (a0.size : Int)) = false := decide_eq_false c3
        clear c3
        obtain rfl := Option.some.inj H
        go_wp2
        go_ret
        exact ⟨by first | rfl | (simp; done) | (simp [*]; done), by repeat (first | exact Drawn0.refl _ | apply Drawn0.step)⟩

/-! ### spec_IsMode: function 43 -/
def spec_IsMode.f (a0 : Int) : Option (Bool) := if a0 = 16384 then (some true) else (if a0 = 33188 then (some true) else (if a0 = 33204 then (some true) else (if a0 = 33261 then (some true) else (if a0 = 40960 then (some true) else (if a0 = 57344 then (some true) else (some false))))))
/-! ### spec_IsEntry: function 20 -/
def spec_IsEntry.f (k : Nat) (a0_0 : ByteArray) (a0_1 : Int) (a0_2 : ByteArray) : Option (Bool) := if a0_0.toList = ([] : List UInt8) then (some false) else (if (a0_0.size : Int) ≤ 4096 then ((spec_Has.f k a0_0 0).bind fun t114 => (if t114 = true then (some false) else ((spec_Has.f k a0_0 47).bind fun t115 => (if t115 = true then (some false) else ((spec_IsMode.f a0_1).bind fun t116 => (if t116 = true then (if a0_1 = 33204 then (some false) else ((spec_IsName40.f k a0_2).bind fun t117 => (some t117))) else (some false))))))) else (some false))
theorem spec_IsEntry.mono : ∀ a0 a1 a2 k, LeO (spec_IsEntry.f k a0 a1 a2) (spec_IsEntry.f (k + 1) a0 a1 a2) := by
  intro a0 a1 a2 k
  unfold spec_IsEntry.f
  repeat' first
      | (with_reducible exact spec_Has.mono _ _ _)
      | (with_reducible exact spec_IsName40.mono _ _)
      | (with_reducible exact LeO.refl _)
      | (with_reducible exact LeO.none _)
      | (with_reducible refine LeO.ite ?_ ?_)
      | (with_reducible refine LeO.bind ?_ (fun _ => ?_))
      | exact spec_Has.mono _ _ _
      | exact spec_IsName40.mono _ _
      | exact LeO.none _
      | refine LeO.ite ?_ ?_
      | refine LeO.bind ?_ (fun _ => ?_)
/-! ### spec_sortName: function 21 -/
def spec_sortName.f (a0_0 : ByteArray) (a0_1 : Int) (a0_2 : ByteArray) : Option (ByteArray) := if a0_1 = 16384 then (if a0_0.size + 1 ≤ 9223372036854775807 then (some (a0_0 ++ (⟨#[47]⟩ : ByteArray))) else (none)) else (some a0_0)
end Go.Proofs.YtddnepddilbikaaDoor.QAll
