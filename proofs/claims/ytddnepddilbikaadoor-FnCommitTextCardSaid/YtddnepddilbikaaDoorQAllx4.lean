-- WRITTEN BY A PROGRAM OF THIS SESSION, out of the loaded program, with words of the kit
import Derived.Test.YtddnepddilbikaaDoorQAllx0
import Derived.Test.YtddnepddilbikaaDoorQAllx2
namespace Go.Proofs.YtddnepddilbikaaDoor.QAll
open Go.RowKit Go.Proofs.YtddnepddilbikaaDoorW.PrintWords Go.Proofs.YtddnepddilbikaaDoorW.PrintLast Go.Proofs.YtddnepddilbikaaDoorW.PrintMore
attribute [local go_sem] max2_int min2_int max_two min_two max_three min_three max_four min_four   -- for this text's walks alone
set_option linter.unusedVariables false
set_option linter.unusedSimpArgs false

/-! ### spec_digit: function 51 -/
def spec_digit.f (a0 : Int) : Option (Int) := if a0 ≥ 97 then (some ((((a0 - 97) % 256) + 10) % 256)) else (some ((a0 - 48) % 256))
/-! ### spec_Unhex: function 26 -/
def spec_Unhex.l0 : Nat → ByteArray → List Int → Int → Option (List Int)
  | 0, _, _, _ => none
  | k + 1, x0, x3, x4 => if (wrap64 (x4 + 1)) < (x0.size : Int) then (if 0 ≤ x4 then (if x4 < (x0.size : Int) then ((spec_digit.f (bt x0 x4)).bind fun t125 => (if 0 ≤ (wrap64 (x4 + 1)) then ((spec_digit.f (bt x0 (wrap64 (x4 + 1)))).bind fun t126 => (if x3.length < 140737488355328 then (spec_Unhex.l0 k x0 (x3 ++ [Go.bits .or .u8 ((t125 * 16) % 256) t126]) (wrap64 (x4 + 2))) else (none))) else (none))) else (none)) else (none)) else (some x3)
def spec_Unhex.f (k : Nat) (a0 : ByteArray) : Option (List Int) := spec_Unhex.l0 k a0 ([] : List Int) 0
theorem spec_Unhex.mono_l : ∀ k, (∀ y0 y1 y2, LeO (spec_Unhex.l0 k y0 y1 y2) (spec_Unhex.l0 (k + 1) y0 y1 y2))
  | 0 => fun _ _ _ r h => by simp [spec_Unhex.l0] at h
  | k + 1 => by
    have ih0 := spec_Unhex.mono_l k
    · intro y0 y1 y2
      unfold spec_Unhex.l0
      repeat' first
      | (with_reducible exact ih0 _ _ _)
      | (with_reducible exact LeO.refl _)
      | (with_reducible exact LeO.none _)
      | (with_reducible refine LeO.ite ?_ ?_)
      | (with_reducible refine LeO.bind ?_ (fun _ => ?_))
      | exact ih0 _ _ _
      | exact LeO.none _
      | refine LeO.ite ?_ ?_
      | refine LeO.bind ?_ (fun _ => ?_)
theorem spec_Unhex.mono : ∀ a0 k, LeO (spec_Unhex.f k a0) (spec_Unhex.f (k + 1) a0) := by
  intro a0 k
  have ih0 := spec_Unhex.mono_l k
  unfold spec_Unhex.f
  repeat' first
      | (with_reducible exact ih0 _ _ _)
      | (with_reducible exact LeO.refl _)
      | (with_reducible exact LeO.none _)
      | (with_reducible refine LeO.ite ?_ ?_)
      | (with_reducible refine LeO.bind ?_ (fun _ => ?_))
      | exact ih0 _ _ _
      | exact LeO.none _
      | refine LeO.ite ?_ ?_
      | refine LeO.bind ?_ (fun _ => ?_)
def spec_Unhex.T5 : Bool × List (List Nat × List Nat) := (true, [([], []), ([], []), ([], []), ([1, 2], [1, 2]), ([3], [3]), ([4], [4]), ([], []), ([], []), ([7], [7]), ([6, 8], [6, 8]), ([9, 4], [9]), ([5, 10], [5, 10]), ([11], [11]), ([0, 12, 10], [0, 12]), ([13, 13, 0, 1, 2, 3, 4, 5, 6, 7, 8, 9, 10, 11, 12, 13], [0, 13])])
def spec_Unhex.B5 : List Nat := [0, 0, 0, 6, 14, 30, 0, 0, 128, 448, 990, 2046, 4094, 8191, 16383]
theorem spec_Unhex.tab5 : rtab .any (opsOf Tryd.f26 5) = spec_Unhex.T5 := by kernel_rfl
theorem spec_Unhex.bits5 : waitsOk spec_Unhex.T5.2 spec_Unhex.B5 = true := by kernel_rfl
/-! ### spec_ObName: function 29 -/
def spec_ObName.f (a0 : Int) : Option (ByteArray) := if a0 = 1 then (some (⟨#[99, 111, 109, 109, 105, 116]⟩ : ByteArray)) else (if a0 = 2 then (some (⟨#[116, 114, 101, 101]⟩ : ByteArray)) else (if a0 = 3 then (some (⟨#[98, 108, 111, 98]⟩ : ByteArray)) else (if a0 = 4 then (some (⟨#[116, 97, 103]⟩ : ByteArray)) else (some (⟨#[]⟩ : ByteArray)))))
set_option maxHeartbeats 8000000 in
set_option maxRecDepth 100000 in
theorem spec_ObName.calls (a0 : Int) (r : ByteArray) (w : World) (h : spec_ObName.f a0 = some r) :
    Calls Tryd.prog 29 #[.int .i64 a0] w fun e w' => e = .returned (.string r) ∧ Drawn0 w w' := by
  have H : (if a0 = 1 then (some (⟨#[99, 111, 109, 109, 105, 116]⟩ : ByteArray)) else (if a0 = 2 then (some (⟨#[116, 114, 101, 101]⟩ : ByteArray)) else (if a0 = 3 then (some (⟨#[98, 108, 111, 98]⟩ : ByteArray)) else (if a0 = 4 then (some (⟨#[116, 97, 103]⟩ : ByteArray)) else (some (⟨#[]⟩ : ByteArray)))))) = some r := h
  clear h
  by_cases c2 : a0 = 1
  · rw [if_pos c2] at H
    have c2b0 : (a0 == 1) = true := beq_iff_eq.mpr c2
    have c2b1 : (a0 != 1) = false := bne_eq_false_iff_eq.mpr c2
    clear c2
    obtain rfl := Option.some.inj H
    go_enter Tryd.func29, Tryd.ntmps29
    go_wp2
    go_ret
    exact ⟨by first | rfl | (simp; done) | (simp [*]; done), by repeat (first | exact Drawn0.refl _ | apply Drawn0.step)⟩
  · rw [if_neg c2] at H
    have c2b0 : (a0 == 1) = false := beq_eq_false_iff_ne.mpr c2
    have c2b1 : (a0 != 1) = true := bne_iff_ne.mpr c2
    by_cases c3 : a0 = 2
    · rw [if_pos c3] at H
      have c3b0 : (a0 == 2) = true := beq_iff_eq.mpr c3
      have c3b1 : (a0 != 2) = false := bne_eq_false_iff_eq.mpr c3
      clear c3
      obtain rfl := Option.some.inj H
      go_enter Tryd.func29, Tryd.ntmps29
      go_wp2
      go_ret
      exact ⟨by first | rfl | (simp; done) | (simp [*]; done), by repeat (first | exact Drawn0.refl _ | apply Drawn0.step)⟩
    · rw [if_neg c3] at H
      have c3b0 : (a0 == 2) = false := beq_eq_false_iff_ne.mpr c3
      have c3b1 : (a0 != 2) = true := bne_iff_ne.mpr c3
      by_cases c4 : a0 = 3
      · rw [if_pos c4] at H
        have c4b0 : (a0 == 3) = true := beq_iff_eq.mpr c4
        have c4b1 : (a0 != 3) = false := bne_eq_false_iff_eq.mpr c4
        clear c4
        obtain rfl := Option.some.inj H
        go_enter Tryd.func29, Tryd.ntmps29
        go_wp2
        go_ret
        exact ⟨by first | rfl | (simp; done) | (simp [*]; done), by repeat (first | exact Drawn0.refl _ | apply Drawn0.step)⟩
      · rw [if_neg c4] at H
        have c4b0 : (a0 == 3) = false := beq_eq_false_iff_ne.mpr c4
        have c4b1 : (a0 != 3) = true := bne_iff_ne.mpr c4
        by_cases c5 : a0 = 4
        · rw [if_pos c5] at H
          have c5b0 : (a0 == 4) = true := beq_iff_eq.mpr c5
          have c5b1 : (a0 != 4) = false := bne_eq_false_iff_eq.mpr c5
          clear c5
          obtain rfl := Option.some.inj H
          go_enter Tryd.func29, Tryd.ntmps29
          go_wp2
          go_ret
          exact ⟨by first | rfl | (simp; done) | (simp [*]; done), by repeat (first | exact Drawn0.refl _ | apply Drawn0.step)⟩
        · rw [if_neg c5] at H
          have c5b0 : (a0 == 4) = false := beq_eq_false_iff_ne.mpr c5
          have c5b1 : (a0 != 4) = true := bne_iff_ne.mpr c5
          obtain rfl := Option.some.inj H
          go_enter Tryd.func29, Tryd.ntmps29
          go_wp2
          go_ret
          exact ⟨by first | rfl | (simp; done) | (simp [*]; done), by repeat (first | exact Drawn0.refl _ | apply Drawn0.step)⟩

/-! ### spec_IsPlain: function 30 -/
def spec_IsPlain.j0 : Nat → ByteArray → Bool → Option (Bool)
  | 0, _, _ => none
  | k + 1, x0, x20 => if x20 = true then (some false) else ((spec_Has.f k x0 60).bind fun t145 => (if t145 = true then (some false) else ((spec_Has.f k x0 62).bind fun t146 => (if t146 = true then (some false) else ((spec_Has.f k x0 10).bind fun t147 => (if t147 = true then (some false) else ((spec_Has.f k x0 0).bind fun t148 => (some (!t148)))))))))
def spec_IsPlain.f (k : Nat) (a0 : ByteArray) : Option (Bool) := if (a0.size : Int) > 4096 then (some false) else (if a0.toList = ([] : List UInt8) then (spec_IsPlain.j0 k a0 false) else (if 0 < (a0.size : Int) then (if (bt a0 0) = 32 then (spec_IsPlain.j0 k a0 true) else (if 0 ≤ (wrap64 ((a0.size : Int) - 1)) then (if (wrap64 ((a0.size : Int) - 1)) < (a0.size : Int) then (spec_IsPlain.j0 k a0 ((bt a0 (wrap64 ((a0.size : Int) - 1))) == 32)) else (none)) else (none))) else (none)))
theorem spec_IsPlain.mono_l : ∀ k, (∀ y0 y1, LeO (spec_IsPlain.j0 k y0 y1) (spec_IsPlain.j0 (k + 1) y0 y1))
  | 0 => fun _ _ r h => by simp [spec_IsPlain.j0] at h
  | k + 1 => by
    have ih0 := spec_IsPlain.mono_l k
    · intro y0 y1
      unfold spec_IsPlain.j0
      repeat' first
      | (with_reducible exact ih0 _ _)
      | (with_reducible exact spec_Has.mono _ _ _)
      | (with_reducible exact LeO.refl _)
      | (with_reducible exact LeO.none _)
      | (with_reducible refine LeO.ite ?_ ?_)
      | (with_reducible refine LeO.bind ?_ (fun _ => ?_))
      | exact ih0 _ _
      | exact spec_Has.mono _ _ _
      | exact LeO.none _
      | refine LeO.ite ?_ ?_
      | refine LeO.bind ?_ (fun _ => ?_)
theorem spec_IsPlain.mono : ∀ a0 k, LeO (spec_IsPlain.f k a0) (spec_IsPlain.f (k + 1) a0) := by
  intro a0 k
  have ih0 := spec_IsPlain.mono_l k
  unfold spec_IsPlain.f
  repeat' first
      | (with_reducible exact ih0 _ _)
      | (with_reducible exact spec_Has.mono _ _ _)
      | (with_reducible exact LeO.refl _)
      | (with_reducible exact LeO.none _)
      | (with_reducible refine LeO.ite ?_ ?_)
      | (with_reducible refine LeO.bind ?_ (fun _ => ?_))
      | exact ih0 _ _
      | exact spec_Has.mono _ _ _
      | exact LeO.none _
      | refine LeO.ite ?_ ?_
      | refine LeO.bind ?_ (fun _ => ?_)
set_option maxHeartbeats 8000000 in
set_option maxRecDepth 100000 in
theorem spec_IsPlain.calls (k : Nat) (a0 : ByteArray) (r : Bool) (w : World) (h : spec_IsPlain.f k a0 = some r) :
    Calls Tryd.prog 30 #[.string a0] w fun e w' => e = .returned (.bool r) ∧ Drawn0 w w' := by
  have H : (if (a0.size : Int) > 4096 then (some false) else (if a0.toList = ([] : List UInt8) then (spec_IsPlain.j0 k a0 false) else (if 0 < (a0.size : Int) then (if (bt a0 0) = 32 then (spec_IsPlain.j0 k a0 true) else (if 0 ≤ (wrap64 ((a0.size : Int) - 1)) then (if (wrap64 ((a0.size : Int) - 1)) < (a0.size : Int) then (spec_IsPlain.j0 k a0 ((bt a0 (wrap64 ((a0.size : Int) - 1))) == 32)) else (none)) else (none))) else (none)))) = some r := h
  clear h
  by_cases c2 : (a0.size : Int) > 4096
  · rw [if_pos c2] at H
    have c2b0 : decide (4096 < (a0.size : Int)) = true := decide_eq_true c2
    have c2b1 : decide (4096 < a0.size) = true := decide_eq_true (by omega)
    clear c2
    obtain rfl := Option.some.inj H
    go_enter Tryd.func30, Tryd.ntmps30
    go_wp2
    go_ret
    exact ⟨by first | rfl | (simp; done) | (simp [*]; done), by repeat (first | exact Drawn0.refl _ | apply Drawn0.step)⟩
  · rw [if_neg c2] at H
    have c2b0 : decide (4096 < (a0.size : Int)) = false := decide_eq_false c2
    have c2b1 : decide (4096 < a0.size) = false := decide_eq_false (by omega)
    clear c2
    have HC3 := Aside0.mk H
    clear H
    go_enter Tryd.func30, Tryd.ntmps30
    go_upto_region 3 with (fail)
    go_cut [20] (fun v20 wc => ∃ (kq : Nat) (x20_2 : Bool), v20 = .bool x20_2 ∧ Aside0 (spec_IsPlain.j0 kq a0 x20_2 = some r) ∧ Aside0 (kq ≤ k) ∧ Drawn0 w wc)
    case first =>
      have H := HC3.out
      clear HC3
      by_cases c4 : a0.toList = ([] : List UInt8)
      · rw [if_pos c4] at H
        have c4b0 : (a0.toList == ([] : List UInt8)) = true := beq_iff_eq.mpr c4
        have c4b1 : (a0.toList != ([] : List UInt8)) = false := bne_eq_false_iff_eq.mpr c4
        clear c4
        (first | rw [c4b0] | (simp only [i64_w, i32_w]; rw [c4b0]) | skip)
        have H' := Aside0.mk H
        clear H
        go_wp2
        go_meet
        case rel => exact ⟨_, (false), (by first | rfl | (simp; done) | (simp [*]; done)), H', ⟨by first | omega | exact Nat.le_refl _⟩, by repeat (first | exact Drawn0.refl _ | apply Drawn0.step)⟩
      · rw [if_neg c4] at H
        have c4b0 : (a0.toList == ([] : List UInt8)) = false := beq_eq_false_iff_ne.mpr c4
        have c4b1 : (a0.toList != ([] : List UInt8)) = true := bne_iff_ne.mpr c4
        (first | rw [c4b0] | (simp only [i64_w, i32_w]; rw [c4b0]) | skip)
        by_cases c5 : 0 < (a0.size : Int)
        · rw [if_pos c5] at H
          have c5b0 : decide (0 < (a0.size : Int)) = true := decide_eq_true c5
          have c5b1 : decide (0 < a0.size) = true := decide_eq_true (by omega)
          clear c5
          by_cases c7 : (bt a0 0) = 32
          · rw [if_pos c7] at H
            have c7b0 : ((bt a0 0) == 32) = true := beq_iff_eq.mpr c7
            have c7b1 : ((bt a0 0) != 32) = false := bne_eq_false_iff_eq.mpr c7
            clear c7
            have H' := Aside0.mk H
            clear H
            have p6 : 0 ≤ (0 : Int) := (by omega)
            have q6 : 0 < a0.size := (by have : (0 : Int) < (a0.size : Int) := of_decide_eq_true (by first | (with_reducible assumption) | assumption); omega)
            have hx6 : ∀ h : 0 < a0.size, ((a0[0]'h).toNat : Int) = bt a0 0 := bt_at a0 0
            clear p6
            have qi6 : (0 < (a0.size : Int)) = True := eq_true (of_decide_eq_true (by first | (with_reducible assumption) | assumption))
            replace q6 := eq_true q6
            go_wp2
            go_meet
            case rel => exact ⟨_, (true), (by first | rfl | (simp; done) | (simp [*]; done)), H', ⟨by first | omega | exact Nat.le_refl _⟩, by repeat (first | exact Drawn0.refl _ | apply Drawn0.step)⟩
          · rw [if_neg c7] at H
            have c7b0 : ((bt a0 0) == 32) = false := beq_eq_false_iff_ne.mpr c7
            have c7b1 : ((bt a0 0) != 32) = true := bne_iff_ne.mpr c7
            obtain ⟨ji8, hji8⟩ : ∃ j_ : Int, (wrap64 ((a0.size : Int) - 1)) = j_ := ⟨_, rfl⟩
            replace H : (if 0 ≤ (ji8) then (if (ji8) < (a0.size : Int) then (spec_IsPlain.j0 k a0 ((bt a0 (ji8)) == 32)) else (none)) else (none)) = some r := by first | (rw [hji8] at H; exact H) | (simp only [hji8] at H ⊢; exact H)
            have hji8w : (IntKind.i64.wrap ((a0.size : Int) - 1)) = ji8 := (i64_w _).trans hji8
            by_cases c9 : 0 ≤ (ji8)
            · rw [if_pos c9] at H
              have c9b0 : decide (0 ≤ (ji8)) = true := decide_eq_true c9
              clear c9
              by_cases c10 : (ji8) < (a0.size : Int)
              · rw [if_pos c10] at H
                have c10b0 : decide ((ji8) < (a0.size : Int)) = true := decide_eq_true c10
                clear c10
                have H' := Aside0.mk H
                clear H
                have p6 : 0 ≤ (0 : Int) := (by omega)
                have q6 : 0 < a0.size := (by have : (0 : Int) < (a0.size : Int) := of_decide_eq_true (by first | (with_reducible assumption) | assumption); omega)
                have hx6 : ∀ h : 0 < a0.size, ((a0[0]'h).toNat : Int) = bt a0 0 := bt_at a0 0
                clear p6
                have qi6 : (0 < (a0.size : Int)) = True := eq_true (of_decide_eq_true (by first | (with_reducible assumption) | assumption))
                replace q6 := eq_true q6
                have p11 : 0 ≤ ((ji8) : Int) := of_decide_eq_true (by first | (with_reducible assumption) | assumption)
                have q11 : (ji8) < (a0.size : Int) := of_decide_eq_true (by first | (with_reducible assumption) | assumption)
                have hx11 := bt_at a0 (ji8)
                replace p11 := eq_true p11
                replace q11 := eq_true q11
                go_wp2
                go_meet
                case rel => exact ⟨_, (((bt a0 (ji8)) == 32)), (by first | rfl | (simp; done) | (simp only [← hji8] <;> (first | rfl | simp)) | (simp [*]; done)), H', ⟨by first | omega | exact Nat.le_refl _⟩, by repeat (first | exact Drawn0.refl _ | apply Drawn0.step)⟩
              · rw [if_neg c10] at H
                exact absurd H (by simp)
            · rw [if_neg c9] at H
              exact absurd H (by simp)
        · rw [if_neg c5] at H
          exact absurd H (by simp)
    case rest =>
      clear HC3
      try clear c1
      try clear p1
      try clear q1
      try clear hx1
      try clear c2
      try clear c2b0
      try clear c2b1
      try clear p2
      try clear c3
      try clear c4
      try clear c4b0
      try clear c4b1
      try clear c5
      try clear c5b0
      try clear c5b1
      try clear p6
      try clear q6
      try clear hx6
      try clear qi6
      try clear c7
      try clear c7b0
      try clear c7b1
      try clear c9
      try clear c9b0
      try clear c10
      try clear c10b0
      try clear p11
      try clear q11
      try clear hx11
      try clear p11
      try clear p6
      try clear q11
      try clear q6
      obtain ⟨kq, x20_2, rfl, HA, HJ2, ⟨mc2, rfl⟩⟩ := hcut
      cases kq with
      | zero => exact absurd HA.out (by simp [spec_IsPlain.j0])
      | succ kj2 =>
        have H := HA.out
        clear HA
        simp only [spec_IsPlain.j0] at H
        by_cases c12 : x20_2 = true
        · subst c12
          have H1 : (some false) = some r := by rw [if_pos rfl] at H; exact H
          clear H
          have H := H1
          clear H1
          obtain rfl := Option.some.inj H
          go_wp2
          go_ret
          exact ⟨by first | rfl | (simp; done) | (simp [*]; done), by repeat (first | exact Drawn0.refl _ | apply Drawn0.step)⟩
        · replace c12 := Bool.eq_false_iff.mpr c12
          subst c12
          have H1 : ((spec_Has.f kj2 a0 60).bind fun t145 => (if t145 = true then (some false) else ((spec_Has.f kj2 a0 62).bind fun t146 => (if t146 = true then (some false) else ((spec_Has.f kj2 a0 10).bind fun t147 => (if t147 = true then (some false) else ((spec_Has.f kj2 a0 0).bind fun t148 => (some (!t148))))))))) = some r := by rw [if_neg (show ¬ (false = true) by decide)] at H; exact H
          clear H
          have H := H1
          clear H1
          replace H := Option.bind_eq_some_iff.mp H
          obtain ⟨t145, A130, H⟩ := H
          replace H : (if t145 = true then (some false) else ((spec_Has.f kj2 a0 62).bind fun t146 => (if t146 = true then (some false) else ((spec_Has.f kj2 a0 10).bind fun t147 => (if t147 = true then (some false) else ((spec_Has.f kj2 a0 0).bind fun t148 => (some (!t148)))))))) = some r := H
          have A13 := Aside0.mk A130
          clear A130
          by_cases c14 : t145 = true
          · subst c14
            have H1 : (some false) = some r := by rw [if_pos rfl] at H; exact H
            clear H
            have H := H1
            clear H1
            obtain rfl := Option.some.inj H
            go_wp2_with (first | ((with_reducible refine gate_callee (f := 42) rfl ?_); refine goesL_ (some 22) rfl rfl Tryd.func42 (by kernel_rfl) rfl #[.string a0, .int .u8 60] rfl (by (try simp only [List.map_toArray, List.map_cons, List.map_nil]); first | done | rfl | (simp only [List.length_drop, List.length_take]; rfl)) ?_; (with_reducible refine (spec_Has.calls kj2 a0 60 true _ A13.out).mono ?_); rintro e w' ⟨rfl, ⟨nd, rfl⟩⟩; refine ⟨_, rfl, ?_⟩))
            go_ret
            exact ⟨by first | rfl | (simp; done) | (simp [*]; done), by repeat (first | exact Drawn0.refl _ | apply Drawn0.step)⟩
          · replace c14 := Bool.eq_false_iff.mpr c14
            subst c14
            have H1 : ((spec_Has.f kj2 a0 62).bind fun t146 => (if t146 = true then (some false) else ((spec_Has.f kj2 a0 10).bind fun t147 => (if t147 = true then (some false) else ((spec_Has.f kj2 a0 0).bind fun t148 => (some (!t148))))))) = some r := by rw [if_neg (show ¬ (false = true) by decide)] at H; exact H
            clear H
            have H := H1
            clear H1
            replace H := Option.bind_eq_some_iff.mp H
            obtain ⟨t146, A150, H⟩ := H
            replace H : (if t146 = true then (some false) else ((spec_Has.f kj2 a0 10).bind fun t147 => (if t147 = true then (some false) else ((spec_Has.f kj2 a0 0).bind fun t148 => (some (!t148)))))) = some r := H
            have A15 := Aside0.mk A150
            clear A150
            by_cases c16 : t146 = true
            · subst c16
              have H1 : (some false) = some r := by rw [if_pos rfl] at H; exact H
              clear H
              have H := H1
              clear H1
              obtain rfl := Option.some.inj H
              go_wp2_with (first | ((with_reducible refine gate_callee (f := 42) rfl ?_); refine goesL_ (some 22) rfl rfl Tryd.func42 (by kernel_rfl) rfl #[.string a0, .int .u8 60] rfl (by (try simp only [List.map_toArray, List.map_cons, List.map_nil]); first | done | rfl | (simp only [List.length_drop, List.length_take]; rfl)) ?_; (with_reducible refine (spec_Has.calls kj2 a0 60 false _ A13.out).mono ?_); rintro e w' ⟨rfl, ⟨nd, rfl⟩⟩; refine ⟨_, rfl, ?_⟩) | (go_at_call 42; (with_reducible refine (spec_Has.calls kj2 a0 62 true _ A15.out).mono ?_); rintro e w' ⟨rfl, ⟨nd, rfl⟩⟩))
              go_ret
              exact ⟨by first | rfl | (simp; done) | (simp [*]; done), by repeat (first | exact Drawn0.refl _ | apply Drawn0.step)⟩
            · replace c16 := Bool.eq_false_iff.mpr c16
              subst c16
              have H1 : ((spec_Has.f kj2 a0 10).bind fun t147 => (if t147 = true then (some false) else ((spec_Has.f kj2 a0 0).bind fun t148 => (some (!t148))))) = some r := by rw [if_neg (show ¬ (false = true) by decide)] at H; exact H
              clear H
              have H := H1
              clear H1
              replace H := Option.bind_eq_some_iff.mp H
              obtain ⟨t147, A170, H⟩ := H
              replace H : (if t147 = true then (some false) else ((spec_Has.f kj2 a0 0).bind fun t148 => (some (!t148)))) = some r := H
              have A17 := Aside0.mk A170
              clear A170
              by_cases c18 : t147 = true
              · subst c18
                have H1 : (some false) = some r := by rw [if_pos rfl] at H; exact H
                clear H
                have H := H1
                clear H1
                obtain rfl := Option.some.inj H
                go_wp2_with (first | ((with_reducible refine gate_callee (f := 42) rfl ?_); refine goesL_ (some 22) rfl rfl Tryd.func42 (by kernel_rfl) rfl #[.string a0, .int .u8 60] rfl (by (try simp only [List.map_toArray, List.map_cons, List.map_nil]); first | done | rfl | (simp only [List.length_drop, List.length_take]; rfl)) ?_; (with_reducible refine (spec_Has.calls kj2 a0 60 false _ A13.out).mono ?_); rintro e w' ⟨rfl, ⟨nd, rfl⟩⟩; refine ⟨_, rfl, ?_⟩) | (go_at_call 42; (with_reducible refine (spec_Has.calls kj2 a0 62 false _ A15.out).mono ?_); rintro e w' ⟨rfl, ⟨nd, rfl⟩⟩) | (go_at_call 42; (with_reducible refine (spec_Has.calls kj2 a0 10 true _ A17.out).mono ?_); rintro e w' ⟨rfl, ⟨nd, rfl⟩⟩))
                go_ret
                exact ⟨by first | rfl | (simp; done) | (simp [*]; done), by repeat (first | exact Drawn0.refl _ | apply Drawn0.step)⟩
              · replace c18 := Bool.eq_false_iff.mpr c18
                subst c18
                have H1 : ((spec_Has.f kj2 a0 0).bind fun t148 => (some (!t148))) = some r := by rw [if_neg (show ¬ (false = true) by decide)] at H; exact H
                clear H
                have H := H1
                clear H1
                replace H := Option.bind_eq_some_iff.mp H
                obtain ⟨t148, A190, H⟩ := H
                replace H : (some (!t148)) = some r := H
                have A19 := Aside0.mk A190
                clear A190
                obtain rfl := Option.some.inj H
                go_wp2_with (first | ((with_reducible refine gate_callee (f := 42) rfl ?_); refine goesL_ (some 22) rfl rfl Tryd.func42 (by kernel_rfl) rfl #[.string a0, .int .u8 60] rfl (by (try simp only [List.map_toArray, List.map_cons, List.map_nil]); first | done | rfl | (simp only [List.length_drop, List.length_take]; rfl)) ?_; (with_reducible refine (spec_Has.calls kj2 a0 60 false _ A13.out).mono ?_); rintro e w' ⟨rfl, ⟨nd, rfl⟩⟩; refine ⟨_, rfl, ?_⟩) | (go_at_call 42; (with_reducible refine (spec_Has.calls kj2 a0 62 false _ A15.out).mono ?_); rintro e w' ⟨rfl, ⟨nd, rfl⟩⟩) | (go_at_call 42; (with_reducible refine (spec_Has.calls kj2 a0 10 false _ A17.out).mono ?_); rintro e w' ⟨rfl, ⟨nd, rfl⟩⟩) | (go_at_call 42; (with_reducible refine (spec_Has.calls kj2 a0 0 t148 _ A19.out).mono ?_); rintro e w' ⟨rfl, ⟨nd, rfl⟩⟩))
                go_ret
                exact ⟨by first | rfl | (simp; done) | (simp [*]; done), by repeat (first | exact Drawn0.refl _ | apply Drawn0.step)⟩

/-! ### spec_IsWho: function 31 -/
def spec_IsWho.f (k : Nat) (a0_0 : ByteArray) (a0_1 : ByteArray) (a0_2 : Int) (a0_3 : Int) : Option (Bool) := (spec_IsPlain.f k a0_0).bind fun t150 => (if t150 = true then ((spec_IsPlain.f k a0_1).bind fun t151 => (if t151 = true then (if a0_2 < 0 then (some false) else (if a0_2 ≥ 1099511627776 then (some false) else (if (Int.tmod a0_3 60) = 0 then (if a0_3 > (-360000) then (if a0_3 < 360000 then (if a0_3 ≥ 0 then (some true) else (some (decide (a0_3 ≤ (-3600))))) else (some false)) else (some false)) else (some false)))) else (some false))) else (some false))
theorem spec_IsWho.mono : ∀ a0 a1 a2 a3 k, LeO (spec_IsWho.f k a0 a1 a2 a3) (spec_IsWho.f (k + 1) a0 a1 a2 a3) := by
  intro a0 a1 a2 a3 k
  unfold spec_IsWho.f
  repeat' first
      | (with_reducible exact spec_IsPlain.mono _ _)
      | (with_reducible exact LeO.refl _)
      | (with_reducible exact LeO.none _)
      | (with_reducible refine LeO.ite ?_ ?_)
      | (with_reducible refine LeO.bind ?_ (fun _ => ?_))
      | exact spec_IsPlain.mono _ _
      | exact LeO.none _
      | refine LeO.ite ?_ ?_
      | refine LeO.bind ?_ (fun _ => ?_)
set_option maxHeartbeats 8000000 in
set_option maxRecDepth 100000 in
theorem spec_IsWho.calls (k : Nat) (a0_0 : ByteArray) (a0_1 : ByteArray) (a0_2 : Int) (a0_3 : Int) (r : Bool) (w : World) (h : spec_IsWho.f k a0_0 a0_1 a0_2 a0_3 = some r) :
    Calls Tryd.prog 31 #[.agg #[.string a0_0, .string a0_1, .int .i64 a0_2, .int .i64 a0_3]] w fun e w' => e = .returned (.bool r) ∧ Below w.heap.size w w' := by
  have hu30 := Tryd.underlying30
  have HB := Aside0.mk (Below.refl w.heap.size w)
  have H : ((spec_IsPlain.f k a0_0).bind fun t150 => (if t150 = true then ((spec_IsPlain.f k a0_1).bind fun t151 => (if t151 = true then (if a0_2 < 0 then (some false) else (if a0_2 ≥ 1099511627776 then (some false) else (if (Int.tmod a0_3 60) = 0 then (if a0_3 > (-360000) then (if a0_3 < 360000 then (if a0_3 ≥ 0 then (some true) else (some (decide (a0_3 ≤ (-3600))))) else (some false)) else (some false)) else (some false)))) else (some false))) else (some false))) = some r := h
  clear h
  replace H := Option.bind_eq_some_iff.mp H
  obtain ⟨t150, A20, H⟩ := H
  replace H : (if t150 = true then ((spec_IsPlain.f k a0_1).bind fun t151 => (if t151 = true then (if a0_2 < 0 then (some false) else (if a0_2 ≥ 1099511627776 then (some false) else (if (Int.tmod a0_3 60) = 0 then (if a0_3 > (-360000) then (if a0_3 < 360000 then (if a0_3 ≥ 0 then (some true) else (some (decide (a0_3 ≤ (-3600))))) else (some false)) else (some false)) else (some false)))) else (some false))) else (some false)) = some r := H
  have A2 := Aside0.mk A20
  clear A20
  by_cases c3 : t150 = true
  · subst c3
    have H1 : ((spec_IsPlain.f k a0_1).bind fun t151 => (if t151 = true then (if a0_2 < 0 then (some false) else (if a0_2 ≥ 1099511627776 then (some false) else (if (Int.tmod a0_3 60) = 0 then (if a0_3 > (-360000) then (if a0_3 < 360000 then (if a0_3 ≥ 0 then (some true) else (some (decide (a0_3 ≤ (-3600))))) else (some false)) else (some false)) else (some false)))) else (some false))) = some r := by rw [if_pos rfl] at H; exact H
    clear H
    have H := H1
    clear H1
    replace H := Option.bind_eq_some_iff.mp H
    obtain ⟨t151, A40, H⟩ := H
    replace H : (if t151 = true then (if a0_2 < 0 then (some false) else (if a0_2 ≥ 1099511627776 then (some false) else (if (Int.tmod a0_3 60) = 0 then (if a0_3 > (-360000) then (if a0_3 < 360000 then (if a0_3 ≥ 0 then (some true) else (some (decide (a0_3 ≤ (-3600))))) else (some false)) else (some false)) else (some false)))) else (some false)) = some r := H
    have A4 := Aside0.mk A40
    clear A40
    by_cases c5 : t151 = true
    · subst c5
      have H1 : (if a0_2 < 0 then (some false) else (if a0_2 ≥ 1099511627776 then (some false) else (if (Int.tmod a0_3 60) = 0 then (if a0_3 > (-360000) then (if a0_3 < 360000 then (if a0_3 ≥ 0 then (some true) else (some (decide (a0_3 ≤ (-3600))))) else (some false)) else (some false)) else (some false)))) = some r := by rw [if_pos rfl] at H; exact H
      clear H
      have H := H1
      clear H1
      by_cases c6 : a0_2 < 0
      · rw [if_pos c6] at H
        have c6b0 : decide (a0_2 < 0) = true := decide_eq_true c6
        clear c6
        obtain rfl := Option.some.inj H
        go_enter Tryd.func31, Tryd.ntmps31
        go_wp2_with (first | ((with_reducible refine gate_dst (N := 1) rfl ?_); refine box_event ?hg (N := 1) ?hd (cs := #[.string a0_0, .string a0_1, .int .i64 a0_2, .int .i64 a0_3]) (t := 30) ?hr ?_; (case hd => rfl); (case hg => rfl); (case hr => first | (go_simp; done) | (go_simp; rfl)); intro gb149 hg w7 hbox hb; have n0_ := Aside0.mk (below_step (by repeat (first | (with_reducible first | exact HB.out | apply below_alloc | apply pw_below_drewN | apply below_drew1) | exact HB.out)) hb); have n1_ := Aside0.mk (hbox); have n2_ := Aside0.mk ((by rw [hg]; exact (below_size (by repeat (first | (with_reducible first | exact HB.out | apply below_alloc | apply pw_below_drewN | apply below_drew1) | exact HB.out))) : w.heap.size ≤ gb149)); have n3_ := Aside0.mk ((by rw [hg]; exact (below_size (by repeat (first | (with_reducible first | exact HB.out | apply below_alloc | apply pw_below_drewN | apply below_drew1) | exact HB.out))) : w.heap.size ≤ gb149)); clear HB; have HB := n0_; have BK149 := n1_; have GW149 := n2_; have GE149 := n3_; clear n0_ n1_ n2_ n3_; clear hb hbox hg; have hcz8_0 : w7.cell? ⟨gb149, 0, none⟩ = some (.string a0_0) := (blk_cell BK149.out 0).trans rfl; have hcz8_1 : w7.cell? ⟨gb149, 1, none⟩ = some (.string a0_1) := (blk_cell BK149.out 1).trans rfl; have hcz8_2 : w7.cell? ⟨gb149, 2, none⟩ = some (.int .i64 a0_2) := (blk_cell BK149.out 2).trans rfl; have hcz8_3 : w7.cell? ⟨gb149, 3, none⟩ = some (.int .i64 a0_3) := (blk_cell BK149.out 3).trans rfl; have hfz8_0 := blk_frozen BK149.out 0; have hfz8_1 := blk_frozen BK149.out 1; have hfz8_2 := blk_frozen BK149.out 2; have hfz8_3 := blk_frozen BK149.out 3) | ((with_reducible refine gate_callee (f := 30) rfl ?_); refine goesL_ (some 5) rfl rfl Tryd.func30 (by kernel_rfl) rfl #[.string a0_0] rfl (by (try simp only [List.map_toArray, List.map_cons, List.map_nil]); first | done | rfl | (simp only [List.length_drop, List.length_take]; rfl)) ?_; (with_reducible refine (spec_IsPlain.calls k a0_0 true _ A2.out).mono ?_); rintro e w' ⟨rfl, ⟨nd, rfl⟩⟩; refine ⟨_, rfl, ?_⟩) | (go_at_call 30; (with_reducible refine (spec_IsPlain.calls k a0_1 true _ A4.out).mono ?_); rintro e w' ⟨rfl, ⟨nd, rfl⟩⟩))
        go_ret
        exact ⟨by first | rfl | (simp [errW_none, errW_some] <;> rfl) | (simp [*, errW_none, errW_some] <;> rfl), by repeat (first | (with_reducible first | exact HB.out | apply below_alloc | apply pw_below_drewN | apply below_drew1 | refine below_set ?_ GE149.out) | exact HB.out)⟩
      · rw [if_neg c6] at H
        have c6b0 : decide (a0_2 < 0) = false := decide_eq_false c6
        clear c6
        by_cases c9 : a0_2 ≥ 1099511627776
        · rw [if_pos c9] at H
          have c9b0 : decide (1099511627776 ≤ a0_2) = true := decide_eq_true c9
          clear c9
          obtain rfl := Option.some.inj H
          go_enter Tryd.func31, Tryd.ntmps31
          go_wp2_with (first | ((with_reducible refine gate_dst (N := 1) rfl ?_); refine box_event ?hg (N := 1) ?hd (cs := #[.string a0_0, .string a0_1, .int .i64 a0_2, .int .i64 a0_3]) (t := 30) ?hr ?_; (case hd => rfl); (case hg => rfl); (case hr => first | (go_simp; done) | (go_simp; rfl)); intro gb149 hg w10 hbox hb; have n0_ := Aside0.mk (below_step (by repeat (first | (with_reducible first | exact HB.out | apply below_alloc | apply pw_below_drewN | apply below_drew1) | exact HB.out)) hb); have n1_ := Aside0.mk (hbox); have n2_ := Aside0.mk ((by rw [hg]; exact (below_size (by repeat (first | (with_reducible first | exact HB.out | apply below_alloc | apply pw_below_drewN | apply below_drew1) | exact HB.out))) : w.heap.size ≤ gb149)); have n3_ := Aside0.mk ((by rw [hg]; exact (below_size (by repeat (first | (with_reducible first | exact HB.out | apply below_alloc | apply pw_below_drewN | apply below_drew1) | exact HB.out))) : w.heap.size ≤ gb149)); clear HB; have HB := n0_; have BK149 := n1_; have GW149 := n2_; have GE149 := n3_; clear n0_ n1_ n2_ n3_; clear hb hbox hg; have hcz11_0 : w10.cell? ⟨gb149, 0, none⟩ = some (.string a0_0) := (blk_cell BK149.out 0).trans rfl; have hcz11_1 : w10.cell? ⟨gb149, 1, none⟩ = some (.string a0_1) := (blk_cell BK149.out 1).trans rfl; have hcz11_2 : w10.cell? ⟨gb149, 2, none⟩ = some (.int .i64 a0_2) := (blk_cell BK149.out 2).trans rfl; have hcz11_3 : w10.cell? ⟨gb149, 3, none⟩ = some (.int .i64 a0_3) := (blk_cell BK149.out 3).trans rfl; have hfz11_0 := blk_frozen BK149.out 0; have hfz11_1 := blk_frozen BK149.out 1; have hfz11_2 := blk_frozen BK149.out 2; have hfz11_3 := blk_frozen BK149.out 3) | ((with_reducible refine gate_callee (f := 30) rfl ?_); refine goesL_ (some 5) rfl rfl Tryd.func30 (by kernel_rfl) rfl #[.string a0_0] rfl (by (try simp only [List.map_toArray, List.map_cons, List.map_nil]); first | done | rfl | (simp only [List.length_drop, List.length_take]; rfl)) ?_; (with_reducible refine (spec_IsPlain.calls k a0_0 true _ A2.out).mono ?_); rintro e w' ⟨rfl, ⟨nd, rfl⟩⟩; refine ⟨_, rfl, ?_⟩) | (go_at_call 30; (with_reducible refine (spec_IsPlain.calls k a0_1 true _ A4.out).mono ?_); rintro e w' ⟨rfl, ⟨nd, rfl⟩⟩))
          go_ret
          exact ⟨by first | rfl | (simp [errW_none, errW_some] <;> rfl) | (simp [*, errW_none, errW_some] <;> rfl), by repeat (first | (with_reducible first | exact HB.out | apply below_alloc | apply pw_below_drewN | apply below_drew1 | refine below_set ?_ GE149.out) | exact HB.out)⟩
        · rw [if_neg c9] at H
          have c9b0 : decide (1099511627776 ≤ a0_2) = false := decide_eq_false c9
          clear c9
          by_cases c12 : (Int.tmod a0_3 60) = 0
          · rw [if_pos c12] at H
            have c12b0 : ((Int.tmod a0_3 60) == 0) = true := beq_iff_eq.mpr c12
            have c12b1 : ((Int.tmod a0_3 60) != 0) = false := bne_eq_false_iff_eq.mpr c12
            clear c12
            by_cases c13 : a0_3 > (-360000)
            · rw [if_pos c13] at H
              have c13b0 : decide ((-360000) < a0_3) = true := decide_eq_true c13
              clear c13
              by_cases c14 : a0_3 < 360000
              · rw [if_pos c14] at H
                have c14b0 : decide (a0_3 < 360000) = true := decide_eq_true c14
                clear c14
                by_cases c15 : a0_3 ≥ 0
                · rw [if_pos c15] at H
                  have c15b0 : decide (0 ≤ a0_3) = true := decide_eq_true c15
                  clear c15
                  obtain rfl := Option.some.inj H
                  go_enter Tryd.func31, Tryd.ntmps31
                  go_wp2_with (first | ((with_reducible refine gate_dst (N := 1) rfl ?_); refine box_event ?hg (N := 1) ?hd (cs := #[.string a0_0, .string a0_1, .int .i64 a0_2, .int .i64 a0_3]) (t := 30) ?hr ?_; (case hd => rfl); (case hg => rfl); (case hr => first | (go_simp; done) | (go_simp; rfl)); intro gb149 hg w16 hbox hb; have n0_ := Aside0.mk (below_step (by repeat (first | (with_reducible first | exact HB.out | apply below_alloc | apply pw_below_drewN | apply below_drew1) | exact HB.out)) hb); have n1_ := Aside0.mk (hbox); have n2_ := Aside0.mk ((by rw [hg]; exact (below_size (by repeat (first | (with_reducible first | exact HB.out | apply below_alloc | apply pw_below_drewN | apply below_drew1) | exact HB.out))) : w.heap.size ≤ gb149)); have n3_ := Aside0.mk ((by rw [hg]; exact (below_size (by repeat (first | (with_reducible first | exact HB.out | apply below_alloc | apply pw_below_drewN | apply below_drew1) | exact HB.out))) : w.heap.size ≤ gb149)); clear HB; have HB := n0_; have BK149 := n1_; have GW149 := n2_; have GE149 := n3_; clear n0_ n1_ n2_ n3_; clear hb hbox hg; have hcz17_0 : w16.cell? ⟨gb149, 0, none⟩ = some (.string a0_0) := (blk_cell BK149.out 0).trans rfl; have hcz17_1 : w16.cell? ⟨gb149, 1, none⟩ = some (.string a0_1) := (blk_cell BK149.out 1).trans rfl; have hcz17_2 : w16.cell? ⟨gb149, 2, none⟩ = some (.int .i64 a0_2) := (blk_cell BK149.out 2).trans rfl; have hcz17_3 : w16.cell? ⟨gb149, 3, none⟩ = some (.int .i64 a0_3) := (blk_cell BK149.out 3).trans rfl; have hfz17_0 := blk_frozen BK149.out 0; have hfz17_1 := blk_frozen BK149.out 1; have hfz17_2 := blk_frozen BK149.out 2; have hfz17_3 := blk_frozen BK149.out 3) | ((with_reducible refine gate_callee (f := 30) rfl ?_); refine goesL_ (some 5) rfl rfl Tryd.func30 (by kernel_rfl) rfl #[.string a0_0] rfl (by (try simp only [List.map_toArray, List.map_cons, List.map_nil]); first | done | rfl | (simp only [List.length_drop, List.length_take]; rfl)) ?_; (with_reducible refine (spec_IsPlain.calls k a0_0 true _ A2.out).mono ?_); rintro e w' ⟨rfl, ⟨nd, rfl⟩⟩; refine ⟨_, rfl, ?_⟩) | (go_at_call 30; (with_reducible refine (spec_IsPlain.calls k a0_1 true _ A4.out).mono ?_); rintro e w' ⟨rfl, ⟨nd, rfl⟩⟩))
                  go_ret
                  exact ⟨by first | rfl | (simp [errW_none, errW_some] <;> rfl) | (simp [*, errW_none, errW_some] <;> rfl), by repeat (first | (with_reducible first | exact HB.out | apply below_alloc | apply pw_below_drewN | apply below_drew1 | refine below_set ?_ GE149.out) | exact HB.out)⟩
                · rw [if_neg c15] at H
                  have c15b0 : decide (0 ≤ a0_3) = false := decide_eq_false c15
                  clear c15
                  obtain rfl := Option.some.inj H
                  go_enter Tryd.func31, Tryd.ntmps31
                  go_wp2_with (first | ((with_reducible refine gate_dst (N := 1) rfl ?_); refine box_event ?hg (N := 1) ?hd (cs := #[.string a0_0, .string a0_1, .int .i64 a0_2, .int .i64 a0_3]) (t := 30) ?hr ?_; (case hd => rfl); (case hg => rfl); (case hr => first | (go_simp; done) | (go_simp; rfl)); intro gb149 hg w18 hbox hb; have n0_ := Aside0.mk (below_step (by repeat (first | (with_reducible first | exact HB.out | apply below_alloc | apply pw_below_drewN | apply below_drew1) | exact HB.out)) hb); have n1_ := Aside0.mk (hbox); have n2_ := Aside0.mk ((by rw [hg]; exact (below_size (by repeat (first | (with_reducible first | exact HB.out | apply below_alloc | apply pw_below_drewN | apply below_drew1) | exact HB.out))) : w.heap.size ≤ gb149)); have n3_ := Aside0.mk ((by rw [hg]; exact (below_size (by repeat (first | (with_reducible first | exact HB.out | apply below_alloc | apply pw_below_drewN | apply below_drew1) | exact HB.out))) : w.heap.size ≤ gb149)); clear HB; have HB := n0_; have BK149 := n1_; have GW149 := n2_; have GE149 := n3_; clear n0_ n1_ n2_ n3_; clear hb hbox hg; have hcz19_0 : w18.cell? ⟨gb149, 0, none⟩ = some (.string a0_0) := (blk_cell BK149.out 0).trans rfl; have hcz19_1 : w18.cell? ⟨gb149, 1, none⟩ = some (.string a0_1) := (blk_cell BK149.out 1).trans rfl; have hcz19_2 : w18.cell? ⟨gb149, 2, none⟩ = some (.int .i64 a0_2) := (blk_cell BK149.out 2).trans rfl; have hcz19_3 : w18.cell? ⟨gb149, 3, none⟩ = some (.int .i64 a0_3) := (blk_cell BK149.out 3).trans rfl; have hfz19_0 := blk_frozen BK149.out 0; have hfz19_1 := blk_frozen BK149.out 1; have hfz19_2 := blk_frozen BK149.out 2; have hfz19_3 := blk_frozen BK149.out 3) | ((with_reducible refine gate_callee (f := 30) rfl ?_); refine goesL_ (some 5) rfl rfl Tryd.func30 (by kernel_rfl) rfl #[.string a0_0] rfl (by (try simp only [List.map_toArray, List.map_cons, List.map_nil]); first | done | rfl | (simp only [List.length_drop, List.length_take]; rfl)) ?_; (with_reducible refine (spec_IsPlain.calls k a0_0 true _ A2.out).mono ?_); rintro e w' ⟨rfl, ⟨nd, rfl⟩⟩; refine ⟨_, rfl, ?_⟩) | (go_at_call 30; (with_reducible refine (spec_IsPlain.calls k a0_1 true _ A4.out).mono ?_); rintro e w' ⟨rfl, ⟨nd, rfl⟩⟩))
                  go_ret
                  exact ⟨by first | rfl | (simp [errW_none, errW_some] <;> rfl) | (simp [*, errW_none, errW_some] <;> rfl), by repeat (first | (with_reducible first | exact HB.out | apply below_alloc | apply pw_below_drewN | apply below_drew1 | refine below_set ?_ GE149.out) | exact HB.out)⟩
              · rw [if_neg c14] at H
                have c14b0 : decide (a0_3 < 360000) = false := decide_eq_false c14
                clear c14
                obtain rfl := Option.some.inj H
                go_enter Tryd.func31, Tryd.ntmps31
                go_wp2_with (first | ((with_reducible refine gate_dst (N := 1) rfl ?_); refine box_event ?hg (N := 1) ?hd (cs := #[.string a0_0, .string a0_1, .int .i64 a0_2, .int .i64 a0_3]) (t := 30) ?hr ?_; (case hd => rfl); (case hg => rfl); (case hr => first | (go_simp; done) | (go_simp; rfl)); intro gb149 hg w20 hbox hb; have n0_ := Aside0.mk (below_step (by repeat (first | (with_reducible first | exact HB.out | apply below_alloc | apply pw_below_drewN | apply below_drew1) | exact HB.out)) hb); have n1_ := Aside0.mk (hbox); have n2_ := Aside0.mk ((by rw [hg]; exact (below_size (by repeat (first | (with_reducible first | exact HB.out | apply below_alloc | apply pw_below_drewN | apply below_drew1) | exact HB.out))) : w.heap.size ≤ gb149)); have n3_ := Aside0.mk ((by rw [hg]; exact (below_size (by repeat (first | (with_reducible first | exact HB.out | apply below_alloc | apply pw_below_drewN | apply below_drew1) | exact HB.out))) : w.heap.size ≤ gb149)); clear HB; have HB := n0_; have BK149 := n1_; have GW149 := n2_; have GE149 := n3_; clear n0_ n1_ n2_ n3_; clear hb hbox hg; have hcz21_0 : w20.cell? ⟨gb149, 0, none⟩ = some (.string a0_0) := (blk_cell BK149.out 0).trans rfl; have hcz21_1 : w20.cell? ⟨gb149, 1, none⟩ = some (.string a0_1) := (blk_cell BK149.out 1).trans rfl; have hcz21_2 : w20.cell? ⟨gb149, 2, none⟩ = some (.int .i64 a0_2) := (blk_cell BK149.out 2).trans rfl; have hcz21_3 : w20.cell? ⟨gb149, 3, none⟩ = some (.int .i64 a0_3) := (blk_cell BK149.out 3).trans rfl; have hfz21_0 := blk_frozen BK149.out 0; have hfz21_1 := blk_frozen BK149.out 1; have hfz21_2 := blk_frozen BK149.out 2; have hfz21_3 := blk_frozen BK149.out 3) | ((with_reducible refine gate_callee (f := 30) rfl ?_); refine goesL_ (some 5) rfl rfl Tryd.func30 (by kernel_rfl) rfl #[.string a0_0] rfl (by (try simp only [List.map_toArray, List.map_cons, List.map_nil]); first | done | rfl | (simp only [List.length_drop, List.length_take]; rfl)) ?_; (with_reducible refine (spec_IsPlain.calls k a0_0 true _ A2.out).mono ?_); rintro e w' ⟨rfl, ⟨nd, rfl⟩⟩; refine ⟨_, rfl, ?_⟩) | (go_at_call 30; (with_reducible refine (spec_IsPlain.calls k a0_1 true _ A4.out).mono ?_); rintro e w' ⟨rfl, ⟨nd, rfl⟩⟩))
                go_ret
                exact ⟨by first | rfl | (simp [errW_none, errW_some] <;> rfl) | (simp [*, errW_none, errW_some] <;> rfl), by repeat (first | (with_reducible first | exact HB.out | apply below_alloc | apply pw_below_drewN | apply below_drew1 | refine below_set ?_ GE149.out) | exact HB.out)⟩
            · rw [if_neg c13] at H
              have c13b0 : decide ((-360000) < a0_3) = false := decide_eq_false c13
              clear c13
              obtain rfl := Option.some.inj H
              go_enter Tryd.func31, Tryd.ntmps31
              go_wp2_with (first | ((with_reducible refine gate_dst (N := 1) rfl ?_); refine box_event ?hg (N := 1) ?hd (cs := #[.string a0_0, .string a0_1, .int .i64 a0_2, .int .i64 a0_3]) (t := 30) ?hr ?_; (case hd => rfl); (case hg => rfl); (case hr => first | (go_simp; done) | (go_simp; rfl)); intro gb149 hg w22 hbox hb; have n0_ := Aside0.mk (below_step (by repeat (first | (with_reducible first | exact HB.out | apply below_alloc | apply pw_below_drewN | apply below_drew1) | exact HB.out)) hb); have n1_ := Aside0.mk (hbox); have n2_ := Aside0.mk ((by rw [hg]; exact (below_size (by repeat (first | (with_reducible first | exact HB.out | apply below_alloc | apply pw_below_drewN | apply below_drew1) | exact HB.out))) : w.heap.size ≤ gb149)); have n3_ := Aside0.mk ((by rw [hg]; exact (below_size (by repeat (first | (with_reducible first | exact HB.out | apply below_alloc | apply pw_below_drewN | apply below_drew1) | exact HB.out))) : w.heap.size ≤ gb149)); clear HB; have HB := n0_; have BK149 := n1_; have GW149 := n2_; have GE149 := n3_; clear n0_ n1_ n2_ n3_; clear hb hbox hg; have hcz23_0 : w22.cell? ⟨gb149, 0, none⟩ = some (.string a0_0) := (blk_cell BK149.out 0).trans rfl; have hcz23_1 : w22.cell? ⟨gb149, 1, none⟩ = some (.string a0_1) := (blk_cell BK149.out 1).trans rfl; have hcz23_2 : w22.cell? ⟨gb149, 2, none⟩ = some (.int .i64 a0_2) := (blk_cell BK149.out 2).trans rfl; have hcz23_3 : w22.cell? ⟨gb149, 3, none⟩ = some (.int .i64 a0_3) := (blk_cell BK149.out 3).trans rfl; have hfz23_0 := blk_frozen BK149.out 0; have hfz23_1 := blk_frozen BK149.out 1; have hfz23_2 := blk_frozen BK149.out 2; have hfz23_3 := blk_frozen BK149.out 3) | ((with_reducible refine gate_callee (f := 30) rfl ?_); refine goesL_ (some 5) rfl rfl Tryd.func30 (by kernel_rfl) rfl #[.string a0_0] rfl (by (try simp only [List.map_toArray, List.map_cons, List.map_nil]); first | done | rfl | (simp only [List.length_drop, List.length_take]; rfl)) ?_; (with_reducible refine (spec_IsPlain.calls k a0_0 true _ A2.out).mono ?_); rintro e w' ⟨rfl, ⟨nd, rfl⟩⟩; refine ⟨_, rfl, ?_⟩) | (go_at_call 30; (with_reducible refine (spec_IsPlain.calls k a0_1 true _ A4.out).mono ?_); rintro e w' ⟨rfl, ⟨nd, rfl⟩⟩))
              go_ret
              exact ⟨by first | rfl | (simp [errW_none, errW_some] <;> rfl) | (simp [*, errW_none, errW_some] <;> rfl), by repeat (first | (with_reducible first | exact HB.out | apply below_alloc | apply pw_below_drewN | apply below_drew1 | refine below_set ?_ GE149.out) | exact HB.out)⟩
          · rw [if_neg c12] at H
            have c12b0 : ((Int.tmod a0_3 60) == 0) = false := beq_eq_false_iff_ne.mpr c12
            have c12b1 : ((Int.tmod a0_3 60) != 0) = true := bne_iff_ne.mpr c12
            obtain rfl := Option.some.inj H
            go_enter Tryd.func31, Tryd.ntmps31
            go_wp2_with (first | ((with_reducible refine gate_dst (N := 1) rfl ?_); refine box_event ?hg (N := 1) ?hd (cs := #[.string a0_0, .string a0_1, .int .i64 a0_2, .int .i64 a0_3]) (t := 30) ?hr ?_; (case hd => rfl); (case hg => rfl); (case hr => first | (go_simp; done) | (go_simp; rfl)); intro gb149 hg w24 hbox hb; have n0_ := Aside0.mk (below_step (by repeat (first | (with_reducible first | exact HB.out | apply below_alloc | apply pw_below_drewN | apply below_drew1) | exact HB.out)) hb); have n1_ := Aside0.mk (hbox); have n2_ := Aside0.mk ((by rw [hg]; exact (below_size (by repeat (first | (with_reducible first | exact HB.out | apply below_alloc | apply pw_below_drewN | apply below_drew1) | exact HB.out))) : w.heap.size ≤ gb149)); have n3_ := Aside0.mk ((by rw [hg]; exact (below_size (by repeat (first | (with_reducible first | exact HB.out | apply below_alloc | apply pw_below_drewN | apply below_drew1) | exact HB.out))) : w.heap.size ≤ gb149)); clear HB; have HB := n0_; have BK149 := n1_; have GW149 := n2_; have GE149 := n3_; clear n0_ n1_ n2_ n3_; clear hb hbox hg; have hcz25_0 : w24.cell? ⟨gb149, 0, none⟩ = some (.string a0_0) := (blk_cell BK149.out 0).trans rfl; have hcz25_1 : w24.cell? ⟨gb149, 1, none⟩ = some (.string a0_1) := (blk_cell BK149.out 1).trans rfl; have hcz25_2 : w24.cell? ⟨gb149, 2, none⟩ = some (.int .i64 a0_2) := (blk_cell BK149.out 2).trans rfl; have hcz25_3 : w24.cell? ⟨gb149, 3, none⟩ = some (.int .i64 a0_3) := (blk_cell BK149.out 3).trans rfl; have hfz25_0 := blk_frozen BK149.out 0; have hfz25_1 := blk_frozen BK149.out 1; have hfz25_2 := blk_frozen BK149.out 2; have hfz25_3 := blk_frozen BK149.out 3) | ((with_reducible refine gate_callee (f := 30) rfl ?_); refine goesL_ (some 5) rfl rfl Tryd.func30 (by kernel_rfl) rfl #[.string a0_0] rfl (by (try simp only [List.map_toArray, List.map_cons, List.map_nil]); first | done | rfl | (simp only [List.length_drop, List.length_take]; rfl)) ?_; (with_reducible refine (spec_IsPlain.calls k a0_0 true _ A2.out).mono ?_); rintro e w' ⟨rfl, ⟨nd, rfl⟩⟩; refine ⟨_, rfl, ?_⟩) | (go_at_call 30; (with_reducible refine (spec_IsPlain.calls k a0_1 true _ A4.out).mono ?_); rintro e w' ⟨rfl, ⟨nd, rfl⟩⟩))
            go_ret
            exact ⟨by first | rfl | (simp [errW_none, errW_some] <;> rfl) | (simp [*, errW_none, errW_some] <;> rfl), by repeat (first | (with_reducible first | exact HB.out | apply below_alloc | apply pw_below_drewN | apply below_drew1 | refine below_set ?_ GE149.out) | exact HB.out)⟩
    · replace c5 := Bool.eq_false_iff.mpr c5
      subst c5
      have H1 : (some false) = some r := by rw [if_neg (show ¬ (false = true) by decide)] at H; exact H
      clear H
      have H := H1
      clear H1
      obtain rfl := Option.some.inj H
      go_enter Tryd.func31, Tryd.ntmps31
      go_wp2_with (first | ((with_reducible refine gate_dst (N := 1) rfl ?_); refine box_event ?hg (N := 1) ?hd (cs := #[.string a0_0, .string a0_1, .int .i64 a0_2, .int .i64 a0_3]) (t := 30) ?hr ?_; (case hd => rfl); (case hg => rfl); (case hr => first | (go_simp; done) | (go_simp; rfl)); intro gb149 hg w26 hbox hb; have n0_ := Aside0.mk (below_step (by repeat (first | (with_reducible first | exact HB.out | apply below_alloc | apply pw_below_drewN | apply below_drew1) | exact HB.out)) hb); have n1_ := Aside0.mk (hbox); have n2_ := Aside0.mk ((by rw [hg]; exact (below_size (by repeat (first | (with_reducible first | exact HB.out | apply below_alloc | apply pw_below_drewN | apply below_drew1) | exact HB.out))) : w.heap.size ≤ gb149)); have n3_ := Aside0.mk ((by rw [hg]; exact (below_size (by repeat (first | (with_reducible first | exact HB.out | apply below_alloc | apply pw_below_drewN | apply below_drew1) | exact HB.out))) : w.heap.size ≤ gb149)); clear HB; have HB := n0_; have BK149 := n1_; have GW149 := n2_; have GE149 := n3_; clear n0_ n1_ n2_ n3_; clear hb hbox hg; have hcz27_0 : w26.cell? ⟨gb149, 0, none⟩ = some (.string a0_0) := (blk_cell BK149.out 0).trans rfl; have hcz27_1 : w26.cell? ⟨gb149, 1, none⟩ = some (.string a0_1) := (blk_cell BK149.out 1).trans rfl; have hcz27_2 : w26.cell? ⟨gb149, 2, none⟩ = some (.int .i64 a0_2) := (blk_cell BK149.out 2).trans rfl; have hcz27_3 : w26.cell? ⟨gb149, 3, none⟩ = some (.int .i64 a0_3) := (blk_cell BK149.out 3).trans rfl; have hfz27_0 := blk_frozen BK149.out 0; have hfz27_1 := blk_frozen BK149.out 1; have hfz27_2 := blk_frozen BK149.out 2; have hfz27_3 := blk_frozen BK149.out 3) | ((with_reducible refine gate_callee (f := 30) rfl ?_); refine goesL_ (some 5) rfl rfl Tryd.func30 (by kernel_rfl) rfl #[.string a0_0] rfl (by (try simp only [List.map_toArray, List.map_cons, List.map_nil]); first | done | rfl | (simp only [List.length_drop, List.length_take]; rfl)) ?_; (with_reducible refine (spec_IsPlain.calls k a0_0 true _ A2.out).mono ?_); rintro e w' ⟨rfl, ⟨nd, rfl⟩⟩; refine ⟨_, rfl, ?_⟩) | (go_at_call 30; (with_reducible refine (spec_IsPlain.calls k a0_1 false _ A4.out).mono ?_); rintro e w' ⟨rfl, ⟨nd, rfl⟩⟩))
      go_ret
      exact ⟨by first | rfl | (simp [errW_none, errW_some] <;> rfl) | (simp [*, errW_none, errW_some] <;> rfl), by repeat (first | (with_reducible first | exact HB.out | apply below_alloc | apply pw_below_drewN | apply below_drew1 | refine below_set ?_ GE149.out) | exact HB.out)⟩
  · replace c3 := Bool.eq_false_iff.mpr c3
    subst c3
    have H1 : (some false) = some r := by rw [if_neg (show ¬ (false = true) by decide)] at H; exact H
    clear H
    have H := H1
    clear H1
    obtain rfl := Option.some.inj H
    go_enter Tryd.func31, Tryd.ntmps31
    go_wp2_with (first | ((with_reducible refine gate_dst (N := 1) rfl ?_); refine box_event ?hg (N := 1) ?hd (cs := #[.string a0_0, .string a0_1, .int .i64 a0_2, .int .i64 a0_3]) (t := 30) ?hr ?_; (case hd => rfl); (case hg => rfl); (case hr => first | (go_simp; done) | (go_simp; rfl)); intro gb149 hg w28 hbox hb; have n0_ := Aside0.mk (below_step (by repeat (first | (with_reducible first | exact HB.out | apply below_alloc | apply pw_below_drewN | apply below_drew1) | exact HB.out)) hb); have n1_ := Aside0.mk (hbox); have n2_ := Aside0.mk ((by rw [hg]; exact (below_size (by repeat (first | (with_reducible first | exact HB.out | apply below_alloc | apply pw_below_drewN | apply below_drew1) | exact HB.out))) : w.heap.size ≤ gb149)); have n3_ := Aside0.mk ((by rw [hg]; exact (below_size (by repeat (first | (with_reducible first | exact HB.out | apply below_alloc | apply pw_below_drewN | apply below_drew1) | exact HB.out))) : w.heap.size ≤ gb149)); clear HB; have HB := n0_; have BK149 := n1_; have GW149 := n2_; have GE149 := n3_; clear n0_ n1_ n2_ n3_; clear hb hbox hg; have hcz29_0 : w28.cell? ⟨gb149, 0, none⟩ = some (.string a0_0) := (blk_cell BK149.out 0).trans rfl; have hcz29_1 : w28.cell? ⟨gb149, 1, none⟩ = some (.string a0_1) := (blk_cell BK149.out 1).trans rfl; have hcz29_2 : w28.cell? ⟨gb149, 2, none⟩ = some (.int .i64 a0_2) := (blk_cell BK149.out 2).trans rfl; have hcz29_3 : w28.cell? ⟨gb149, 3, none⟩ = some (.int .i64 a0_3) := (blk_cell BK149.out 3).trans rfl; have hfz29_0 := blk_frozen BK149.out 0; have hfz29_1 := blk_frozen BK149.out 1; have hfz29_2 := blk_frozen BK149.out 2; have hfz29_3 := blk_frozen BK149.out 3) | ((with_reducible refine gate_callee (f := 30) rfl ?_); refine goesL_ (some 5) rfl rfl Tryd.func30 (by kernel_rfl) rfl #[.string a0_0] rfl (by (try simp only [List.map_toArray, List.map_cons, List.map_nil]); first | done | rfl | (simp only [List.length_drop, List.length_take]; rfl)) ?_; (with_reducible refine (spec_IsPlain.calls k a0_0 false _ A2.out).mono ?_); rintro e w' ⟨rfl, ⟨nd, rfl⟩⟩; refine ⟨_, rfl, ?_⟩))
    go_ret
    exact ⟨by first | rfl | (simp [errW_none, errW_some] <;> rfl) | (simp [*, errW_none, errW_some] <;> rfl), by repeat (first | (with_reducible first | exact HB.out | apply below_alloc | apply pw_below_drewN | apply below_drew1 | refine below_set ?_ GE149.out) | exact HB.out)⟩

end Go.Proofs.YtddnepddilbikaaDoor.QAll
