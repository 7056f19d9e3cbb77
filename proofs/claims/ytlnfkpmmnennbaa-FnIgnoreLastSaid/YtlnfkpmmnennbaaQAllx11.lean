-- WRITTEN BY A PROGRAM OF THIS SESSION, out of the loaded program, with words of the kit
import Derived.Test.YtlnfkpmmnennbaaQAllx0
import Derived.Test.YtlnfkpmmnennbaaQAllx2
namespace Go.Proofs.Ytlnfkpmmnennbaa.QAll
open Go.RowKit Go.Proofs.YtlnfkpmmnennbaaW.PrintWords Go.Proofs.YtlnfkpmmnennbaaW.PrintLast Go.Proofs.YtlnfkpmmnennbaaW.PrintMore
attribute [local go_sem] max2_int min2_int max_two min_two max_three min_three max_four min_four   -- for this text's walks alone
set_option linter.unusedVariables false
set_option linter.unusedSimpArgs false

/-! ### spec_AreGlobs: function 13 -/
def spec_AreGlobs.l0 : Nat → List ByteArray → List ByteArray → Int → Int → Option (Bool)
  | 0, _, _, _, _ => none
  | k + 1, x0, x5, x6, x7 => if x7 < x6 then (if 0 ≤ x7 then (if x7 < (x5.length : Int) then ((spec_IsGlob.f k (rdOf ByteArray.empty x5 x7)).bind fun t143 => (if t143 = true then (spec_AreGlobs.l0 k x0 x5 x6 (wrap64 (x7 + 1))) else (some false))) else (none)) else (none)) else (if (x0.length : Int) > 0 then (some (decide ((x0.length : Int) ≤ 100))) else (some false))
def spec_AreGlobs.f (k : Nat) (l0 : List ByteArray) : Option (Bool) := spec_AreGlobs.l0 k l0 l0 (l0.length : Int) 0
theorem spec_AreGlobs.mono_l : ∀ k, (∀ y0 y1 y2 y3, LeO (spec_AreGlobs.l0 k y0 y1 y2 y3) (spec_AreGlobs.l0 (k + 1) y0 y1 y2 y3))
  | 0 => fun _ _ _ _ r h => by simp [spec_AreGlobs.l0] at h
  | k + 1 => by
    have ih0 := spec_AreGlobs.mono_l k
    · intro y0 y1 y2 y3
      unfold spec_AreGlobs.l0
      repeat' first
      | (with_reducible exact ih0 _ _ _ _)
      | (with_reducible exact spec_IsGlob.mono _ _)
      | (with_reducible exact LeO.refl _)
      | (with_reducible exact LeO.none _)
      | (with_reducible refine LeO.ite ?_ ?_)
      | (with_reducible refine LeO.bind ?_ (fun _ => ?_))
      | exact ih0 _ _ _ _
      | exact spec_IsGlob.mono _ _
      | exact LeO.none _
      | refine LeO.ite ?_ ?_
      | refine LeO.bind ?_ (fun _ => ?_)
theorem spec_AreGlobs.mono : ∀ a0 k, LeO (spec_AreGlobs.f k a0) (spec_AreGlobs.f (k + 1) a0) := by
  intro a0 k
  have ih0 := spec_AreGlobs.mono_l k
  unfold spec_AreGlobs.f
  repeat' first
      | (with_reducible exact ih0 _ _ _ _)
      | (with_reducible exact spec_IsGlob.mono _ _)
      | (with_reducible exact LeO.refl _)
      | (with_reducible exact LeO.none _)
      | (with_reducible refine LeO.ite ?_ ?_)
      | (with_reducible refine LeO.bind ?_ (fun _ => ?_))
      | exact ih0 _ _ _ _
      | exact spec_IsGlob.mono _ _
      | exact LeO.none _
      | refine LeO.ite ?_ ?_
      | refine LeO.bind ?_ (fun _ => ?_)
set_option maxHeartbeats 8000000 in
set_option maxRecDepth 100000 in
theorem spec_AreGlobs.calls (k : Nat) (A0 : Option Addr) (c0 : Nat) (l0 : List ByteArray) (r : Bool) (w : World) (hr0 : Kd.C Kd.string w A0 l0.length l0) (hc0 : l0.length ≤ c0) (h : spec_AreGlobs.f k l0 = some r) :
    Calls Try.prog 13 #[.slice A0 l0.length c0] w fun e w' => e = .returned (.bool r) ∧ Drawn0 w w' := by
  have HR0 := Aside0.mk hr0
  have HC0 := Aside0.mk hc0
  clear hr0 hc0
  have H : (spec_AreGlobs.l0 k l0 l0 (l0.length : Int) 0) = some r := h
  clear h
  have H' := Aside0.mk H
  clear H
  go_enter Try.func13, Try.ntmps13
  go_wp2
  go_loopg [7] k (fun kq v7 w' => ∃ (x7_1 : Int), v7 = .int .i64 x7_1 ∧ Aside0 (spec_AreGlobs.l0 kq l0 l0 (l0.length : Int) x7_1 = some r) ∧ Aside0 (kq ≤ k) ∧ Drawn0 w w')
  case atStart => exact ⟨(0), (by first | rfl | (simp; done) | (simp [*]; done)), H', ⟨Nat.le_refl _⟩, by repeat (first | exact Drawn0.refl _ | apply Drawn0.step)⟩
  case round =>
    clear H'
    try clear c1
    obtain ⟨x7_1, rfl, HA, HK1, ⟨m1, rfl⟩⟩ := hrel
    cases gk with
    | zero => exact absurd HA.out (by simp [spec_AreGlobs.l0])
    | succ k1 =>
      have H := HA.out
      clear HA
      simp only [spec_AreGlobs.l0] at H
      by_cases c2 : x7_1 < (l0.length : Int)
      · rw [if_pos c2] at H
        have c2b0 : decide (x7_1 < (l0.length : Int)) = true := decide_eq_true c2
        clear c2
        by_cases c3 : 0 ≤ x7_1
        · rw [if_pos c3] at H
          have c3b0 : decide (0 ≤ x7_1) = true := decide_eq_true c3
          clear c3
          by_cases c4 : x7_1 < (l0.length : Int)
          · rw [if_pos c4] at H
            have c4b0 : decide (x7_1 < (l0.length : Int)) = true := decide_eq_true c4
            clear c4
            replace H := Option.bind_eq_some_iff.mp H
            obtain ⟨t143, A50, H⟩ := H
            replace H : (if t143 = true then (spec_AreGlobs.l0 k1 l0 l0 (l0.length : Int) (wrap64 (x7_1 + 1))) else (some false)) = some r := H
            have A5 := Aside0.mk A50
            clear A50
            by_cases c6 : t143 = true
            · subst c6
              have H1 : (spec_AreGlobs.l0 k1 l0 l0 (l0.length : Int) (wrap64 (x7_1 + 1))) = some r := by rw [if_pos rfl] at H; exact H
              clear H
              have H := H1
              clear H1
              have H' := Aside0.mk H
              clear H
              have p142 : 0 ≤ (x7_1 : Int) := of_decide_eq_true (by first | (with_reducible assumption) | assumption)
              have q142 : x7_1 < (l0.length : Int) := of_decide_eq_true (by first | (with_reducible assumption) | assumption)
              obtain ⟨ad142, e142, hx142_0⟩ := Kd.at_string HR0.out x7_1 p142 q142
              cases e142
              replace p142 := eq_true p142
              replace q142 := eq_true q142
              go_wp2_with (first | ((with_reducible refine gate_callee (f := 8) rfl ?_); refine goesL_ (some 12) rfl rfl Try.func8 (by kernel_rfl) rfl #[.string (rdOf ByteArray.empty l0 x7_1)] rfl (by (try simp only [List.map_toArray, List.map_cons, List.map_nil]); first | done | rfl | (simp only [List.length_drop, List.length_take]; rfl)) ?_; (with_reducible refine (spec_IsGlob.calls k1 (rdOf ByteArray.empty l0 x7_1) true _ A5.out).mono ?_); rintro e w' ⟨rfl, ⟨nd, rfl⟩⟩; refine ⟨_, rfl, ?_⟩))
              go_roundg k1
              case measure => have := HK1.out; omega
              case rel => exact ⟨(wrap64 (x7_1 + 1)), (by first | rfl | (simp; done) | (simp [*]; done)), H', ⟨by have := HK1.out; omega⟩, by repeat (first | exact Drawn0.refl _ | apply Drawn0.step)⟩
            · replace c6 := Bool.eq_false_iff.mpr c6
              subst c6
              have H1 : (some false) = some r := by rw [if_neg (show ¬ (false = true) by decide)] at H; exact H
              clear H
              have H := H1
              clear H1
              obtain rfl := Option.some.inj H
              have p142 : 0 ≤ (x7_1 : Int) := of_decide_eq_true (by first | (with_reducible assumption) | assumption)
              have q142 : x7_1 < (l0.length : Int) := of_decide_eq_true (by first | (with_reducible assumption) | assumption)
              obtain ⟨ad142, e142, hx142_0⟩ := Kd.at_string HR0.out x7_1 p142 q142
              cases e142
              replace p142 := eq_true p142
              replace q142 := eq_true q142
              go_wp2_with (first | ((with_reducible refine gate_callee (f := 8) rfl ?_); refine goesL_ (some 12) rfl rfl Try.func8 (by kernel_rfl) rfl #[.string (rdOf ByteArray.empty l0 x7_1)] rfl (by (try simp only [List.map_toArray, List.map_cons, List.map_nil]); first | done | rfl | (simp only [List.length_drop, List.length_take]; rfl)) ?_; (with_reducible refine (spec_IsGlob.calls k1 (rdOf ByteArray.empty l0 x7_1) false _ A5.out).mono ?_); rintro e w' ⟨rfl, ⟨nd, rfl⟩⟩; refine ⟨_, rfl, ?_⟩))
              go_ret
              exact ⟨by first | rfl | (simp; done) | (simp [*]; done), by repeat (first | exact Drawn0.refl _ | apply Drawn0.step)⟩
          · rw [if_neg c4] at H
            exact absurd H (by simp)
        · rw [if_neg c3] at H
          exact absurd H (by simp)
      · rw [if_neg c2] at H
        have c2b0 : decide (x7_1 < (l0.length : Int)) = false := decide_eq_false c2
        clear c2
        by_cases c7 : (l0.length : Int) > 0
        · rw [if_pos c7] at H
          have c7b0 : decide (0 < (l0.length : Int)) = true := decide_eq_true c7
          have c7b1 : decide (0 < l0.length) = true := decide_eq_true (by omega)
          clear c7
          obtain rfl := Option.some.inj H
          go_wp2
          go_ret
          exact ⟨by first | rfl | (simp; done) | (simp [*]; done), by repeat (first | exact Drawn0.refl _ | apply Drawn0.step)⟩
        · rw [if_neg c7] at H
          have c7b0 : decide (0 < (l0.length : Int)) = false := decide_eq_false c7
          have c7b1 : decide (0 < l0.length) = false := decide_eq_false (by omega)
          clear c7
          obtain rfl := Option.some.inj H
          go_wp2
          go_ret
          exact ⟨by first | rfl | (simp; done) | (simp [*]; done), by repeat (first | exact Drawn0.refl _ | apply Drawn0.step)⟩

/-! ### spec_Slashed: function 14 -/
def spec_Slashed.l0 : Nat → ByteArray → List ByteArray → Int → Int → Option (ByteArray)
  | 0, _, _, _, _ => none
  | k + 1, x3, x6, x7, x8 => if x8 < x7 then (if 0 ≤ x8 then (if x8 < (x6.length : Int) then (if x8 > 0 then (if x3.size + 1 ≤ 9223372036854775807 then (if (x3 ++ (⟨#[47]⟩ : ByteArray)).size + (rdOf ByteArray.empty x6 x8).size ≤ 9223372036854775807 then (spec_Slashed.l0 k ((x3 ++ (⟨#[47]⟩ : ByteArray)) ++ (rdOf ByteArray.empty x6 x8)) x6 x7 (wrap64 (x8 + 1))) else (none)) else (none)) else (if x3.size + (rdOf ByteArray.empty x6 x8).size ≤ 9223372036854775807 then (spec_Slashed.l0 k (x3 ++ (rdOf ByteArray.empty x6 x8)) x6 x7 (wrap64 (x8 + 1))) else (none))) else (none)) else (none)) else (some x3)
def spec_Slashed.f (k : Nat) (l0 : List ByteArray) : Option (ByteArray) := spec_Slashed.l0 k (⟨#[]⟩ : ByteArray) l0 (l0.length : Int) 0
theorem spec_Slashed.mono_l : ∀ k, (∀ y0 y1 y2 y3, LeO (spec_Slashed.l0 k y0 y1 y2 y3) (spec_Slashed.l0 (k + 1) y0 y1 y2 y3))
  | 0 => fun _ _ _ _ r h => by simp [spec_Slashed.l0] at h
  | k + 1 => by
    have ih0 := spec_Slashed.mono_l k
    · intro y0 y1 y2 y3
      unfold spec_Slashed.l0
      repeat' first
      | (with_reducible exact ih0 _ _ _ _)
      | (with_reducible exact LeO.refl _)
      | (with_reducible exact LeO.none _)
      | (with_reducible refine LeO.ite ?_ ?_)
      | (with_reducible refine LeO.bind ?_ (fun _ => ?_))
      | exact ih0 _ _ _ _
      | exact LeO.none _
      | refine LeO.ite ?_ ?_
      | refine LeO.bind ?_ (fun _ => ?_)
theorem spec_Slashed.mono : ∀ a0 k, LeO (spec_Slashed.f k a0) (spec_Slashed.f (k + 1) a0) := by
  intro a0 k
  have ih0 := spec_Slashed.mono_l k
  unfold spec_Slashed.f
  repeat' first
      | (with_reducible exact ih0 _ _ _ _)
      | (with_reducible exact LeO.refl _)
      | (with_reducible exact LeO.none _)
      | (with_reducible refine LeO.ite ?_ ?_)
      | (with_reducible refine LeO.bind ?_ (fun _ => ?_))
      | exact ih0 _ _ _ _
      | exact LeO.none _
      | refine LeO.ite ?_ ?_
      | refine LeO.bind ?_ (fun _ => ?_)
set_option maxHeartbeats 8000000 in
set_option maxRecDepth 100000 in
theorem spec_Slashed.calls (k : Nat) (A0 : Option Addr) (c0 : Nat) (l0 : List ByteArray) (r : ByteArray) (w : World) (hr0 : Kd.C Kd.string w A0 l0.length l0) (hc0 : l0.length ≤ c0) (h : spec_Slashed.f k l0 = some r) :
    Calls Try.prog 14 #[.slice A0 l0.length c0] w fun e w' => e = .returned (.string r) ∧ Drawn0 w w' := by
  have HR0 := Aside0.mk hr0
  have HC0 := Aside0.mk hc0
  clear hr0 hc0
  have H : (spec_Slashed.l0 k (⟨#[]⟩ : ByteArray) l0 (l0.length : Int) 0) = some r := h
  clear h
  have H' := Aside0.mk H
  clear H
  go_enter Try.func14, Try.ntmps14
  go_wp2
  go_loopg [3, 8] k (fun kq v3 v8 w' => ∃ (x3_1 : ByteArray) (x8_1 : Int), v3 = .string x3_1 ∧ v8 = .int .i64 x8_1 ∧ Aside0 (spec_Slashed.l0 kq x3_1 l0 (l0.length : Int) x8_1 = some r) ∧ Aside0 (kq ≤ k) ∧ Drawn0 w w')
  case atStart => exact ⟨((⟨#[]⟩ : ByteArray)), (0), (by first | rfl | (simp; done) | (simp [*]; done)), (by first | rfl | (simp; done) | (simp [*]; done)), H', ⟨Nat.le_refl _⟩, by repeat (first | exact Drawn0.refl _ | apply Drawn0.step)⟩
  case round =>
    clear H'
    try clear c1
    obtain ⟨x3_1, x8_1, rfl, rfl, HA, HK1, ⟨m1, rfl⟩⟩ := hrel
    cases gk with
    | zero => exact absurd HA.out (by simp [spec_Slashed.l0])
    | succ k1 =>
      have H := HA.out
      clear HA
      simp only [spec_Slashed.l0] at H
      by_cases c2 : x8_1 < (l0.length : Int)
      · rw [if_pos c2] at H
        have c2b0 : decide (x8_1 < (l0.length : Int)) = true := decide_eq_true c2
        clear c2
        by_cases c3 : 0 ≤ x8_1
        · rw [if_pos c3] at H
          have c3b0 : decide (0 ≤ x8_1) = true := decide_eq_true c3
          clear c3
          by_cases c4 : x8_1 < (l0.length : Int)
          · rw [if_pos c4] at H
            have c4b0 : decide (x8_1 < (l0.length : Int)) = true := decide_eq_true c4
            clear c4
            by_cases c5 : x8_1 > 0
            · rw [if_pos c5] at H
              have c5b0 : decide (0 < x8_1) = true := decide_eq_true c5
              clear c5
              by_cases c6 : x3_1.size + 1 ≤ 9223372036854775807
              · rw [if_pos c6] at H
                have c6b0 := eq_true c6
                have c6b1 : decide (x3_1.size + 1 ≤ 9223372036854775807) = true := decide_eq_true c6
                try have c6b2 : (9223372036854775807 < x3_1.size + 1) = False := eq_false (Nat.not_lt.2 c6)
                by_cases c7 : (x3_1 ++ (⟨#[47]⟩ : ByteArray)).size + (rdOf ByteArray.empty l0 x8_1).size ≤ 9223372036854775807
                · rw [if_pos c7] at H
                  have c7b0 := eq_true c7
                  have c7b1 : decide ((x3_1 ++ (⟨#[47]⟩ : ByteArray)).size + (rdOf ByteArray.empty l0 x8_1).size ≤ 9223372036854775807) = true := decide_eq_true c7
                  try have c7b2 : (9223372036854775807 < (x3_1 ++ (⟨#[47]⟩ : ByteArray)).size + (rdOf ByteArray.empty l0 x8_1).size) = False := eq_false (Nat.not_lt.2 c7)
                  have H' := Aside0.mk H
                  clear H
                  have p144 : 0 ≤ (x8_1 : Int) := of_decide_eq_true (by first | (with_reducible assumption) | assumption)
                  have q144 : x8_1 < (l0.length : Int) := of_decide_eq_true (by first | (with_reducible assumption) | assumption)
                  obtain ⟨ad144, e144, hx144_0⟩ := Kd.at_string HR0.out x8_1 p144 q144
                  cases e144
                  replace p144 := eq_true p144
                  replace q144 := eq_true q144
                  go_wp2
                  go_roundg k1
                  case measure => have := HK1.out; omega
                  case rel => exact ⟨((x3_1 ++ (⟨#[47]⟩ : ByteArray)) ++ (rdOf ByteArray.empty l0 x8_1)), (wrap64 (x8_1 + 1)), (by first | rfl | (simp; done) | (simp [*]; done)), (by first | rfl | (simp; done) | (simp [*]; done)), H', ⟨by have := HK1.out; omega⟩, by repeat (first | exact Drawn0.refl _ | apply Drawn0.step)⟩
                · rw [if_neg c7] at H
                  exact absurd H (by simp)
              · rw [if_neg c6] at H
                exact absurd H (by simp)
            · rw [if_neg c5] at H
              have c5b0 : decide (0 < x8_1) = false := decide_eq_false c5
              clear c5
              by_cases c8 : x3_1.size + (rdOf ByteArray.empty l0 x8_1).size ≤ 9223372036854775807
              · rw [if_pos c8] at H
                have c8b0 := eq_true c8
                have c8b1 : decide (x3_1.size + (rdOf ByteArray.empty l0 x8_1).size ≤ 9223372036854775807) = true := decide_eq_true c8
                try have c8b2 : (9223372036854775807 < x3_1.size + (rdOf ByteArray.empty l0 x8_1).size) = False := eq_false (Nat.not_lt.2 c8)
                have H' := Aside0.mk H
                clear H
                have p144 : 0 ≤ (x8_1 : Int) := of_decide_eq_true (by first | (with_reducible assumption) | assumption)
                have q144 : x8_1 < (l0.length : Int) := of_decide_eq_true (by first | (with_reducible assumption) | assumption)
                obtain ⟨ad144, e144, hx144_0⟩ := Kd.at_string HR0.out x8_1 p144 q144
                cases e144
                replace p144 := eq_true p144
                replace q144 := eq_true q144
                go_wp2
                go_roundg k1
                case measure => have := HK1.out; omega
                case rel => exact ⟨(x3_1 ++ (rdOf ByteArray.empty l0 x8_1)), (wrap64 (x8_1 + 1)), (by first | rfl | (simp; done) | (simp [*]; done)), (by first | rfl | (simp; done) | (simp [*]; done)), H', ⟨by have := HK1.out; omega⟩, by repeat (first | exact Drawn0.refl _ | apply Drawn0.step)⟩
              · rw [if_neg c8] at H
                exact absurd H (by simp)
          · rw [if_neg c4] at H
            exact absurd H (by simp)
        · rw [if_neg c3] at H
          exact absurd H (by simp)
      · rw [if_neg c2] at H
        have c2b0 : decide (x8_1 < (l0.length : Int)) = false := decide_eq_false c2
        clear c2
        obtain rfl := Option.some.inj H
        go_wp2
        go_ret
        exact ⟨by first | rfl | (simp; done) | (simp [*]; done), by repeat (first | exact Drawn0.refl _ | apply Drawn0.step)⟩

end Go.Proofs.Ytlnfkpmmnennbaa.QAll
