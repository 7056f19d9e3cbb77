-- WRITTEN BY A PROGRAM OF THIS SESSION, out of the loaded program, with words of the kit
import Derived.Test.YthpoiceceogdhaaDoorQAllx0
namespace Go.Proofs.YthpoiceceogdhaaDoor.QAll
open Go.RowKit Go.Proofs.YthpoiceceogdhaaDoorW.PrintWords Go.Proofs.YthpoiceceogdhaaDoorW.PrintLast Go.Proofs.YthpoiceceogdhaaDoorW.PrintMore
attribute [local go_sem] max2_int min2_int max_two min_two max_three min_three max_four min_four   -- for this text's walks alone
set_option linter.unusedVariables false
set_option linter.unusedSimpArgs false

/-! ### laws_obKind: function 5 -/
def laws_obKind.f (a0 : Int) : Option (Int) := some (wrap64 (1 + (Int.tmod (Go.bits .and .i64 a0 16777215) 4)))
set_option maxHeartbeats 8000000 in
set_option maxRecDepth 100000 in
theorem laws_obKind.calls (a0 : Int) (r : Int) (w : World) (h : laws_obKind.f a0 = some r) :
    Calls Tryd.prog 5 #[.int .i64 a0] w fun e w' => e = .returned (.int .i64 r) ∧ Drawn0 w w' := by
  have H : (some (wrap64 (1 + (Int.tmod (Go.bits .and .i64 a0 16777215) 4)))) = some r := h
  clear h
  obtain rfl := Option.some.inj H
  go_enter Tryd.func5, Tryd.ntmps5
  go_wp2
  go_ret
  exact ⟨by first | rfl | (simp; done) | (simp [*]; done), by repeat (first | exact Drawn0.refl _ | apply Drawn0.step)⟩

/-! ### spec_Short: function 4 -/
def spec_Short.l0 : Nat → Int → List (List Int) → Int → Int → Option (Bool)
  | 0, _, _, _, _ => none
  | k + 1, x3, x6, x7, x8 => if x8 < x7 then (if 0 ≤ x8 then (if x8 < (x6.length : Int) then (if (wrap64 (x3 + ((rd_L1 x6 x8).length : Int))) > 1000000 then (some false) else (spec_Short.l0 k (wrap64 (x3 + ((rd_L1 x6 x8).length : Int))) x6 x7 (wrap64 (x8 + 1)))) else (none)) else (none)) else (some true)
def spec_Short.f (k : Nat) (l0 : List (List Int)) : Option (Bool) := spec_Short.l0 k 0 l0 (l0.length : Int) 0
theorem spec_Short.mono_l : ∀ k, (∀ y0 y1 y2 y3, LeO (spec_Short.l0 k y0 y1 y2 y3) (spec_Short.l0 (k + 1) y0 y1 y2 y3))
  | 0 => fun _ _ _ _ r h => by simp [spec_Short.l0] at h
  | k + 1 => by
    have ih0 := spec_Short.mono_l k
    · intro y0 y1 y2 y3
      unfold spec_Short.l0
      repeat' first
      | (with_reducible exact ih0 _ _ _ _)
      | (with_reducible exact LeO.refl _)
      | (with_reducible exact LeO.none _)
      | (with_reducible refine LeO.ite ?_ ?_)
      | (with_reducible refine LeO.bind ?_ (fun _ => ?_))
      | exact ih0 _ _ _ _
      | exact LeO.none _
      | refine LeO.ite ?_ ?_
      | refine LeO.bind ?_ (fun _ => ?_)
theorem spec_Short.mono : ∀ a0 k, LeO (spec_Short.f k a0) (spec_Short.f (k + 1) a0) := by
  intro a0 k
  have ih0 := spec_Short.mono_l k
  unfold spec_Short.f
  repeat' first
      | (with_reducible exact ih0 _ _ _ _)
      | (with_reducible exact LeO.refl _)
      | (with_reducible exact LeO.none _)
      | (with_reducible refine LeO.ite ?_ ?_)
      | (with_reducible refine LeO.bind ?_ (fun _ => ?_))
      | exact ih0 _ _ _ _
      | exact LeO.none _
      | refine LeO.ite ?_ ?_
      | refine LeO.bind ?_ (fun _ => ?_)
set_option maxHeartbeats 8000000 in
set_option maxRecDepth 100000 in
theorem spec_Short.calls (k : Nat) (A0 : Option Addr) (c0 : Nat) (l0 : List (List Int)) (r : Bool) (w : World) (hr0 : Kd.C (Kd.slice 5 (Kd.int .u8)) w A0 l0.length l0) (hc0 : l0.length ≤ c0) (h : spec_Short.f k l0 = some r) :
    Calls Tryd.prog 4 #[.slice A0 l0.length c0] w fun e w' => e = .returned (.bool r) ∧ Drawn0 w w' := by
  have HR0 := Aside0.mk hr0
  have HC0 := Aside0.mk hc0
  clear hr0 hc0
  have H : (spec_Short.l0 k 0 l0 (l0.length : Int) 0) = some r := h
  clear h
  have H' := Aside0.mk H
  clear H
  go_enter Tryd.func4, Tryd.ntmps4
  go_wp2
  go_loopg [3, 8] k (fun kq v3 v8 w' => ∃ (x3_1 : Int) (x8_1 : Int), v3 = .int .i64 x3_1 ∧ v8 = .int .i64 x8_1 ∧ Aside0 (spec_Short.l0 kq x3_1 l0 (l0.length : Int) x8_1 = some r) ∧ Aside0 (kq ≤ k) ∧ Drawn0 w w')
  case atStart => exact ⟨(0), (0), (by first | rfl | (simp; done) | (simp [*]; done)), (by first | rfl | (simp; done) | (simp [*]; done)), H', ⟨Nat.le_refl _⟩, by repeat (first | exact Drawn0.refl _ | apply Drawn0.step)⟩
  case round =>
    clear H'
    obtain ⟨x3_1, x8_1, rfl, rfl, HA, HK1, ⟨m1, rfl⟩⟩ := hrel
    cases gk with
    | zero => exact absurd HA.out (by simp [spec_Short.l0])
    | succ k1 =>
      have H := HA.out
      clear HA
      simp only [spec_Short.l0] at H
      by_cases c2 : x8_1 < (l0.length : Int)
      · rw [if_pos c2] at H
        have c2b0 : decide (x8_1 < (l0.length : Int)) = true := decide_eq_true c2
        clear c2
        by_cases c3 : 0 ≤ x8_1
        · rw [if_pos c3] at H
          have c3b0 : decide (0 ≤ x8_1) = true := decide_eq_true c3
          clear c3
          by_cases c4 : x8_1 < (l0.length : Int)
          · rw [if_pos c4] at H
            have c4b0 : decide (x8_1 < (l0.length : Int)) = true := decide_eq_true c4
            clear c4
            by_cases c5 : (wrap64 (x3_1 + ((rd_L1 l0 x8_1).length : Int))) > 1000000
            · rw [if_pos c5] at H
              have c5b0 : decide (1000000 < (wrap64 (x3_1 + ((rd_L1 l0 x8_1).length : Int)))) = true := decide_eq_true c5
              clear c5
              obtain rfl := Option.some.inj H
              have p101 : 0 ≤ (x8_1 : Int) := of_decide_eq_true (by first | (with_reducible assumption) | assumption)
              have q101 : x8_1 < (l0.length : Int) := of_decide_eq_true (by first | (with_reducible assumption) | assumption)
              obtain ⟨ad101, A101_0, c101_0, e101, hx101_0, hl101_0, hi101_0⟩ := at_L1 HR0.out x8_1 p101 q101
              cases e101
              have HR101_0 := Aside0.mk hi101_0
              have HC101_0 := Aside0.mk hl101_0
              clear hi101_0 hl101_0
              replace p101 := eq_true p101
              replace q101 := eq_true q101
              go_wp2
              go_ret
              exact ⟨by first | rfl | (simp; done) | (simp [*]; done), by repeat (first | exact Drawn0.refl _ | apply Drawn0.step)⟩
            · rw [if_neg c5] at H
              have c5b0 : decide (1000000 < (wrap64 (x3_1 + ((rd_L1 l0 x8_1).length : Int)))) = false := decide_eq_false c5
              clear c5
              have H' := Aside0.mk H
              clear H
              have p101 : 0 ≤ (x8_1 : Int) := of_decide_eq_true (by first | (with_reducible assumption) | assumption)
              have q101 : x8_1 < (l0.length : Int) := of_decide_eq_true (by first | (with_reducible assumption) | assumption)
              obtain ⟨ad101, A101_0, c101_0, e101, hx101_0, hl101_0, hi101_0⟩ := at_L1 HR0.out x8_1 p101 q101
              cases e101
              have HR101_0 := Aside0.mk hi101_0
              have HC101_0 := Aside0.mk hl101_0
              clear hi101_0 hl101_0
              replace p101 := eq_true p101
              replace q101 := eq_true q101
              go_wp2
              go_roundg k1
              case measure => have := HK1.out; omega
              case rel => exact ⟨(wrap64 (x3_1 + ((rd_L1 l0 x8_1).length : Int))), (wrap64 (x8_1 + 1)), (by first | rfl | (simp; done) | (simp [*]; done)), (by first | rfl | (simp; done) | (simp [*]; done)), H', ⟨by have := HK1.out; omega⟩, by repeat (first | exact Drawn0.refl _ | apply Drawn0.step)⟩
          · rw [if_neg c4] at H
            exact absurd H (by simp)
        · rw [if_neg c3] at H
          exact absurd H (by simp)
      · rw [if_neg c2] at H
        have c2b0 : decide (x8_1 < (l0.length : Int)) = false := decide_eq_false c2
        clear c2
        obtain rfl := Option.some.inj H
        go_wp2
        go_ret
        exact ⟨by first | rfl | (simp; done) | (simp [*]; done), by repeat (first | exact Drawn0.refl _ | apply Drawn0.step)⟩

/-! ### spec_ObName: function 9 -/
def spec_ObName.f (a0 : Int) : Option (ByteArray) := if a0 = 1 then (some (⟨#[99, 111, 109, 109, 105, 116]⟩ : ByteArray)) else (if a0 = 2 then (some (⟨#[116, 114, 101, 101]⟩ : ByteArray)) else (if a0 = 3 then (some (⟨#[98, 108, 111, 98]⟩ : ByteArray)) else (if a0 = 4 then (some (⟨#[116, 97, 103]⟩ : ByteArray)) else (some (⟨#[]⟩ : ByteArray)))))
set_option maxHeartbeats 8000000 in
set_option maxRecDepth 100000 in
theorem spec_ObName.calls (a0 : Int) (r : ByteArray) (w : World) (h : spec_ObName.f a0 = some r) :
    Calls Tryd.prog 9 #[.int .i64 a0] w fun e w' => e = .returned (.string r) ∧ Drawn0 w w' := by
  have H : (if a0 = 1 then (some (⟨#[99, 111, 109, 109, 105, 116]⟩ : ByteArray)) else (if a0 = 2 then (some (⟨#[116, 114, 101, 101]⟩ : ByteArray)) else (if a0 = 3 then (some (⟨#[98, 108, 111, 98]⟩ : ByteArray)) else (if a0 = 4 then (some (⟨#[116, 97, 103]⟩ : ByteArray)) else (some (⟨#[]⟩ : ByteArray)))))) = some r := h
  clear h
  by_cases c2 : a0 = 1
  · rw [if_pos c2] at H
    have c2b0 : (a0 == 1) = true := beq_iff_eq.mpr c2
    have c2b1 : (a0 != 1) = false := bne_eq_false_iff_eq.mpr c2
    clear c2
    obtain rfl := Option.some.inj H
    go_enter Tryd.func9, Tryd.ntmps9
    go_wp2
    go_ret
    exact ⟨by first | rfl | (simp; done) | (simp [*]; done), by repeat (first | exact Drawn0.refl _ | apply Drawn0.step)⟩
  · rw [if_neg c2] at H
    have c2b0 : (a0 == 1) = false := beq_eq_false_iff_ne.mpr c2
    have c2b1 : (a0 != 1) = true := bne_iff_ne.mpr c2
    by_cases c3 : a0 = 2
    · rw [if_pos c3] at H
      have c3b0 : (a0 == 2) = true := beq_iff_eq.mpr c3
      have c3b1 : (a0 != 2) = false := bne_eq_false_iff_eq.mpr c3
      clear c3
      obtain rfl := Option.some.inj H
      go_enter Tryd.func9, Tryd.ntmps9
      go_wp2
      go_ret
      exact ⟨by first | rfl | (simp; done) | (simp [*]; done), by repeat (first | exact Drawn0.refl _ | apply Drawn0.step)⟩
    · rw [if_neg c3] at H
      have c3b0 : (a0 == 2) = false := beq_eq_false_iff_ne.mpr c3
      have c3b1 : (a0 != 2) = true := bne_iff_ne.mpr c3
      by_cases c4 : a0 = 3
      · rw [if_pos c4] at H
        have c4b0 : (a0 == 3) = true := beq_iff_eq.mpr c4
        have c4b1 : (a0 != 3) = false := bne_eq_false_iff_eq.mpr c4
        clear c4
        obtain rfl := Option.some.inj H
        go_enter Tryd.func9, Tryd.ntmps9
        go_wp2
        go_ret
        exact ⟨by first | rfl | (simp; done) | (simp [*]; done), by repeat (first | exact Drawn0.refl _ | apply Drawn0.step)⟩
      · rw [if_neg c4] at H
        have c4b0 : (a0 == 3) = false := beq_eq_false_iff_ne.mpr c4
        have c4b1 : (a0 != 3) = true := bne_iff_ne.mpr c4
        by_cases c5 : a0 = 4
        · rw [if_pos c5] at H
          have c5b0 : (a0 == 4) = true := beq_iff_eq.mpr c5
          have c5b1 : (a0 != 4) = false := bne_eq_false_iff_eq.mpr c5
          clear c5
          obtain rfl := Option.some.inj H
          go_enter Tryd.func9, Tryd.ntmps9
          go_wp2
          go_ret
          exact ⟨by first | rfl | (simp; done) | (simp [*]; done), by repeat (first | exact Drawn0.refl _ | apply Drawn0.step)⟩
        · rw [if_neg c5] at H
          have c5b0 : (a0 == 4) = false := beq_eq_false_iff_ne.mpr c5
          have c5b1 : (a0 != 4) = true := bne_iff_ne.mpr c5
          obtain rfl := Option.some.inj H
          go_enter Tryd.func9, Tryd.ntmps9
          go_wp2
          go_ret
          exact ⟨by first | rfl | (simp; done) | (simp [*]; done), by repeat (first | exact Drawn0.refl _ | apply Drawn0.step)⟩

/-! ### spec_Decimal: function 12 -/
def spec_Decimal.f : Nat → Int → Option (ByteArray)
  | 0, _ => none
  | k + 1, a0 => if a0 < 10 then (none) else ((spec_Decimal.f k (wrap64 (Int.tdiv a0 10))).bind fun t102 => (none))
theorem spec_Decimal.mono_l : ∀ k, (∀ y0, LeO (spec_Decimal.f k y0) (spec_Decimal.f (k + 1) y0))
  | 0 => fun _ r h => by simp [spec_Decimal.f] at h
  | k + 1 => by
    have ih0 := spec_Decimal.mono_l k
    · intro y0
      unfold spec_Decimal.f
      repeat' first
      | (with_reducible exact ih0 _)
      | (with_reducible exact LeO.refl _)
      | (with_reducible exact LeO.none _)
      | (with_reducible refine LeO.ite ?_ ?_)
      | (with_reducible refine LeO.bind ?_ (fun _ => ?_))
      | exact ih0 _
      | exact LeO.none _
      | refine LeO.ite ?_ ?_
      | refine LeO.bind ?_ (fun _ => ?_)
theorem spec_Decimal.mono : ∀ a0 k, LeO (spec_Decimal.f k a0) (spec_Decimal.f (k + 1) a0) := by
  intro a0 k
  have ih0 := spec_Decimal.mono_l k
  exact ih0 a0
set_option maxHeartbeats 8000000 in
set_option maxRecDepth 100000 in
theorem spec_Decimal.calls (k : Nat) : ∀ (a0 : Int) (r : ByteArray) (w : World) (h : spec_Decimal.f k a0 = some r),
    Calls Tryd.prog 12 #[.int .i64 a0] w fun e w' => e = .returned (.string r) ∧ Drawn0 w w' := by
  induction k using Nat.strongRecOn with
  | _ k ih =>
  intro a0 r w h
  cases k with
  | zero => exact absurd h (by simp [spec_Decimal.f])
  | succ k =>
  simp only [spec_Decimal.f] at h
  have H : (if a0 < 10 then (none) else ((spec_Decimal.f k (wrap64 (Int.tdiv a0 10))).bind fun t102 => (none))) = some r := h
  clear h
  by_cases c2 : a0 < 10
  · rw [if_pos c2] at H
    exact absurd H (by simp)
  · rw [if_neg c2] at H
    have c2b0 : decide (a0 < 10) = false := decide_eq_false c2
    clear c2
    replace H := Option.bind_eq_some_iff.mp H
    obtain ⟨t102, A30, H⟩ := H
    replace H : (none) = some r := H
    have A3 := Aside0.mk A30
    clear A30
    exact absurd H (by simp)

/-! ### spec_Big32: function 17 -/
def spec_Big32.f (l0 : List Int) : Option (Int) := if 0 < (l0.length : Int) then (if 1 < (l0.length : Int) then (if 2 < (l0.length : Int) then (if 3 < (l0.length : Int) then (some (Go.bits .or .u32 (Go.bits .or .u32 (Go.bits .or .u32 ((((rd l0 0) % 4294967296) * 16777216) % 4294967296) ((((rd l0 1) % 4294967296) * 65536) % 4294967296)) ((((rd l0 2) % 4294967296) * 256) % 4294967296)) ((rd l0 3) % 4294967296))) else (none)) else (none)) else (none)) else (none)
set_option maxHeartbeats 8000000 in
set_option maxRecDepth 100000 in
theorem spec_Big32.calls (A0 : Option Addr) (c0 : Nat) (l0 : List Int) (r : Int) (w : World) (hr0 : Kd.C (Kd.int .u8) w A0 l0.length l0) (hc0 : l0.length ≤ c0) (h : spec_Big32.f l0 = some r) :
    Calls Tryd.prog 17 #[.slice A0 l0.length c0] w fun e w' => e = .returned (.int .u32 r) ∧ Drawn0 w w' := by
  have HR0 := Aside0.mk hr0
  have HC0 := Aside0.mk hc0
  clear hr0 hc0
  have H : (if 0 < (l0.length : Int) then (if 1 < (l0.length : Int) then (if 2 < (l0.length : Int) then (if 3 < (l0.length : Int) then (some (Go.bits .or .u32 (Go.bits .or .u32 (Go.bits .or .u32 ((((rd l0 0) % 4294967296) * 16777216) % 4294967296) ((((rd l0 1) % 4294967296) * 65536) % 4294967296)) ((((rd l0 2) % 4294967296) * 256) % 4294967296)) ((rd l0 3) % 4294967296))) else (none)) else (none)) else (none)) else (none)) = some r := h
  clear h
  by_cases c2 : 0 < (l0.length : Int)
  · rw [if_pos c2] at H
    have c2b0 : decide (0 < (l0.length : Int)) = true := decide_eq_true c2
    have c2b1 : decide (0 < l0.length) = true := decide_eq_true (by omega)
    clear c2
    by_cases c3 : 1 < (l0.length : Int)
    · rw [if_pos c3] at H
      have c3b0 : decide (1 < (l0.length : Int)) = true := decide_eq_true c3
      have c3b1 : decide (1 < l0.length) = true := decide_eq_true (by omega)
      clear c3
      by_cases c4 : 2 < (l0.length : Int)
      · rw [if_pos c4] at H
        have c4b0 : decide (2 < (l0.length : Int)) = true := decide_eq_true c4
        have c4b1 : decide (2 < l0.length) = true := decide_eq_true (by omega)
        clear c4
        by_cases c5 : 3 < (l0.length : Int)
        · rw [if_pos c5] at H
          have c5b0 : decide (3 < (l0.length : Int)) = true := decide_eq_true c5
          have c5b1 : decide (3 < l0.length) = true := decide_eq_true (by omega)
          clear c5
          obtain rfl := Option.some.inj H
          have p103 : 0 ≤ (0 : Int) := (by omega)
          have q103 : 0 < (l0.length : Int) := of_decide_eq_true (by first | (with_reducible assumption) | assumption)
          obtain ⟨ad103, e103, hx103_0⟩ := Kd.at_int HR0.out 0 p103 q103
          cases e103
          have qi103 : (0 < l0.length) = True := eq_true (by omega)
          (try rw [show ((0 : Int)).toNat = 0 from rfl] at hx103_0)
          (try rw [Addr.add_zero'] at hx103_0)
          replace p103 := eq_true p103
          replace q103 := eq_true q103
          have p104 : 0 ≤ (1 : Int) := (by omega)
          have q104 : 1 < (l0.length : Int) := of_decide_eq_true (by first | (with_reducible assumption) | assumption)
          obtain ⟨ad104, e104, hx104_0⟩ := Kd.at_int HR0.out 1 p104 q104
          obtain rfl : ad103 = ad104 := (by injection e104)
          (try simp only [show (1 : Int).toNat = 1 from rfl, Nat.reduceMul, Nat.reduceEqDiff, Go.Addr.add, ↓reduceIte] at hx104_0)
          have qi104 : (1 < l0.length) = True := eq_true (by omega)
          (try rw [show ((1 : Int)).toNat = 1 from rfl] at hx104_0)
          replace p104 := eq_true p104
          replace q104 := eq_true q104
          have p105 : 0 ≤ (2 : Int) := (by omega)
          have q105 : 2 < (l0.length : Int) := of_decide_eq_true (by first | (with_reducible assumption) | assumption)
          obtain ⟨ad105, e105, hx105_0⟩ := Kd.at_int HR0.out 2 p105 q105
          obtain rfl : ad103 = ad105 := (by injection e105)
          (try simp only [show (2 : Int).toNat = 2 from rfl, Nat.reduceMul, Nat.reduceEqDiff, Go.Addr.add, ↓reduceIte] at hx105_0)
          have qi105 : (2 < l0.length) = True := eq_true (by omega)
          (try rw [show ((2 : Int)).toNat = 2 from rfl] at hx105_0)
          replace p105 := eq_true p105
          replace q105 := eq_true q105
          have p106 : 0 ≤ (3 : Int) := (by omega)
          have q106 : 3 < (l0.length : Int) := of_decide_eq_true (by first | (with_reducible assumption) | assumption)
          obtain ⟨ad106, e106, hx106_0⟩ := Kd.at_int HR0.out 3 p106 q106
          obtain rfl : ad103 = ad106 := (by injection e106)
          (try simp only [show (3 : Int).toNat = 3 from rfl, Nat.reduceMul, Nat.reduceEqDiff, Go.Addr.add, ↓reduceIte] at hx106_0)
          have qi106 : (3 < l0.length) = True := eq_true (by omega)
          (try rw [show ((3 : Int)).toNat = 3 from rfl] at hx106_0)
          replace p106 := eq_true p106
          replace q106 := eq_true q106
          go_enter Tryd.func17, Tryd.ntmps17
          go_wp2
          repeat (go_quiet (fail); try go_wp2)
          go_ret
          exact ⟨by first | rfl | (simp; done) | (simp [*]; done), by repeat (first | exact Drawn0.refl _ | apply Drawn0.step)⟩
        · rw [if_neg c5] at H
          exact absurd H (by simp)
      · rw [if_neg c4] at H
        exact absurd H (by simp)
    · rw [if_neg c3] at H
      exact absurd H (by simp)
  · rw [if_neg c2] at H
    exact absurd H (by simp)

/-! ### spec_turn: function 18 -/
def spec_turn.f (a0 : Int) (a1 : Int) : Option (Int) := if 0 ≤ a1 then (if 0 ≤ (IntKind.u64.wrap (32 - a1)) then (some (Go.bits .or .u32 (shl .u32 a0 a1) (shr .u32 a0 (IntKind.u64.wrap (32 - a1))))) else (none)) else (none)
set_option maxHeartbeats 8000000 in
set_option maxRecDepth 100000 in
theorem spec_turn.calls (a0 : Int) (a1 : Int) (r : Int) (w : World) (h : spec_turn.f a0 a1 = some r) :
    Calls Tryd.prog 18 #[.int .u32 a0, .int .u64 a1] w fun e w' => e = .returned (.int .u32 r) ∧ Drawn0 w w' := by
  have H : (if 0 ≤ a1 then (if 0 ≤ (IntKind.u64.wrap (32 - a1)) then (some (Go.bits .or .u32 (shl .u32 a0 a1) (shr .u32 a0 (IntKind.u64.wrap (32 - a1))))) else (none)) else (none)) = some r := h
  clear h
  by_cases c3 : 0 ≤ a1
  · rw [if_pos c3] at H
    have c3b0 := eq_true c3
    have c3b1 : decide (0 ≤ a1) = true := decide_eq_true c3
    clear c3
    obtain ⟨ji4, hji4⟩ : ∃ j_ : Int, (shl .u32 a0 a1) = j_ := ⟨_, rfl⟩
    replace H : (if 0 ≤ (IntKind.u64.wrap (32 - a1)) then (some (Go.bits .or .u32 (ji4) (shr .u32 a0 (IntKind.u64.wrap (32 - a1))))) else (none)) = some r := by first | (rw [hji4] at H; exact H) | (simp only [hji4] at H ⊢; exact H)
    have hji4_ : (IntKind.u32.wrap (a0 * 2 ^ min a1.toNat 32)) = ji4 := hji4
    have hji4z : a1 ≤ 32 → (IntKind.u32.wrap (a0 * 2 ^ a1.toNat)) = ji4 := shl_small hji4
    obtain ⟨ji5, hji5⟩ : ∃ j_ : Int, (IntKind.u64.wrap (32 - a1)) = j_ := ⟨_, rfl⟩
    replace H : (if 0 ≤ (ji5) then (some (Go.bits .or .u32 (ji4) (shr .u32 a0 (ji5)))) else (none)) = some r := by first | (rw [hji5] at H; exact H) | (simp only [hji5] at H ⊢; exact H)
    by_cases c6 : 0 ≤ (ji5)
    · rw [if_pos c6] at H
      have c6b0 := eq_true c6
      have c6b1 : decide (0 ≤ (ji5)) = true := decide_eq_true c6
      clear c6
      obtain ⟨ji7, hji7⟩ : ∃ j_ : Int, (shr .u32 a0 (ji5)) = j_ := ⟨_, rfl⟩
      replace H : (some (Go.bits .or .u32 (ji4) (ji7))) = some r := by first | (rw [hji7] at H; exact H) | (simp only [hji7] at H ⊢; exact H)
      have hji7_ : (a0 / 2 ^ min (ji5).toNat 32) = ji7 := hji7
      have hji7z : (ji5) ≤ 32 → (a0 / 2 ^ (ji5).toNat) = ji7 := shr_small hji7
      obtain rfl := Option.some.inj H
      go_enter Tryd.func18, Tryd.ntmps18
      go_wp2
      go_ret
      exact ⟨by first | rfl | (simp; done) | (simp only [← hji4, ← hji5, ← hji7] <;> (first | rfl | simp)) | (simp [*]; done), by repeat (first | exact Drawn0.refl _ | apply Drawn0.step)⟩
    · rw [if_neg c6] at H
      exact absurd H (by simp)
  · rw [if_neg c3] at H
    exact absurd H (by simp)

/-! ### spec_Put32: function 19 -/
def spec_Put32.f (a0 : Int) : Option (List Int) := some (([(a0 / 16777216) % 256, (a0 / 65536) % 256, (a0 / 256) % 256, (a0) % 256] : List Int))
set_option maxHeartbeats 8000000 in
set_option maxRecDepth 100000 in
theorem spec_Put32.calls (a0 : Int) (r : List Int) (w : World) (h : spec_Put32.f a0 = some r) :
    Calls Tryd.prog 19 #[.int .u32 a0] w fun e w' => ∃ v0_ : Value, e = .returned (v0_) ∧ Kd.R (Kd.int .u8) 5 w' w.heap.size (fun _ => True) v0_ r ∧ Below w.heap.size w w' := by
  have HB := Aside0.mk (Below.refl w.heap.size w)
  have H : (some (([(a0 / 16777216) % 256, (a0 / 65536) % 256, (a0 / 256) % 256, (a0) % 256] : List Int))) = some r := h
  clear h
  obtain ⟨y107, hy107⟩ : ∃ y_ : List Int, y_ = (([(a0 / 16777216) % 256, (a0 / 65536) % 256, (a0 / 256) % 256, (a0) % 256] : List Int)) := ⟨_, rfl⟩
  replace H : (some y107) = some r := by first | (rw [hy107]; with_reducible exact H) | (have H2_ := (Option.bind_some _ _).symm.trans H; rw [hy107]; with_reducible exact H2_) | (have H2_ := (Option.bind_some _ _).symm.trans H; with_reducible exact H2_) | with_reducible exact H | (rw [hy107]; exact H) | exact H
  have Ny107 := Aside0.mk hy107
  clear hy107
  obtain rfl := Option.some.inj H
  go_enter Tryd.func19, Tryd.ntmps19
  go_wp2_with (first | ((with_reducible refine gate_dst (N := 14) rfl ?_); refine Kd.R_lit (Kd.int .u8) _ 5 ?hg (N := 14) ?hd (xs := ([(a0 / 16777216) % 256, (a0 / 65536) % 256, (a0 / 256) % 256, (a0) % 256] : List Int)) (inner := [.int .u8 ((a0 / 16777216) % 256), .int .u8 ((a0 / 65536) % 256), .int .u8 ((a0 / 256) % 256), .int .u8 ((a0) % 256)]) (ok := fun _ => True) (okp := fun _ => True) ?hr ?hp (fun _ hk => hk) trivial (Below.refl _ _) (Nat.le_refl _) (by simp) ?_; (case hd => rfl); (case hg => rfl); (case hr => first | (go_simp; done) | (go_simp; rfl)); (case hp => exact (Reps.one (show Kd.M (Kd.int .u8) _ _ _ ((a0 / 16777216) % 256) [.int .u8 ((a0 / 16777216) % 256)] from rfl) (Reps.one (show Kd.M (Kd.int .u8) _ _ _ ((a0 / 65536) % 256) [.int .u8 ((a0 / 65536) % 256)] from rfl) (Reps.one (show Kd.M (Kd.int .u8) _ _ _ ((a0 / 256) % 256) [.int .u8 ((a0 / 256) % 256)] from rfl) (Reps.one (show Kd.M (Kd.int .u8) _ _ _ ((a0) % 256) [.int .u8 ((a0) % 256)] from rfl) (Reps.none _ _)))))); intro v108 w2 ho3 hb hg_ hnew_; clear hg_ hnew_; (first | rw [← Ny107.out] at ho3 | (simp only [Int.reduceToNat] at ho3; rw [← Ny107.out] at ho3)); have n0_ := Aside0.mk (Kd.R_lower ho3 (below_size (by repeat (first | (with_reducible first | exact HB.out | apply below_alloc | apply pw_below_drewN | apply below_drew1) | exact HB.out)))); have n1_ := Aside0.mk (below_step (by repeat (first | (with_reducible first | exact HB.out | apply below_alloc | apply pw_below_drewN | apply below_drew1) | exact HB.out)) hb); clear HB; have HO109 := n0_; have HB := n1_; clear n0_ n1_; clear hb ho3))
  go_ret
  exact ⟨_, by first | rfl | (simp [errW_none, errW_some] <;> rfl) | (simp [*, errW_none, errW_some] <;> rfl), by (with_reducible repeat (first | apply Kd.R_alloc | apply Kd.R_drewN | apply Kd.R_drew)); exact HO109.out, by repeat (first | (with_reducible first | exact HB.out | apply below_alloc | apply pw_below_drewN | apply below_drew1) | exact HB.out)⟩

end Go.Proofs.YthpoiceceogdhaaDoor.QAll
