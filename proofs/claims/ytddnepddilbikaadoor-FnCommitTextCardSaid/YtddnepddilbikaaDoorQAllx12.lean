-- WRITTEN BY A PROGRAM OF THIS SESSION, out of the loaded program, with words of the kit
import Derived.Test.YtddnepddilbikaaDoorQAllx0
namespace Go.Proofs.YtddnepddilbikaaDoor.QAll
open Go.RowKit Go.Proofs.YtddnepddilbikaaDoorW.PrintWords Go.Proofs.YtddnepddilbikaaDoorW.PrintLast Go.Proofs.YtddnepddilbikaaDoorW.PrintMore
attribute [local go_sem] max2_int min2_int max_two min_two max_three min_three max_four min_four   -- for this text's walks alone
set_option linter.unusedVariables false
set_option linter.unusedSimpArgs false

/-! ### plumbing_ObjectType_String: function 65 -/
def plumbing_ObjectType_String.f (a0 : Int) : Option (ByteArray) := if a0 = 1 then (some (⟨#[99, 111, 109, 109, 105, 116]⟩ : ByteArray)) else (if a0 = 2 then (some (⟨#[116, 114, 101, 101]⟩ : ByteArray)) else (if a0 = 3 then (some (⟨#[98, 108, 111, 98]⟩ : ByteArray)) else (if a0 = 4 then (some (⟨#[116, 97, 103]⟩ : ByteArray)) else (if a0 = 6 then (some (⟨#[111, 102, 115, 45, 100, 101, 108, 116, 97]⟩ : ByteArray)) else (if a0 = 7 then (some (⟨#[114, 101, 102, 45, 100, 101, 108, 116, 97]⟩ : ByteArray)) else (if a0 = (-127) then (some (⟨#[97, 110, 121]⟩ : ByteArray)) else (some (⟨#[117, 110, 107, 110, 111, 119, 110]⟩ : ByteArray))))))))
set_option maxHeartbeats 8000000 in
set_option maxRecDepth 100000 in
theorem plumbing_ObjectType_String.calls (a0 : Int) (r : ByteArray) (w : World) (h : plumbing_ObjectType_String.f a0 = some r) :
    Calls Tryd.prog 65 #[.int .i8 a0] w fun e w' => e = .returned (.string r) ∧ Drawn0 w w' := by
  have H : (if a0 = 1 then (some (⟨#[99, 111, 109, 109, 105, 116]⟩ : ByteArray)) else (if a0 = 2 then (some (⟨#[116, 114, 101, 101]⟩ : ByteArray)) else (if a0 = 3 then (some (⟨#[98, 108, 111, 98]⟩ : ByteArray)) else (if a0 = 4 then (some (⟨#[116, 97, 103]⟩ : ByteArray)) else (if a0 = 6 then (some (⟨#[111, 102, 115, 45, 100, 101, 108, 116, 97]⟩ : ByteArray)) else (if a0 = 7 then (some (⟨#[114, 101, 102, 45, 100, 101, 108, 116, 97]⟩ : ByteArray)) else (if a0 = (-127) then (some (⟨#[97, 110, 121]⟩ : ByteArray)) else (some (⟨#[117, 110, 107, 110, 111, 119, 110]⟩ : ByteArray))))))))) = some r := h
  clear h
  by_cases c2 : a0 = 1
  · rw [if_pos c2] at H
    have c2b0 : (a0 == 1) = true := beq_iff_eq.mpr c2
    have c2b1 : (a0 != 1) = false := bne_eq_false_iff_eq.mpr c2
    clear c2
    obtain rfl := Option.some.inj H
    go_enter Tryd.func65, Tryd.ntmps65
    go_wp2
    go_ret
    exact ⟨by first | rfl | (simp; done) | (simp [*]; done), by repeat (first | exact Drawn0.refl _ | apply Drawn0.step)⟩
  · rw [if_neg c2] at H
    have c2b0 : (a0 == 1) = false := beq_eq_false_iff_ne.mpr c2
    have c2b1 : (a0 != 1) = true := bne_iff_ne.mpr c2
    by_cases c3 : a0 = 2
    · rw [if_pos c3] at H
      have c3b0 : (a0 == 2) = true := beq_iff_eq.mpr c3
      have c3b1 : (a0 != 2) = false := bne_eq_false_iff_eq.mpr c3
      clear c3
      obtain rfl := Option.some.inj H
      go_enter Tryd.func65, Tryd.ntmps65
      go_wp2
      go_ret
      exact ⟨by first | rfl | (simp; done) | (simp [*]; done), by repeat (first | exact Drawn0.refl _ | apply Drawn0.step)⟩
    · rw [if_neg c3] at H
      have c3b0 : (a0 == 2) = false := beq_eq_false_iff_ne.mpr c3
      have c3b1 : (a0 != 2) = true := bne_iff_ne.mpr c3
      by_cases c4 : a0 = 3
      · rw [if_pos c4] at H
        have c4b0 : (a0 == 3) = true := beq_iff_eq.mpr c4
        have c4b1 : (a0 != 3) = false := bne_eq_false_iff_eq.mpr c4
        clear c4
        obtain rfl := Option.some.inj H
        go_enter Tryd.func65, Tryd.ntmps65
        go_wp2
        go_ret
        exact ⟨by first | rfl | (simp; done) | (simp [*]; done), by repeat (first | exact Drawn0.refl _ | apply Drawn0.step)⟩
      · rw [if_neg c4] at H
        have c4b0 : (a0 == 3) = false := beq_eq_false_iff_ne.mpr c4
        have c4b1 : (a0 != 3) = true := bne_iff_ne.mpr c4
        by_cases c5 : a0 = 4
        · rw [if_pos c5] at H
          have c5b0 : (a0 == 4) = true := beq_iff_eq.mpr c5
          have c5b1 : (a0 != 4) = false := bne_eq_false_iff_eq.mpr c5
          clear c5
          obtain rfl := Option.some.inj H
          go_enter Tryd.func65, Tryd.ntmps65
          go_wp2
          go_ret
          exact ⟨by first | rfl | (simp; done) | (simp [*]; done), by repeat (first | exact Drawn0.refl _ | apply Drawn0.step)⟩
        · rw [if_neg c5] at H
          have c5b0 : (a0 == 4) = false := beq_eq_false_iff_ne.mpr c5
          have c5b1 : (a0 != 4) = true := bne_iff_ne.mpr c5
          by_cases c6 : a0 = 6
          · rw [if_pos c6] at H
            have c6b0 : (a0 == 6) = true := beq_iff_eq.mpr c6
            have c6b1 : (a0 != 6) = false := bne_eq_false_iff_eq.mpr c6
            clear c6
            obtain rfl := Option.some.inj H
            go_enter Tryd.func65, Tryd.ntmps65
            go_wp2
            go_ret
            exact ⟨by first | rfl | (simp; done) | (simp [*]; done), by repeat (first | exact Drawn0.refl _ | apply Drawn0.step)⟩
          · rw [if_neg c6] at H
            have c6b0 : (a0 == 6) = false := beq_eq_false_iff_ne.mpr c6
            have c6b1 : (a0 != 6) = true := bne_iff_ne.mpr c6
            by_cases c7 : a0 = 7
            · rw [if_pos c7] at H
              have c7b0 : (a0 == 7) = true := beq_iff_eq.mpr c7
              have c7b1 : (a0 != 7) = false := bne_eq_false_iff_eq.mpr c7
              clear c7
              obtain rfl := Option.some.inj H
              go_enter Tryd.func65, Tryd.ntmps65
              go_wp2
              go_ret
              exact ⟨by first | rfl | (simp; done) | (simp [*]; done), by repeat (first | exact Drawn0.refl _ | apply Drawn0.step)⟩
            · rw [if_neg c7] at H
              have c7b0 : (a0 == 7) = false := beq_eq_false_iff_ne.mpr c7
              have c7b1 : (a0 != 7) = true := bne_iff_ne.mpr c7
              by_cases c8 : a0 = (-127)
              · rw [if_pos c8] at H
                have c8b0 : (a0 == (-127)) = true := beq_iff_eq.mpr c8
                have c8b1 : (a0 != (-127)) = false := bne_eq_false_iff_eq.mpr c8
                clear c8
                obtain rfl := Option.some.inj H
                go_enter Tryd.func65, Tryd.ntmps65
                go_wp2
                go_ret
                exact ⟨by first | rfl | (simp; done) | (simp [*]; done), by repeat (first | exact Drawn0.refl _ | apply Drawn0.step)⟩
              · rw [if_neg c8] at H
                have c8b0 : (a0 == (-127)) = false := beq_eq_false_iff_ne.mpr c8
                have c8b1 : (a0 != (-127)) = true := bne_iff_ne.mpr c8
                obtain rfl := Option.some.inj H
                go_enter Tryd.func65, Tryd.ntmps65
                go_wp2
                go_ret
                exact ⟨by first | rfl | (simp; done) | (simp [*]; done), by repeat (first | exact Drawn0.refl _ | apply Drawn0.step)⟩

/-! ### object_zzIndex: function 83 -/
def object_zzIndex.l0 : Nat → ByteArray → ByteArray → Int → Option (Int)
  | 0, _, _, _ => none
  | k + 1, x0, x1, x5 => if (wrap64 (x5 + (x1.size : Int))) ≤ (x0.size : Int) then (if 0 ≤ x5 then (if x5 ≤ (wrap64 (x5 + (x1.size : Int))) then (if (x0.extract (x5 : Int).toNat ((wrap64 (x5 + (x1.size : Int))) : Int).toNat).toList = x1.toList then (some x5) else (object_zzIndex.l0 k x0 x1 (wrap64 (x5 + 1)))) else (none)) else (none)) else (some (-1))
def object_zzIndex.f (k : Nat) (a0 : ByteArray) (a1 : ByteArray) : Option (Int) := object_zzIndex.l0 k a0 a1 0
theorem object_zzIndex.mono_l : ∀ k, (∀ y0 y1 y2, LeO (object_zzIndex.l0 k y0 y1 y2) (object_zzIndex.l0 (k + 1) y0 y1 y2))
  | 0 => fun _ _ _ r h => by simp [object_zzIndex.l0] at h
  | k + 1 => by
    have ih0 := object_zzIndex.mono_l k
    · intro y0 y1 y2
      unfold object_zzIndex.l0
      repeat' first
      | (with_reducible exact ih0 _ _ _)
      | (with_reducible exact LeO.refl _)
      | (with_reducible exact LeO.none _)
      | (with_reducible refine LeO.ite ?_ ?_)
      | (with_reducible refine LeO.bind ?_ (fun _ => ?_))
      | exact ih0 _ _ _
      | exact LeO.none _
      | refine LeO.ite ?_ ?_
      | refine LeO.bind ?_ (fun _ => ?_)
theorem object_zzIndex.mono : ∀ a0 a1 k, LeO (object_zzIndex.f k a0 a1) (object_zzIndex.f (k + 1) a0 a1) := by
  intro a0 a1 k
  have ih0 := object_zzIndex.mono_l k
  unfold object_zzIndex.f
  repeat' first
      | (with_reducible exact ih0 _ _ _)
      | (with_reducible exact LeO.refl _)
      | (with_reducible exact LeO.none _)
      | (with_reducible refine LeO.ite ?_ ?_)
      | (with_reducible refine LeO.bind ?_ (fun _ => ?_))
      | exact ih0 _ _ _
      | exact LeO.none _
      | refine LeO.ite ?_ ?_
      | refine LeO.bind ?_ (fun _ => ?_)
set_option maxHeartbeats 8000000 in
set_option maxRecDepth 100000 in
theorem object_zzIndex.calls (k : Nat) (a0 : ByteArray) (a1 : ByteArray) (r : Int) (w : World) (h : object_zzIndex.f k a0 a1 = some r) :
    Calls Tryd.prog 83 #[.string a0, .string a1] w fun e w' => e = .returned (.int .i64 r) ∧ Drawn0 w w' := by
  have H : (object_zzIndex.l0 k a0 a1 0) = some r := h
  clear h
  have H' := Aside0.mk H
  clear H
  go_enter Tryd.func83, Tryd.ntmps83
  go_wp2
  go_loopg [5] k (fun kq v5 w' => ∃ (x5_1 : Int), v5 = .int .i64 x5_1 ∧ Aside0 (object_zzIndex.l0 kq a0 a1 x5_1 = some r) ∧ Aside0 (kq ≤ k) ∧ Drawn0 w w')
  case atStart => exact ⟨(0), (by first | rfl | (simp; done) | (simp [*]; done)), H', ⟨Nat.le_refl _⟩, by repeat (first | exact Drawn0.refl _ | apply Drawn0.step)⟩
  case round =>
    clear H'
    try clear p2
    obtain ⟨x5_1, rfl, HA, HK1, ⟨m1, rfl⟩⟩ := hrel
    cases gk with
    | zero => exact absurd HA.out (by simp [object_zzIndex.l0])
    | succ k1 =>
      have H := HA.out
      clear HA
      simp only [object_zzIndex.l0] at H
      by_cases c3 : (wrap64 (x5_1 + (a1.size : Int))) ≤ (a0.size : Int)
      · rw [if_pos c3] at H
        have c3b0 : decide ((wrap64 (x5_1 + (a1.size : Int))) ≤ (a0.size : Int)) = true := decide_eq_true c3
        clear c3
        by_cases c4 : 0 ≤ x5_1
        · rw [if_pos c4] at H
          have c4b0 := eq_true c4
          have c4b1 : decide (0 ≤ x5_1) = true := decide_eq_true c4
          clear c4
          by_cases c5 : x5_1 ≤ (wrap64 (x5_1 + (a1.size : Int)))
          · rw [if_pos c5] at H
            have c5b0 := eq_true c5
            have c5b1 : decide (x5_1 ≤ (wrap64 (x5_1 + (a1.size : Int)))) = true := decide_eq_true c5
            have c6b0 := eq_true (of_decide_eq_true (by first | (with_reducible assumption) | assumption) : (wrap64 (x5_1 + (a1.size : Int))) ≤ (a0.size : Int))
            by_cases c7 : (a0.extract (x5_1 : Int).toNat ((wrap64 (x5_1 + (a1.size : Int))) : Int).toNat).toList = a1.toList
            · rw [if_pos c7] at H
              have c7b0 : ((a0.extract (x5_1 : Int).toNat ((wrap64 (x5_1 + (a1.size : Int))) : Int).toNat).toList == a1.toList) = true := beq_iff_eq.mpr c7
              have c7b1 : ((a0.extract (x5_1 : Int).toNat ((wrap64 (x5_1 + (a1.size : Int))) : Int).toNat).toList != a1.toList) = false := bne_eq_false_iff_eq.mpr c7
              clear c7
              obtain rfl := Option.some.inj H
              go_wp2
              go_ret
              exact ⟨by first | rfl | (simp; done) | (simp [*]; done), by repeat (first | exact Drawn0.refl _ | apply Drawn0.step)⟩
            · rw [if_neg c7] at H
              have c7b0 : ((a0.extract (x5_1 : Int).toNat ((wrap64 (x5_1 + (a1.size : Int))) : Int).toNat).toList == a1.toList) = false := beq_eq_false_iff_ne.mpr c7
              have c7b1 : ((a0.extract (x5_1 : Int).toNat ((wrap64 (x5_1 + (a1.size : Int))) : Int).toNat).toList != a1.toList) = true := bne_iff_ne.mpr c7
              have H' := Aside0.mk H
              clear H
              go_wp2
              go_roundg k1
              case measure => have := HK1.out; omega
              case rel => exact ⟨(wrap64 (x5_1 + 1)), (by first | rfl | (simp; done) | (simp [*]; done)), H', ⟨by have := HK1.out; omega⟩, by repeat (first | exact Drawn0.refl _ | apply Drawn0.step)⟩
          · rw [if_neg c5] at H
            exact absurd H (by simp)
        · rw [if_neg c4] at H
          exact absurd H (by simp)
      · rw [if_neg c3] at H
        have c3b0 : decide ((wrap64 (x5_1 + (a1.size : Int))) ≤ (a0.size : Int)) = false := decide_eq_false c3
        clear c3
        obtain rfl := Option.some.inj H
        go_wp2
        go_ret
        exact ⟨by first | rfl | (simp; done) | (simp [*]; done), by repeat (first | exact Drawn0.refl _ | apply Drawn0.step)⟩

/-! ### object_zzSplit: function 70 -/
def object_zzSplit.l0 : Nat → ByteArray → ByteArray → List ByteArray → Option (List ByteArray)
  | 0, _, _, _ => none
  | k + 1, x0, x1, x5 => (object_zzIndex.f k x0 x1).bind fun t217 => (if t217 < 0 then (if x5.length < 8796093022208 then (some (x5 ++ [x0])) else (none)) else (if 0 ≤ t217 then (if t217 ≤ (x0.size : Int) then (if x5.length < 8796093022208 then (if 0 ≤ (wrap64 (t217 + (x1.size : Int))) then (if (wrap64 (t217 + (x1.size : Int))) ≤ (x0.size : Int) then (object_zzSplit.l0 k (x0.extract ((wrap64 (t217 + (x1.size : Int))) : Int).toNat x0.size) x1 (x5 ++ [x0.extract 0 (t217 : Int).toNat])) else (none)) else (none)) else (none)) else (none)) else (none)))
def object_zzSplit.f (k : Nat) (a0 : ByteArray) (a1 : ByteArray) : Option (List ByteArray) := object_zzSplit.l0 k a0 a1 ([] : List ByteArray)
theorem object_zzSplit.mono_l : ∀ k, (∀ y0 y1 y2, LeO (object_zzSplit.l0 k y0 y1 y2) (object_zzSplit.l0 (k + 1) y0 y1 y2))
  | 0 => fun _ _ _ r h => by simp [object_zzSplit.l0] at h
  | k + 1 => by
    have ih0 := object_zzSplit.mono_l k
    · intro y0 y1 y2
      unfold object_zzSplit.l0
      repeat' first
      | (with_reducible exact ih0 _ _ _)
      | (with_reducible exact object_zzIndex.mono _ _ _)
      | (with_reducible exact LeO.refl _)
      | (with_reducible exact LeO.none _)
      | (with_reducible refine LeO.ite ?_ ?_)
      | (with_reducible refine LeO.bind ?_ (fun _ => ?_))
      | exact ih0 _ _ _
      | exact object_zzIndex.mono _ _ _
      | exact LeO.none _
      | refine LeO.ite ?_ ?_
      | refine LeO.bind ?_ (fun _ => ?_)
theorem object_zzSplit.mono : ∀ a0 a1 k, LeO (object_zzSplit.f k a0 a1) (object_zzSplit.f (k + 1) a0 a1) := by
  intro a0 a1 k
  have ih0 := object_zzSplit.mono_l k
  unfold object_zzSplit.f
  repeat' first
      | (with_reducible exact ih0 _ _ _)
      | (with_reducible exact object_zzIndex.mono _ _ _)
      | (with_reducible exact LeO.refl _)
      | (with_reducible exact LeO.none _)
      | (with_reducible refine LeO.ite ?_ ?_)
      | (with_reducible refine LeO.bind ?_ (fun _ => ?_))
      | exact ih0 _ _ _
      | exact object_zzIndex.mono _ _ _
      | exact LeO.none _
      | refine LeO.ite ?_ ?_
      | refine LeO.bind ?_ (fun _ => ?_)
set_option maxHeartbeats 8000000 in
set_option maxRecDepth 100000 in
theorem object_zzSplit.calls (k : Nat) (a0 : ByteArray) (a1 : ByteArray) (r : List ByteArray) (w : World) (h : object_zzSplit.f k a0 a1 = some r) :
    Calls Tryd.prog 70 #[.string a0, .string a1] w fun e w' => ∃ v0_ : Value, e = .returned (v0_) ∧ Kd.R Kd.string 9 w' w.heap.size (fun _ => True) v0_ r ∧ Below w.heap.size w w' := by
  have HB := Aside0.mk (Below.refl w.heap.size w)
  have H : (object_zzSplit.l0 k a0 a1 ([] : List ByteArray)) = some r := h
  clear h
  have H' := Aside0.mk H
  clear H
  go_enter Tryd.func70, Tryd.ntmps70
  go_wp2
  go_loopg [0, 5] k (fun kq v0 v5 w' => ∃ (x0_1 : ByteArray) (x5_1 : List ByteArray), v0 = .string x0_1 ∧ Aside0 (object_zzSplit.l0 kq x0_1 a1 x5_1 = some r) ∧ Aside0 (kq ≤ k) ∧ Aside0 (Kd.R Kd.string 9 w' w.heap.size (fun _ => True) v5 x5_1) ∧ Aside0 (Below w.heap.size w w'))
  case atStart => exact ⟨(a0), (([] : List ByteArray)), (by first | rfl | (simp; done) | (simp [*]; done)), H', ⟨Nat.le_refl _⟩, ⟨by first | exact Kd.R_nil _ _ _ _ _ | exact Kd.N_nil _ _ _ _ _ | exact Kd.V_nil _ _ _ _ _ | exact Kd.Q_nil _ _ _ _ _ | exact Kd.S_nil _ _ _ _ _⟩, ⟨by repeat (first | (with_reducible first | exact HB.out | apply below_alloc | apply pw_below_drewN | apply below_drew1) | exact HB.out)⟩⟩
  case round =>
    clear H'
    try clear p2
    obtain ⟨x0_1, x5_1, rfl, HA, HK1, HO_5, HB⟩ := hrel
    cases gk with
    | zero => exact absurd HA.out (by simp [object_zzSplit.l0])
    | succ k1 =>
      have H := HA.out
      clear HA
      simp only [object_zzSplit.l0] at H
      replace H := Option.bind_eq_some_iff.mp H
      obtain ⟨t217, A30, H⟩ := H
      replace H : (if t217 < 0 then (if x5_1.length < 8796093022208 then (some (x5_1 ++ [x0_1])) else (none)) else (if 0 ≤ t217 then (if t217 ≤ (x0_1.size : Int) then (if x5_1.length < 8796093022208 then (if 0 ≤ (wrap64 (t217 + (a1.size : Int))) then (if (wrap64 (t217 + (a1.size : Int))) ≤ (x0_1.size : Int) then (object_zzSplit.l0 k1 (x0_1.extract ((wrap64 (t217 + (a1.size : Int))) : Int).toNat x0_1.size) a1 (x5_1 ++ [x0_1.extract 0 (t217 : Int).toNat])) else (none)) else (none)) else (none)) else (none)) else (none))) = some r := H
      have A3 := Aside0.mk A30
      clear A30
      by_cases c4 : t217 < 0
      · rw [if_pos c4] at H
        have c4b0 : decide (t217 < 0) = true := decide_eq_true c4
        clear c4
        by_cases c5 : x5_1.length < 8796093022208
        · rw [if_pos c5] at H
          have LMc5 := Aside0.mk c5
          clear c5
          obtain ⟨y218, hy218⟩ : ∃ y_ : List ByteArray, y_ = (x5_1 ++ [x0_1]) := ⟨_, rfl⟩
          replace H : (some y218) = some r := by first | (rw [hy218]; with_reducible exact H) | (have H2_ := (Option.bind_some _ _).symm.trans H; rw [hy218]; with_reducible exact H2_) | (have H2_ := (Option.bind_some _ _).symm.trans H; with_reducible exact H2_) | with_reducible exact H | (rw [hy218]; exact H) | exact H
          have Ny218 := Aside0.mk hy218
          clear hy218
          obtain rfl := Option.some.inj H
          go_wp2_with (first | ((with_reducible refine gate_callee (f := 83) rfl ?_); refine goesL_ (some 9) rfl rfl Tryd.func83 (by kernel_rfl) rfl #[.string x0_1, .string a1] rfl (by (try simp only [List.map_toArray, List.map_cons, List.map_nil]); first | done | rfl | (simp only [List.length_drop, List.length_take]; rfl)) ?_; (with_reducible refine (object_zzIndex.calls k1 x0_1 a1 t217 _ A3.out).mono ?_); rintro e w' ⟨rfl, ⟨nd, rfl⟩⟩; refine ⟨_, rfl, ?_⟩) | ((with_reducible refine gate_builtin (b := .append) (xs := #[.tmp 12, .tmp 14]) rfl ?_); at_builtin; refine Kd.R_append Kd.string (w0 := w) w.heap.size rfl (.tmp 12) (.tmp 14) 36 9 (.string ⟨#[]⟩) 16 rfl Tryd.underlying36 info9 rfl (by decide) (by omega) u5 x5_1 x0_1 [.string x0_1] (fun _ => True) (fun _ => False) rfl rfl ?aP (fun _ hk => hk.elim) ?aF ?aO ?aB ?aS ?aL ?_; (case aP => exact rfl); (case aB => exact (by repeat (first | (with_reducible first | exact HB.out | apply below_alloc | apply pw_below_drewN | apply below_drew1) | exact HB.out))); (case aF => exact (fun _ _ => trivial)); (case aO => exact (by (with_reducible repeat (first | apply Kd.R_alloc | apply Kd.R_drewN | apply Kd.R_drew)); exact HO_5.out)); (case aS => exact (below_size (by repeat (first | (with_reducible first | exact HB.out | apply below_alloc | apply pw_below_drewN | apply below_drew1) | exact HB.out)))); (case aL => have := LMc5.out; omega); intro v219 w6 ho hb hg hat; rw [← Ny218.out] at ho; have n0_ := Aside0.mk (hb); have n1_ := Aside0.mk (ho); clear HB; clear HO_5; have HB := n0_; have HO220 := n1_; clear n0_ n1_; clear ho hb hg hat))
          go_ret
          exact ⟨_, by first | rfl | (simp [errW_none, errW_some] <;> rfl) | (simp [*, errW_none, errW_some] <;> rfl), by (with_reducible repeat (first | apply Kd.R_alloc | apply Kd.R_drewN | apply Kd.R_drew)); exact HO220.out, by repeat (first | (with_reducible first | exact HB.out | apply below_alloc | apply pw_below_drewN | apply below_drew1) | exact HB.out)⟩
        · rw [if_neg c5] at H
          exact absurd H (by simp)
      · rw [if_neg c4] at H
        have c4b0 : decide (t217 < 0) = false := decide_eq_false c4
        clear c4
        by_cases c7 : 0 ≤ t217
        · rw [if_pos c7] at H
          have c7b0 := eq_true c7
          have c7b1 : decide (0 ≤ t217) = true := decide_eq_true c7
          clear c7
          by_cases c8 : t217 ≤ (x0_1.size : Int)
          · rw [if_pos c8] at H
            have c8b0 := eq_true c8
            have c8b1 : decide (t217 ≤ (x0_1.size : Int)) = true := decide_eq_true c8
            clear c8
            by_cases c9 : x5_1.length < 8796093022208
            · rw [if_pos c9] at H
              have LMc9 := Aside0.mk c9
              clear c9
              obtain ⟨y221, hy221⟩ : ∃ y_ : List ByteArray, y_ = (x5_1 ++ [x0_1.extract 0 (t217 : Int).toNat]) := ⟨_, rfl⟩
              replace H : (if 0 ≤ (wrap64 (t217 + (a1.size : Int))) then (if (wrap64 (t217 + (a1.size : Int))) ≤ (x0_1.size : Int) then (object_zzSplit.l0 k1 (x0_1.extract ((wrap64 (t217 + (a1.size : Int))) : Int).toNat x0_1.size) a1 y221) else (none)) else (none)) = some r := by first | (rw [hy221]; with_reducible exact H) | (have H2_ := (Option.bind_some _ _).symm.trans H; rw [hy221]; with_reducible exact H2_) | (have H2_ := (Option.bind_some _ _).symm.trans H; with_reducible exact H2_) | with_reducible exact H | (rw [hy221]; exact H) | exact H
              have Ny221 := Aside0.mk hy221
              clear hy221
              obtain ⟨ji10, hji10⟩ : ∃ j_ : Int, (wrap64 (t217 + (a1.size : Int))) = j_ := ⟨_, rfl⟩
              replace H : (if 0 ≤ (ji10) then (if (ji10) ≤ (x0_1.size : Int) then (object_zzSplit.l0 k1 (x0_1.extract ((ji10) : Int).toNat x0_1.size) a1 y221) else (none)) else (none)) = some r := by first | (rw [hji10] at H; exact H) | (simp only [hji10] at H ⊢; exact H)
              (try rw [hji10] at A3)
              have hji10w : (IntKind.i64.wrap (t217 + (a1.size : Int))) = ji10 := (i64_w _).trans hji10
              by_cases c11 : 0 ≤ (ji10)
              · rw [if_pos c11] at H
                have c11b0 := eq_true c11
                have c11b1 : decide (0 ≤ (ji10)) = true := decide_eq_true c11
                clear c11
                by_cases c12 : (ji10) ≤ (x0_1.size : Int)
                · rw [if_pos c12] at H
                  have c12b0 := eq_true c12
                  have c12b1 : decide ((ji10) ≤ (x0_1.size : Int)) = true := decide_eq_true c12
                  clear c12
                  have H' := Aside0.mk H
                  clear H
                  go_wp2_with (first | ((with_reducible refine gate_callee (f := 83) rfl ?_); refine goesL_ (some 9) rfl rfl Tryd.func83 (by kernel_rfl) rfl #[.string x0_1, .string a1] rfl (by (try simp only [List.map_toArray, List.map_cons, List.map_nil]); first | done | rfl | (simp only [List.length_drop, List.length_take]; rfl)) ?_; (with_reducible refine (object_zzIndex.calls k1 x0_1 a1 t217 _ A3.out).mono ?_); rintro e w' ⟨rfl, ⟨nd, rfl⟩⟩; refine ⟨_, rfl, ?_⟩) | ((with_reducible refine gate_builtin (b := .append) (xs := #[.tmp 16, .tmp 20]) rfl ?_); at_builtin; refine Kd.R_append Kd.string (w0 := w) w.heap.size rfl (.tmp 16) (.tmp 20) 36 9 (.string ⟨#[]⟩) 16 rfl Tryd.underlying36 info9 rfl (by decide) (by omega) u5 x5_1 (x0_1.extract 0 (t217 : Int).toNat) [.string (x0_1.extract 0 (t217 : Int).toNat)] (fun _ => True) (fun _ => False) rfl rfl ?aP (fun _ hk => hk.elim) ?aF ?aO ?aB ?aS ?aL ?_; (case aP => exact rfl); (case aB => exact (by repeat (first | (with_reducible first | exact HB.out | apply below_alloc | apply pw_below_drewN | apply below_drew1) | exact HB.out))); (case aF => exact (fun _ _ => trivial)); (case aO => exact (by (with_reducible repeat (first | apply Kd.R_alloc | apply Kd.R_drewN | apply Kd.R_drew)); exact HO_5.out)); (case aS => exact (below_size (by repeat (first | (with_reducible first | exact HB.out | apply below_alloc | apply pw_below_drewN | apply below_drew1) | exact HB.out)))); (case aL => have := LMc9.out; omega); intro v222 w13 ho hb hg hat; rw [← Ny221.out] at ho; have n0_ := Aside0.mk (hb); have n1_ := Aside0.mk (ho); clear HB; clear HO_5; have HB := n0_; have HO223 := n1_; clear n0_ n1_; clear ho hb hg hat))
                  go_roundg k1
                  case measure => have := HK1.out; omega
                  case rel => exact ⟨(x0_1.extract ((ji10) : Int).toNat x0_1.size), (y221), (by first | rfl | (simp; done) | (simp only [← hji10] <;> (first | rfl | simp)) | (simp [*]; done)), H', ⟨by have := HK1.out; omega⟩, ⟨by (with_reducible repeat (first | apply Kd.R_alloc | apply Kd.R_drewN | apply Kd.R_drew)); exact HO223.out⟩, ⟨by repeat (first | (with_reducible first | exact HB.out | apply below_alloc | apply pw_below_drewN | apply below_drew1) | exact HB.out)⟩⟩
                · rw [if_neg c12] at H
                  exact absurd H (by simp)
              · rw [if_neg c11] at H
                exact absurd H (by simp)
            · rw [if_neg c9] at H
              exact absurd H (by simp)
          · rw [if_neg c8] at H
            exact absurd H (by simp)
        · rw [if_neg c7] at H
          exact absurd H (by simp)

/-! ### stringslite_HasSuffix: function 97 -/
def stringslite_HasSuffix.f (a0 : ByteArray) (a1 : ByteArray) : Option (Bool) := if (a0.size : Int) ≥ (a1.size : Int) then (if 0 ≤ (wrap64 ((a0.size : Int) - (a1.size : Int))) then (if (wrap64 ((a0.size : Int) - (a1.size : Int))) ≤ (a0.size : Int) then (some ((a0.extract ((wrap64 ((a0.size : Int) - (a1.size : Int))) : Int).toNat a0.size).toList == a1.toList)) else (none)) else (none)) else (some false)
set_option maxHeartbeats 8000000 in
set_option maxRecDepth 100000 in
theorem stringslite_HasSuffix.calls (a0 : ByteArray) (a1 : ByteArray) (r : Bool) (w : World) (h : stringslite_HasSuffix.f a0 a1 = some r) :
    Calls Tryd.prog 97 #[.string a0, .string a1] w fun e w' => e = .returned (.bool r) ∧ Drawn0 w w' := by
  have H : (if (a0.size : Int) ≥ (a1.size : Int) then (if 0 ≤ (wrap64 ((a0.size : Int) - (a1.size : Int))) then (if (wrap64 ((a0.size : Int) - (a1.size : Int))) ≤ (a0.size : Int) then (some ((a0.extract ((wrap64 ((a0.size : Int) - (a1.size : Int))) : Int).toNat a0.size).toList == a1.toList)) else (none)) else (none)) else (some false)) = some r := h
  clear h
  by_cases c3 : (a0.size : Int) ≥ (a1.size : Int)
  · rw [if_pos c3] at H
    have c3b0 : decide ((a1.size : Int) ≤ (a0.size : Int)) = true := decide_eq_true c3
    have c3b1 : decide (a1.size ≤ a0.size) = true := decide_eq_true (Int.ofNat_le.mp c3)
    clear c3
    obtain ⟨ji4, hji4⟩ : ∃ j_ : Int, (wrap64 ((a0.size : Int) - (a1.size : Int))) = j_ := ⟨_, rfl⟩
    replace H : (if 0 ≤ (ji4) then (if (ji4) ≤ (a0.size : Int) then (some ((a0.extract ((ji4) : Int).toNat a0.size).toList == a1.toList)) else (none)) else (none)) = some r := by first | (rw [hji4] at H; exact H) | (simp only [hji4] at H ⊢; exact H)
    have hji4w : (IntKind.i64.wrap ((a0.size : Int) - (a1.size : Int))) = ji4 := (i64_w _).trans hji4
    by_cases c5 : 0 ≤ (ji4)
    · rw [if_pos c5] at H
      have c5b0 := eq_true c5
      have c5b1 : decide (0 ≤ (ji4)) = true := decide_eq_true c5
      clear c5
      by_cases c6 : (ji4) ≤ (a0.size : Int)
      · rw [if_pos c6] at H
        have c6b0 := eq_true c6
        have c6b1 : decide ((ji4) ≤ (a0.size : Int)) = true := decide_eq_true c6
        clear c6
        obtain rfl := Option.some.inj H
        go_enter Tryd.func97, Tryd.ntmps97
        go_wp2
        go_ret
        exact ⟨by first | rfl | (simp; done) | (simp only [← hji4] <;> (first | rfl | simp)) | (simp [*]; done), by repeat (first | exact Drawn0.refl _ | apply Drawn0.step)⟩
      · rw [if_neg c6] at H
        exact absurd H (by simp)
    · rw [if_neg c5] at H
      exact absurd H (by simp)
  · rw [if_neg c3] at H
    have c3b0 : decide ((a1.size : Int) ≤ (a0.size : Int)) = false := decide_eq_false c3
    have c3b1 : decide (a1.size ≤ a0.size) = false := decide_eq_false (fun h => c3 (Int.ofNat_le.mpr h))
    clear c3
    obtain rfl := Option.some.inj H
    go_enter Tryd.func97, Tryd.ntmps97
    go_wp2
    go_ret
    exact ⟨by first | rfl | (simp; done) | (simp [*]; done), by repeat (first | exact Drawn0.refl _ | apply Drawn0.step)⟩

/-! ### stringslite_TrimSuffix: function 82 -/
def stringslite_TrimSuffix.f (a0 : ByteArray) (a1 : ByteArray) : Option (ByteArray) := (stringslite_HasSuffix.f a0 a1).bind fun t224 => (if t224 = true then (if 0 ≤ (wrap64 ((a0.size : Int) - (a1.size : Int))) then (if (wrap64 ((a0.size : Int) - (a1.size : Int))) ≤ (a0.size : Int) then (some (a0.extract 0 ((wrap64 ((a0.size : Int) - (a1.size : Int))) : Int).toNat)) else (none)) else (none)) else (some a0))
set_option maxHeartbeats 8000000 in
set_option maxRecDepth 100000 in
theorem stringslite_TrimSuffix.calls (a0 : ByteArray) (a1 : ByteArray) (r : ByteArray) (w : World) (h : stringslite_TrimSuffix.f a0 a1 = some r) :
    Calls Tryd.prog 82 #[.string a0, .string a1] w fun e w' => e = .returned (.string r) ∧ Drawn0 w w' := by
  have H : ((stringslite_HasSuffix.f a0 a1).bind fun t224 => (if t224 = true then (if 0 ≤ (wrap64 ((a0.size : Int) - (a1.size : Int))) then (if (wrap64 ((a0.size : Int) - (a1.size : Int))) ≤ (a0.size : Int) then (some (a0.extract 0 ((wrap64 ((a0.size : Int) - (a1.size : Int))) : Int).toNat)) else (none)) else (none)) else (some a0))) = some r := h
  clear h
  replace H := Option.bind_eq_some_iff.mp H
  obtain ⟨t224, A30, H⟩ := H
  replace H : (if t224 = true then (if 0 ≤ (wrap64 ((a0.size : Int) - (a1.size : Int))) then (if (wrap64 ((a0.size : Int) - (a1.size : Int))) ≤ (a0.size : Int) then (some (a0.extract 0 ((wrap64 ((a0.size : Int) - (a1.size : Int))) : Int).toNat)) else (none)) else (none)) else (some a0)) = some r := H
  have A3 := Aside0.mk A30
  clear A30
  by_cases c4 : t224 = true
  · subst c4
    have H1 : (if 0 ≤ (wrap64 ((a0.size : Int) - (a1.size : Int))) then (if (wrap64 ((a0.size : Int) - (a1.size : Int))) ≤ (a0.size : Int) then (some (a0.extract 0 ((wrap64 ((a0.size : Int) - (a1.size : Int))) : Int).toNat)) else (none)) else (none)) = some r := by rw [if_pos rfl] at H; exact H
    clear H
    have H := H1
    clear H1
    obtain ⟨ji5, hji5⟩ : ∃ j_ : Int, (wrap64 ((a0.size : Int) - (a1.size : Int))) = j_ := ⟨_, rfl⟩
    replace H : (if 0 ≤ (ji5) then (if (ji5) ≤ (a0.size : Int) then (some (a0.extract 0 ((ji5) : Int).toNat)) else (none)) else (none)) = some r := by first | (rw [hji5] at H; exact H) | (simp only [hji5] at H ⊢; exact H)
    (try rw [hji5] at A3)
    have hji5w : (IntKind.i64.wrap ((a0.size : Int) - (a1.size : Int))) = ji5 := (i64_w _).trans hji5
    by_cases c6 : 0 ≤ (ji5)
    · rw [if_pos c6] at H
      have c6b0 := eq_true c6
      have c6b1 : decide (0 ≤ (ji5)) = true := decide_eq_true c6
      clear c6
      by_cases c7 : (ji5) ≤ (a0.size : Int)
      · rw [if_pos c7] at H
        have c7b0 := eq_true c7
        have c7b1 : decide ((ji5) ≤ (a0.size : Int)) = true := decide_eq_true c7
        clear c7
        obtain rfl := Option.some.inj H
        go_enter Tryd.func82, Tryd.ntmps82
        go_wp2_with (first | ((with_reducible refine gate_callee (f := 97) rfl ?_); refine goesL_ (some 7) rfl rfl Tryd.func97 (by kernel_rfl) rfl #[.string a0, .string a1] rfl (by (try simp only [List.map_toArray, List.map_cons, List.map_nil]); first | done | rfl | (simp only [List.length_drop, List.length_take]; rfl)) ?_; (with_reducible refine (stringslite_HasSuffix.calls a0 a1 true _ A3.out).mono ?_); rintro e w' ⟨rfl, ⟨nd, rfl⟩⟩; refine ⟨_, rfl, ?_⟩))
        go_ret
        exact ⟨by first | rfl | (simp; done) | (simp only [← hji5] <;> (first | rfl | simp)) | (simp [*]; done), by repeat (first | exact Drawn0.refl _ | apply Drawn0.step)⟩
      · rw [if_neg c7] at H
        exact absurd H (by simp)
    · rw [if_neg c6] at H
      exact absurd H (by simp)
  · replace c4 := Bool.eq_false_iff.mpr c4
    subst c4
    have H1 : (some a0) = some r := by rw [if_neg (show ¬ (false = true) by decide)] at H; exact H
    clear H
    have H := H1
    clear H1
    obtain rfl := Option.some.inj H
    go_enter Tryd.func82, Tryd.ntmps82
    go_wp2_with (first | ((with_reducible refine gate_callee (f := 97) rfl ?_); refine goesL_ (some 7) rfl rfl Tryd.func97 (by kernel_rfl) rfl #[.string a0, .string a1] rfl (by (try simp only [List.map_toArray, List.map_cons, List.map_nil]); first | done | rfl | (simp only [List.length_drop, List.length_take]; rfl)) ?_; (with_reducible refine (stringslite_HasSuffix.calls a0 a1 false _ A3.out).mono ?_); rintro e w' ⟨rfl, ⟨nd, rfl⟩⟩; refine ⟨_, rfl, ?_⟩))
    go_ret
    exact ⟨by first | rfl | (simp; done) | (simp [*]; done), by repeat (first | exact Drawn0.refl _ | apply Drawn0.step)⟩

/-! ### strings_TrimSuffix: function 69 -/
def strings_TrimSuffix.f (a0 : ByteArray) (a1 : ByteArray) : Option (ByteArray) := (stringslite_TrimSuffix.f a0 a1).bind fun t225 => (some t225)
set_option maxHeartbeats 8000000 in
set_option maxRecDepth 100000 in
theorem strings_TrimSuffix.calls (a0 : ByteArray) (a1 : ByteArray) (r : ByteArray) (w : World) (h : strings_TrimSuffix.f a0 a1 = some r) :
    Calls Tryd.prog 69 #[.string a0, .string a1] w fun e w' => e = .returned (.string r) ∧ Drawn0 w w' := by
  have H : ((stringslite_TrimSuffix.f a0 a1).bind fun t225 => (some t225)) = some r := h
  clear h
  replace H := Option.bind_eq_some_iff.mp H
  obtain ⟨t225, A30, H⟩ := H
  replace H : (some t225) = some r := H
  have A3 := Aside0.mk A30
  clear A30
  obtain rfl := Option.some.inj H
  go_enter Tryd.func69, Tryd.ntmps69
  go_wp2_with (first | ((with_reducible refine gate_callee (f := 82) rfl ?_); refine goesL_ (some 7) rfl rfl Tryd.func82 (by kernel_rfl) rfl #[.string a0, .string a1] rfl (by (try simp only [List.map_toArray, List.map_cons, List.map_nil]); first | done | rfl | (simp only [List.length_drop, List.length_take]; rfl)) ?_; (with_reducible refine (stringslite_TrimSuffix.calls a0 a1 t225 _ A3.out).mono ?_); rintro e w' ⟨rfl, ⟨nd, rfl⟩⟩; refine ⟨_, rfl, ?_⟩))
  go_ret
  exact ⟨by first | rfl | (simp; done) | (simp [*]; done), by repeat (first | exact Drawn0.refl _ | apply Drawn0.step)⟩

end Go.Proofs.YtddnepddilbikaaDoor.QAll
