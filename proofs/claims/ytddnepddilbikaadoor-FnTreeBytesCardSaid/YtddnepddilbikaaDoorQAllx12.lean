-- WRITTEN BY A PROGRAM OF THIS SESSION, out of the loaded program, with words of the kit
import Derived.Test.YtddnepddilbikaaDoorQAllx0
namespace Go.Proofs.YtddnepddilbikaaDoor.QAll
open Go.RowKit Go.Proofs.YtddnepddilbikaaDoorW.PrintWords Go.Proofs.YtddnepddilbikaaDoorW.PrintLast Go.Proofs.YtddnepddilbikaaDoorW.PrintMore
attribute [local go_sem] max2_int min2_int max_two min_two max_three min_three max_four min_four   -- for this text's walks alone
set_option linter.unusedVariables false
set_option linter.unusedSimpArgs false

/-! ### plumbing_ObjectType_String: function 65 -/
def plumbing_ObjectType_String.f (a0 : Int) : Option (ByteArray) := if a0 = 1 then (some (⟨#[99, 111, 109, 109, 105, 116]⟩ : ByteArray)) else (if a0 = 2 then (some (⟨#[116, 114, 101, 101]⟩ : ByteArray)) else (if a0 = 3 then (some (⟨#[98, 108, 111, 98]⟩ : ByteArray)) else (if a0 = 4 then (some (⟨#[116, 97, 103]⟩ : ByteArray)) else (if a0 = 6 then (some (⟨#[111, 102, 115, 45, 100, 101, 108, 116, 97]⟩ : ByteArray)) else (if a0 = 7 then (some (⟨#[114, 101, 102, 45, 100, 101, 108, 116, 97]⟩ : ByteArray)) else (if a0 = (-127) then (some (⟨#[97, 110, 121]⟩ : ByteArray)) else (some (⟨#[117, 110, 107, 110, 111, 119, 110]⟩ : ByteArray))))))))
set_option maxHeartbeats 8000000 in
set_option maxRecDepth 100000 in
theorem plumbing_ObjectType_String.calls (a0 : Int) (r : ByteArray) (w : World) (h : plumbing_ObjectType_String.f a0 = some r) :
    Calls Tryd.prog 65 #[.int .i8 a0] w fun e w' => e = .returned (.string r) ∧ Drawn0 w w' := by
  have H : (if a0 = 1 then (some (⟨#[99, 111, 109, 109, 105, 116]⟩ : ByteArray)) else (if a0 = 2 then (some (⟨#[116, 114, 101, 101]⟩ : ByteArray)) else (if a0 = 3 then (some (⟨#[98, 108, 111, 98]⟩ : ByteArray)) else (if a0 = 4 then (some (⟨#[116, 97, 103]⟩ : ByteArray)) else (if a0 = 6 then (some (⟨#[111, 102, 115, 45, 100, 101, 108, 116, 97]⟩ : ByteArray)) else (if a0 = 7 then (some (⟨#[114, 101, 102, 45, 100, 101, 108, 116, 97]⟩ : ByteArray)) else (if a0 = (-127) then (some (⟨#[97, 110, 121]⟩ : ByteArray)) else (some (⟨#[117, 110, 107, 110, 111, 119, 110]⟩ : ByteArray))))))))) = some r := h
  clear h
  by_cases c2 : a0 = 1
  · rw [if_pos c2] at H
    have c2b0 : (a0 == 1) = true := beq_iff_eq.mpr c2
    have c2b1 : (a0 != 1) = false := bne_eq_false_iff_eq.mpr c2
    clear c2
    obtain rfl := Option.some.inj H
    go_enter Tryd.func65, Tryd.ntmps65
    go_wp2
    go_ret
    exact ⟨by first | rfl | (simp; done) | (simp [*]; done), by repeat (first | exact Drawn0.refl _ | apply Drawn0.step)⟩
  · rw [if_neg c2] at H
    have c2b0 : (a0 == 1) = false := beq_eq_false_iff_ne.mpr c2
    have c2b1 : (a0 != 1) = true := bne_iff_ne.mpr c2
    by_cases c3 : a0 = 2
    · rw [if_pos c3] at H
      have c3b0 : (a0 == 2) = true := beq_iff_eq.mpr c3
      have c3b1 : (a0 != 2) = false := bne_eq_false_iff_eq.mpr c3
      clear c3
      obtain rfl := Option.some.inj H
      go_enter Tryd.func65, Tryd.ntmps65
      go_wp2
      go_ret
      exact ⟨by first | rfl | (simp; done) | (simp [*]; done), by repeat (first | exact Drawn0.refl _ | apply Drawn0.step)⟩
    · rw [if_neg c3] at H
      have c3b0 : (a0 == 2) = false := beq_eq_false_iff_ne.mpr c3
      have c3b1 : (a0 != 2) = true := bne_iff_ne.mpr c3
      by_cases c4 : a0 = 3
      · rw [if_pos c4] at H
        have c4b0 : (a0 == 3) = true := beq_iff_eq.mpr c4
        have c4b1 : (a0 != 3) = false := bne_eq_false_iff_eq.mpr c4
        clear c4
        obtain rfl := Option.some.inj H
        go_enter Tryd.func65, Tryd.ntmps65
        go_wp2
        go_ret
        exact ⟨by first | rfl | (simp; done) | (simp [*]; done), by repeat (first | exact Drawn0.refl _ | apply Drawn0.step)⟩
      · rw [if_neg c4] at H
        have c4b0 : (a0 == 3) = false := beq_eq_false_iff_ne.mpr c4
        have c4b1 : (a0 != 3) = true := bne_iff_ne.mpr c4
        by_cases c5 : a0 = 4
        · rw [if_pos c5] at H
          have c5b0 : (a0 == 4) = true := beq_iff_eq.mpr c5
          have c5b1 : (a0 != 4) = false := bne_eq_false_iff_eq.mpr c5
          clear c5
          obtain rfl := Option.some.inj H
          go_enter Tryd.func65, Tryd.ntmps65
          go_wp2
          go_ret
          exact ⟨by first | rfl | (simp; done) | (simp [*]; done), by repeat (first | exact Drawn0.refl _ | apply Drawn0.step)⟩
        · rw [if_neg c5] at H
          have c5b0 : (a0 == 4) = false := beq_eq_false_iff_ne.mpr c5
          have c5b1 : (a0 != 4) = true := bne_iff_ne.mpr c5
          by_cases c6 : a0 = 6
          · rw [if_pos c6] at H
            have c6b0 : (a0 == 6) = true := beq_iff_eq.mpr c6
            have c6b1 : (a0 != 6) = false := bne_eq_false_iff_eq.mpr c6
            clear c6
            obtain rfl := Option.some.inj H
            go_enter Tryd.func65, Tryd.ntmps65
            go_wp2
            go_ret
            exact ⟨by first | rfl | (simp; done) | (simp [*]; done), by repeat (first | exact Drawn0.refl _ | apply Drawn0.step)⟩
          · rw [if_neg c6] at H
            have c6b0 : (a0 == 6) = false := beq_eq_false_iff_ne.mpr c6
            have c6b1 : (a0 != 6) = true := bne_iff_ne.mpr c6
            by_cases c7 : a0 = 7
            · rw [if_pos c7] at H
              have c7b0 : (a0 == 7) = true := beq_iff_eq.mpr c7
              have c7b1 : (a0 != 7) = false := bne_eq_false_iff_eq.mpr c7
              clear c7
              obtain rfl := Option.some.inj H
              go_enter Tryd.func65, Tryd.ntmps65
              go_wp2
              go_ret
              exact ⟨by first | rfl | (simp; done) | (simp [*]; done), by repeat (first | exact Drawn0.refl _ | apply Drawn0.step)⟩
            · rw [if_neg c7] at H
              have c7b0 : (a0 == 7) = false := beq_eq_false_iff_ne.mpr c7
              have c7b1 : (a0 != 7) = true := bne_iff_ne.mpr c7
              by_cases c8 : a0 = (-127)
              · rw [if_pos c8] at H
                have c8b0 : (a0 == (-127)) = true := beq_iff_eq.mpr c8
                have c8b1 : (a0 != (-127)) = false := bne_eq_false_iff_eq.mpr c8
                clear c8
                obtain rfl := Option.some.inj H
                go_enter Tryd.func65, Tryd.ntmps65
                go_wp2
                go_ret
                exact ⟨by first | rfl | (simp; done) | (simp [*]; done), by repeat (first | exact Drawn0.refl _ | apply Drawn0.step)⟩
              · rw [if_neg c8] at H
                have c8b0 : (a0 == (-127)) = false := beq_eq_false_iff_ne.mpr c8
                have c8b1 : (a0 != (-127)) = true := bne_iff_ne.mpr c8
                obtain rfl := Option.some.inj H
                go_enter Tryd.func65, Tryd.ntmps65
                go_wp2
                go_ret
                exact ⟨by first | rfl | (simp; done) | (simp [*]; done), by repeat (first | exact Drawn0.refl _ | apply Drawn0.step)⟩

/-! ### object_zzIndex: function 83 -/
def object_zzIndex.l0 : Nat → ByteArray → ByteArray → Int → Option (Int)
  | 0, _, _, _ => none
  | k + 1, x0, x1, x5 => if (wrap64 (x5 + (x1.size : Int))) ≤ (x0.size : Int) then (if 0 ≤ x5 then (if x5 ≤ (wrap64 (x5 + (x1.size : Int))) then (if (x0.extract (x5 : Int).toNat ((wrap64 (x5 + (x1.size : Int))) : Int).toNat).toList = x1.toList then (some x5) else (object_zzIndex.l0 k x0 x1 (wrap64 (x5 + 1)))) else (none)) else (none)) else (some (-1))
def object_zzIndex.f (k : Nat) (a0 : ByteArray) (a1 : ByteArray) : Option (Int) := object_zzIndex.l0 k a0 a1 0
theorem object_zzIndex.mono_l : ∀ k, (∀ y0 y1 y2, LeO (object_zzIndex.l0 k y0 y1 y2) (object_zzIndex.l0 (k + 1) y0 y1 y2))
  | 0 => fun _ _ _ r h => by simp [object_zzIndex.l0] at h
  | k + 1 => by
    have ih0 := object_zzIndex.mono_l k
    · intro y0 y1 y2
      unfold object_zzIndex.l0
      repeat' first
      | (with_reducible exact ih0 _ _ _)
      | (with_reducible exact LeO.refl _)
      | (with_reducible exact LeO.none _)
      | (with_reducible refine LeO.ite ?_ ?_)
      | (with_reducible refine LeO.bind ?_ (fun _ => ?_))
      | exact ih0 _ _ _
      | exact LeO.none _
      | refine LeO.ite ?_ ?_
      | refine LeO.bind ?_ (fun _ => ?_)
theorem object_zzIndex.mono : ∀ a0 a1 k, LeO (object_zzIndex.f k a0 a1) (object_zzIndex.f (k + 1) a0 a1) := by
  intro a0 a1 k
  have ih0 := object_zzIndex.mono_l k
  unfold object_zzIndex.f
  repeat' first
      | (with_reducible exact ih0 _ _ _)
      | (with_reducible exact LeO.refl _)
      | (with_reducible exact LeO.none _)
      | (with_reducible refine LeO.ite ?_ ?_)
      | (with_reducible refine LeO.bind ?_ (fun _ => ?_))
      | exact ih0 _ _ _
      | exact LeO.none _
      | refine LeO.ite ?_ ?_
      | refine LeO.bind ?_ (fun _ => ?_)
/-! ### object_zzSplit: function 70 -/
def object_zzSplit.l0 : Nat → ByteArray → ByteArray → List ByteArray → Option (List ByteArray)
  | 0, _, _, _ => none
  | k + 1, x0, x1, x5 => (object_zzIndex.f k x0 x1).bind fun t217 => (if t217 < 0 then (if x5.length < 8796093022208 then (some (x5 ++ [x0])) else (none)) else (if 0 ≤ t217 then (if t217 ≤ (x0.size : Int) then (if x5.length < 8796093022208 then (if 0 ≤ (wrap64 (t217 + (x1.size : Int))) then (if (wrap64 (t217 + (x1.size : Int))) ≤ (x0.size : Int) then (object_zzSplit.l0 k (x0.extract ((wrap64 (t217 + (x1.size : Int))) : Int).toNat x0.size) x1 (x5 ++ [x0.extract 0 (t217 : Int).toNat])) else (none)) else (none)) else (none)) else (none)) else (none)))
def object_zzSplit.f (k : Nat) (a0 : ByteArray) (a1 : ByteArray) : Option (List ByteArray) := object_zzSplit.l0 k a0 a1 ([] : List ByteArray)
theorem object_zzSplit.mono_l : ∀ k, (∀ y0 y1 y2, LeO (object_zzSplit.l0 k y0 y1 y2) (object_zzSplit.l0 (k + 1) y0 y1 y2))
  | 0 => fun _ _ _ r h => by simp [object_zzSplit.l0] at h
  | k + 1 => by
    have ih0 := object_zzSplit.mono_l k
    · intro y0 y1 y2
      unfold object_zzSplit.l0
      repeat' first
      | (with_reducible exact ih0 _ _ _)
      | (with_reducible exact object_zzIndex.mono _ _ _)
      | (with_reducible exact LeO.refl _)
      | (with_reducible exact LeO.none _)
      | (with_reducible refine LeO.ite ?_ ?_)
      | (with_reducible refine LeO.bind ?_ (fun _ => ?_))
      | exact ih0 _ _ _
      | exact object_zzIndex.mono _ _ _
      | exact LeO.none _
      | refine LeO.ite ?_ ?_
      | refine LeO.bind ?_ (fun _ => ?_)
theorem object_zzSplit.mono : ∀ a0 a1 k, LeO (object_zzSplit.f k a0 a1) (object_zzSplit.f (k + 1) a0 a1) := by
  intro a0 a1 k
  have ih0 := object_zzSplit.mono_l k
  unfold object_zzSplit.f
  repeat' first
      | (with_reducible exact ih0 _ _ _)
      | (with_reducible exact object_zzIndex.mono _ _ _)
      | (with_reducible exact LeO.refl _)
      | (with_reducible exact LeO.none _)
      | (with_reducible refine LeO.ite ?_ ?_)
      | (with_reducible refine LeO.bind ?_ (fun _ => ?_))
      | exact ih0 _ _ _
      | exact object_zzIndex.mono _ _ _
      | exact LeO.none _
      | refine LeO.ite ?_ ?_
      | refine LeO.bind ?_ (fun _ => ?_)
/-! ### stringslite_HasSuffix: function 97 -/
def stringslite_HasSuffix.f (a0 : ByteArray) (a1 : ByteArray) : Option (Bool) := if (a0.size : Int) ≥ (a1.size : Int) then (if 0 ≤ (wrap64 ((a0.size : Int) - (a1.size : Int))) then (if (wrap64 ((a0.size : Int) - (a1.size : Int))) ≤ (a0.size : Int) then (some ((a0.extract ((wrap64 ((a0.size : Int) - (a1.size : Int))) : Int).toNat a0.size).toList == a1.toList)) else (none)) else (none)) else (some false)
/-! ### stringslite_TrimSuffix: function 82 -/
def stringslite_TrimSuffix.f (a0 : ByteArray) (a1 : ByteArray) : Option (ByteArray) := (stringslite_HasSuffix.f a0 a1).bind fun t224 => (if t224 = true then (if 0 ≤ (wrap64 ((a0.size : Int) - (a1.size : Int))) then (if (wrap64 ((a0.size : Int) - (a1.size : Int))) ≤ (a0.size : Int) then (some (a0.extract 0 ((wrap64 ((a0.size : Int) - (a1.size : Int))) : Int).toNat)) else (none)) else (none)) else (some a0))
/-! ### strings_TrimSuffix: function 69 -/
def strings_TrimSuffix.f (a0 : ByteArray) (a1 : ByteArray) : Option (ByteArray) := (stringslite_TrimSuffix.f a0 a1).bind fun t225 => (some t225)
end Go.Proofs.YtddnepddilbikaaDoor.QAll
