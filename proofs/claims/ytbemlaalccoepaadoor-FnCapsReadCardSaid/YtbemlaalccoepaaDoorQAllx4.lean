-- WRITTEN BY A PROGRAM OF THIS SESSION, out of the loaded program, with words of the kit
import Derived.Test.YtbemlaalccoepaaDoorQAllx0
import Derived.Test.YtbemlaalccoepaaDoorQAllx3
namespace Go.Proofs.YtbemlaalccoepaaDoor.QAll
open Go.RowKit Go.Proofs.YtbemlaalccoepaaDoorW.PrintWords Go.Proofs.YtbemlaalccoepaaDoorW.PrintLast Go.Proofs.YtbemlaalccoepaaDoorW.PrintMore
attribute [local go_sem] max2_int min2_int max_two min_two max_three min_three max_four min_four   -- for this text's walks alone
set_option linter.unusedVariables false
set_option linter.unusedSimpArgs false

/-! ### spec_SameCaps: function 11 -/
def spec_SameCaps.l0 : Nat → List (S27) → List (S27) → Int → Int → Option (Bool)
  | 0, _, _, _, _ => none
  | k + 1, x0, x1, x12, x13 => if x13 < x12 then (if 0 ≤ x13 then (if x13 < (x0.length : Int) then (if x13 < (x1.length : Int) then (if ((rd_T27 x0 x13).f0).toList = ((rd_T27 x1 x13).f0).toList then ((spec_SameTexts.f k ((rd_T27 x0 x13).f1) ((rd_T27 x1 x13).f1)).bind fun t132 => (if t132 = true then (spec_SameCaps.l0 k x0 x1 x12 (wrap64 (x13 + 1))) else (some false))) else (some false)) else (none)) else (none)) else (none)) else (some true)
def spec_SameCaps.f (k : Nat) (l0 : List (S27)) (l1 : List (S27)) : Option (Bool) := if (l0.length : Int) = (l1.length : Int) then (spec_SameCaps.l0 k l0 l1 (l0.length : Int) 0) else (some false)
theorem spec_SameCaps.mono_l : ∀ k, (∀ y0 y1 y2 y3, LeO (spec_SameCaps.l0 k y0 y1 y2 y3) (spec_SameCaps.l0 (k + 1) y0 y1 y2 y3))
  | 0 => fun _ _ _ _ r h => by simp [spec_SameCaps.l0] at h
  | k + 1 => by
    have ih0 := spec_SameCaps.mono_l k
    · intro y0 y1 y2 y3
      unfold spec_SameCaps.l0
      repeat' first
      | (with_reducible exact ih0 _ _ _ _)
      | (with_reducible exact spec_SameTexts.mono _ _ _)
      | (with_reducible exact LeO.refl _)
      | (with_reducible exact LeO.none _)
      | (with_reducible refine LeO.ite ?_ ?_)
      | (with_reducible refine LeO.bind ?_ (fun _ => ?_))
      | exact ih0 _ _ _ _
      | exact spec_SameTexts.mono _ _ _
      | exact LeO.none _
      | refine LeO.ite ?_ ?_
      | refine LeO.bind ?_ (fun _ => ?_)
theorem spec_SameCaps.mono : ∀ a0 a1 k, LeO (spec_SameCaps.f k a0 a1) (spec_SameCaps.f (k + 1) a0 a1) := by
  intro a0 a1 k
  have ih0 := spec_SameCaps.mono_l k
  unfold spec_SameCaps.f
  repeat' first
      | (with_reducible exact ih0 _ _ _ _)
      | (with_reducible exact spec_SameTexts.mono _ _ _)
      | (with_reducible exact LeO.refl _)
      | (with_reducible exact LeO.none _)
      | (with_reducible refine LeO.ite ?_ ?_)
      | (with_reducible refine LeO.bind ?_ (fun _ => ?_))
      | exact ih0 _ _ _ _
      | exact spec_SameTexts.mono _ _ _
      | exact LeO.none _
      | refine LeO.ite ?_ ?_
      | refine LeO.bind ?_ (fun _ => ?_)
set_option maxHeartbeats 8000000 in
set_option maxRecDepth 100000 in
theorem spec_SameCaps.calls (k : Nat) (A0 : Option Addr) (c0 : Nat) (l0 : List (S27)) (A1 : Option Addr) (c1 : Nat) (l1 : List (S27)) (r : Bool) (w : World) (hr0 : Kd.C k27 w A0 l0.length l0) (hc0 : l0.length ≤ c0) (hr1 : Kd.C k27 w A1 l1.length l1) (hc1 : l1.length ≤ c1) (h : spec_SameCaps.f k l0 l1 = some r) :
    Calls Tryd.prog 11 #[.slice A0 l0.length c0, .slice A1 l1.length c1] w fun e w' => e = .returned (.bool r) ∧ Drawn0 w w' := by
  have HR0 := Aside0.mk hr0
  have HC0 := Aside0.mk hc0
  clear hr0 hc0
  have HR1 := Aside0.mk hr1
  have HC1 := Aside0.mk hc1
  clear hr1 hc1
  have H : (if (l0.length : Int) = (l1.length : Int) then (spec_SameCaps.l0 k l0 l1 (l0.length : Int) 0) else (some false)) = some r := h
  clear h
  by_cases c3 : (l0.length : Int) = (l1.length : Int)
  · rw [if_pos c3] at H
    have c3b0 : ((l0.length : Int) == (l1.length : Int)) = true := beq_iff_eq.mpr c3
    have c3b1 : ((l0.length : Int) != (l1.length : Int)) = false := bne_eq_false_iff_eq.mpr c3
    have c3b2 : (l0.length == l1.length) = true := by first | simpa using c3 | (simp at c3 ⊢; omega)
    clear c3
    have H' := Aside0.mk H
    clear H
    go_enter Tryd.func11, Tryd.ntmps11
    go_wp2
    repeat (go_quiet (fail); try go_wp2)
    go_loopg [13] k (fun kq v13 w' => ∃ (x13_1 : Int), v13 = .int .i64 x13_1 ∧ Aside0 (spec_SameCaps.l0 kq l0 l1 (l0.length : Int) x13_1 = some r) ∧ Aside0 (kq ≤ k) ∧ Drawn0 w w')
    case atStart => exact ⟨(0), (by first | rfl | (simp; done) | (simp [*]; done)), H', ⟨Nat.le_refl _⟩, by repeat (first | exact Drawn0.refl _ | apply Drawn0.step)⟩
    case round =>
      clear H'
      try clear c1
      try clear p2
      try clear c3
      try clear c3b0
      try clear c3b1
      try clear c3b2
      obtain ⟨x13_1, rfl, HA, HK1, ⟨m1, rfl⟩⟩ := hrel
      cases gk with
      | zero => exact absurd HA.out (by simp [spec_SameCaps.l0])
      | succ k1 =>
        have H := HA.out
        clear HA
        simp only [spec_SameCaps.l0] at H
        by_cases c4 : x13_1 < (l0.length : Int)
        · rw [if_pos c4] at H
          have c4b0 : decide (x13_1 < (l0.length : Int)) = true := decide_eq_true c4
          clear c4
          by_cases c5 : 0 ≤ x13_1
          · rw [if_pos c5] at H
            have c5b0 : decide (0 ≤ x13_1) = true := decide_eq_true c5
            clear c5
            by_cases c6 : x13_1 < (l0.length : Int)
            · rw [if_pos c6] at H
              have c6b0 : decide (x13_1 < (l0.length : Int)) = true := decide_eq_true c6
              clear c6
              by_cases c7 : x13_1 < (l1.length : Int)
              · rw [if_pos c7] at H
                have c7b0 : decide (x13_1 < (l1.length : Int)) = true := decide_eq_true c7
                clear c7
                by_cases c8 : ((rd_T27 l0 x13_1).f0).toList = ((rd_T27 l1 x13_1).f0).toList
                · rw [if_pos c8] at H
                  have c8b0 : (((rd_T27 l0 x13_1).f0).toList == ((rd_T27 l1 x13_1).f0).toList) = true := beq_iff_eq.mpr c8
                  have c8b1 : (((rd_T27 l0 x13_1).f0).toList != ((rd_T27 l1 x13_1).f0).toList) = false := bne_eq_false_iff_eq.mpr c8
                  clear c8
                  replace H := Option.bind_eq_some_iff.mp H
                  obtain ⟨t132, A90, H⟩ := H
                  replace H : (if t132 = true then (spec_SameCaps.l0 k1 l0 l1 (l0.length : Int) (wrap64 (x13_1 + 1))) else (some false)) = some r := H
                  have A9 := Aside0.mk A90
                  clear A90
                  by_cases c10 : t132 = true
                  · subst c10
                    have H1 : (spec_SameCaps.l0 k1 l0 l1 (l0.length : Int) (wrap64 (x13_1 + 1))) = some r := by rw [if_pos rfl] at H; exact H
                    clear H
                    have H := H1
                    clear H1
                    have H' := Aside0.mk H
                    clear H
                    have p128 : 0 ≤ (x13_1 : Int) := of_decide_eq_true (by first | (with_reducible assumption) | assumption)
                    have q128 : x13_1 < (l0.length : Int) := of_decide_eq_true (by first | (with_reducible assumption) | assumption)
                    obtain ⟨ad128, A128_1, c128_1, e128, hx128_0, hx128_1, hl128_1, hi128_1⟩ := at_T27 HR0.out x13_1 p128 q128
                    cases e128
                    have HR128_1 := Aside0.mk hi128_1
                    have HC128_1 := Aside0.mk hl128_1
                    clear hi128_1 hl128_1
                    replace p128 := eq_true p128
                    replace q128 := eq_true q128
                    have p129 : 0 ≤ (x13_1 : Int) := of_decide_eq_true (by first | (with_reducible assumption) | assumption)
                    have q129 : x13_1 < (l1.length : Int) := of_decide_eq_true (by first | (with_reducible assumption) | assumption)
                    obtain ⟨ad129, A129_1, c129_1, e129, hx129_0, hx129_1, hl129_1, hi129_1⟩ := at_T27 HR1.out x13_1 p129 q129
                    cases e129
                    have HR129_1 := Aside0.mk hi129_1
                    have HC129_1 := Aside0.mk hl129_1
                    clear hi129_1 hl129_1
                    replace p129 := eq_true p129
                    replace q129 := eq_true q129
                    have p130 : 0 ≤ (x13_1 : Int) := of_decide_eq_true (by first | (with_reducible assumption) | assumption)
                    have q130 : x13_1 < (l0.length : Int) := of_decide_eq_true (by first | (with_reducible assumption) | assumption)
                    obtain ⟨ad130, A130_1, c130_1, e130, hx130_0, hx130_1, hl130_1, hi130_1⟩ := at_T27 HR0.out x13_1 p130 q130
                    obtain rfl : ad128 = ad130 := (by injection e130)
                    have HR130_1 := Aside0.mk hi130_1
                    have HC130_1 := Aside0.mk hl130_1
                    clear hi130_1 hl130_1
                    replace p130 := eq_true p130
                    replace q130 := eq_true q130
                    have ea_ := Option.some.inj (hx128_1.symm.trans hx130_1)
                    injection ea_ with ea_ en_ ec_
                    subst ea_
                    subst ec_
                    clear en_
                    have p131 : 0 ≤ (x13_1 : Int) := of_decide_eq_true (by first | (with_reducible assumption) | assumption)
                    have q131 : x13_1 < (l1.length : Int) := of_decide_eq_true (by first | (with_reducible assumption) | assumption)
                    obtain ⟨ad131, A131_1, c131_1, e131, hx131_0, hx131_1, hl131_1, hi131_1⟩ := at_T27 HR1.out x13_1 p131 q131
                    obtain rfl : ad129 = ad131 := (by injection e131)
                    have HR131_1 := Aside0.mk hi131_1
                    have HC131_1 := Aside0.mk hl131_1
                    clear hi131_1 hl131_1
                    replace p131 := eq_true p131
                    replace q131 := eq_true q131
                    have ea_ := Option.some.inj (hx129_1.symm.trans hx131_1)
                    injection ea_ with ea_ en_ ec_
                    subst ea_
                    subst ec_
                    clear en_
                    go_wp2_with (first | (go_at_call 22; (with_reducible refine (spec_SameTexts.calls k1 _ _ ((rd_T27 l0 x13_1).f1) _ _ ((rd_T27 l1 x13_1).f1) true _ ?side1 ?side2 ?side3 ?side4 A9.out).mono ?_); (case side1 => repeat (first | exact HR130_1.out | (with_reducible refine Kd.C_alloc ?_ _) | (with_reducible refine Kd.C_drewN ?_ _) | (with_reducible refine Kd.C_drew ?_))); (case side2 => exact HC130_1.out); (case side3 => repeat (first | exact HR131_1.out | (with_reducible refine Kd.C_alloc ?_ _) | (with_reducible refine Kd.C_drewN ?_ _) | (with_reducible refine Kd.C_drew ?_))); (case side4 => exact HC131_1.out); rintro e w' ⟨rfl, ⟨nd, rfl⟩⟩; (try first | exact ⟨rfl, _, World.drewN_drewN _ _ _⟩ | exact ⟨rfl, _, Eq.trans (World.drewN_drewN _ _ _) (congrArg (World.drewN _) (Nat.add_assoc _ _ _))⟩)))
                    repeat (go_quiet (first | (go_at_call 22; (with_reducible refine (spec_SameTexts.calls k1 _ _ ((rd_T27 l0 x13_1).f1) _ _ ((rd_T27 l1 x13_1).f1) true _ ?side1 ?side2 ?side3 ?side4 A9.out).mono ?_); (case side1 => repeat (first | exact HR130_1.out | (with_reducible refine Kd.C_alloc ?_ _) | (with_reducible refine Kd.C_drewN ?_ _) | (with_reducible refine Kd.C_drew ?_))); (case side2 => exact HC130_1.out); (case side3 => repeat (first | exact HR131_1.out | (with_reducible refine Kd.C_alloc ?_ _) | (with_reducible refine Kd.C_drewN ?_ _) | (with_reducible refine Kd.C_drew ?_))); (case side4 => exact HC131_1.out); rintro e w' ⟨rfl, ⟨nd, rfl⟩⟩; (try first | exact ⟨rfl, _, World.drewN_drewN _ _ _⟩ | exact ⟨rfl, _, Eq.trans (World.drewN_drewN _ _ _) (congrArg (World.drewN _) (Nat.add_assoc _ _ _))⟩))); try go_wp2_with (first | (go_at_call 22; (with_reducible refine (spec_SameTexts.calls k1 _ _ ((rd_T27 l0 x13_1).f1) _ _ ((rd_T27 l1 x13_1).f1) true _ ?side1 ?side2 ?side3 ?side4 A9.out).mono ?_); (case side1 => repeat (first | exact HR130_1.out | (with_reducible refine Kd.C_alloc ?_ _) | (with_reducible refine Kd.C_drewN ?_ _) | (with_reducible refine Kd.C_drew ?_))); (case side2 => exact HC130_1.out); (case side3 => repeat (first | exact HR131_1.out | (with_reducible refine Kd.C_alloc ?_ _) | (with_reducible refine Kd.C_drewN ?_ _) | (with_reducible refine Kd.C_drew ?_))); (case side4 => exact HC131_1.out); rintro e w' ⟨rfl, ⟨nd, rfl⟩⟩; (try first | exact ⟨rfl, _, World.drewN_drewN _ _ _⟩ | exact ⟨rfl, _, Eq.trans (World.drewN_drewN _ _ _) (congrArg (World.drewN _) (Nat.add_assoc _ _ _))⟩))))
                    go_roundg k1
                    case measure => have := HK1.out; omega
                    case rel => exact ⟨(wrap64 (x13_1 + 1)), (by first | rfl | (simp; done) | (simp [*]; done)), H', ⟨by have := HK1.out; omega⟩, by repeat (first | exact Drawn0.refl _ | apply Drawn0.step)⟩
                  · replace c10 := Bool.eq_false_iff.mpr c10
                    subst c10
                    have H1 : (some false) = some r := by rw [if_neg (show ¬ (false = true) by decide)] at H; exact H
                    clear H
                    have H := H1
                    clear H1
                    obtain rfl := Option.some.inj H
                    have p128 : 0 ≤ (x13_1 : Int) := of_decide_eq_true (by first | (with_reducible assumption) | assumption)
                    have q128 : x13_1 < (l0.length : Int) := of_decide_eq_true (by first | (with_reducible assumption) | assumption)
                    obtain ⟨ad128, A128_1, c128_1, e128, hx128_0, hx128_1, hl128_1, hi128_1⟩ := at_T27 HR0.out x13_1 p128 q128
                    cases e128
                    have HR128_1 := Aside0.mk hi128_1
                    have HC128_1 := Aside0.mk hl128_1
                    clear hi128_1 hl128_1
                    replace p128 := eq_true p128
                    replace q128 := eq_true q128
                    have p129 : 0 ≤ (x13_1 : Int) := of_decide_eq_true (by first | (with_reducible assumption) | assumption)
                    have q129 : x13_1 < (l1.length : Int) := of_decide_eq_true (by first | (with_reducible assumption) | assumption)
                    obtain ⟨ad129, A129_1, c129_1, e129, hx129_0, hx129_1, hl129_1, hi129_1⟩ := at_T27 HR1.out x13_1 p129 q129
                    cases e129
                    have HR129_1 := Aside0.mk hi129_1
                    have HC129_1 := Aside0.mk hl129_1
                    clear hi129_1 hl129_1
                    replace p129 := eq_true p129
                    replace q129 := eq_true q129
                    have p130 : 0 ≤ (x13_1 : Int) := of_decide_eq_true (by first | (with_reducible assumption) | assumption)
                    have q130 : x13_1 < (l0.length : Int) := of_decide_eq_true (by first | (with_reducible assumption) | assumption)
                    obtain ⟨ad130, A130_1, c130_1, e130, hx130_0, hx130_1, hl130_1, hi130_1⟩ := at_T27 HR0.out x13_1 p130 q130
                    obtain rfl : ad128 = ad130 := (by injection e130)
                    have HR130_1 := Aside0.mk hi130_1
                    have HC130_1 := Aside0.mk hl130_1
                    clear hi130_1 hl130_1
                    replace p130 := eq_true p130
                    replace q130 := eq_true q130
                    have ea_ := Option.some.inj (hx128_1.symm.trans hx130_1)
                    injection ea_ with ea_ en_ ec_
                    subst ea_
                    subst ec_
                    clear en_
                    have p131 : 0 ≤ (x13_1 : Int) := of_decide_eq_true (by first | (with_reducible assumption) | assumption)
                    have q131 : x13_1 < (l1.length : Int) := of_decide_eq_true (by first | (with_reducible assumption) | assumption)
                    obtain ⟨ad131, A131_1, c131_1, e131, hx131_0, hx131_1, hl131_1, hi131_1⟩ := at_T27 HR1.out x13_1 p131 q131
                    obtain rfl : ad129 = ad131 := (by injection e131)
                    have HR131_1 := Aside0.mk hi131_1
                    have HC131_1 := Aside0.mk hl131_1
                    clear hi131_1 hl131_1
                    replace p131 := eq_true p131
                    replace q131 := eq_true q131
                    have ea_ := Option.some.inj (hx129_1.symm.trans hx131_1)
                    injection ea_ with ea_ en_ ec_
                    subst ea_
                    subst ec_
                    clear en_
                    go_wp2_with (first | (go_at_call 22; (with_reducible refine (spec_SameTexts.calls k1 _ _ ((rd_T27 l0 x13_1).f1) _ _ ((rd_T27 l1 x13_1).f1) false _ ?side1 ?side2 ?side3 ?side4 A9.out).mono ?_); (case side1 => repeat (first | exact HR130_1.out | (with_reducible refine Kd.C_alloc ?_ _) | (with_reducible refine Kd.C_drewN ?_ _) | (with_reducible refine Kd.C_drew ?_))); (case side2 => exact HC130_1.out); (case side3 => repeat (first | exact HR131_1.out | (with_reducible refine Kd.C_alloc ?_ _) | (with_reducible refine Kd.C_drewN ?_ _) | (with_reducible refine Kd.C_drew ?_))); (case side4 => exact HC131_1.out); rintro e w' ⟨rfl, ⟨nd, rfl⟩⟩; (try first | exact ⟨rfl, _, World.drewN_drewN _ _ _⟩ | exact ⟨rfl, _, Eq.trans (World.drewN_drewN _ _ _) (congrArg (World.drewN _) (Nat.add_assoc _ _ _))⟩)))
                    repeat (go_quiet (first | (go_at_call 22; (with_reducible refine (spec_SameTexts.calls k1 _ _ ((rd_T27 l0 x13_1).f1) _ _ ((rd_T27 l1 x13_1).f1) false _ ?side1 ?side2 ?side3 ?side4 A9.out).mono ?_); (case side1 => repeat (first | exact HR130_1.out | (with_reducible refine Kd.C_alloc ?_ _) | (with_reducible refine Kd.C_drewN ?_ _) | (with_reducible refine Kd.C_drew ?_))); (case side2 => exact HC130_1.out); (case side3 => repeat (first | exact HR131_1.out | (with_reducible refine Kd.C_alloc ?_ _) | (with_reducible refine Kd.C_drewN ?_ _) | (with_reducible refine Kd.C_drew ?_))); (case side4 => exact HC131_1.out); rintro e w' ⟨rfl, ⟨nd, rfl⟩⟩; (try first | exact ⟨rfl, _, World.drewN_drewN _ _ _⟩ | exact ⟨rfl, _, Eq.trans (World.drewN_drewN _ _ _) (congrArg (World.drewN _) (Nat.add_assoc _ _ _))⟩))); try go_wp2_with (first | (go_at_call 22; (with_reducible refine (spec_SameTexts.calls k1 _ _ ((rd_T27 l0 x13_1).f1) _ _ ((rd_T27 l1 x13_1).f1) false _ ?side1 ?side2 ?side3 ?side4 A9.out).mono ?_); (case side1 => repeat (first | exact HR130_1.out | (with_reducible refine Kd.C_alloc ?_ _) | (with_reducible refine Kd.C_drewN ?_ _) | (with_reducible refine Kd.C_drew ?_))); (case side2 => exact HC130_1.out); (case side3 => repeat (first | exact HR131_1.out | (with_reducible refine Kd.C_alloc ?_ _) | (with_reducible refine Kd.C_drewN ?_ _) | (with_reducible refine Kd.C_drew ?_))); (case side4 => exact HC131_1.out); rintro e w' ⟨rfl, ⟨nd, rfl⟩⟩; (try first | exact ⟨rfl, _, World.drewN_drewN _ _ _⟩ | exact ⟨rfl, _, Eq.trans (World.drewN_drewN _ _ _) (congrArg (World.drewN _) (Nat.add_assoc _ _ _))⟩))))
                    go_ret
                    exact ⟨by first | rfl | (simp; done) | (simp [*]; done), by repeat (first | exact Drawn0.refl _ | apply Drawn0.step)⟩
                · rw [if_neg c8] at H
                  have c8b0 : (((rd_T27 l0 x13_1).f0).toList == ((rd_T27 l1 x13_1).f0).toList) = false := beq_eq_false_iff_ne.mpr c8
                  have c8b1 : (((rd_T27 l0 x13_1).f0).toList != ((rd_T27 l1 x13_1).f0).toList) = true := bne_iff_ne.mpr c8
                  obtain rfl := Option.some.inj H
                  have p128 : 0 ≤ (x13_1 : Int) := of_decide_eq_true (by first | (with_reducible assumption) | assumption)
                  have q128 : x13_1 < (l0.length : Int) := of_decide_eq_true (by first | (with_reducible assumption) | assumption)
                  obtain ⟨ad128, A128_1, c128_1, e128, hx128_0, hx128_1, hl128_1, hi128_1⟩ := at_T27 HR0.out x13_1 p128 q128
                  cases e128
                  have HR128_1 := Aside0.mk hi128_1
                  have HC128_1 := Aside0.mk hl128_1
                  clear hi128_1 hl128_1
                  replace p128 := eq_true p128
                  replace q128 := eq_true q128
                  have p129 : 0 ≤ (x13_1 : Int) := of_decide_eq_true (by first | (with_reducible assumption) | assumption)
                  have q129 : x13_1 < (l1.length : Int) := of_decide_eq_true (by first | (with_reducible assumption) | assumption)
                  obtain ⟨ad129, A129_1, c129_1, e129, hx129_0, hx129_1, hl129_1, hi129_1⟩ := at_T27 HR1.out x13_1 p129 q129
                  cases e129
                  have HR129_1 := Aside0.mk hi129_1
                  have HC129_1 := Aside0.mk hl129_1
                  clear hi129_1 hl129_1
                  replace p129 := eq_true p129
                  replace q129 := eq_true q129
                  go_wp2
                  repeat (go_quiet (fail); try go_wp2)
                  go_ret
                  exact ⟨by first | rfl | (simp; done) | (simp [*]; done), by repeat (first | exact Drawn0.refl _ | apply Drawn0.step)⟩
              · rw [if_neg c7] at H
                exact absurd H (by simp)
            · rw [if_neg c6] at H
              exact absurd H (by simp)
          · rw [if_neg c5] at H
            exact absurd H (by simp)
        · rw [if_neg c4] at H
          have c4b0 : decide (x13_1 < (l0.length : Int)) = false := decide_eq_false c4
          clear c4
          obtain rfl := Option.some.inj H
          go_wp2
          repeat (go_quiet (fail); try go_wp2)
          go_ret
          exact ⟨by first | rfl | (simp; done) | (simp [*]; done), by repeat (first | exact Drawn0.refl _ | apply Drawn0.step)⟩
  · rw [if_neg c3] at H
    have c3b0 : ((l0.length : Int) == (l1.length : Int)) = false := beq_eq_false_iff_ne.mpr c3
    have c3b1 : ((l0.length : Int) != (l1.length : Int)) = true := bne_iff_ne.mpr c3
    have c3b2 : (l0.length == l1.length) = false := by first | simpa using c3 | (simp at c3 ⊢; omega)
    obtain rfl := Option.some.inj H
    go_enter Tryd.func11, Tryd.ntmps11
    go_wp2
    repeat (go_quiet (fail); try go_wp2)
    go_ret
    exact ⟨by first | rfl | (simp; done) | (simp [*]; done), by repeat (first | exact Drawn0.refl _ | apply Drawn0.step)⟩

/-! ### bytes_Equal: function 54 -/
def bytes_Equal.f (l0 : List Int) (l1 : List Int) : Option (Bool) := some ((strOfNums l0).toList == (strOfNums l1).toList)
set_option maxHeartbeats 8000000 in
set_option maxRecDepth 100000 in
theorem bytes_Equal.calls (A0 : Option Addr) (c0 : Nat) (l0 : List Int) (A1 : Option Addr) (c1 : Nat) (l1 : List Int) (r : Bool) (w : World) (hr0 : Kd.C (Kd.int .u8) w A0 l0.length l0) (hc0 : l0.length ≤ c0) (hr1 : Kd.C (Kd.int .u8) w A1 l1.length l1) (hc1 : l1.length ≤ c1) (h : bytes_Equal.f l0 l1 = some r) :
    Calls Tryd.prog 54 #[.slice A0 l0.length c0, .slice A1 l1.length c1] w fun e w' => e = .returned (.bool r) ∧ Drawn0 w w' := by
  have HR0 := Aside0.mk hr0
  have HC0 := Aside0.mk hc0
  clear hr0 hc0
  have HR1 := Aside0.mk hr1
  have HC1 := Aside0.mk hc1
  clear hr1 hc1
  have H : (some ((strOfNums l0).toList == (strOfNums l1).toList)) = some r := h
  clear h
  obtain rfl := Option.some.inj H
  have hcv3 := Kd.C_string (P := Tryd.prog) (A := A0) (c := c0) Tryd.underlying34 Tryd.underlying5 Tryd.underlying9 HR0.out
  have hcv4 := Kd.C_string (P := Tryd.prog) (A := A1) (c := c1) Tryd.underlying34 Tryd.underlying5 Tryd.underlying9 HR1.out
  go_enter Tryd.func54, Tryd.ntmps54
  go_wp2
  go_ret
  exact ⟨by first | rfl | (simp; done) | (simp [*]; done), by repeat (first | exact Drawn0.refl _ | apply Drawn0.step)⟩

/-- THE ONE PURE STATEMENT of bytes_Equal: yours. -/
def bytes_Equal.Pure : Prop := ∀ (l0 : List Int) (l1 : List Int), l0.length ≤ maxLen → l0.length * 1 ≤ 140737488351232 → (∀ x ∈ l0, (Lit.int .u8 x).wf = true) → l1.length ≤ maxLen → l1.length * 1 ≤ 140737488351232 → (∀ x ∈ l1, (Lit.int .u8 x).wf = true) → bytes_Equal.f l0 l1 = some true
theorem bytes_Equal.walk (P : bytes_Equal.Pure) (a0 : Option Addr) (len0 cap0 : Nat) (z0 : List Int) (a1 : Option Addr) (len1 cap1 : Nat) (z1 : List Int) (w : World) (w0 : (a0 = none ∧ len0 = 0 ∧ cap0 = 0 ∧ z0 = []) ∨ ∃ x, a0 = some x ∧ len0 ≤ cap0 ∧ cap0 ≤ maxLen ∧ z0.length = cap0 ∧ (∀ i, i < z0.length → w.cell? (x.add i) = some (.int .u8 (z0.getD i 0))) ∧ ∀ n ∈ z0, (Lit.int .u8 n).wf = true) (y0 : len0 * 1 ≤ 140737488351232) (w1 : (a1 = none ∧ len1 = 0 ∧ cap1 = 0 ∧ z1 = []) ∨ ∃ x, a1 = some x ∧ len1 ≤ cap1 ∧ cap1 ≤ maxLen ∧ z1.length = cap1 ∧ (∀ i, i < z1.length → w.cell? (x.add i) = some (.int .u8 (z1.getD i 0))) ∧ ∀ n ∈ z1, (Lit.int .u8 n).wf = true) (y1 : len1 * 1 ≤ 140737488351232) :
    Calls Tryd.prog 54 #[.slice a0 len0 cap0, .slice a1 len1 cap1] w fun e w' => e = .returned (.bool true) ∧ Below w.heap.size w w' := by
  obtain ⟨l0, rfl, hr0, hm0, hw0, hc0⟩ := ReadsInt.ofRowC w0
  obtain ⟨l1, rfl, hr1, hm1, hw1, hc1⟩ := ReadsInt.ofRowC w1
  have h := P l0 l1 hm0 y0 hw0 hm1 y1 hw1
  refine (bytes_Equal.calls _ _ l0 _ _ l1 true w (Kd.C_of_reads (d := (0 : Int)) (h1 := fun _ => rfl) hr0) hc0 (Kd.C_of_reads (d := (0 : Int)) (h1 := fun _ => rfl) hr1) hc1 h).mono ?_
  rintro e w' ⟨rfl, hd⟩
  exact ⟨rfl, hd.below⟩

end Go.Proofs.YtbemlaalccoepaaDoor.QAll
