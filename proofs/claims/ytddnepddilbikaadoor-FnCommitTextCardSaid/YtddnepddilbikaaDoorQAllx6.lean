-- WRITTEN BY A PROGRAM OF THIS SESSION, out of the loaded program, with words of the kit
import Derived.Test.YtddnepddilbikaaDoorQAllx0
import Derived.Test.YtddnepddilbikaaDoorQAllx4
import Derived.Test.YtddnepddilbikaaDoorQAllx5
import Derived.Test.YtddnepddilbikaaDoorExtO
namespace Go.Proofs.YtddnepddilbikaaDoor.QAll
open Go.RowKit Go.Proofs.YtddnepddilbikaaDoorW.PrintWords Go.Proofs.YtddnepddilbikaaDoorW.PrintLast Go.Proofs.YtddnepddilbikaaDoorW.PrintMore
attribute [local go_sem] max2_int min2_int max_two min_two max_three min_three max_four min_four   -- for this text's walks alone
set_option linter.unusedVariables false
set_option linter.unusedSimpArgs false

/-! ### spec_WhoText: function 35 -/
def spec_WhoText.f (a0_0 : ByteArray) (a0_1 : ByteArray) (a0_2 : Int) (a0_3 : Int) : Option (ByteArray) := if a0_0.size + 2 ≤ 9223372036854775807 then (if (a0_0 ++ (⟨#[32, 60]⟩ : ByteArray)).size + a0_1.size ≤ 9223372036854775807 then (if ((a0_0 ++ (⟨#[32, 60]⟩ : ByteArray)) ++ a0_1).size + 2 ≤ 9223372036854775807 then ((spec_Decimal.f a0_2).bind fun t165 => (if (((a0_0 ++ (⟨#[32, 60]⟩ : ByteArray)) ++ a0_1) ++ (⟨#[62, 32]⟩ : ByteArray)).size + t165.size ≤ 9223372036854775807 then (if ((((a0_0 ++ (⟨#[32, 60]⟩ : ByteArray)) ++ a0_1) ++ (⟨#[62, 32]⟩ : ByteArray)) ++ t165).size + 1 ≤ 9223372036854775807 then ((spec_ZoneText.f a0_3).bind fun t166 => (if (((((a0_0 ++ (⟨#[32, 60]⟩ : ByteArray)) ++ a0_1) ++ (⟨#[62, 32]⟩ : ByteArray)) ++ t165) ++ (⟨#[32]⟩ : ByteArray)).size + t166.size ≤ 9223372036854775807 then (some ((((((a0_0 ++ (⟨#[32, 60]⟩ : ByteArray)) ++ a0_1) ++ (⟨#[62, 32]⟩ : ByteArray)) ++ t165) ++ (⟨#[32]⟩ : ByteArray)) ++ t166)) else (none))) else (none)) else (none))) else (none)) else (none)) else (none)
def spec_WhoText.T1 : Bool × List (List Nat × List Nat) := (true, [([], []), ([0], [0]), ([1], [1]), ([], []), ([3], [3]), ([2, 4], [2, 4]), ([5], [5]), ([], []), ([7], [7]), ([8], [8]), ([6, 9], [6, 9]), ([10], [10]), ([], []), ([12], [12]), ([13, 9], [13]), ([11, 14], [11, 14]), ([15, 14, 0, 1, 2, 3, 4, 5, 6, 7, 8, 9, 10, 11, 12, 13, 14, 15], [15])])
def spec_WhoText.B1 : List Nat := [0, 1, 3, 0, 8, 31, 63, 0, 128, 384, 1023, 2047, 0, 4096, 13184, 32767, 65535]
theorem spec_WhoText.tab1 : rtab .any (opsOf Tryd.f35 1) = spec_WhoText.T1 := by kernel_rfl
theorem spec_WhoText.bits1 : waitsOk spec_WhoText.T1.2 spec_WhoText.B1 = true := by kernel_rfl
set_option maxHeartbeats 8000000 in
set_option maxRecDepth 100000 in
theorem spec_WhoText.calls (a0_0 : ByteArray) (a0_1 : ByteArray) (a0_2 : Int) (a0_3 : Int) (r : ByteArray) (w : World) (h : spec_WhoText.f a0_0 a0_1 a0_2 a0_3 = some r) :
    Calls Tryd.prog 35 #[.agg #[.string a0_0, .string a0_1, .int .i64 a0_2, .int .i64 a0_3]] w fun e w' => e = .returned (.string r) ∧ Below w.heap.size w w' := by
  have hu30 := Tryd.underlying30
  have HB := Aside0.mk (Below.refl w.heap.size w)
  have H : (if a0_0.size + 2 ≤ 9223372036854775807 then (if (a0_0 ++ (⟨#[32, 60]⟩ : ByteArray)).size + a0_1.size ≤ 9223372036854775807 then (if ((a0_0 ++ (⟨#[32, 60]⟩ : ByteArray)) ++ a0_1).size + 2 ≤ 9223372036854775807 then ((spec_Decimal.f a0_2).bind fun t165 => (if (((a0_0 ++ (⟨#[32, 60]⟩ : ByteArray)) ++ a0_1) ++ (⟨#[62, 32]⟩ : ByteArray)).size + t165.size ≤ 9223372036854775807 then (if ((((a0_0 ++ (⟨#[32, 60]⟩ : ByteArray)) ++ a0_1) ++ (⟨#[62, 32]⟩ : ByteArray)) ++ t165).size + 1 ≤ 9223372036854775807 then ((spec_ZoneText.f a0_3).bind fun t166 => (if (((((a0_0 ++ (⟨#[32, 60]⟩ : ByteArray)) ++ a0_1) ++ (⟨#[62, 32]⟩ : ByteArray)) ++ t165) ++ (⟨#[32]⟩ : ByteArray)).size + t166.size ≤ 9223372036854775807 then (some ((((((a0_0 ++ (⟨#[32, 60]⟩ : ByteArray)) ++ a0_1) ++ (⟨#[62, 32]⟩ : ByteArray)) ++ t165) ++ (⟨#[32]⟩ : ByteArray)) ++ t166)) else (none))) else (none)) else (none))) else (none)) else (none)) else (none)) = some r := h
  clear h
  by_cases c2 : a0_0.size + 2 ≤ 9223372036854775807
  · rw [if_pos c2] at H
    have c2b0 := eq_true c2
    have c2b1 : decide (a0_0.size + 2 ≤ 9223372036854775807) = true := decide_eq_true c2
    try have c2b2 : (9223372036854775807 < a0_0.size + 2) = False := eq_false (Nat.not_lt.2 c2)
    by_cases c3 : (a0_0 ++ (⟨#[32, 60]⟩ : ByteArray)).size + a0_1.size ≤ 9223372036854775807
    · rw [if_pos c3] at H
      have c3b0 := eq_true c3
      try have c3b9_2 : (9223372036854775807 < a0_0.size + 2) = False := eq_false (by have h_ := c3; simp only [ByteArray.size_append] at h_; have e0_ : (⟨#[32, 60]⟩ : ByteArray).size = 2 := rfl; omega)
      try have c3b9_3 : (9223372036854775807 < a0_0.size + 2 + a0_1.size) = False := eq_false (by have h_ := c3; simp only [ByteArray.size_append] at h_; have e0_ : (⟨#[32, 60]⟩ : ByteArray).size = 2 := rfl; omega)
      have c3b1 : decide ((a0_0 ++ (⟨#[32, 60]⟩ : ByteArray)).size + a0_1.size ≤ 9223372036854775807) = true := decide_eq_true c3
      try have c3b2 : (9223372036854775807 < (a0_0 ++ (⟨#[32, 60]⟩ : ByteArray)).size + a0_1.size) = False := eq_false (Nat.not_lt.2 c3)
      by_cases c4 : ((a0_0 ++ (⟨#[32, 60]⟩ : ByteArray)) ++ a0_1).size + 2 ≤ 9223372036854775807
      · rw [if_pos c4] at H
        have c4b0 := eq_true c4
        have c4b1 : decide (((a0_0 ++ (⟨#[32, 60]⟩ : ByteArray)) ++ a0_1).size + 2 ≤ 9223372036854775807) = true := decide_eq_true c4
        try have c4b2 : (9223372036854775807 < ((a0_0 ++ (⟨#[32, 60]⟩ : ByteArray)) ++ a0_1).size + 2) = False := eq_false (Nat.not_lt.2 c4)
        replace H := Option.bind_eq_some_iff.mp H
        obtain ⟨t165, A50, H⟩ := H
        replace H : (if (((a0_0 ++ (⟨#[32, 60]⟩ : ByteArray)) ++ a0_1) ++ (⟨#[62, 32]⟩ : ByteArray)).size + t165.size ≤ 9223372036854775807 then (if ((((a0_0 ++ (⟨#[32, 60]⟩ : ByteArray)) ++ a0_1) ++ (⟨#[62, 32]⟩ : ByteArray)) ++ t165).size + 1 ≤ 9223372036854775807 then ((spec_ZoneText.f a0_3).bind fun t166 => (if (((((a0_0 ++ (⟨#[32, 60]⟩ : ByteArray)) ++ a0_1) ++ (⟨#[62, 32]⟩ : ByteArray)) ++ t165) ++ (⟨#[32]⟩ : ByteArray)).size + t166.size ≤ 9223372036854775807 then (some ((((((a0_0 ++ (⟨#[32, 60]⟩ : ByteArray)) ++ a0_1) ++ (⟨#[62, 32]⟩ : ByteArray)) ++ t165) ++ (⟨#[32]⟩ : ByteArray)) ++ t166)) else (none))) else (none)) else (none)) = some r := H
        have A5 := Aside0.mk A50
        clear A50
        by_cases c6 : (((a0_0 ++ (⟨#[32, 60]⟩ : ByteArray)) ++ a0_1) ++ (⟨#[62, 32]⟩ : ByteArray)).size + t165.size ≤ 9223372036854775807
        · rw [if_pos c6] at H
          have c6b0 := eq_true c6
          try have c6b9_2 : (9223372036854775807 < a0_0.size + 2) = False := eq_false (by have h_ := c6; simp only [ByteArray.size_append] at h_; have e0_ : (⟨#[32, 60]⟩ : ByteArray).size = 2 := rfl; have e1_ : (⟨#[62, 32]⟩ : ByteArray).size = 2 := rfl; omega)
          try have c6b9_3 : (9223372036854775807 < a0_0.size + 2 + a0_1.size) = False := eq_false (by have h_ := c6; simp only [ByteArray.size_append] at h_; have e0_ : (⟨#[32, 60]⟩ : ByteArray).size = 2 := rfl; have e1_ : (⟨#[62, 32]⟩ : ByteArray).size = 2 := rfl; omega)
          try have c6b9_4 : (9223372036854775807 < a0_0.size + 2 + a0_1.size + 2) = False := eq_false (by have h_ := c6; simp only [ByteArray.size_append] at h_; have e0_ : (⟨#[32, 60]⟩ : ByteArray).size = 2 := rfl; have e1_ : (⟨#[62, 32]⟩ : ByteArray).size = 2 := rfl; omega)
          try have c6b9_5 : (9223372036854775807 < a0_0.size + 2 + a0_1.size + 2 + t165.size) = False := eq_false (by have h_ := c6; simp only [ByteArray.size_append] at h_; have e0_ : (⟨#[32, 60]⟩ : ByteArray).size = 2 := rfl; have e1_ : (⟨#[62, 32]⟩ : ByteArray).size = 2 := rfl; omega)
          have c6b1 : decide ((((a0_0 ++ (⟨#[32, 60]⟩ : ByteArray)) ++ a0_1) ++ (⟨#[62, 32]⟩ : ByteArray)).size + t165.size ≤ 9223372036854775807) = true := decide_eq_true c6
          try have c6b2 : (9223372036854775807 < (((a0_0 ++ (⟨#[32, 60]⟩ : ByteArray)) ++ a0_1) ++ (⟨#[62, 32]⟩ : ByteArray)).size + t165.size) = False := eq_false (Nat.not_lt.2 c6)
          by_cases c7 : ((((a0_0 ++ (⟨#[32, 60]⟩ : ByteArray)) ++ a0_1) ++ (⟨#[62, 32]⟩ : ByteArray)) ++ t165).size + 1 ≤ 9223372036854775807
          · rw [if_pos c7] at H
            have c7b0 := eq_true c7
            have c7b1 : decide (((((a0_0 ++ (⟨#[32, 60]⟩ : ByteArray)) ++ a0_1) ++ (⟨#[62, 32]⟩ : ByteArray)) ++ t165).size + 1 ≤ 9223372036854775807) = true := decide_eq_true c7
            try have c7b2 : (9223372036854775807 < ((((a0_0 ++ (⟨#[32, 60]⟩ : ByteArray)) ++ a0_1) ++ (⟨#[62, 32]⟩ : ByteArray)) ++ t165).size + 1) = False := eq_false (Nat.not_lt.2 c7)
            replace H := Option.bind_eq_some_iff.mp H
            obtain ⟨t166, A80, H⟩ := H
            replace H : (if (((((a0_0 ++ (⟨#[32, 60]⟩ : ByteArray)) ++ a0_1) ++ (⟨#[62, 32]⟩ : ByteArray)) ++ t165) ++ (⟨#[32]⟩ : ByteArray)).size + t166.size ≤ 9223372036854775807 then (some ((((((a0_0 ++ (⟨#[32, 60]⟩ : ByteArray)) ++ a0_1) ++ (⟨#[62, 32]⟩ : ByteArray)) ++ t165) ++ (⟨#[32]⟩ : ByteArray)) ++ t166)) else (none)) = some r := H
            have A8 := Aside0.mk A80
            clear A80
            by_cases c9 : (((((a0_0 ++ (⟨#[32, 60]⟩ : ByteArray)) ++ a0_1) ++ (⟨#[62, 32]⟩ : ByteArray)) ++ t165) ++ (⟨#[32]⟩ : ByteArray)).size + t166.size ≤ 9223372036854775807
            · rw [if_pos c9] at H
              have c9b0 := eq_true c9
              try have c9b9_2 : (9223372036854775807 < a0_0.size + 2) = False := eq_false (by have h_ := c9; simp only [ByteArray.size_append] at h_; have e0_ : (⟨#[32, 60]⟩ : ByteArray).size = 2 := rfl; have e1_ : (⟨#[62, 32]⟩ : ByteArray).size = 2 := rfl; have e2_ : (⟨#[32]⟩ : ByteArray).size = 1 := rfl; omega)
              try have c9b9_3 : (9223372036854775807 < a0_0.size + 2 + a0_1.size) = False := eq_false (by have h_ := c9; simp only [ByteArray.size_append] at h_; have e0_ : (⟨#[32, 60]⟩ : ByteArray).size = 2 := rfl; have e1_ : (⟨#[62, 32]⟩ : ByteArray).size = 2 := rfl; have e2_ : (⟨#[32]⟩ : ByteArray).size = 1 := rfl; omega)
              try have c9b9_4 : (9223372036854775807 < a0_0.size + 2 + a0_1.size + 2) = False := eq_false (by have h_ := c9; simp only [ByteArray.size_append] at h_; have e0_ : (⟨#[32, 60]⟩ : ByteArray).size = 2 := rfl; have e1_ : (⟨#[62, 32]⟩ : ByteArray).size = 2 := rfl; have e2_ : (⟨#[32]⟩ : ByteArray).size = 1 := rfl; omega)
              try have c9b9_5 : (9223372036854775807 < a0_0.size + 2 + a0_1.size + 2 + t165.size) = False := eq_false (by have h_ := c9; simp only [ByteArray.size_append] at h_; have e0_ : (⟨#[32, 60]⟩ : ByteArray).size = 2 := rfl; have e1_ : (⟨#[62, 32]⟩ : ByteArray).size = 2 := rfl; have e2_ : (⟨#[32]⟩ : ByteArray).size = 1 := rfl; omega)
              try have c9b9_6 : (9223372036854775807 < a0_0.size + 2 + a0_1.size + 2 + t165.size + 1) = False := eq_false (by have h_ := c9; simp only [ByteArray.size_append] at h_; have e0_ : (⟨#[32, 60]⟩ : ByteArray).size = 2 := rfl; have e1_ : (⟨#[62, 32]⟩ : ByteArray).size = 2 := rfl; have e2_ : (⟨#[32]⟩ : ByteArray).size = 1 := rfl; omega)
              try have c9b9_7 : (9223372036854775807 < a0_0.size + 2 + a0_1.size + 2 + t165.size + 1 + t166.size) = False := eq_false (by have h_ := c9; simp only [ByteArray.size_append] at h_; have e0_ : (⟨#[32, 60]⟩ : ByteArray).size = 2 := rfl; have e1_ : (⟨#[62, 32]⟩ : ByteArray).size = 2 := rfl; have e2_ : (⟨#[32]⟩ : ByteArray).size = 1 := rfl; omega)
              have c9b1 : decide ((((((a0_0 ++ (⟨#[32, 60]⟩ : ByteArray)) ++ a0_1) ++ (⟨#[62, 32]⟩ : ByteArray)) ++ t165) ++ (⟨#[32]⟩ : ByteArray)).size + t166.size ≤ 9223372036854775807) = true := decide_eq_true c9
              try have c9b2 : (9223372036854775807 < (((((a0_0 ++ (⟨#[32, 60]⟩ : ByteArray)) ++ a0_1) ++ (⟨#[62, 32]⟩ : ByteArray)) ++ t165) ++ (⟨#[32]⟩ : ByteArray)).size + t166.size) = False := eq_false (Nat.not_lt.2 c9)
              obtain rfl := Option.some.inj H
              go_enter Tryd.func35, Tryd.ntmps35
              try go_wp2_with (first | ((with_reducible refine gate_dst (N := 1) rfl ?_); refine box_event ?hg (N := 1) ?hd (cs := #[.string a0_0, .string a0_1, .int .i64 a0_2, .int .i64 a0_3]) (t := 30) ?hr ?_; (case hd => rfl); (case hg => rfl); (case hr => first | (go_simp; done) | (go_simp; rfl)); intro gb164 hg w10 hbox hb; have n0_ := Aside0.mk (below_step (by repeat (first | (with_reducible first | exact HB.out | apply below_alloc | apply pw_below_drewN | apply below_drew1) | exact HB.out)) hb); have n1_ := Aside0.mk (hbox); have n2_ := Aside0.mk ((by rw [hg]; exact (below_size (by repeat (first | (with_reducible first | exact HB.out | apply below_alloc | apply pw_below_drewN | apply below_drew1) | exact HB.out))) : w.heap.size ≤ gb164)); have n3_ := Aside0.mk ((by rw [hg]; exact (below_size (by repeat (first | (with_reducible first | exact HB.out | apply below_alloc | apply pw_below_drewN | apply below_drew1) | exact HB.out))) : w.heap.size ≤ gb164)); clear HB; have HB := n0_; have BK164 := n1_; have GW164 := n2_; have GE164 := n3_; clear n0_ n1_ n2_ n3_; clear hb hbox hg))
              have n0_ := Aside0.mk (blk_drew BK164.out)
              have n1_ := Aside0.mk (below_drew1 HB.out)
              clear BK164
              clear HB
              have BK164 := n0_
              have HB := n1_
              clear n0_ n1_
              refine start_ (n := 17) (S := fun w' => w'.cell? ⟨gb164, 0, none⟩ = some (.string a0_0) ∧ w'.cell? ⟨gb164, 1, none⟩ = some (.string a0_1) ∧ w'.cell? ⟨gb164, 2, none⟩ = some (.int .i64 a0_2) ∧ w'.cell? ⟨gb164, 3, none⟩ = some (.int .i64 a0_3)) (ds := []) #[false, false, false, false, false, false, false, false, false, false, false, false, false, false, false, false, false] (by kernel_rfl) rfl rfl ⟨(blk_cell BK164.out 0).trans rfl, (blk_cell BK164.out 1).trans rfl, (blk_cell BK164.out 2).trans rfl, (blk_cell BK164.out 3).trans rfl⟩ (fun hHeld => ?_); refine with_tabW spec_WhoText.tab1 spec_WhoText.bits1 (fun HT_ HW_ => ?_)
              generalize w10.drew = w11 at BK164 HB hHeld ⊢
              refine pure_ (i := 0) (N := some 3) (v := ?_) (a' := ?_) #[true, false, false, false, false, false, false, false, false, false, false, false, false, false, false, false, false] rfl rfl (any_of HT_.out (by kernel_rfl)) (fun _ _ _ h => h) (Or.inl ⟨by rfl, ?_⟩) ?_ ?_
              rotate_left
              · intro w'
                go_simp
                with_reducible rfl
              rotate_left
              · simp only [Act.put, List.setIfInBounds_toArray, List.set_cons_zero, List.set_cons_succ, i64_w, i32_w]
                rfl
              refine pure_ (i := 3) (N := some 6) (v := ?_) (a' := ?_) #[true, false, false, true, false, false, false, false, false, false, false, false, false, false, false, false, false] rfl rfl (any_of HT_.out (by kernel_rfl)) (fun _ _ _ h => h) (Or.inl ⟨by rfl, ?_⟩) ?_ ?_
              rotate_left
              · intro w'
                go_simp
                with_reducible rfl
              rotate_left
              · simp only [Act.put, List.setIfInBounds_toArray, List.set_cons_zero, List.set_cons_succ, i64_w, i32_w]
                rfl
              refine pure_ (i := 7) (N := some 10) (v := ?_) (a' := ?_) #[true, false, false, true, false, false, false, true, false, false, false, false, false, false, false, false, false] rfl rfl (any_of HT_.out (by kernel_rfl)) (fun _ _ _ h => h) (Or.inl ⟨by rfl, ?_⟩) ?_ ?_
              rotate_left
              · intro w'
                go_simp
                with_reducible rfl
              rotate_left
              · simp only [Act.put, List.setIfInBounds_toArray, List.set_cons_zero, List.set_cons_succ, i64_w, i32_w]
                rfl
              refine pure_ (i := 12) (N := some 15) (v := ?_) (a' := ?_) #[true, false, false, true, false, false, false, true, false, false, false, false, true, false, false, false, false] rfl rfl (any_of HT_.out (by kernel_rfl)) (fun _ _ _ h => h) (Or.inl ⟨by rfl, ?_⟩) ?_ ?_
              rotate_left
              · intro w'
                go_simp
                with_reducible rfl
              rotate_left
              · simp only [Act.put, List.setIfInBounds_toArray, List.set_cons_zero, List.set_cons_succ, i64_w, i32_w]
                rfl
              refine take_ (i := 1) (N := some 4) (v := ?_) (a' := ?_) #[true, true, false, true, false, false, false, true, false, false, false, false, true, false, false, false, false] rfl rfl (take_ofW HT_.out HW_.out (by kernel_rfl)) (fun _ _ _ h => h) (Or.inl ⟨by rfl, ?_⟩) hHeld ?_ ?_
              rotate_left
              · rintro w' ⟨s0, s1, s2, s3⟩
                go_simp
                with_reducible rfl
              rotate_left
              · simp only [Act.put, List.setIfInBounds_toArray, List.set_cons_zero, List.set_cons_succ, i64_w, i32_w]
                rfl
              refine pure_ (i := 2) (N := some 5) (v := ?_) (a' := ?_) #[true, true, true, true, false, false, false, true, false, false, false, false, true, false, false, false, false] rfl rfl (any_of HT_.out (by kernel_rfl)) (fun _ _ _ h => h) (Or.inl ⟨by rfl, ?_⟩) ?_ ?_
              rotate_left
              · intro w'
                go_simp
                with_reducible rfl
              rotate_left
              · simp only [Act.put, List.setIfInBounds_toArray, List.set_cons_zero, List.set_cons_succ, i64_w, i32_w]
                rfl
              refine take_ (i := 4) (N := some 7) (v := ?_) (a' := ?_) #[true, true, true, true, true, false, false, true, false, false, false, false, true, false, false, false, false] rfl rfl (take_ofW HT_.out HW_.out (by kernel_rfl)) (fun _ _ _ h => h) (Or.inl ⟨by rfl, ?_⟩) hHeld ?_ ?_
              rotate_left
              · rintro w' ⟨s0, s1, s2, s3⟩
                go_simp
                with_reducible rfl
              rotate_left
              · simp only [Act.put, List.setIfInBounds_toArray, List.set_cons_zero, List.set_cons_succ, i64_w, i32_w]
                rfl
              refine pure_ (i := 5) (N := some 8) (v := ?_) (a' := ?_) #[true, true, true, true, true, true, false, true, false, false, false, false, true, false, false, false, false] rfl rfl (any_of HT_.out (by kernel_rfl)) (fun _ _ _ h => h) (Or.inl ⟨by rfl, ?_⟩) ?_ ?_
              rotate_left
              · intro w'
                go_simp
                with_reducible rfl
              rotate_left
              · simp only [Act.put, List.setIfInBounds_toArray, List.set_cons_zero, List.set_cons_succ, i64_w, i32_w]
                rfl
              refine pure_ (i := 6) (N := some 9) (v := ?_) (a' := ?_) #[true, true, true, true, true, true, true, true, false, false, false, false, true, false, false, false, false] rfl rfl (any_of HT_.out (by kernel_rfl)) (fun _ _ _ h => h) (Or.inl ⟨by rfl, ?_⟩) ?_ ?_
              rotate_left
              · intro w'
                go_simp
                with_reducible rfl
              rotate_left
              · simp only [Act.put, List.setIfInBounds_toArray, List.set_cons_zero, List.set_cons_succ, i64_w, i32_w]
                rfl
              refine take_ (i := 8) (N := some 11) (v := ?_) (a' := ?_) #[true, true, true, true, true, true, true, true, true, false, false, false, true, false, false, false, false] rfl rfl (take_ofW HT_.out HW_.out (by kernel_rfl)) (fun _ _ _ h => h) (Or.inl ⟨by rfl, ?_⟩) hHeld ?_ ?_
              rotate_left
              · rintro w' ⟨s0, s1, s2, s3⟩
                go_simp
                with_reducible rfl
              rotate_left
              · simp only [Act.put, List.setIfInBounds_toArray, List.set_cons_zero, List.set_cons_succ, i64_w, i32_w]
                rfl
              refine take_ (i := 13) (N := some 16) (v := ?_) (a' := ?_) #[true, true, true, true, true, true, true, true, true, false, false, false, true, true, false, false, false] rfl rfl (take_ofW HT_.out HW_.out (by kernel_rfl)) (fun _ _ _ h => h) (Or.inl ⟨by rfl, ?_⟩) hHeld ?_ ?_
              rotate_left
              · rintro w' ⟨s0, s1, s2, s3⟩
                go_simp
                with_reducible rfl
              rotate_left
              · simp only [Act.put, List.setIfInBounds_toArray, List.set_cons_zero, List.set_cons_succ, i64_w, i32_w]
                rfl
              refine one_ (i := 9) (N := some 12) #[true, true, true, true, true, true, true, true, true, true, false, false, true, true, false, false, false] rfl rfl (one_of HT_.out (by kernel_rfl)) (by decide) (fun K hK => ?_)
              refine goes_ Tryd.func57 (by kernel_rfl) rfl #[.int .i64 a0_2] (by rfl) rfl rfl (by (try simp only [List.map_toArray, List.map_cons, List.map_nil]); first | done | rfl | (simp only [List.length_drop, List.length_take]; rfl)) ?_
              with_reducible refine (spec_Decimal.calls a0_2 t165 _ A5.out).mono ?_
              rintro e w12 ⟨rfl, hb⟩
              refine ⟨_, rfl, ?_⟩
              have n0_ := Aside0.mk (blk_below (g := gb164) (o := .cells #[.string a0_0, .string a0_1, .int .i64 a0_2, .int .i64 a0_3] 30 (0, 0)) (by (with_reducible repeat (first | refine blk_drewN ?_ _ | refine blk_drew ?_ | refine blk_alloc ?_ _)); exact BK164.out) hb)
              have n1_ := Aside0.mk (below_step (by repeat (first | (with_reducible first | exact HB.out | apply below_alloc | apply pw_below_drewN | apply below_drew1 | refine below_set ?_ GE164.out) | exact HB.out)) hb)
              clear BK164
              clear HB
              have BK164 := n0_
              have HB := n1_
              clear n0_ n1_
              (try clear hb)
              (try clear hb2)
              (try clear hk)
              (try clear hi)
              refine hK.out _ _ ⟨(blk_cell BK164.out 0).trans rfl, (blk_cell BK164.out 1).trans rfl, (blk_cell BK164.out 2).trans rfl, (blk_cell BK164.out 3).trans rfl⟩ (fun hHeld => ?_)
              clear hK K
              refine norm_ (a' := ?_) ?_ ?_
              rotate_left
              · show Act.put _ (some 12) _ = _
                simp only [Act.put, List.setIfInBounds_toArray, List.set_cons_zero, List.set_cons_succ, i64_w, i32_w]
                rfl
              refine pure_ (i := 10) (N := some 13) (v := ?_) (a' := ?_) #[true, true, true, true, true, true, true, true, true, true, true, false, true, true, false, false, false] rfl rfl (any_of HT_.out (by kernel_rfl)) (fun _ _ _ h => h) (Or.inl ⟨by rfl, ?_⟩) ?_ ?_
              rotate_left
              · intro w'
                go_simp
                with_reducible rfl
              rotate_left
              · simp only [Act.put, List.setIfInBounds_toArray, List.set_cons_zero, List.set_cons_succ, i64_w, i32_w]
                rfl
              refine pure_ (i := 11) (N := some 14) (v := ?_) (a' := ?_) #[true, true, true, true, true, true, true, true, true, true, true, true, true, true, false, false, false] rfl rfl (any_of HT_.out (by kernel_rfl)) (fun _ _ _ h => h) (Or.inl ⟨by rfl, ?_⟩) ?_ ?_
              rotate_left
              · intro w'
                go_simp
                with_reducible rfl
              rotate_left
              · simp only [Act.put, List.setIfInBounds_toArray, List.set_cons_zero, List.set_cons_succ, i64_w, i32_w]
                rfl
              refine one_ (i := 14) (N := some 17) #[true, true, true, true, true, true, true, true, true, true, true, true, true, true, true, false, false] rfl rfl (one_of HT_.out (by kernel_rfl)) (by decide) (fun K hK => ?_)
              refine goes_ Tryd.func58 (by kernel_rfl) rfl #[.int .i64 a0_3] (by rfl) rfl rfl (by (try simp only [List.map_toArray, List.map_cons, List.map_nil]); first | done | rfl | (simp only [List.length_drop, List.length_take]; rfl)) ?_
              with_reducible refine (spec_ZoneText.calls a0_3 t166 _ A8.out).mono ?_
              rintro e w13 ⟨rfl, hb⟩
              refine ⟨_, rfl, ?_⟩
              have n0_ := Aside0.mk (blk_below (g := gb164) (o := .cells #[.string a0_0, .string a0_1, .int .i64 a0_2, .int .i64 a0_3] 30 (0, 0)) (by (with_reducible repeat (first | refine blk_drewN ?_ _ | refine blk_drew ?_ | refine blk_alloc ?_ _)); exact BK164.out) hb)
              have n1_ := Aside0.mk (below_step (by repeat (first | (with_reducible first | exact HB.out | apply below_alloc | apply pw_below_drewN | apply below_drew1 | refine below_set ?_ GE164.out) | exact HB.out)) hb)
              clear BK164
              clear HB
              have BK164 := n0_
              have HB := n1_
              clear n0_ n1_
              (try clear hb)
              (try clear hb2)
              (try clear hk)
              (try clear hi)
              refine hK.out _ _ ⟨(blk_cell BK164.out 0).trans rfl, (blk_cell BK164.out 1).trans rfl, (blk_cell BK164.out 2).trans rfl, (blk_cell BK164.out 3).trans rfl⟩ (fun hHeld => ?_)
              clear hK K
              refine norm_ (a' := ?_) ?_ ?_
              rotate_left
              · show Act.put _ (some 17) _ = _
                simp only [Act.put, List.setIfInBounds_toArray, List.set_cons_zero, List.set_cons_succ, i64_w, i32_w]
                rfl
              refine pure_ (i := 15) (N := some 18) (v := ?_) (a' := ?_) #[true, true, true, true, true, true, true, true, true, true, true, true, true, true, true, true, false] rfl rfl (any_of HT_.out (by kernel_rfl)) (fun _ _ _ h => h) (Or.inl ⟨by rfl, ?_⟩) ?_ ?_
              rotate_left
              · intro w'
                go_simp
                with_reducible rfl
              rotate_left
              · simp only [Act.put, List.setIfInBounds_toArray, List.set_cons_zero, List.set_cons_succ, i64_w, i32_w]
                rfl
              refine pure_ (i := 16) (N := some 2) (v := ?_) (a' := ?_) #[true, true, true, true, true, true, true, true, true, true, true, true, true, true, true, true, true] rfl rfl (any_of HT_.out (by kernel_rfl)) (fun _ _ _ h => h) (Or.inl ⟨by rfl, ?_⟩) ?_ ?_
              rotate_left
              · intro w'
                go_simp
                with_reducible rfl
              rotate_left
              · simp only [Act.put, List.setIfInBounds_toArray, List.set_cons_zero, List.set_cons_succ, i64_w, i32_w]
                rfl
              refine done_ (done_of HT_.out (by kernel_rfl)) ?_
              try go_wp2
              go_ret
              exact ⟨by first | rfl | (simp [errW_none, errW_some] <;> rfl) | (simp [*, errW_none, errW_some] <;> rfl), by repeat (first | (with_reducible first | exact HB.out | apply below_alloc | apply pw_below_drewN | apply below_drew1 | refine below_set ?_ GE164.out) | exact HB.out)⟩
            · rw [if_neg c9] at H
              exact absurd H (by simp)
          · rw [if_neg c7] at H
            exact absurd H (by simp)
        · rw [if_neg c6] at H
          exact absurd H (by simp)
      · rw [if_neg c4] at H
        exact absurd H (by simp)
    · rw [if_neg c3] at H
      exact absurd H (by simp)
  · rw [if_neg c2] at H
    exact absurd H (by simp)

/-! ### spec_TagText: function 14 -/
def spec_TagText.f (a0_0 : ByteArray) (a0_1 : Int) (a0_2 : ByteArray) (a0_3 : ByteArray) (a0_4 : ByteArray) (a0_5 : Int) (a0_6 : Int) (a0_7 : ByteArray) (a0_8 : ByteArray) : Option (ByteArray) := if 7 + a0_0.size ≤ 9223372036854775807 then (if ((⟨#[111, 98, 106, 101, 99, 116, 32]⟩ : ByteArray) ++ a0_0).size + 6 ≤ 9223372036854775807 then ((spec_ObName.f a0_1).bind fun t168 => (if (((⟨#[111, 98, 106, 101, 99, 116, 32]⟩ : ByteArray) ++ a0_0) ++ (⟨#[10, 116, 121, 112, 101, 32]⟩ : ByteArray)).size + t168.size ≤ 9223372036854775807 then (if ((((⟨#[111, 98, 106, 101, 99, 116, 32]⟩ : ByteArray) ++ a0_0) ++ (⟨#[10, 116, 121, 112, 101, 32]⟩ : ByteArray)) ++ t168).size + 5 ≤ 9223372036854775807 then (if (((((⟨#[111, 98, 106, 101, 99, 116, 32]⟩ : ByteArray) ++ a0_0) ++ (⟨#[10, 116, 121, 112, 101, 32]⟩ : ByteArray)) ++ t168) ++ (⟨#[10, 116, 97, 103, 32]⟩ : ByteArray)).size + a0_2.size ≤ 9223372036854775807 then (if ((((((⟨#[111, 98, 106, 101, 99, 116, 32]⟩ : ByteArray) ++ a0_0) ++ (⟨#[10, 116, 121, 112, 101, 32]⟩ : ByteArray)) ++ t168) ++ (⟨#[10, 116, 97, 103, 32]⟩ : ByteArray)) ++ a0_2).size + 8 ≤ 9223372036854775807 then ((spec_WhoText.f a0_3 a0_4 a0_5 a0_6).bind fun t169 => (if (((((((⟨#[111, 98, 106, 101, 99, 116, 32]⟩ : ByteArray) ++ a0_0) ++ (⟨#[10, 116, 121, 112, 101, 32]⟩ : ByteArray)) ++ t168) ++ (⟨#[10, 116, 97, 103, 32]⟩ : ByteArray)) ++ a0_2) ++ (⟨#[10, 116, 97, 103, 103, 101, 114, 32]⟩ : ByteArray)).size + t169.size ≤ 9223372036854775807 then (if ((((((((⟨#[111, 98, 106, 101, 99, 116, 32]⟩ : ByteArray) ++ a0_0) ++ (⟨#[10, 116, 121, 112, 101, 32]⟩ : ByteArray)) ++ t168) ++ (⟨#[10, 116, 97, 103, 32]⟩ : ByteArray)) ++ a0_2) ++ (⟨#[10, 116, 97, 103, 103, 101, 114, 32]⟩ : ByteArray)) ++ t169).size + 2 ≤ 9223372036854775807 then (if (((((((((⟨#[111, 98, 106, 101, 99, 116, 32]⟩ : ByteArray) ++ a0_0) ++ (⟨#[10, 116, 121, 112, 101, 32]⟩ : ByteArray)) ++ t168) ++ (⟨#[10, 116, 97, 103, 32]⟩ : ByteArray)) ++ a0_2) ++ (⟨#[10, 116, 97, 103, 103, 101, 114, 32]⟩ : ByteArray)) ++ t169) ++ (⟨#[10, 10]⟩ : ByteArray)).size + a0_7.size ≤ 9223372036854775807 then (some ((((((((((⟨#[111, 98, 106, 101, 99, 116, 32]⟩ : ByteArray) ++ a0_0) ++ (⟨#[10, 116, 121, 112, 101, 32]⟩ : ByteArray)) ++ t168) ++ (⟨#[10, 116, 97, 103, 32]⟩ : ByteArray)) ++ a0_2) ++ (⟨#[10, 116, 97, 103, 103, 101, 114, 32]⟩ : ByteArray)) ++ t169) ++ (⟨#[10, 10]⟩ : ByteArray)) ++ a0_7)) else (none)) else (none)) else (none))) else (none)) else (none)) else (none)) else (none))) else (none)) else (none)
def spec_TagText.T1 : Bool × List (List Nat × List Nat) := (true, [([], []), ([0], [0]), ([1], [1]), ([2], [2]), ([], []), ([4], [4]), ([5], [5]), ([3, 6], [3, 6]), ([7], [7]), ([], []), ([9], [9]), ([8, 10], [8, 10]), ([11], [11]), ([], []), ([13], [13]), ([14, 6], [14]), ([12, 15], [12, 15]), ([16], [16]), ([], []), ([18], [18]), ([17, 19], [17, 19]), ([20, 15, 0, 1, 2, 3, 4, 5, 6, 7, 8, 9, 10, 11, 12, 13, 14, 15, 16, 17, 18, 19, 20], [20])])
def spec_TagText.B1 : List Nat := [0, 1, 3, 7, 0, 16, 48, 127, 255, 0, 512, 2047, 4095, 0, 8192, 24688, 65535, 131071, 0, 262144, 1048575, 2097151]
theorem spec_TagText.tab1 : rtab .any (opsOf Tryd.f14 1) = spec_TagText.T1 := by kernel_rfl
theorem spec_TagText.bits1 : waitsOk spec_TagText.T1.2 spec_TagText.B1 = true := by kernel_rfl
end Go.Proofs.YtddnepddilbikaaDoor.QAll
