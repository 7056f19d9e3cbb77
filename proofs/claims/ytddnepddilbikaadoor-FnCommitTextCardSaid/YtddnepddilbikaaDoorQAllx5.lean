-- WRITTEN BY A PROGRAM OF THIS SESSION, out of the loaded program, with words of the kit
import Derived.Test.YtddnepddilbikaaDoorQAllx0
import Derived.Test.YtddnepddilbikaaDoorQAllx1
import Derived.Test.YtddnepddilbikaaDoorQAllx4
namespace Go.Proofs.YtddnepddilbikaaDoor.QAll
open Go.RowKit Go.Proofs.YtddnepddilbikaaDoorW.PrintWords Go.Proofs.YtddnepddilbikaaDoorW.PrintLast Go.Proofs.YtddnepddilbikaaDoorW.PrintMore
attribute [local go_sem] max2_int min2_int max_two min_two max_three min_three max_four min_four   -- for this text's walks alone
set_option linter.unusedVariables false
set_option linter.unusedSimpArgs false

/-! ### spec_IsTag: function 12 -/
def spec_IsTag.l0 : Nat → Int → Int → ByteArray → Int → ByteArray → ByteArray → ByteArray → Int → Int → ByteArray → ByteArray → Option (Bool)
  | 0, _, _, _, _, _, _, _, _, _, _, _ => none
  | k + 1, x10, x11, x153000, x153001, x153002, x153003, x153004, x153005, x153006, x153007, x153008 => if x11 < x10 then (if 0 ≤ x11 then (if x11 < (x153007.size : Int) then (if (bt x153007 x11) = 45 then (some false) else (spec_IsTag.l0 k x10 (wrap64 (x11 + 1)) x153000 x153001 x153002 x153003 x153004 x153005 x153006 x153007 x153008)) else (none)) else (none)) else ((spec_IsName40.f k x153000).bind fun t153 => (if t153 = true then ((spec_ObName.f x153001).bind fun t154 => (if t154.toList = ([] : List UInt8) then (some false) else (if x153002.toList = ([] : List UInt8) then (some false) else ((spec_IsPlain.f k x153002).bind fun t155 => (if t155 = true then ((spec_IsWho.f k x153003 x153004 x153005 x153006).bind fun t156 => (if t156 = true then (some (x153008.toList.isEmpty)) else (some false))) else (some false)))))) else (some false)))
def spec_IsTag.f (k : Nat) (a0_0 : ByteArray) (a0_1 : Int) (a0_2 : ByteArray) (a0_3 : ByteArray) (a0_4 : ByteArray) (a0_5 : Int) (a0_6 : Int) (a0_7 : ByteArray) (a0_8 : ByteArray) : Option (Bool) := if (a0_7.size : Int) > 1000000 then (some false) else (spec_IsTag.l0 k (a0_7.size : Int) 0 a0_0 a0_1 a0_2 a0_3 a0_4 a0_5 a0_6 a0_7 a0_8)
theorem spec_IsTag.mono_l : ∀ k, (∀ y0 y1 y2 y3 y4 y5 y6 y7 y8 y9 y10, LeO (spec_IsTag.l0 k y0 y1 y2 y3 y4 y5 y6 y7 y8 y9 y10) (spec_IsTag.l0 (k + 1) y0 y1 y2 y3 y4 y5 y6 y7 y8 y9 y10))
  | 0 => fun _ _ _ _ _ _ _ _ _ _ _ r h => by simp [spec_IsTag.l0] at h
  | k + 1 => by
    have ih0 := spec_IsTag.mono_l k
    · intro y0 y1 y2 y3 y4 y5 y6 y7 y8 y9 y10
      unfold spec_IsTag.l0
      repeat' first
      | (with_reducible exact ih0 _ _ _ _ _ _ _ _ _ _ _)
      | (with_reducible exact spec_IsName40.mono _ _)
      | (with_reducible exact spec_IsPlain.mono _ _)
      | (with_reducible exact spec_IsWho.mono _ _ _ _ _)
      | (with_reducible exact LeO.refl _)
      | (with_reducible exact LeO.none _)
      | (with_reducible refine LeO.ite ?_ ?_)
      | (with_reducible refine LeO.bind ?_ (fun _ => ?_))
      | exact ih0 _ _ _ _ _ _ _ _ _ _ _
      | exact spec_IsName40.mono _ _
      | exact spec_IsPlain.mono _ _
      | exact spec_IsWho.mono _ _ _ _ _
      | exact LeO.none _
      | refine LeO.ite ?_ ?_
      | refine LeO.bind ?_ (fun _ => ?_)
theorem spec_IsTag.mono : ∀ a0 a1 a2 a3 a4 a5 a6 a7 a8 k, LeO (spec_IsTag.f k a0 a1 a2 a3 a4 a5 a6 a7 a8) (spec_IsTag.f (k + 1) a0 a1 a2 a3 a4 a5 a6 a7 a8) := by
  intro a0 a1 a2 a3 a4 a5 a6 a7 a8 k
  have ih0 := spec_IsTag.mono_l k
  unfold spec_IsTag.f
  repeat' first
      | (with_reducible exact ih0 _ _ _ _ _ _ _ _ _ _ _)
      | (with_reducible exact spec_IsName40.mono _ _)
      | (with_reducible exact spec_IsPlain.mono _ _)
      | (with_reducible exact spec_IsWho.mono _ _ _ _ _)
      | (with_reducible exact LeO.refl _)
      | (with_reducible exact LeO.none _)
      | (with_reducible refine LeO.ite ?_ ?_)
      | (with_reducible refine LeO.bind ?_ (fun _ => ?_))
      | exact ih0 _ _ _ _ _ _ _ _ _ _ _
      | exact spec_IsName40.mono _ _
      | exact spec_IsPlain.mono _ _
      | exact spec_IsWho.mono _ _ _ _ _
      | exact LeO.none _
      | refine LeO.ite ?_ ?_
      | refine LeO.bind ?_ (fun _ => ?_)
/-! ### spec_two: function 68 -/
def spec_two.f (a0 : Int) : Option (ByteArray) := some (strOfNums (([(wrap64 (48 + (Int.tmod (wrap64 (Int.tdiv a0 10)) 10))) % 256, (wrap64 (48 + (Int.tmod a0 10))) % 256] : List Int)))
set_option maxHeartbeats 8000000 in
set_option maxRecDepth 100000 in
theorem spec_two.calls (a0 : Int) (r : ByteArray) (w : World) (h : spec_two.f a0 = some r) :
    Calls Tryd.prog 68 #[.int .i64 a0] w fun e w' => e = .returned (.string r) ∧ Below w.heap.size w w' := by
  have HB := Aside0.mk (Below.refl w.heap.size w)
  have H : (some (strOfNums (([(wrap64 (48 + (Int.tmod (wrap64 (Int.tdiv a0 10)) 10))) % 256, (wrap64 (48 + (Int.tmod a0 10))) % 256] : List Int)))) = some r := h
  clear h
  obtain ⟨y157, hy157⟩ : ∃ y_ : List Int, y_ = (([(wrap64 (48 + (Int.tmod (wrap64 (Int.tdiv a0 10)) 10))) % 256, (wrap64 (48 + (Int.tmod a0 10))) % 256] : List Int)) := ⟨_, rfl⟩
  replace H : (some (strOfNums y157)) = some r := by first | (rw [hy157]; with_reducible exact H) | (have H2_ := (Option.bind_some _ _).symm.trans H; rw [hy157]; with_reducible exact H2_) | (have H2_ := (Option.bind_some _ _).symm.trans H; with_reducible exact H2_) | with_reducible exact H | (rw [hy157]; exact H) | exact H
  have Ny157 := Aside0.mk hy157
  clear hy157
  obtain rfl := Option.some.inj H
  go_enter Tryd.func68, Tryd.ntmps68
  go_wp2_with (first | ((with_reducible refine gate_dst (N := 12) rfl ?_); refine Kd.R_lit (Kd.int .u8) _ 5 ?hg (N := 12) ?hd (xs := ([(wrap64 (48 + (Int.tmod (wrap64 (Int.tdiv a0 10)) 10))) % 256, (wrap64 (48 + (Int.tmod a0 10))) % 256] : List Int)) (inner := [.int .u8 ((wrap64 (48 + (Int.tmod (wrap64 (Int.tdiv a0 10)) 10))) % 256), .int .u8 ((wrap64 (48 + (Int.tmod a0 10))) % 256)]) (ok := fun _ => True) (okp := fun _ => True) ?hr ?hp (fun _ hk => hk) trivial (Below.refl _ _) (Nat.le_refl _) (by simp) ?_; (case hd => rfl); (case hg => rfl); (case hr => first | (go_simp; done) | (go_simp; rfl)); (case hp => exact (Reps.one (show Kd.M (Kd.int .u8) _ _ _ ((wrap64 (48 + (Int.tmod (wrap64 (Int.tdiv a0 10)) 10))) % 256) [.int .u8 ((wrap64 (48 + (Int.tmod (wrap64 (Int.tdiv a0 10)) 10))) % 256)] from rfl) (Reps.one (show Kd.M (Kd.int .u8) _ _ _ ((wrap64 (48 + (Int.tmod a0 10))) % 256) [.int .u8 ((wrap64 (48 + (Int.tmod a0 10))) % 256)] from rfl) (Reps.none _ _)))); intro v158 w2 ho3 hb hg_ hnew_; clear hg_ hnew_; (first | rw [← Ny157.out] at ho3 | (simp only [Int.reduceToNat] at ho3; rw [← Ny157.out] at ho3)); have n0_ := Aside0.mk (Kd.R_lower ho3 (below_size (by repeat (first | (with_reducible first | exact HB.out | apply below_alloc | apply pw_below_drewN | apply below_drew1) | exact HB.out)))); have n1_ := Aside0.mk (below_step (by repeat (first | (with_reducible first | exact HB.out | apply below_alloc | apply pw_below_drewN | apply below_drew1) | exact HB.out)) hb); clear HB; have HO159 := n0_; have HB := n1_; clear n0_ n1_; clear hb ho3; have hcv4 := own_string (P := Tryd.prog) Tryd.underlying24 Tryd.underlying5 Tryd.underlying9 (Kd.own_of_R HO159.out)))
  go_ret
  exact ⟨by first | rfl | (simp [errW_none, errW_some] <;> rfl) | (simp [*, errW_none, errW_some] <;> rfl), by repeat (first | (with_reducible first | exact HB.out | apply below_alloc | apply pw_below_drewN | apply below_drew1) | exact HB.out)⟩

/-! ### spec_ZoneText: function 58 -/
def spec_ZoneText.f (a0 : Int) : Option (ByteArray) := if a0 < 0 then ((spec_two.f (wrap64 (Int.tdiv (wrap64 (-a0)) 3600))).bind fun t160 => (if 1 + t160.size ≤ 9223372036854775807 then ((spec_two.f (Int.tmod (wrap64 (Int.tdiv (wrap64 (-a0)) 60)) 60)).bind fun t161 => (if ((⟨#[45]⟩ : ByteArray) ++ t160).size + t161.size ≤ 9223372036854775807 then (some (((⟨#[45]⟩ : ByteArray) ++ t160) ++ t161)) else (none))) else (none))) else ((spec_two.f (wrap64 (Int.tdiv a0 3600))).bind fun t162 => (if 1 + t162.size ≤ 9223372036854775807 then ((spec_two.f (Int.tmod (wrap64 (Int.tdiv a0 60)) 60)).bind fun t163 => (if ((⟨#[43]⟩ : ByteArray) ++ t162).size + t163.size ≤ 9223372036854775807 then (some (((⟨#[43]⟩ : ByteArray) ++ t162) ++ t163)) else (none))) else (none)))
set_option maxHeartbeats 8000000 in
set_option maxRecDepth 100000 in
theorem spec_ZoneText.calls (a0 : Int) (r : ByteArray) (w : World) (h : spec_ZoneText.f a0 = some r) :
    Calls Tryd.prog 58 #[.int .i64 a0] w fun e w' => e = .returned (.string r) ∧ Below w.heap.size w w' := by
  have HB := Aside0.mk (Below.refl w.heap.size w)
  have H : (if a0 < 0 then ((spec_two.f (wrap64 (Int.tdiv (wrap64 (-a0)) 3600))).bind fun t160 => (if 1 + t160.size ≤ 9223372036854775807 then ((spec_two.f (Int.tmod (wrap64 (Int.tdiv (wrap64 (-a0)) 60)) 60)).bind fun t161 => (if ((⟨#[45]⟩ : ByteArray) ++ t160).size + t161.size ≤ 9223372036854775807 then (some (((⟨#[45]⟩ : ByteArray) ++ t160) ++ t161)) else (none))) else (none))) else ((spec_two.f (wrap64 (Int.tdiv a0 3600))).bind fun t162 => (if 1 + t162.size ≤ 9223372036854775807 then ((spec_two.f (Int.tmod (wrap64 (Int.tdiv a0 60)) 60)).bind fun t163 => (if ((⟨#[43]⟩ : ByteArray) ++ t162).size + t163.size ≤ 9223372036854775807 then (some (((⟨#[43]⟩ : ByteArray) ++ t162) ++ t163)) else (none))) else (none)))) = some r := h
  clear h
  by_cases c2 : a0 < 0
  · rw [if_pos c2] at H
    have c2b0 : decide (a0 < 0) = true := decide_eq_true c2
    clear c2
    replace H := Option.bind_eq_some_iff.mp H
    obtain ⟨t160, A30, H⟩ := H
    replace H : (if 1 + t160.size ≤ 9223372036854775807 then ((spec_two.f (Int.tmod (wrap64 (Int.tdiv (wrap64 (-a0)) 60)) 60)).bind fun t161 => (if ((⟨#[45]⟩ : ByteArray) ++ t160).size + t161.size ≤ 9223372036854775807 then (some (((⟨#[45]⟩ : ByteArray) ++ t160) ++ t161)) else (none))) else (none)) = some r := H
    have A3 := Aside0.mk A30
    clear A30
    by_cases c4 : 1 + t160.size ≤ 9223372036854775807
    · rw [if_pos c4] at H
      have c4b0 := eq_true c4
      have c4b1 : decide (1 + t160.size ≤ 9223372036854775807) = true := decide_eq_true c4
      try have c4b2 : (9223372036854775807 < 1 + t160.size) = False := eq_false (Nat.not_lt.2 c4)
      replace H := Option.bind_eq_some_iff.mp H
      obtain ⟨t161, A50, H⟩ := H
      replace H : (if ((⟨#[45]⟩ : ByteArray) ++ t160).size + t161.size ≤ 9223372036854775807 then (some (((⟨#[45]⟩ : ByteArray) ++ t160) ++ t161)) else (none)) = some r := H
      have A5 := Aside0.mk A50
      clear A50
      by_cases c6 : ((⟨#[45]⟩ : ByteArray) ++ t160).size + t161.size ≤ 9223372036854775807
      · rw [if_pos c6] at H
        have c6b0 := eq_true c6
        try have c6b9 : (9223372036854775807 < 1 + t160.size + t161.size) = False := eq_false (by have h_ := c6; simp only [ByteArray.size_append] at h_; have e0_ : (⟨#[45]⟩ : ByteArray).size = 1 := rfl; omega)
        have c6b1 : decide (((⟨#[45]⟩ : ByteArray) ++ t160).size + t161.size ≤ 9223372036854775807) = true := decide_eq_true c6
        try have c6b2 : (9223372036854775807 < ((⟨#[45]⟩ : ByteArray) ++ t160).size + t161.size) = False := eq_false (Nat.not_lt.2 c6)
        obtain rfl := Option.some.inj H
        go_enter Tryd.func58, Tryd.ntmps58
        go_wp2_with (first | ((with_reducible refine gate_callee (f := 68) rfl ?_); refine goesL_ (some 11) rfl rfl Tryd.func68 (by kernel_rfl) rfl #[.int .i64 (wrap64 (Int.tdiv (wrap64 (-a0)) 3600))] rfl (by (try simp only [List.map_toArray, List.map_cons, List.map_nil]); first | done | rfl | (simp only [List.length_drop, List.length_take]; rfl)) ?_; (with_reducible refine (spec_two.calls (wrap64 (Int.tdiv (wrap64 (-a0)) 3600)) t160 _ A3.out).mono ?_); rintro e w7 ⟨rfl, hb⟩; refine ⟨_, rfl, ?_⟩; have n0_ := Aside0.mk (below_step (by repeat (first | (with_reducible first | exact HB.out | apply below_alloc | apply pw_below_drewN | apply below_drew1) | exact HB.out)) hb); clear HB; have HB := n0_; clear n0_; (try clear hb); (try clear hb2); (try clear hk); (try clear hi)) | ((with_reducible refine gate_callee (f := 68) rfl ?_); refine goesL_ (some 16) rfl rfl Tryd.func68 (by kernel_rfl) rfl #[.int .i64 (Int.tmod (wrap64 (Int.tdiv (wrap64 (-a0)) 60)) 60)] rfl (by (try simp only [List.map_toArray, List.map_cons, List.map_nil]); first | done | rfl | (simp only [List.length_drop, List.length_take]; rfl)) ?_; (with_reducible refine (spec_two.calls (Int.tmod (wrap64 (Int.tdiv (wrap64 (-a0)) 60)) 60) t161 _ A5.out).mono ?_); rintro e w8 ⟨rfl, hb⟩; refine ⟨_, rfl, ?_⟩; have n0_ := Aside0.mk (below_step (by repeat (first | (with_reducible first | exact HB.out | apply below_alloc | apply pw_below_drewN | apply below_drew1) | exact HB.out)) hb); clear HB; have HB := n0_; clear n0_; (try clear hb); (try clear hb2); (try clear hk); (try clear hi)))
        go_ret
        exact ⟨by first | rfl | (simp [errW_none, errW_some] <;> rfl) | (simp [*, errW_none, errW_some] <;> rfl), by repeat (first | (with_reducible first | exact HB.out | apply below_alloc | apply pw_below_drewN | apply below_drew1) | exact HB.out)⟩
      · rw [if_neg c6] at H
        exact absurd H (by simp)
    · rw [if_neg c4] at H
      exact absurd H (by simp)
  · rw [if_neg c2] at H
    have c2b0 : decide (a0 < 0) = false := decide_eq_false c2
    clear c2
    replace H := Option.bind_eq_some_iff.mp H
    obtain ⟨t162, A90, H⟩ := H
    replace H : (if 1 + t162.size ≤ 9223372036854775807 then ((spec_two.f (Int.tmod (wrap64 (Int.tdiv a0 60)) 60)).bind fun t163 => (if ((⟨#[43]⟩ : ByteArray) ++ t162).size + t163.size ≤ 9223372036854775807 then (some (((⟨#[43]⟩ : ByteArray) ++ t162) ++ t163)) else (none))) else (none)) = some r := H
    have A9 := Aside0.mk A90
    clear A90
    by_cases c10 : 1 + t162.size ≤ 9223372036854775807
    · rw [if_pos c10] at H
      have c10b0 := eq_true c10
      have c10b1 : decide (1 + t162.size ≤ 9223372036854775807) = true := decide_eq_true c10
      try have c10b2 : (9223372036854775807 < 1 + t162.size) = False := eq_false (Nat.not_lt.2 c10)
      replace H := Option.bind_eq_some_iff.mp H
      obtain ⟨t163, A110, H⟩ := H
      replace H : (if ((⟨#[43]⟩ : ByteArray) ++ t162).size + t163.size ≤ 9223372036854775807 then (some (((⟨#[43]⟩ : ByteArray) ++ t162) ++ t163)) else (none)) = some r := H
      have A11 := Aside0.mk A110
      clear A110
      by_cases c12 : ((⟨#[43]⟩ : ByteArray) ++ t162).size + t163.size ≤ 9223372036854775807
      · rw [if_pos c12] at H
        have c12b0 := eq_true c12
        try have c12b9 : (9223372036854775807 < 1 + t162.size + t163.size) = False := eq_false (by have h_ := c12; simp only [ByteArray.size_append] at h_; have e0_ : (⟨#[43]⟩ : ByteArray).size = 1 := rfl; omega)
        have c12b1 : decide (((⟨#[43]⟩ : ByteArray) ++ t162).size + t163.size ≤ 9223372036854775807) = true := decide_eq_true c12
        try have c12b2 : (9223372036854775807 < ((⟨#[43]⟩ : ByteArray) ++ t162).size + t163.size) = False := eq_false (Nat.not_lt.2 c12)
        obtain rfl := Option.some.inj H
        go_enter Tryd.func58, Tryd.ntmps58
        go_wp2_with (first | ((with_reducible refine gate_callee (f := 68) rfl ?_); refine goesL_ (some 11) rfl rfl Tryd.func68 (by kernel_rfl) rfl #[.int .i64 (wrap64 (Int.tdiv a0 3600))] rfl (by (try simp only [List.map_toArray, List.map_cons, List.map_nil]); first | done | rfl | (simp only [List.length_drop, List.length_take]; rfl)) ?_; (with_reducible refine (spec_two.calls (wrap64 (Int.tdiv a0 3600)) t162 _ A9.out).mono ?_); rintro e w13 ⟨rfl, hb⟩; refine ⟨_, rfl, ?_⟩; have n0_ := Aside0.mk (below_step (by repeat (first | (with_reducible first | exact HB.out | apply below_alloc | apply pw_below_drewN | apply below_drew1) | exact HB.out)) hb); clear HB; have HB := n0_; clear n0_; (try clear hb); (try clear hb2); (try clear hk); (try clear hi)) | ((with_reducible refine gate_callee (f := 68) rfl ?_); refine goesL_ (some 16) rfl rfl Tryd.func68 (by kernel_rfl) rfl #[.int .i64 (Int.tmod (wrap64 (Int.tdiv a0 60)) 60)] rfl (by (try simp only [List.map_toArray, List.map_cons, List.map_nil]); first | done | rfl | (simp only [List.length_drop, List.length_take]; rfl)) ?_; (with_reducible refine (spec_two.calls (Int.tmod (wrap64 (Int.tdiv a0 60)) 60) t163 _ A11.out).mono ?_); rintro e w14 ⟨rfl, hb⟩; refine ⟨_, rfl, ?_⟩; have n0_ := Aside0.mk (below_step (by repeat (first | (with_reducible first | exact HB.out | apply below_alloc | apply pw_below_drewN | apply below_drew1) | exact HB.out)) hb); clear HB; have HB := n0_; clear n0_; (try clear hb); (try clear hb2); (try clear hk); (try clear hi)))
        go_ret
        exact ⟨by first | rfl | (simp [errW_none, errW_some] <;> rfl) | (simp [*, errW_none, errW_some] <;> rfl), by repeat (first | (with_reducible first | exact HB.out | apply below_alloc | apply pw_below_drewN | apply below_drew1) | exact HB.out)⟩
      · rw [if_neg c12] at H
        exact absurd H (by simp)
    · rw [if_neg c10] at H
      exact absurd H (by simp)

end Go.Proofs.YtddnepddilbikaaDoor.QAll
