-- WRITTEN BY A PROGRAM OF THIS SESSION, out of the loaded program, with words of the kit
import Derived.Test.YtlnfkpmmnennbaaQAllx0
import Derived.Test.YtlnfkpmmnennbaaExtM
namespace Go.Proofs.Ytlnfkpmmnennbaa.QAll
noncomputable section
open Go.RowKit Go.Proofs.YtlnfkpmmnennbaaW.PrintWords Go.Proofs.YtlnfkpmmnennbaaW.PrintLast Go.Proofs.YtlnfkpmmnennbaaW.PrintMore
attribute [local go_sem] max2_int min2_int max_two min_two max_three min_three max_four min_four   -- for this text's walks alone
set_option linter.unusedVariables false
set_option linter.unusedSimpArgs false

/-! ### laws_igIs: function 10 -/
def laws_igIs.f (a0 : ByteArray) (l1 : List ByteArray) (a2 : Bool) (a3 : Bool) : Option (Bool) := if a3 = true then ((impl_MatchPattern.f a0 ([] : List ByteArray) l1 a2).bind fun t116 => (if t116 = 1 then ((impl_MatchPattern.f (⟨#[97]⟩ : ByteArray) ([] : List ByteArray) (([(⟨#[97]⟩ : ByteArray)] : List ByteArray)) false).bind fun t120 => (some (t120 == 1))) else (some false))) else ((impl_MatchPattern.f a0 ([] : List ByteArray) l1 a2).bind fun t121 => (if t121 = 0 then ((impl_MatchPattern.f (⟨#[97]⟩ : ByteArray) ([] : List ByteArray) (([(⟨#[97]⟩ : ByteArray)] : List ByteArray)) false).bind fun t125 => (some (t125 == 1))) else (some false)))
set_option maxHeartbeats 8000000 in
set_option maxRecDepth 100000 in
theorem laws_igIs.calls (a0 : ByteArray) (A1 : Option Addr) (c1 : Nat) (l1 : List ByteArray) (a2 : Bool) (a3 : Bool) (r : Bool) (w : World) (hr1 : Kd.C Kd.string w A1 l1.length l1) (hc1 : l1.length ≤ c1) (h : laws_igIs.f a0 l1 a2 a3 = some r) :
    Calls Try.prog 10 #[.string a0, .slice A1 l1.length c1, .bool a2, .bool a3] w fun e w' => e = .returned (.bool r) ∧ Below w.heap.size w w' := by
  have HR1 := Aside0.mk hr1
  have HC1 := Aside0.mk hc1
  clear hr1 hc1
  have HB := Aside0.mk (Below.refl w.heap.size w)
  have H : (if a3 = true then ((impl_MatchPattern.f a0 ([] : List ByteArray) l1 a2).bind fun t116 => (if t116 = 1 then ((impl_MatchPattern.f (⟨#[97]⟩ : ByteArray) ([] : List ByteArray) (([(⟨#[97]⟩ : ByteArray)] : List ByteArray)) false).bind fun t120 => (some (t120 == 1))) else (some false))) else ((impl_MatchPattern.f a0 ([] : List ByteArray) l1 a2).bind fun t121 => (if t121 = 0 then ((impl_MatchPattern.f (⟨#[97]⟩ : ByteArray) ([] : List ByteArray) (([(⟨#[97]⟩ : ByteArray)] : List ByteArray)) false).bind fun t125 => (some (t125 == 1))) else (some false)))) = some r := h
  clear h
  by_cases c5 : a3 = true
  · subst c5
    have H1 : ((impl_MatchPattern.f a0 ([] : List ByteArray) l1 a2).bind fun t116 => (if t116 = 1 then ((impl_MatchPattern.f (⟨#[97]⟩ : ByteArray) ([] : List ByteArray) (([(⟨#[97]⟩ : ByteArray)] : List ByteArray)) false).bind fun t120 => (some (t120 == 1))) else (some false))) = some r := by rw [if_pos rfl] at H; exact H
    clear H
    have H := H1
    clear H1
    replace H := Option.bind_eq_some_iff.mp H
    obtain ⟨t116, A60, H⟩ := H
    replace H : (if t116 = 1 then ((impl_MatchPattern.f (⟨#[97]⟩ : ByteArray) ([] : List ByteArray) (([(⟨#[97]⟩ : ByteArray)] : List ByteArray)) false).bind fun t120 => (some (t120 == 1))) else (some false)) = some r := H
    have A6 := Aside0.mk A60
    clear A60
    by_cases c7 : t116 = 1
    · rw [if_pos c7] at H
      have c7b0 : (t116 == 1) = true := beq_iff_eq.mpr c7
      have c7b1 : (t116 != 1) = false := bne_eq_false_iff_eq.mpr c7
      clear c7
      obtain ⟨y117, hy117⟩ : ∃ y_ : List ByteArray, y_ = (([(⟨#[97]⟩ : ByteArray)] : List ByteArray)) := ⟨_, rfl⟩
      replace H : ((impl_MatchPattern.f (⟨#[97]⟩ : ByteArray) ([] : List ByteArray) y117 false).bind fun t120 => (some (t120 == 1))) = some r := by first | (rw [hy117]; with_reducible exact H) | (have H2_ := (Option.bind_some _ _).symm.trans H; rw [hy117]; with_reducible exact H2_) | (have H2_ := (Option.bind_some _ _).symm.trans H; with_reducible exact H2_) | with_reducible exact H | (rw [hy117]; exact H) | exact H
      have Ny117 := Aside0.mk hy117
      clear hy117
      replace H := Option.bind_eq_some_iff.mp H
      obtain ⟨t120, A80, H⟩ := H
      replace H : (some (t120 == 1)) = some r := H
      have A8 := Aside0.mk A80
      clear A80
      obtain rfl := Option.some.inj H
      go_enter Try.func10, Try.ntmps10
      go_wp2_with (first | ((with_reducible refine gate_callee (f := 15) rfl ?_); refine goesL_ (some 14) rfl rfl Try.func15 (by kernel_rfl) rfl #[.string a0, .slice none 0 0, .slice A1 l1.length c1, .bool a2] rfl (by (try simp only [List.map_toArray, List.map_cons, List.map_nil]); first | done | rfl | (simp only [List.length_drop, List.length_take]; rfl)) ?_; (refine (impl_MatchPattern.calls a0 _ _ ([] : List ByteArray) _ _ l1 a2 t116 _ ?side1 ?side2 ?side3 ?side4 A6.out).mono ?_); (case side1 => exact Kd.C_nil _ _); (case side2 => exact Nat.le_refl _); (case side3 => repeat (first | exact HR1.out | (with_reducible refine Kd.C_alloc ?_ _) | (with_reducible refine Kd.C_drewN ?_ _) | (with_reducible refine Kd.C_drew ?_))); (case side4 => exact HC1.out); rintro e w9 ⟨rfl, hb⟩; refine ⟨_, rfl, ?_⟩; have n0_ := Aside0.mk (below_step (by repeat (first | (with_reducible first | exact HB.out | apply below_alloc | apply pw_below_drewN | apply below_drew1) | exact HB.out)) hb); clear HB; have HB := n0_; clear n0_; (try clear hb); (try clear hb2); (try clear hk); (try clear hi)) | ((with_reducible refine gate_dst (N := 18) rfl ?_); (try (refine gate_guard (by rfl) ?_; dsimp only)); refine Kd.R_lit Kd.string _ 9 ?hg (N := 18) ?hd (xs := ([(⟨#[97]⟩ : ByteArray)] : List ByteArray)) (inner := [.string (⟨#[97]⟩ : ByteArray)]) (ok := fun _ => True) (okp := fun _ => True) ?hr ?hp (fun _ hk => hk) trivial (Below.refl _ _) (Nat.le_refl _) (by simp) ?_; (case hd => rfl); (case hg => rfl); (case hr => first | (go_simp; done) | (go_simp; rfl)); (case hp => exact (Reps.one (show Kd.M Kd.string _ _ _ (⟨#[97]⟩ : ByteArray) [.string (⟨#[97]⟩ : ByteArray)] from rfl) (Reps.none _ _))); intro v118 w10 ho11 hb hg_ hnew_; clear hg_ hnew_; (first | rw [← Ny117.out] at ho11 | (simp only [Int.reduceToNat] at ho11; rw [← Ny117.out] at ho11)); have n0_ := Aside0.mk (Kd.R_lower ho11 (below_size (by repeat (first | (with_reducible first | exact HB.out | apply below_alloc | apply pw_below_drewN | apply below_drew1) | exact HB.out)))); have n1_ := Aside0.mk (below_step (by repeat (first | (with_reducible first | exact HB.out | apply below_alloc | apply pw_below_drewN | apply below_drew1) | exact HB.out)) hb); clear HB; have HO119 := n0_; have HB := n1_; clear n0_ n1_; clear hb ho11; obtain ⟨Ao12, co12, eo12⟩ := Kd.R_slice HO119.out; subst eo12) | (go_at_call 15; (refine (impl_MatchPattern.calls (⟨#[97]⟩ : ByteArray) _ _ ([] : List ByteArray) _ _ y117 false t120 _ ?side1 ?side2 ?side3 ?side4 A8.out).mono ?_); (case side1 => exact Kd.C_nil _ _); (case side2 => exact Nat.le_refl _); (case side3 => repeat (first | exact (Kd.R_reads' HO119.out).2.2 | (with_reducible refine Kd.C_alloc ?_ _) | (with_reducible refine Kd.C_drewN ?_ _) | (with_reducible refine Kd.C_drew ?_))); (case side4 => exact (Kd.R_reads' HO119.out).2.1); rintro e w13 ⟨rfl, hb⟩; have n0_ := Aside0.mk (Kd.R_below (by (with_reducible repeat (first | apply Kd.R_alloc | apply Kd.R_drewN | apply Kd.R_drew)); exact HO119.out) hb); have n1_ := Aside0.mk (below_step (by repeat (first | (with_reducible first | exact HB.out | apply below_alloc | apply pw_below_drewN | apply below_drew1) | exact HB.out)) hb); clear HO119; clear HB; have HO119 := n0_; have HB := n1_; clear n0_ n1_; (try clear hb); (try clear hb2); (try clear hk); (try clear hi)))
      go_ret
      exact ⟨by first | rfl | (simp [errW_none, errW_some] <;> rfl) | (simp [*, errW_none, errW_some] <;> rfl), by repeat (first | (with_reducible first | exact HB.out | apply below_alloc | apply pw_below_drewN | apply below_drew1) | exact HB.out)⟩
    · rw [if_neg c7] at H
      have c7b0 : (t116 == 1) = false := beq_eq_false_iff_ne.mpr c7
      have c7b1 : (t116 != 1) = true := bne_iff_ne.mpr c7
      obtain rfl := Option.some.inj H
      go_enter Try.func10, Try.ntmps10
      go_wp2_with (first | ((with_reducible refine gate_callee (f := 15) rfl ?_); refine goesL_ (some 14) rfl rfl Try.func15 (by kernel_rfl) rfl #[.string a0, .slice none 0 0, .slice A1 l1.length c1, .bool a2] rfl (by (try simp only [List.map_toArray, List.map_cons, List.map_nil]); first | done | rfl | (simp only [List.length_drop, List.length_take]; rfl)) ?_; (refine (impl_MatchPattern.calls a0 _ _ ([] : List ByteArray) _ _ l1 a2 t116 _ ?side1 ?side2 ?side3 ?side4 A6.out).mono ?_); (case side1 => exact Kd.C_nil _ _); (case side2 => exact Nat.le_refl _); (case side3 => repeat (first | exact HR1.out | (with_reducible refine Kd.C_alloc ?_ _) | (with_reducible refine Kd.C_drewN ?_ _) | (with_reducible refine Kd.C_drew ?_))); (case side4 => exact HC1.out); rintro e w14 ⟨rfl, hb⟩; refine ⟨_, rfl, ?_⟩; have n0_ := Aside0.mk (below_step (by repeat (first | (with_reducible first | exact HB.out | apply below_alloc | apply pw_below_drewN | apply below_drew1) | exact HB.out)) hb); clear HB; have HB := n0_; clear n0_; (try clear hb); (try clear hb2); (try clear hk); (try clear hi)))
      go_ret
      exact ⟨by first | rfl | (simp [errW_none, errW_some] <;> rfl) | (simp [*, errW_none, errW_some] <;> rfl), by repeat (first | (with_reducible first | exact HB.out | apply below_alloc | apply pw_below_drewN | apply below_drew1) | exact HB.out)⟩
  · replace c5 := Bool.eq_false_iff.mpr c5
    subst c5
    have H1 : ((impl_MatchPattern.f a0 ([] : List ByteArray) l1 a2).bind fun t121 => (if t121 = 0 then ((impl_MatchPattern.f (⟨#[97]⟩ : ByteArray) ([] : List ByteArray) (([(⟨#[97]⟩ : ByteArray)] : List ByteArray)) false).bind fun t125 => (some (t125 == 1))) else (some false))) = some r := by rw [if_neg (show ¬ (false = true) by decide)] at H; exact H
    clear H
    have H := H1
    clear H1
    replace H := Option.bind_eq_some_iff.mp H
    obtain ⟨t121, A150, H⟩ := H
    replace H : (if t121 = 0 then ((impl_MatchPattern.f (⟨#[97]⟩ : ByteArray) ([] : List ByteArray) (([(⟨#[97]⟩ : ByteArray)] : List ByteArray)) false).bind fun t125 => (some (t125 == 1))) else (some false)) = some r := H
    have A15 := Aside0.mk A150
    clear A150
    by_cases c16 : t121 = 0
    · rw [if_pos c16] at H
      have c16b0 : (t121 == 0) = true := beq_iff_eq.mpr c16
      have c16b1 : (t121 != 0) = false := bne_eq_false_iff_eq.mpr c16
      clear c16
      obtain ⟨y122, hy122⟩ : ∃ y_ : List ByteArray, y_ = (([(⟨#[97]⟩ : ByteArray)] : List ByteArray)) := ⟨_, rfl⟩
      replace H : ((impl_MatchPattern.f (⟨#[97]⟩ : ByteArray) ([] : List ByteArray) y122 false).bind fun t125 => (some (t125 == 1))) = some r := by first | (rw [hy122]; with_reducible exact H) | (have H2_ := (Option.bind_some _ _).symm.trans H; rw [hy122]; with_reducible exact H2_) | (have H2_ := (Option.bind_some _ _).symm.trans H; with_reducible exact H2_) | with_reducible exact H | (rw [hy122]; exact H) | exact H
      have Ny122 := Aside0.mk hy122
      clear hy122
      replace H := Option.bind_eq_some_iff.mp H
      obtain ⟨t125, A170, H⟩ := H
      replace H : (some (t125 == 1)) = some r := H
      have A17 := Aside0.mk A170
      clear A170
      obtain rfl := Option.some.inj H
      go_enter Try.func10, Try.ntmps10
      go_wp2_with (first | ((with_reducible refine gate_callee (f := 15) rfl ?_); refine goesL_ (some 14) rfl rfl Try.func15 (by kernel_rfl) rfl #[.string a0, .slice none 0 0, .slice A1 l1.length c1, .bool a2] rfl (by (try simp only [List.map_toArray, List.map_cons, List.map_nil]); first | done | rfl | (simp only [List.length_drop, List.length_take]; rfl)) ?_; (refine (impl_MatchPattern.calls a0 _ _ ([] : List ByteArray) _ _ l1 a2 t121 _ ?side1 ?side2 ?side3 ?side4 A15.out).mono ?_); (case side1 => exact Kd.C_nil _ _); (case side2 => exact Nat.le_refl _); (case side3 => repeat (first | exact HR1.out | (with_reducible refine Kd.C_alloc ?_ _) | (with_reducible refine Kd.C_drewN ?_ _) | (with_reducible refine Kd.C_drew ?_))); (case side4 => exact HC1.out); rintro e w18 ⟨rfl, hb⟩; refine ⟨_, rfl, ?_⟩; have n0_ := Aside0.mk (below_step (by repeat (first | (with_reducible first | exact HB.out | apply below_alloc | apply pw_below_drewN | apply below_drew1) | exact HB.out)) hb); clear HB; have HB := n0_; clear n0_; (try clear hb); (try clear hb2); (try clear hk); (try clear hi)) | ((with_reducible refine gate_dst (N := 18) rfl ?_); (try (refine gate_guard (by rfl) ?_; dsimp only)); refine Kd.R_lit Kd.string _ 9 ?hg (N := 18) ?hd (xs := ([(⟨#[97]⟩ : ByteArray)] : List ByteArray)) (inner := [.string (⟨#[97]⟩ : ByteArray)]) (ok := fun _ => True) (okp := fun _ => True) ?hr ?hp (fun _ hk => hk) trivial (Below.refl _ _) (Nat.le_refl _) (by simp) ?_; (case hd => rfl); (case hg => rfl); (case hr => first | (go_simp; done) | (go_simp; rfl)); (case hp => exact (Reps.one (show Kd.M Kd.string _ _ _ (⟨#[97]⟩ : ByteArray) [.string (⟨#[97]⟩ : ByteArray)] from rfl) (Reps.none _ _))); intro v123 w19 ho20 hb hg_ hnew_; clear hg_ hnew_; (first | rw [← Ny122.out] at ho20 | (simp only [Int.reduceToNat] at ho20; rw [← Ny122.out] at ho20)); have n0_ := Aside0.mk (Kd.R_lower ho20 (below_size (by repeat (first | (with_reducible first | exact HB.out | apply below_alloc | apply pw_below_drewN | apply below_drew1) | exact HB.out)))); have n1_ := Aside0.mk (below_step (by repeat (first | (with_reducible first | exact HB.out | apply below_alloc | apply pw_below_drewN | apply below_drew1) | exact HB.out)) hb); clear HB; have HO124 := n0_; have HB := n1_; clear n0_ n1_; clear hb ho20; obtain ⟨Ao21, co21, eo21⟩ := Kd.R_slice HO124.out; subst eo21) | (go_at_call 15; (refine (impl_MatchPattern.calls (⟨#[97]⟩ : ByteArray) _ _ ([] : List ByteArray) _ _ y122 false t125 _ ?side1 ?side2 ?side3 ?side4 A17.out).mono ?_); (case side1 => exact Kd.C_nil _ _); (case side2 => exact Nat.le_refl _); (case side3 => repeat (first | exact (Kd.R_reads' HO124.out).2.2 | (with_reducible refine Kd.C_alloc ?_ _) | (with_reducible refine Kd.C_drewN ?_ _) | (with_reducible refine Kd.C_drew ?_))); (case side4 => exact (Kd.R_reads' HO124.out).2.1); rintro e w22 ⟨rfl, hb⟩; have n0_ := Aside0.mk (Kd.R_below (by (with_reducible repeat (first | apply Kd.R_alloc | apply Kd.R_drewN | apply Kd.R_drew)); exact HO124.out) hb); have n1_ := Aside0.mk (below_step (by repeat (first | (with_reducible first | exact HB.out | apply below_alloc | apply pw_below_drewN | apply below_drew1) | exact HB.out)) hb); clear HO124; clear HB; have HO124 := n0_; have HB := n1_; clear n0_ n1_; (try clear hb); (try clear hb2); (try clear hk); (try clear hi)))
      go_ret
      exact ⟨by first | rfl | (simp [errW_none, errW_some] <;> rfl) | (simp [*, errW_none, errW_some] <;> rfl), by repeat (first | (with_reducible first | exact HB.out | apply below_alloc | apply pw_below_drewN | apply below_drew1) | exact HB.out)⟩
    · rw [if_neg c16] at H
      have c16b0 : (t121 == 0) = false := beq_eq_false_iff_ne.mpr c16
      have c16b1 : (t121 != 0) = true := bne_iff_ne.mpr c16
      obtain rfl := Option.some.inj H
      go_enter Try.func10, Try.ntmps10
      go_wp2_with (first | ((with_reducible refine gate_callee (f := 15) rfl ?_); refine goesL_ (some 14) rfl rfl Try.func15 (by kernel_rfl) rfl #[.string a0, .slice none 0 0, .slice A1 l1.length c1, .bool a2] rfl (by (try simp only [List.map_toArray, List.map_cons, List.map_nil]); first | done | rfl | (simp only [List.length_drop, List.length_take]; rfl)) ?_; (refine (impl_MatchPattern.calls a0 _ _ ([] : List ByteArray) _ _ l1 a2 t121 _ ?side1 ?side2 ?side3 ?side4 A15.out).mono ?_); (case side1 => exact Kd.C_nil _ _); (case side2 => exact Nat.le_refl _); (case side3 => repeat (first | exact HR1.out | (with_reducible refine Kd.C_alloc ?_ _) | (with_reducible refine Kd.C_drewN ?_ _) | (with_reducible refine Kd.C_drew ?_))); (case side4 => exact HC1.out); rintro e w23 ⟨rfl, hb⟩; refine ⟨_, rfl, ?_⟩; have n0_ := Aside0.mk (below_step (by repeat (first | (with_reducible first | exact HB.out | apply below_alloc | apply pw_below_drewN | apply below_drew1) | exact HB.out)) hb); clear HB; have HB := n0_; clear n0_; (try clear hb); (try clear hb2); (try clear hk); (try clear hi)))
      go_ret
      exact ⟨by first | rfl | (simp [errW_none, errW_some] <;> rfl) | (simp [*, errW_none, errW_some] <;> rfl), by repeat (first | (with_reducible first | exact HB.out | apply below_alloc | apply pw_below_drewN | apply below_drew1) | exact HB.out)⟩

end
end Go.Proofs.Ytlnfkpmmnennbaa.QAll
