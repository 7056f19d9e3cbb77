-- WRITTEN BY A PROGRAM OF THIS SESSION, out of the loaded program, with words of the kit
import Derived.Test.YtlnfkpmmnennbaaQAllx0
import Derived.Test.YtlnfkpmmnennbaaQAllx1
import Derived.Test.YtlnfkpmmnennbaaQAllx3
import Derived.Test.YtlnfkpmmnennbaaQAllx9
import Derived.Test.YtlnfkpmmnennbaaQAllx11
import Derived.Test.YtlnfkpmmnennbaaExtM
namespace Go.Proofs.Ytlnfkpmmnennbaa.QAll
noncomputable section
open Go.RowKit Go.Proofs.YtlnfkpmmnennbaaW.PrintWords Go.Proofs.YtlnfkpmmnennbaaW.PrintLast Go.Proofs.YtlnfkpmmnennbaaW.PrintMore
attribute [local go_sem] max2_int min2_int max_two min_two max_three min_three max_four min_four   -- for this text's walks alone
set_option linter.unusedVariables false
set_option linter.unusedSimpArgs false

/-! ### laws_FnIgnoreNot: function 5 -/
mutual
def laws_FnIgnoreNot.j0 : Nat → List ByteArray → Bool → List ByteArray → Bool → Bool → Option (Bool)
  | 0, _, _, _, _, _ => none
  | k + 1, x0, x1, x2, x3, x18 => if x18 = true then (some true) else ((spec_AreGlobs.f k x0).bind fun t147 => (if t147 = true then ((spec_IsPath.f k x2).bind fun t148 => (laws_FnIgnoreNot.j1 k x0 x1 x2 x3 (!t148))) else (laws_FnIgnoreNot.j1 k x0 x1 x2 x3 true)))
def laws_FnIgnoreNot.j1 : Nat → List ByteArray → Bool → List ByteArray → Bool → Bool → Option (Bool)
  | 0, _, _, _, _, _ => none
  | k + 1, x0, x1, x2, x3, x26 => if x26 = true then (some true) else ((spec_Slashed.f k x0).bind fun t149 => ((laws_igTail.f x1).bind fun t150 => (if t149.size + t150.size ≤ 9223372036854775807 then ((impl_MatchPattern.f (t149 ++ t150) ([] : List ByteArray) x2 x3).bind fun t151 => (if t151 = 1 then (if 1 + (t149 ++ t150).size ≤ 9223372036854775807 then ((impl_MatchPattern.f ((⟨#[33]⟩ : ByteArray) ++ (t149 ++ t150)) ([] : List ByteArray) x2 x3).bind fun t152 => (if t152 = 2 then ((impl_MatchPattern.f (⟨#[33, 97]⟩ : ByteArray) ([] : List ByteArray) (([(⟨#[97]⟩ : ByteArray)] : List ByteArray)) false).bind fun t156 => (some (t156 == 2))) else (some false))) else (none)) else (if 1 + (t149 ++ t150).size ≤ 9223372036854775807 then ((impl_MatchPattern.f ((⟨#[33]⟩ : ByteArray) ++ (t149 ++ t150)) ([] : List ByteArray) x2 x3).bind fun t157 => (if t157 = t151 then ((impl_MatchPattern.f (⟨#[33, 97]⟩ : ByteArray) ([] : List ByteArray) (([(⟨#[97]⟩ : ByteArray)] : List ByteArray)) false).bind fun t161 => (some (t161 == 2))) else (some false))) else (none)))) else (none))))
end
def laws_FnIgnoreNot.f (k : Nat) (l0 : List ByteArray) (a1 : Bool) (l2 : List ByteArray) (a3 : Bool) : Option (Bool) := (laws_zzFits16.f k l0).bind fun t145 => (if t145 = true then ((laws_zzFits16.f k l2).bind fun t146 => (laws_FnIgnoreNot.j0 k l0 a1 l2 a3 (!t146))) else (laws_FnIgnoreNot.j0 k l0 a1 l2 a3 true))
theorem laws_FnIgnoreNot.mono_l : ∀ k, (∀ y0 y1 y2 y3 y4, LeO (laws_FnIgnoreNot.j0 k y0 y1 y2 y3 y4) (laws_FnIgnoreNot.j0 (k + 1) y0 y1 y2 y3 y4)) ∧ (∀ y0 y1 y2 y3 y4, LeO (laws_FnIgnoreNot.j1 k y0 y1 y2 y3 y4) (laws_FnIgnoreNot.j1 (k + 1) y0 y1 y2 y3 y4))
  | 0 => ⟨fun _ _ _ _ _ r h => by simp [laws_FnIgnoreNot.j0] at h, fun _ _ _ _ _ r h => by simp [laws_FnIgnoreNot.j1] at h⟩
  | k + 1 => by
    obtain ⟨ih0, ih1⟩ := laws_FnIgnoreNot.mono_l k
    refine ⟨?_, ?_⟩
    · intro y0 y1 y2 y3 y4
      unfold laws_FnIgnoreNot.j0
      repeat' first
      | (with_reducible exact ih0 _ _ _ _ _)
      | (with_reducible exact ih1 _ _ _ _ _)
      | (with_reducible exact laws_zzFits16.mono _ _)
      | (with_reducible exact spec_AreGlobs.mono _ _)
      | (with_reducible exact spec_IsPath.mono _ _)
      | (with_reducible exact spec_Slashed.mono _ _)
      | (with_reducible exact LeO.refl _)
      | (with_reducible exact LeO.none _)
      | (with_reducible refine LeO.ite ?_ ?_)
      | (with_reducible refine LeO.bind ?_ (fun _ => ?_))
      | exact ih0 _ _ _ _ _
      | exact ih1 _ _ _ _ _
      | exact laws_zzFits16.mono _ _
      | exact spec_AreGlobs.mono _ _
      | exact spec_IsPath.mono _ _
      | exact spec_Slashed.mono _ _
      | exact LeO.none _
      | refine LeO.ite ?_ ?_
      | refine LeO.bind ?_ (fun _ => ?_)
    · intro y0 y1 y2 y3 y4
      unfold laws_FnIgnoreNot.j1
      repeat' first
      | (with_reducible exact ih0 _ _ _ _ _)
      | (with_reducible exact ih1 _ _ _ _ _)
      | (with_reducible exact laws_zzFits16.mono _ _)
      | (with_reducible exact spec_AreGlobs.mono _ _)
      | (with_reducible exact spec_IsPath.mono _ _)
      | (with_reducible exact spec_Slashed.mono _ _)
      | (with_reducible exact LeO.refl _)
      | (with_reducible exact LeO.none _)
      | (with_reducible refine LeO.ite ?_ ?_)
      | (with_reducible refine LeO.bind ?_ (fun _ => ?_))
      | exact ih0 _ _ _ _ _
      | exact ih1 _ _ _ _ _
      | exact laws_zzFits16.mono _ _
      | exact spec_AreGlobs.mono _ _
      | exact spec_IsPath.mono _ _
      | exact spec_Slashed.mono _ _
      | exact LeO.none _
      | refine LeO.ite ?_ ?_
      | refine LeO.bind ?_ (fun _ => ?_)
theorem laws_FnIgnoreNot.mono : ∀ a0 a1 a2 a3 k, LeO (laws_FnIgnoreNot.f k a0 a1 a2 a3) (laws_FnIgnoreNot.f (k + 1) a0 a1 a2 a3) := by
  intro a0 a1 a2 a3 k
  obtain ⟨ih0, ih1⟩ := laws_FnIgnoreNot.mono_l k
  unfold laws_FnIgnoreNot.f
  repeat' first
      | (with_reducible exact ih0 _ _ _ _ _)
      | (with_reducible exact ih1 _ _ _ _ _)
      | (with_reducible exact laws_zzFits16.mono _ _)
      | (with_reducible exact spec_AreGlobs.mono _ _)
      | (with_reducible exact spec_IsPath.mono _ _)
      | (with_reducible exact spec_Slashed.mono _ _)
      | (with_reducible exact LeO.refl _)
      | (with_reducible exact LeO.none _)
      | (with_reducible refine LeO.ite ?_ ?_)
      | (with_reducible refine LeO.bind ?_ (fun _ => ?_))
      | exact ih0 _ _ _ _ _
      | exact ih1 _ _ _ _ _
      | exact laws_zzFits16.mono _ _
      | exact spec_AreGlobs.mono _ _
      | exact spec_IsPath.mono _ _
      | exact spec_Slashed.mono _ _
      | exact LeO.none _
      | refine LeO.ite ?_ ?_
      | refine LeO.bind ?_ (fun _ => ?_)
set_option maxHeartbeats 8000000 in
set_option maxRecDepth 100000 in
theorem laws_FnIgnoreNot.calls (k : Nat) (A0 : Option Addr) (c0 : Nat) (l0 : List ByteArray) (a1 : Bool) (A2 : Option Addr) (c2 : Nat) (l2 : List ByteArray) (a3 : Bool) (r : Bool) (w : World) (hr0 : Kd.C Kd.string w A0 l0.length l0) (hc0 : l0.length ≤ c0) (hr2 : Kd.C Kd.string w A2 l2.length l2) (hc2 : l2.length ≤ c2) (h : laws_FnIgnoreNot.f k l0 a1 l2 a3 = some r) :
    Calls Try.prog 5 #[.slice A0 l0.length c0, .bool a1, .slice A2 l2.length c2, .bool a3] w fun e w' => e = .returned (.bool r) ∧ Below w.heap.size w w' := by
  have HR0 := Aside0.mk hr0
  have HC0 := Aside0.mk hc0
  clear hr0 hc0
  have HR2 := Aside0.mk hr2
  have HC2 := Aside0.mk hc2
  clear hr2 hc2
  have HB := Aside0.mk (Below.refl w.heap.size w)
  have H : ((laws_zzFits16.f k l0).bind fun t145 => (if t145 = true then ((laws_zzFits16.f k l2).bind fun t146 => (laws_FnIgnoreNot.j0 k l0 a1 l2 a3 (!t146))) else (laws_FnIgnoreNot.j0 k l0 a1 l2 a3 true))) = some r := h
  clear h
  have HC5 := Aside0.mk H
  clear H
  go_enter Try.func5, Try.ntmps5
  go_upto_region 1 with (fail)
  go_cut [18] (fun v18 wc => ∃ (kq : Nat) (x18_4 : Bool), v18 = .bool x18_4 ∧ Aside0 (laws_FnIgnoreNot.j0 kq l0 a1 l2 a3 x18_4 = some r) ∧ Aside0 (kq ≤ k) ∧ Aside0 (Below w.heap.size w wc))
  case first =>
    have H := HC5.out
    clear HC5
    replace H := Option.bind_eq_some_iff.mp H
    obtain ⟨t145, A60, H⟩ := H
    replace H : (if t145 = true then ((laws_zzFits16.f k l2).bind fun t146 => (laws_FnIgnoreNot.j0 k l0 a1 l2 a3 (!t146))) else (laws_FnIgnoreNot.j0 k l0 a1 l2 a3 true)) = some r := H
    have A6 := Aside0.mk A60
    clear A60
    by_cases c7 : t145 = true
    · subst c7
      have H1 : ((laws_zzFits16.f k l2).bind fun t146 => (laws_FnIgnoreNot.j0 k l0 a1 l2 a3 (!t146))) = some r := by rw [if_pos rfl] at H; exact H
      clear H
      have H := H1
      clear H1
      replace H := Option.bind_eq_some_iff.mp H
      obtain ⟨t146, A80, H⟩ := H
      replace H : (laws_FnIgnoreNot.j0 k l0 a1 l2 a3 (!t146)) = some r := H
      have A8 := Aside0.mk A80
      clear A80
      have H' := Aside0.mk H
      clear H
      go_wp2_with (first | ((with_reducible refine gate_callee (f := 7) rfl ?_); refine goesL_ (some 12) rfl rfl Try.func7 (by kernel_rfl) rfl #[.slice A0 l0.length c0] rfl (by (try simp only [List.map_toArray, List.map_cons, List.map_nil]); first | done | rfl | (simp only [List.length_drop, List.length_take]; rfl)) ?_; (with_reducible refine (laws_zzFits16.calls k _ _ l0 true _ ?side1 ?side2 A6.out).mono ?_); (case side1 => repeat (first | exact (Kd.C_below HR0.out HB.out) | (with_reducible refine Kd.C_alloc ?_ _) | (with_reducible refine Kd.C_drewN ?_ _) | (with_reducible refine Kd.C_drew ?_))); (case side2 => exact HC0.out); rintro e w' ⟨rfl, ⟨nd, rfl⟩⟩; refine ⟨_, rfl, ?_⟩) | (go_at_call 7; (with_reducible refine (laws_zzFits16.calls k _ _ l2 t146 _ ?side1 ?side2 A8.out).mono ?_); (case side1 => repeat (first | exact (Kd.C_below HR2.out (by repeat (first | (with_reducible first | exact HB.out | apply below_alloc | apply pw_below_drewN | apply below_drew1) | exact HB.out))) | (with_reducible refine Kd.C_alloc ?_ _) | (with_reducible refine Kd.C_drewN ?_ _) | (with_reducible refine Kd.C_drew ?_))); (case side2 => exact HC2.out); rintro e w' ⟨rfl, ⟨nd, rfl⟩⟩))
      go_meet
      case rel => exact ⟨_, (!t146), (by first | rfl | (simp; done) | (simp [*]; done)), H', ⟨by first | omega | exact Nat.le_refl _⟩, ⟨by repeat (first | (with_reducible first | exact HB.out | apply below_alloc | apply pw_below_drewN | apply below_drew1) | exact HB.out)⟩⟩
    · replace c7 := Bool.eq_false_iff.mpr c7
      subst c7
      have H1 : (laws_FnIgnoreNot.j0 k l0 a1 l2 a3 true) = some r := by rw [if_neg (show ¬ (false = true) by decide)] at H; exact H
      clear H
      have H := H1
      clear H1
      have H' := Aside0.mk H
      clear H
      go_wp2_with (first | ((with_reducible refine gate_callee (f := 7) rfl ?_); refine goesL_ (some 12) rfl rfl Try.func7 (by kernel_rfl) rfl #[.slice A0 l0.length c0] rfl (by (try simp only [List.map_toArray, List.map_cons, List.map_nil]); first | done | rfl | (simp only [List.length_drop, List.length_take]; rfl)) ?_; (with_reducible refine (laws_zzFits16.calls k _ _ l0 false _ ?side1 ?side2 A6.out).mono ?_); (case side1 => repeat (first | exact (Kd.C_below HR0.out HB.out) | (with_reducible refine Kd.C_alloc ?_ _) | (with_reducible refine Kd.C_drewN ?_ _) | (with_reducible refine Kd.C_drew ?_))); (case side2 => exact HC0.out); rintro e w' ⟨rfl, ⟨nd, rfl⟩⟩; refine ⟨_, rfl, ?_⟩))
      go_meet
      case rel => exact ⟨_, (true), (by first | rfl | (simp; done) | (simp [*]; done)), H', ⟨by first | omega | exact Nat.le_refl _⟩, ⟨by repeat (first | (with_reducible first | exact HB.out | apply below_alloc | apply pw_below_drewN | apply below_drew1) | exact HB.out)⟩⟩
  case rest =>
    clear HC5
    try clear c2
    try clear p2
    try clear c5
    try clear c7
    obtain ⟨kq, x18_4, rfl, HA, HJ4, HB⟩ := hcut
    cases kq with
    | zero => exact absurd HA.out (by simp [laws_FnIgnoreNot.j0])
    | succ kj4 =>
      have H := HA.out
      clear HA
      simp only [laws_FnIgnoreNot.j0] at H
      by_cases c9 : x18_4 = true
      · subst c9
        have H1 : (some true) = some r := by rw [if_pos rfl] at H; exact H
        clear H
        have H := H1
        clear H1
        obtain rfl := Option.some.inj H
        go_wp2
        go_ret
        exact ⟨by first | rfl | (simp [errW_none, errW_some] <;> rfl) | (simp [*, errW_none, errW_some] <;> rfl), by repeat (first | (with_reducible first | exact HB.out | apply below_alloc | apply pw_below_drewN | apply below_drew1) | exact HB.out)⟩
      · replace c9 := Bool.eq_false_iff.mpr c9
        subst c9
        have H1 : ((spec_AreGlobs.f kj4 l0).bind fun t147 => (if t147 = true then ((spec_IsPath.f kj4 l2).bind fun t148 => (laws_FnIgnoreNot.j1 kj4 l0 a1 l2 a3 (!t148))) else (laws_FnIgnoreNot.j1 kj4 l0 a1 l2 a3 true))) = some r := by rw [if_neg (show ¬ (false = true) by decide)] at H; exact H
        clear H
        have H := H1
        clear H1
        have HC10 := Aside0.mk H
        clear H
        go_upto_region 3 with (fail)
        go_cut [26] (fun v26 wc => ∃ (kq : Nat) (x26_9 : Bool), v26 = .bool x26_9 ∧ Aside0 (laws_FnIgnoreNot.j1 kq l0 a1 l2 a3 x26_9 = some r) ∧ Aside0 (kq ≤ kj4) ∧ Aside0 (Below w.heap.size w wc))
        case first =>
          have H := HC10.out
          clear HC10
          replace H := Option.bind_eq_some_iff.mp H
          obtain ⟨t147, A110, H⟩ := H
          replace H : (if t147 = true then ((spec_IsPath.f kj4 l2).bind fun t148 => (laws_FnIgnoreNot.j1 kj4 l0 a1 l2 a3 (!t148))) else (laws_FnIgnoreNot.j1 kj4 l0 a1 l2 a3 true)) = some r := H
          have A11 := Aside0.mk A110
          clear A110
          by_cases c12 : t147 = true
          · subst c12
            have H1 : ((spec_IsPath.f kj4 l2).bind fun t148 => (laws_FnIgnoreNot.j1 kj4 l0 a1 l2 a3 (!t148))) = some r := by rw [if_pos rfl] at H; exact H
            clear H
            have H := H1
            clear H1
            replace H := Option.bind_eq_some_iff.mp H
            obtain ⟨t148, A130, H⟩ := H
            replace H : (laws_FnIgnoreNot.j1 kj4 l0 a1 l2 a3 (!t148)) = some r := H
            have A13 := Aside0.mk A130
            clear A130
            have H' := Aside0.mk H
            clear H
            go_wp2_with (first | ((with_reducible refine gate_callee (f := 13) rfl ?_); refine goesL_ (some 20) rfl rfl Try.func13 (by kernel_rfl) rfl #[.slice A0 l0.length c0] rfl (by (try simp only [List.map_toArray, List.map_cons, List.map_nil]); first | done | rfl | (simp only [List.length_drop, List.length_take]; rfl)) ?_; (with_reducible refine (spec_AreGlobs.calls kj4 _ _ l0 true _ ?side1 ?side2 A11.out).mono ?_); (case side1 => repeat (first | exact (Kd.C_below HR0.out HB.out) | (with_reducible refine Kd.C_alloc ?_ _) | (with_reducible refine Kd.C_drewN ?_ _) | (with_reducible refine Kd.C_drew ?_))); (case side2 => exact HC0.out); rintro e w' ⟨rfl, ⟨nd, rfl⟩⟩; refine ⟨_, rfl, ?_⟩) | (go_at_call 9; (with_reducible refine (spec_IsPath.calls kj4 _ _ l2 t148 _ ?side1 ?side2 A13.out).mono ?_); (case side1 => repeat (first | exact (Kd.C_below HR2.out (by repeat (first | (with_reducible first | exact HB.out | apply below_alloc | apply pw_below_drewN | apply below_drew1) | exact HB.out))) | (with_reducible refine Kd.C_alloc ?_ _) | (with_reducible refine Kd.C_drewN ?_ _) | (with_reducible refine Kd.C_drew ?_))); (case side2 => exact HC2.out); rintro e w' ⟨rfl, ⟨nd, rfl⟩⟩))
            go_meet
            case rel => exact ⟨_, (!t148), (by first | rfl | (simp; done) | (simp [*]; done)), H', ⟨by have := HJ4.out; first | omega | exact Nat.le_refl _⟩, ⟨by repeat (first | (with_reducible first | exact HB.out | apply below_alloc | apply pw_below_drewN | apply below_drew1) | exact HB.out)⟩⟩
          · replace c12 := Bool.eq_false_iff.mpr c12
            subst c12
            have H1 : (laws_FnIgnoreNot.j1 kj4 l0 a1 l2 a3 true) = some r := by rw [if_neg (show ¬ (false = true) by decide)] at H; exact H
            clear H
            have H := H1
            clear H1
            have H' := Aside0.mk H
            clear H
            go_wp2_with (first | ((with_reducible refine gate_callee (f := 13) rfl ?_); refine goesL_ (some 20) rfl rfl Try.func13 (by kernel_rfl) rfl #[.slice A0 l0.length c0] rfl (by (try simp only [List.map_toArray, List.map_cons, List.map_nil]); first | done | rfl | (simp only [List.length_drop, List.length_take]; rfl)) ?_; (with_reducible refine (spec_AreGlobs.calls kj4 _ _ l0 false _ ?side1 ?side2 A11.out).mono ?_); (case side1 => repeat (first | exact (Kd.C_below HR0.out HB.out) | (with_reducible refine Kd.C_alloc ?_ _) | (with_reducible refine Kd.C_drewN ?_ _) | (with_reducible refine Kd.C_drew ?_))); (case side2 => exact HC0.out); rintro e w' ⟨rfl, ⟨nd, rfl⟩⟩; refine ⟨_, rfl, ?_⟩))
            go_meet
            case rel => exact ⟨_, (true), (by first | rfl | (simp; done) | (simp [*]; done)), H', ⟨by have := HJ4.out; first | omega | exact Nat.le_refl _⟩, ⟨by repeat (first | (with_reducible first | exact HB.out | apply below_alloc | apply pw_below_drewN | apply below_drew1) | exact HB.out)⟩⟩
        case rest =>
          clear HC10
          try clear c1
          try clear c2
          try clear p2
          try clear c5
          try clear c7
          try clear c9
          try clear c12
          try clear c13
          try clear p2
          obtain ⟨kq, x26_9, rfl, HA, HJ9, HB⟩ := hcut
          cases kq with
          | zero => exact absurd HA.out (by simp [laws_FnIgnoreNot.j1])
          | succ kj9 =>
            have H := HA.out
            clear HA
            simp only [laws_FnIgnoreNot.j1] at H
            by_cases c14 : x26_9 = true
            · subst c14
              have H1 : (some true) = some r := by rw [if_pos rfl] at H; exact H
              clear H
              have H := H1
              clear H1
              obtain rfl := Option.some.inj H
              go_wp2
              go_ret
              exact ⟨by first | rfl | (simp [errW_none, errW_some] <;> rfl) | (simp [*, errW_none, errW_some] <;> rfl), by repeat (first | (with_reducible first | exact HB.out | apply below_alloc | apply pw_below_drewN | apply below_drew1) | exact HB.out)⟩
            · replace c14 := Bool.eq_false_iff.mpr c14
              subst c14
              have H1 : ((spec_Slashed.f kj9 l0).bind fun t149 => ((laws_igTail.f a1).bind fun t150 => (if t149.size + t150.size ≤ 9223372036854775807 then ((impl_MatchPattern.f (t149 ++ t150) ([] : List ByteArray) l2 a3).bind fun t151 => (if t151 = 1 then (if 1 + (t149 ++ t150).size ≤ 9223372036854775807 then ((impl_MatchPattern.f ((⟨#[33]⟩ : ByteArray) ++ (t149 ++ t150)) ([] : List ByteArray) l2 a3).bind fun t152 => (if t152 = 2 then ((impl_MatchPattern.f (⟨#[33, 97]⟩ : ByteArray) ([] : List ByteArray) (([(⟨#[97]⟩ : ByteArray)] : List ByteArray)) false).bind fun t156 => (some (t156 == 2))) else (some false))) else (none)) else (if 1 + (t149 ++ t150).size ≤ 9223372036854775807 then ((impl_MatchPattern.f ((⟨#[33]⟩ : ByteArray) ++ (t149 ++ t150)) ([] : List ByteArray) l2 a3).bind fun t157 => (if t157 = t151 then ((impl_MatchPattern.f (⟨#[33, 97]⟩ : ByteArray) ([] : List ByteArray) (([(⟨#[97]⟩ : ByteArray)] : List ByteArray)) false).bind fun t161 => (some (t161 == 2))) else (some false))) else (none)))) else (none)))) = some r := by rw [if_neg (show ¬ (false = true) by decide)] at H; exact H
              clear H
              have H := H1
              clear H1
              replace H := Option.bind_eq_some_iff.mp H
              obtain ⟨t149, A150, H⟩ := H
              replace H : ((laws_igTail.f a1).bind fun t150 => (if t149.size + t150.size ≤ 9223372036854775807 then ((impl_MatchPattern.f (t149 ++ t150) ([] : List ByteArray) l2 a3).bind fun t151 => (if t151 = 1 then (if 1 + (t149 ++ t150).size ≤ 9223372036854775807 then ((impl_MatchPattern.f ((⟨#[33]⟩ : ByteArray) ++ (t149 ++ t150)) ([] : List ByteArray) l2 a3).bind fun t152 => (if t152 = 2 then ((impl_MatchPattern.f (⟨#[33, 97]⟩ : ByteArray) ([] : List ByteArray) (([(⟨#[97]⟩ : ByteArray)] : List ByteArray)) false).bind fun t156 => (some (t156 == 2))) else (some false))) else (none)) else (if 1 + (t149 ++ t150).size ≤ 9223372036854775807 then ((impl_MatchPattern.f ((⟨#[33]⟩ : ByteArray) ++ (t149 ++ t150)) ([] : List ByteArray) l2 a3).bind fun t157 => (if t157 = t151 then ((impl_MatchPattern.f (⟨#[33, 97]⟩ : ByteArray) ([] : List ByteArray) (([(⟨#[97]⟩ : ByteArray)] : List ByteArray)) false).bind fun t161 => (some (t161 == 2))) else (some false))) else (none)))) else (none))) = some r := H
              have A15 := Aside0.mk A150
              clear A150
              replace H := Option.bind_eq_some_iff.mp H
              obtain ⟨t150, A160, H⟩ := H
              replace H : (if t149.size + t150.size ≤ 9223372036854775807 then ((impl_MatchPattern.f (t149 ++ t150) ([] : List ByteArray) l2 a3).bind fun t151 => (if t151 = 1 then (if 1 + (t149 ++ t150).size ≤ 9223372036854775807 then ((impl_MatchPattern.f ((⟨#[33]⟩ : ByteArray) ++ (t149 ++ t150)) ([] : List ByteArray) l2 a3).bind fun t152 => (if t152 = 2 then ((impl_MatchPattern.f (⟨#[33, 97]⟩ : ByteArray) ([] : List ByteArray) (([(⟨#[97]⟩ : ByteArray)] : List ByteArray)) false).bind fun t156 => (some (t156 == 2))) else (some false))) else (none)) else (if 1 + (t149 ++ t150).size ≤ 9223372036854775807 then ((impl_MatchPattern.f ((⟨#[33]⟩ : ByteArray) ++ (t149 ++ t150)) ([] : List ByteArray) l2 a3).bind fun t157 => (if t157 = t151 then ((impl_MatchPattern.f (⟨#[33, 97]⟩ : ByteArray) ([] : List ByteArray) (([(⟨#[97]⟩ : ByteArray)] : List ByteArray)) false).bind fun t161 => (some (t161 == 2))) else (some false))) else (none)))) else (none)) = some r := H
              have A16 := Aside0.mk A160
              clear A160
              by_cases c17 : t149.size + t150.size ≤ 9223372036854775807
              · rw [if_pos c17] at H
                have c17b0 := eq_true c17
                have c17b1 : decide (t149.size + t150.size ≤ 9223372036854775807) = true := decide_eq_true c17
                try have c17b2 : (9223372036854775807 < t149.size + t150.size) = False := eq_false (Nat.not_lt.2 c17)
                replace H := Option.bind_eq_some_iff.mp H
                obtain ⟨t151, A180, H⟩ := H
                replace H : (if t151 = 1 then (if 1 + (t149 ++ t150).size ≤ 9223372036854775807 then ((impl_MatchPattern.f ((⟨#[33]⟩ : ByteArray) ++ (t149 ++ t150)) ([] : List ByteArray) l2 a3).bind fun t152 => (if t152 = 2 then ((impl_MatchPattern.f (⟨#[33, 97]⟩ : ByteArray) ([] : List ByteArray) (([(⟨#[97]⟩ : ByteArray)] : List ByteArray)) false).bind fun t156 => (some (t156 == 2))) else (some false))) else (none)) else (if 1 + (t149 ++ t150).size ≤ 9223372036854775807 then ((impl_MatchPattern.f ((⟨#[33]⟩ : ByteArray) ++ (t149 ++ t150)) ([] : List ByteArray) l2 a3).bind fun t157 => (if t157 = t151 then ((impl_MatchPattern.f (⟨#[33, 97]⟩ : ByteArray) ([] : List ByteArray) (([(⟨#[97]⟩ : ByteArray)] : List ByteArray)) false).bind fun t161 => (some (t161 == 2))) else (some false))) else (none))) = some r := H
                have A18 := Aside0.mk A180
                clear A180
                by_cases c19 : t151 = 1
                · rw [if_pos c19] at H
                  have c19b0 : (t151 == 1) = true := beq_iff_eq.mpr c19
                  have c19b1 : (t151 != 1) = false := bne_eq_false_iff_eq.mpr c19
                  clear c19
                  by_cases c20 : 1 + (t149 ++ t150).size ≤ 9223372036854775807
                  · rw [if_pos c20] at H
                    have c20b0 := eq_true c20
                    have c20b1 : decide (1 + (t149 ++ t150).size ≤ 9223372036854775807) = true := decide_eq_true c20
                    try have c20b2 : (9223372036854775807 < 1 + (t149 ++ t150).size) = False := eq_false (Nat.not_lt.2 c20)
                    have c20b3 : (9223372036854775807 < 1 + (t149.size + t150.size)) = False := by rw [← ByteArray.size_append]; exact c20b2
                    replace H := Option.bind_eq_some_iff.mp H
                    obtain ⟨t152, A210, H⟩ := H
                    replace H : (if t152 = 2 then ((impl_MatchPattern.f (⟨#[33, 97]⟩ : ByteArray) ([] : List ByteArray) (([(⟨#[97]⟩ : ByteArray)] : List ByteArray)) false).bind fun t156 => (some (t156 == 2))) else (some false)) = some r := H
                    have A21 := Aside0.mk A210
                    clear A210
                    by_cases c22 : t152 = 2
                    · rw [if_pos c22] at H
                      have c22b0 : (t152 == 2) = true := beq_iff_eq.mpr c22
                      have c22b1 : (t152 != 2) = false := bne_eq_false_iff_eq.mpr c22
                      clear c22
                      obtain ⟨y153, hy153⟩ : ∃ y_ : List ByteArray, y_ = (([(⟨#[97]⟩ : ByteArray)] : List ByteArray)) := ⟨_, rfl⟩
                      replace H : ((impl_MatchPattern.f (⟨#[33, 97]⟩ : ByteArray) ([] : List ByteArray) y153 false).bind fun t156 => (some (t156 == 2))) = some r := by first | (rw [hy153]; with_reducible exact H) | (have H2_ := (Option.bind_some _ _).symm.trans H; rw [hy153]; with_reducible exact H2_) | (have H2_ := (Option.bind_some _ _).symm.trans H; with_reducible exact H2_) | with_reducible exact H | (rw [hy153]; exact H) | exact H
                      have Ny153 := Aside0.mk hy153
                      clear hy153
                      replace H := Option.bind_eq_some_iff.mp H
                      obtain ⟨t156, A230, H⟩ := H
                      replace H : (some (t156 == 2)) = some r := H
                      have A23 := Aside0.mk A230
                      clear A230
                      obtain rfl := Option.some.inj H
                      go_wp2_with (first | ((with_reducible refine gate_callee (f := 14) rfl ?_); refine goesL_ (some 28) rfl rfl Try.func14 (by kernel_rfl) rfl #[.slice A0 l0.length c0] rfl (by (try simp only [List.map_toArray, List.map_cons, List.map_nil]); first | done | rfl | (simp only [List.length_drop, List.length_take]; rfl)) ?_; (with_reducible refine (spec_Slashed.calls kj9 _ _ l0 t149 _ ?side1 ?side2 A15.out).mono ?_); (case side1 => repeat (first | exact (Kd.C_below HR0.out HB.out) | (with_reducible refine Kd.C_alloc ?_ _) | (with_reducible refine Kd.C_drewN ?_ _) | (with_reducible refine Kd.C_drew ?_))); (case side2 => exact HC0.out); rintro e w' ⟨rfl, ⟨nd, rfl⟩⟩; refine ⟨_, rfl, ?_⟩) | ((with_reducible refine gate_callee (f := 12) rfl ?_); refine goesL_ (some 30) rfl rfl Try.func12 (by kernel_rfl) rfl #[.bool a1] rfl (by (try simp only [List.map_toArray, List.map_cons, List.map_nil]); first | done | rfl | (simp only [List.length_drop, List.length_take]; rfl)) ?_; (with_reducible refine (laws_igTail.calls a1 t150 _ A16.out).mono ?_); rintro e w' ⟨rfl, ⟨nd, rfl⟩⟩; refine ⟨_, rfl, ?_⟩) | ((with_reducible refine gate_callee (f := 15) rfl ?_); refine goesL_ (some 35) rfl rfl Try.func15 (by kernel_rfl) rfl #[.string (t149 ++ t150), .slice none 0 0, .slice A2 l2.length c2, .bool a3] rfl (by (try simp only [List.map_toArray, List.map_cons, List.map_nil]); first | done | rfl | (simp only [List.length_drop, List.length_take]; rfl)) ?_; (refine (impl_MatchPattern.calls (t149 ++ t150) _ _ ([] : List ByteArray) _ _ l2 a3 t151 _ ?side1 ?side2 ?side3 ?side4 A18.out).mono ?_); (case side1 => exact Kd.C_nil _ _); (case side2 => exact Nat.le_refl _); (case side3 => repeat (first | exact (Kd.C_below HR2.out (by repeat (first | (with_reducible first | exact HB.out | apply below_alloc | apply pw_below_drewN | apply below_drew1) | exact HB.out))) | (with_reducible refine Kd.C_alloc ?_ _) | (with_reducible refine Kd.C_drewN ?_ _) | (with_reducible refine Kd.C_drew ?_))); (case side4 => exact HC2.out); rintro e w24 ⟨rfl, hb⟩; refine ⟨_, rfl, ?_⟩; have n0_ := Aside0.mk (below_step (by repeat (first | (with_reducible first | exact HB.out | apply below_alloc | apply pw_below_drewN | apply below_drew1) | exact HB.out)) hb); clear HB; have HB := n0_; clear n0_; (try clear hb); (try clear hb2); (try clear hk); (try clear hi)) | ((with_reducible refine gate_callee (f := 15) rfl ?_); refine goesL_ (some 42) rfl rfl Try.func15 (by kernel_rfl) rfl #[.string ((⟨#[33]⟩ : ByteArray) ++ (t149 ++ t150)), .slice none 0 0, .slice A2 l2.length c2, .bool a3] rfl (by (try simp only [List.map_toArray, List.map_cons, List.map_nil]); first | done | rfl | (simp only [List.length_drop, List.length_take]; rfl)) ?_; (refine (impl_MatchPattern.calls ((⟨#[33]⟩ : ByteArray) ++ (t149 ++ t150)) _ _ ([] : List ByteArray) _ _ l2 a3 t152 _ ?side1 ?side2 ?side3 ?side4 A21.out).mono ?_); (case side1 => exact Kd.C_nil _ _); (case side2 => exact Nat.le_refl _); (case side3 => repeat (first | exact (Kd.C_below HR2.out HB.out) | (with_reducible refine Kd.C_alloc ?_ _) | (with_reducible refine Kd.C_drewN ?_ _) | (with_reducible refine Kd.C_drew ?_))); (case side4 => exact HC2.out); rintro e w25 ⟨rfl, hb⟩; refine ⟨_, rfl, ?_⟩; have n0_ := Aside0.mk (below_step (by repeat (first | (with_reducible first | exact HB.out | apply below_alloc | apply pw_below_drewN | apply below_drew1) | exact HB.out)) hb); clear HB; have HB := n0_; clear n0_; (try clear hb); (try clear hb2); (try clear hk); (try clear hi)) | ((with_reducible refine gate_dst (N := 46) rfl ?_); (try (refine gate_guard (by rfl) ?_; dsimp only)); refine Kd.R_lit Kd.string _ 9 ?hg (N := 46) ?hd (xs := ([(⟨#[97]⟩ : ByteArray)] : List ByteArray)) (inner := [.string (⟨#[97]⟩ : ByteArray)]) (ok := fun _ => True) (okp := fun _ => True) ?hr ?hp (fun _ hk => hk) trivial (Below.refl _ _) (Nat.le_refl _) (by simp) ?_; (case hd => rfl); (case hg => rfl); (case hr => first | (go_simp; done) | (go_simp; rfl)); (case hp => exact (Reps.one (show Kd.M Kd.string _ _ _ (⟨#[97]⟩ : ByteArray) [.string (⟨#[97]⟩ : ByteArray)] from rfl) (Reps.none _ _))); intro v154 w26 ho27 hb hg_ hnew_; clear hg_ hnew_; (first | rw [← Ny153.out] at ho27 | (simp only [Int.reduceToNat] at ho27; rw [← Ny153.out] at ho27)); have n0_ := Aside0.mk (Kd.R_lower ho27 (below_size (by repeat (first | (with_reducible first | exact HB.out | apply below_alloc | apply pw_below_drewN | apply below_drew1) | exact HB.out)))); have n1_ := Aside0.mk (below_step (by repeat (first | (with_reducible first | exact HB.out | apply below_alloc | apply pw_below_drewN | apply below_drew1) | exact HB.out)) hb); clear HB; have HO155 := n0_; have HB := n1_; clear n0_ n1_; clear hb ho27; obtain ⟨Ao28, co28, eo28⟩ := Kd.R_slice HO155.out; subst eo28) | (go_at_call 15; (refine (impl_MatchPattern.calls (⟨#[33, 97]⟩ : ByteArray) _ _ ([] : List ByteArray) _ _ y153 false t156 _ ?side1 ?side2 ?side3 ?side4 A23.out).mono ?_); (case side1 => exact Kd.C_nil _ _); (case side2 => exact Nat.le_refl _); (case side3 => repeat (first | exact (Kd.R_reads' HO155.out).2.2 | (with_reducible refine Kd.C_alloc ?_ _) | (with_reducible refine Kd.C_drewN ?_ _) | (with_reducible refine Kd.C_drew ?_))); (case side4 => exact (Kd.R_reads' HO155.out).2.1); rintro e w29 ⟨rfl, hb⟩; have n0_ := Aside0.mk (Kd.R_below (by (with_reducible repeat (first | apply Kd.R_alloc | apply Kd.R_drewN | apply Kd.R_drew)); exact HO155.out) hb); have n1_ := Aside0.mk (below_step (by repeat (first | (with_reducible first | exact HB.out | apply below_alloc | apply pw_below_drewN | apply below_drew1) | exact HB.out)) hb); clear HO155; clear HB; have HO155 := n0_; have HB := n1_; clear n0_ n1_; (try clear hb); (try clear hb2); (try clear hk); (try clear hi)))
                      go_ret
                      exact ⟨by first | rfl | (simp [errW_none, errW_some] <;> rfl) | (simp [*, errW_none, errW_some] <;> rfl), by repeat (first | (with_reducible first | exact HB.out | apply below_alloc | apply pw_below_drewN | apply below_drew1) | exact HB.out)⟩
                    · rw [if_neg c22] at H
                      have c22b0 : (t152 == 2) = false := beq_eq_false_iff_ne.mpr c22
                      have c22b1 : (t152 != 2) = true := bne_iff_ne.mpr c22
                      obtain rfl := Option.some.inj H
                      go_wp2_with (first | ((with_reducible refine gate_callee (f := 14) rfl ?_); refine goesL_ (some 28) rfl rfl Try.func14 (by kernel_rfl) rfl #[.slice A0 l0.length c0] rfl (by (try simp only [List.map_toArray, List.map_cons, List.map_nil]); first | done | rfl | (simp only [List.length_drop, List.length_take]; rfl)) ?_; (with_reducible refine (spec_Slashed.calls kj9 _ _ l0 t149 _ ?side1 ?side2 A15.out).mono ?_); (case side1 => repeat (first | exact (Kd.C_below HR0.out HB.out) | (with_reducible refine Kd.C_alloc ?_ _) | (with_reducible refine Kd.C_drewN ?_ _) | (with_reducible refine Kd.C_drew ?_))); (case side2 => exact HC0.out); rintro e w' ⟨rfl, ⟨nd, rfl⟩⟩; refine ⟨_, rfl, ?_⟩) | ((with_reducible refine gate_callee (f := 12) rfl ?_); refine goesL_ (some 30) rfl rfl Try.func12 (by kernel_rfl) rfl #[.bool a1] rfl (by (try simp only [List.map_toArray, List.map_cons, List.map_nil]); first | done | rfl | (simp only [List.length_drop, List.length_take]; rfl)) ?_; (with_reducible refine (laws_igTail.calls a1 t150 _ A16.out).mono ?_); rintro e w' ⟨rfl, ⟨nd, rfl⟩⟩; refine ⟨_, rfl, ?_⟩) | ((with_reducible refine gate_callee (f := 15) rfl ?_); refine goesL_ (some 35) rfl rfl Try.func15 (by kernel_rfl) rfl #[.string (t149 ++ t150), .slice none 0 0, .slice A2 l2.length c2, .bool a3] rfl (by (try simp only [List.map_toArray, List.map_cons, List.map_nil]); first | done | rfl | (simp only [List.length_drop, List.length_take]; rfl)) ?_; (refine (impl_MatchPattern.calls (t149 ++ t150) _ _ ([] : List ByteArray) _ _ l2 a3 t151 _ ?side1 ?side2 ?side3 ?side4 A18.out).mono ?_); (case side1 => exact Kd.C_nil _ _); (case side2 => exact Nat.le_refl _); (case side3 => repeat (first | exact (Kd.C_below HR2.out (by repeat (first | (with_reducible first | exact HB.out | apply below_alloc | apply pw_below_drewN | apply below_drew1) | exact HB.out))) | (with_reducible refine Kd.C_alloc ?_ _) | (with_reducible refine Kd.C_drewN ?_ _) | (with_reducible refine Kd.C_drew ?_))); (case side4 => exact HC2.out); rintro e w30 ⟨rfl, hb⟩; refine ⟨_, rfl, ?_⟩; have n0_ := Aside0.mk (below_step (by repeat (first | (with_reducible first | exact HB.out | apply below_alloc | apply pw_below_drewN | apply below_drew1) | exact HB.out)) hb); clear HB; have HB := n0_; clear n0_; (try clear hb); (try clear hb2); (try clear hk); (try clear hi)) | ((with_reducible refine gate_callee (f := 15) rfl ?_); refine goesL_ (some 42) rfl rfl Try.func15 (by kernel_rfl) rfl #[.string ((⟨#[33]⟩ : ByteArray) ++ (t149 ++ t150)), .slice none 0 0, .slice A2 l2.length c2, .bool a3] rfl (by (try simp only [List.map_toArray, List.map_cons, List.map_nil]); first | done | rfl | (simp only [List.length_drop, List.length_take]; rfl)) ?_; (refine (impl_MatchPattern.calls ((⟨#[33]⟩ : ByteArray) ++ (t149 ++ t150)) _ _ ([] : List ByteArray) _ _ l2 a3 t152 _ ?side1 ?side2 ?side3 ?side4 A21.out).mono ?_); (case side1 => exact Kd.C_nil _ _); (case side2 => exact Nat.le_refl _); (case side3 => repeat (first | exact (Kd.C_below HR2.out HB.out) | (with_reducible refine Kd.C_alloc ?_ _) | (with_reducible refine Kd.C_drewN ?_ _) | (with_reducible refine Kd.C_drew ?_))); (case side4 => exact HC2.out); rintro e w31 ⟨rfl, hb⟩; refine ⟨_, rfl, ?_⟩; have n0_ := Aside0.mk (below_step (by repeat (first | (with_reducible first | exact HB.out | apply below_alloc | apply pw_below_drewN | apply below_drew1) | exact HB.out)) hb); clear HB; have HB := n0_; clear n0_; (try clear hb); (try clear hb2); (try clear hk); (try clear hi)))
                      go_ret
                      exact ⟨by first | rfl | (simp [errW_none, errW_some] <;> rfl) | (simp [*, errW_none, errW_some] <;> rfl), by repeat (first | (with_reducible first | exact HB.out | apply below_alloc | apply pw_below_drewN | apply below_drew1) | exact HB.out)⟩
                  · rw [if_neg c20] at H
                    exact absurd H (by simp)
                · rw [if_neg c19] at H
                  have c19b0 : (t151 == 1) = false := beq_eq_false_iff_ne.mpr c19
                  have c19b1 : (t151 != 1) = true := bne_iff_ne.mpr c19
                  by_cases c32 : 1 + (t149 ++ t150).size ≤ 9223372036854775807
                  · rw [if_pos c32] at H
                    have c32b0 := eq_true c32
                    have c32b1 : decide (1 + (t149 ++ t150).size ≤ 9223372036854775807) = true := decide_eq_true c32
                    try have c32b2 : (9223372036854775807 < 1 + (t149 ++ t150).size) = False := eq_false (Nat.not_lt.2 c32)
                    have c32b3 : (9223372036854775807 < 1 + (t149.size + t150.size)) = False := by rw [← ByteArray.size_append]; exact c32b2
                    replace H := Option.bind_eq_some_iff.mp H
                    obtain ⟨t157, A330, H⟩ := H
                    replace H : (if t157 = t151 then ((impl_MatchPattern.f (⟨#[33, 97]⟩ : ByteArray) ([] : List ByteArray) (([(⟨#[97]⟩ : ByteArray)] : List ByteArray)) false).bind fun t161 => (some (t161 == 2))) else (some false)) = some r := H
                    have A33 := Aside0.mk A330
                    clear A330
                    by_cases c34 : t157 = t151
                    · rw [if_pos c34] at H
                      have c34b0 : (t157 == t151) = true := beq_iff_eq.mpr c34
                      have c34b1 : (t157 != t151) = false := bne_eq_false_iff_eq.mpr c34
                      clear c34
                      obtain ⟨y158, hy158⟩ : ∃ y_ : List ByteArray, y_ = (([(⟨#[97]⟩ : ByteArray)] : List ByteArray)) := ⟨_, rfl⟩
                      replace H : ((impl_MatchPattern.f (⟨#[33, 97]⟩ : ByteArray) ([] : List ByteArray) y158 false).bind fun t161 => (some (t161 == 2))) = some r := by first | (rw [hy158]; with_reducible exact H) | (have H2_ := (Option.bind_some _ _).symm.trans H; rw [hy158]; with_reducible exact H2_) | (have H2_ := (Option.bind_some _ _).symm.trans H; with_reducible exact H2_) | with_reducible exact H | (rw [hy158]; exact H) | exact H
                      have Ny158 := Aside0.mk hy158
                      clear hy158
                      replace H := Option.bind_eq_some_iff.mp H
                      obtain ⟨t161, A350, H⟩ := H
                      replace H : (some (t161 == 2)) = some r := H
                      have A35 := Aside0.mk A350
                      clear A350
                      obtain rfl := Option.some.inj H
                      go_wp2_with (first | ((with_reducible refine gate_callee (f := 14) rfl ?_); refine goesL_ (some 28) rfl rfl Try.func14 (by kernel_rfl) rfl #[.slice A0 l0.length c0] rfl (by (try simp only [List.map_toArray, List.map_cons, List.map_nil]); first | done | rfl | (simp only [List.length_drop, List.length_take]; rfl)) ?_; (with_reducible refine (spec_Slashed.calls kj9 _ _ l0 t149 _ ?side1 ?side2 A15.out).mono ?_); (case side1 => repeat (first | exact (Kd.C_below HR0.out HB.out) | (with_reducible refine Kd.C_alloc ?_ _) | (with_reducible refine Kd.C_drewN ?_ _) | (with_reducible refine Kd.C_drew ?_))); (case side2 => exact HC0.out); rintro e w' ⟨rfl, ⟨nd, rfl⟩⟩; refine ⟨_, rfl, ?_⟩) | ((with_reducible refine gate_callee (f := 12) rfl ?_); refine goesL_ (some 30) rfl rfl Try.func12 (by kernel_rfl) rfl #[.bool a1] rfl (by (try simp only [List.map_toArray, List.map_cons, List.map_nil]); first | done | rfl | (simp only [List.length_drop, List.length_take]; rfl)) ?_; (with_reducible refine (laws_igTail.calls a1 t150 _ A16.out).mono ?_); rintro e w' ⟨rfl, ⟨nd, rfl⟩⟩; refine ⟨_, rfl, ?_⟩) | ((with_reducible refine gate_callee (f := 15) rfl ?_); refine goesL_ (some 35) rfl rfl Try.func15 (by kernel_rfl) rfl #[.string (t149 ++ t150), .slice none 0 0, .slice A2 l2.length c2, .bool a3] rfl (by (try simp only [List.map_toArray, List.map_cons, List.map_nil]); first | done | rfl | (simp only [List.length_drop, List.length_take]; rfl)) ?_; (refine (impl_MatchPattern.calls (t149 ++ t150) _ _ ([] : List ByteArray) _ _ l2 a3 t151 _ ?side1 ?side2 ?side3 ?side4 A18.out).mono ?_); (case side1 => exact Kd.C_nil _ _); (case side2 => exact Nat.le_refl _); (case side3 => repeat (first | exact (Kd.C_below HR2.out (by repeat (first | (with_reducible first | exact HB.out | apply below_alloc | apply pw_below_drewN | apply below_drew1) | exact HB.out))) | (with_reducible refine Kd.C_alloc ?_ _) | (with_reducible refine Kd.C_drewN ?_ _) | (with_reducible refine Kd.C_drew ?_))); (case side4 => exact HC2.out); rintro e w36 ⟨rfl, hb⟩; refine ⟨_, rfl, ?_⟩; have n0_ := Aside0.mk (below_step (by repeat (first | (with_reducible first | exact HB.out | apply below_alloc | apply pw_below_drewN | apply below_drew1) | exact HB.out)) hb); clear HB; have HB := n0_; clear n0_; (try clear hb); (try clear hb2); (try clear hk); (try clear hi)) | ((with_reducible refine gate_callee (f := 15) rfl ?_); refine goesL_ (some 42) rfl rfl Try.func15 (by kernel_rfl) rfl #[.string ((⟨#[33]⟩ : ByteArray) ++ (t149 ++ t150)), .slice none 0 0, .slice A2 l2.length c2, .bool a3] rfl (by (try simp only [List.map_toArray, List.map_cons, List.map_nil]); first | done | rfl | (simp only [List.length_drop, List.length_take]; rfl)) ?_; (refine (impl_MatchPattern.calls ((⟨#[33]⟩ : ByteArray) ++ (t149 ++ t150)) _ _ ([] : List ByteArray) _ _ l2 a3 t157 _ ?side1 ?side2 ?side3 ?side4 A33.out).mono ?_); (case side1 => exact Kd.C_nil _ _); (case side2 => exact Nat.le_refl _); (case side3 => repeat (first | exact (Kd.C_below HR2.out HB.out) | (with_reducible refine Kd.C_alloc ?_ _) | (with_reducible refine Kd.C_drewN ?_ _) | (with_reducible refine Kd.C_drew ?_))); (case side4 => exact HC2.out); rintro e w37 ⟨rfl, hb⟩; refine ⟨_, rfl, ?_⟩; have n0_ := Aside0.mk (below_step (by repeat (first | (with_reducible first | exact HB.out | apply below_alloc | apply pw_below_drewN | apply below_drew1) | exact HB.out)) hb); clear HB; have HB := n0_; clear n0_; (try clear hb); (try clear hb2); (try clear hk); (try clear hi)) | ((with_reducible refine gate_dst (N := 46) rfl ?_); (try (refine gate_guard (by rfl) ?_; dsimp only)); refine Kd.R_lit Kd.string _ 9 ?hg (N := 46) ?hd (xs := ([(⟨#[97]⟩ : ByteArray)] : List ByteArray)) (inner := [.string (⟨#[97]⟩ : ByteArray)]) (ok := fun _ => True) (okp := fun _ => True) ?hr ?hp (fun _ hk => hk) trivial (Below.refl _ _) (Nat.le_refl _) (by simp) ?_; (case hd => rfl); (case hg => rfl); (case hr => first | (go_simp; done) | (go_simp; rfl)); (case hp => exact (Reps.one (show Kd.M Kd.string _ _ _ (⟨#[97]⟩ : ByteArray) [.string (⟨#[97]⟩ : ByteArray)] from rfl) (Reps.none _ _))); intro v159 w38 ho39 hb hg_ hnew_; clear hg_ hnew_; (first | rw [← Ny158.out] at ho39 | (simp only [Int.reduceToNat] at ho39; rw [← Ny158.out] at ho39)); have n0_ := Aside0.mk (Kd.R_lower ho39 (below_size (by repeat (first | (with_reducible first | exact HB.out | apply below_alloc | apply pw_below_drewN | apply below_drew1) | exact HB.out)))); have n1_ := Aside0.mk (below_step (by repeat (first | (with_reducible first | exact HB.out | apply below_alloc | apply pw_below_drewN | apply below_drew1) | exact HB.out)) hb); clear HB; have HO160 := n0_; have HB := n1_; clear n0_ n1_; clear hb ho39; obtain ⟨Ao40, co40, eo40⟩ := Kd.R_slice HO160.out; subst eo40) | (go_at_call 15; (refine (impl_MatchPattern.calls (⟨#[33, 97]⟩ : ByteArray) _ _ ([] : List ByteArray) _ _ y158 false t161 _ ?side1 ?side2 ?side3 ?side4 A35.out).mono ?_); (case side1 => exact Kd.C_nil _ _); (case side2 => exact Nat.le_refl _); (case side3 => repeat (first | exact (Kd.R_reads' HO160.out).2.2 | (with_reducible refine Kd.C_alloc ?_ _) | (with_reducible refine Kd.C_drewN ?_ _) | (with_reducible refine Kd.C_drew ?_))); (case side4 => exact (Kd.R_reads' HO160.out).2.1); rintro e w41 ⟨rfl, hb⟩; have n0_ := Aside0.mk (Kd.R_below (by (with_reducible repeat (first | apply Kd.R_alloc | apply Kd.R_drewN | apply Kd.R_drew)); exact HO160.out) hb); have n1_ := Aside0.mk (below_step (by repeat (first | (with_reducible first | exact HB.out | apply below_alloc | apply pw_below_drewN | apply below_drew1) | exact HB.out)) hb); clear HO160; clear HB; have HO160 := n0_; have HB := n1_; clear n0_ n1_; (try clear hb); (try clear hb2); (try clear hk); (try clear hi)))
                      go_ret
                      exact ⟨by first | rfl | (simp [errW_none, errW_some] <;> rfl) | (simp [*, errW_none, errW_some] <;> rfl), by repeat (first | (with_reducible first | exact HB.out | apply below_alloc | apply pw_below_drewN | apply below_drew1) | exact HB.out)⟩
                    · rw [if_neg c34] at H
                      have c34b0 : (t157 == t151) = false := beq_eq_false_iff_ne.mpr c34
                      have c34b1 : (t157 != t151) = true := bne_iff_ne.mpr c34
                      obtain rfl := Option.some.inj H
                      go_wp2_with (first | ((with_reducible refine gate_callee (f := 14) rfl ?_); refine goesL_ (some 28) rfl rfl Try.func14 (by kernel_rfl) rfl #[.slice A0 l0.length c0] rfl (by (try simp only [List.map_toArray, List.map_cons, List.map_nil]); first | done | rfl | (simp only [List.length_drop, List.length_take]; rfl)) ?_; (with_reducible refine (spec_Slashed.calls kj9 _ _ l0 t149 _ ?side1 ?side2 A15.out).mono ?_); (case side1 => repeat (first | exact (Kd.C_below HR0.out HB.out) | (with_reducible refine Kd.C_alloc ?_ _) | (with_reducible refine Kd.C_drewN ?_ _) | (with_reducible refine Kd.C_drew ?_))); (case side2 => exact HC0.out); rintro e w' ⟨rfl, ⟨nd, rfl⟩⟩; refine ⟨_, rfl, ?_⟩) | ((with_reducible refine gate_callee (f := 12) rfl ?_); refine goesL_ (some 30) rfl rfl Try.func12 (by kernel_rfl) rfl #[.bool a1] rfl (by (try simp only [List.map_toArray, List.map_cons, List.map_nil]); first | done | rfl | (simp only [List.length_drop, List.length_take]; rfl)) ?_; (with_reducible refine (laws_igTail.calls a1 t150 _ A16.out).mono ?_); rintro e w' ⟨rfl, ⟨nd, rfl⟩⟩; refine ⟨_, rfl, ?_⟩) | ((with_reducible refine gate_callee (f := 15) rfl ?_); refine goesL_ (some 35) rfl rfl Try.func15 (by kernel_rfl) rfl #[.string (t149 ++ t150), .slice none 0 0, .slice A2 l2.length c2, .bool a3] rfl (by (try simp only [List.map_toArray, List.map_cons, List.map_nil]); first | done | rfl | (simp only [List.length_drop, List.length_take]; rfl)) ?_; (refine (impl_MatchPattern.calls (t149 ++ t150) _ _ ([] : List ByteArray) _ _ l2 a3 t151 _ ?side1 ?side2 ?side3 ?side4 A18.out).mono ?_); (case side1 => exact Kd.C_nil _ _); (case side2 => exact Nat.le_refl _); (case side3 => repeat (first | exact (Kd.C_below HR2.out (by repeat (first | (with_reducible first | exact HB.out | apply below_alloc | apply pw_below_drewN | apply below_drew1) | exact HB.out))) | (with_reducible refine Kd.C_alloc ?_ _) | (with_reducible refine Kd.C_drewN ?_ _) | (with_reducible refine Kd.C_drew ?_))); (case side4 => exact HC2.out); rintro e w42 ⟨rfl, hb⟩; refine ⟨_, rfl, ?_⟩; have n0_ := Aside0.mk (below_step (by repeat (first | (with_reducible first | exact HB.out | apply below_alloc | apply pw_below_drewN | apply below_drew1) | exact HB.out)) hb); clear HB; have HB := n0_; clear n0_; (try clear hb); (try clear hb2); (try clear hk); (try clear hi)) | ((with_reducible refine gate_callee (f := 15) rfl ?_); refine goesL_ (some 42) rfl rfl Try.func15 (by kernel_rfl) rfl #[.string ((⟨#[33]⟩ : ByteArray) ++ (t149 ++ t150)), .slice none 0 0, .slice A2 l2.length c2, .bool a3] rfl (by (try simp only [List.map_toArray, List.map_cons, List.map_nil]); first | done | rfl | (simp only [List.length_drop, List.length_take]; rfl)) ?_; (refine (impl_MatchPattern.calls ((⟨#[33]⟩ : ByteArray) ++ (t149 ++ t150)) _ _ ([] : List ByteArray) _ _ l2 a3 t157 _ ?side1 ?side2 ?side3 ?side4 A33.out).mono ?_); (case side1 => exact Kd.C_nil _ _); (case side2 => exact Nat.le_refl _); (case side3 => repeat (first | exact (Kd.C_below HR2.out HB.out) | (with_reducible refine Kd.C_alloc ?_ _) | (with_reducible refine Kd.C_drewN ?_ _) | (with_reducible refine Kd.C_drew ?_))); (case side4 => exact HC2.out); rintro e w43 ⟨rfl, hb⟩; refine ⟨_, rfl, ?_⟩; have n0_ := Aside0.mk (below_step (by repeat (first | (with_reducible first | exact HB.out | apply below_alloc | apply pw_below_drewN | apply below_drew1) | exact HB.out)) hb); clear HB; have HB := n0_; clear n0_; (try clear hb); (try clear hb2); (try clear hk); (try clear hi)))
                      go_ret
                      exact ⟨by first | rfl | (simp [errW_none, errW_some] <;> rfl) | (simp [*, errW_none, errW_some] <;> rfl), by repeat (first | (with_reducible first | exact HB.out | apply below_alloc | apply pw_below_drewN | apply below_drew1) | exact HB.out)⟩
                  · rw [if_neg c32] at H
                    exact absurd H (by simp)
              · rw [if_neg c17] at H
                exact absurd H (by simp)

-- NOT PRINTED: function 20 (gitignore_NewMatcher)

end
end Go.Proofs.Ytlnfkpmmnennbaa.QAll
