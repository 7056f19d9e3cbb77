-- WRITTEN BY A PROGRAM OF THIS SESSION, out of the loaded program, with words of the kit
import Derived.Test.YtlnfkpmmnennbaaQAllx0
import Derived.Test.YtlnfkpmmnennbaaQAllx1
import Derived.Test.YtlnfkpmmnennbaaQAllx2
import Derived.Test.YtlnfkpmmnennbaaQAllx3
import Derived.Test.YtlnfkpmmnennbaaQAllx5
import Derived.Test.YtlnfkpmmnennbaaQAllx7
import Derived.Test.YtlnfkpmmnennbaaQAllx9
namespace Go.Proofs.Ytlnfkpmmnennbaa.QAll
noncomputable section
open Go.RowKit Go.Proofs.YtlnfkpmmnennbaaW.PrintWords Go.Proofs.YtlnfkpmmnennbaaW.PrintLast Go.Proofs.YtlnfkpmmnennbaaW.PrintMore
attribute [local go_sem] max2_int min2_int max_two min_two max_three min_three max_four min_four   -- for this text's walks alone
set_option linter.unusedVariables false
set_option linter.unusedSimpArgs false

/-! ### laws_FnIgnoreName: function 4 -/
mutual
def laws_FnIgnoreName.j0 : Nat → ByteArray → Bool → List ByteArray → Bool → Bool → Option (Bool)
  | 0, _, _, _, _, _ => none
  | k + 1, x0, x1, x2, x3, x16 => if x16 = true then (some true) else ((spec_IsGlob.f k x0).bind fun t137 => (if t137 = true then ((spec_IsPath.f k x2).bind fun t138 => (laws_FnIgnoreName.j1 k x0 x1 x2 x3 (!t138))) else (laws_FnIgnoreName.j1 k x0 x1 x2 x3 true)))
def laws_FnIgnoreName.j1 : Nat → ByteArray → Bool → List ByteArray → Bool → Bool → Option (Bool)
  | 0, _, _, _, _, _ => none
  | k + 1, x0, x1, x2, x3, x24 => if x24 = true then (some true) else ((laws_igTail.f x1).bind fun t139 => (if x0.size + t139.size ≤ 9223372036854775807 then ((spec_NameIgnored.f k x0 x1 x2 x3).bind fun t140 => ((laws_igIs.f (x0 ++ t139) x2 x3 t140).bind fun t141 => (some t141))) else (none)))
end
def laws_FnIgnoreName.f (k : Nat) (a0 : ByteArray) (a1 : Bool) (l2 : List ByteArray) (a3 : Bool) : Option (Bool) := if (a0.size : Int) > 2147483647 then (laws_FnIgnoreName.j0 k a0 a1 l2 a3 true) else ((laws_zzFits16.f k l2).bind fun t136 => (laws_FnIgnoreName.j0 k a0 a1 l2 a3 (!t136)))
theorem laws_FnIgnoreName.mono_l : ∀ k, (∀ y0 y1 y2 y3 y4, LeO (laws_FnIgnoreName.j0 k y0 y1 y2 y3 y4) (laws_FnIgnoreName.j0 (k + 1) y0 y1 y2 y3 y4)) ∧ (∀ y0 y1 y2 y3 y4, LeO (laws_FnIgnoreName.j1 k y0 y1 y2 y3 y4) (laws_FnIgnoreName.j1 (k + 1) y0 y1 y2 y3 y4))
  | 0 => ⟨fun _ _ _ _ _ r h => by simp [laws_FnIgnoreName.j0] at h, fun _ _ _ _ _ r h => by simp [laws_FnIgnoreName.j1] at h⟩
  | k + 1 => by
    obtain ⟨ih0, ih1⟩ := laws_FnIgnoreName.mono_l k
    refine ⟨?_, ?_⟩
    · intro y0 y1 y2 y3 y4
      unfold laws_FnIgnoreName.j0
      repeat' first
      | (with_reducible exact ih0 _ _ _ _ _)
      | (with_reducible exact ih1 _ _ _ _ _)
      | (with_reducible exact laws_zzFits16.mono _ _)
      | (with_reducible exact spec_IsGlob.mono _ _)
      | (with_reducible exact spec_IsPath.mono _ _)
      | (with_reducible exact spec_NameIgnored.mono _ _ _ _ _)
      | (with_reducible exact LeO.refl _)
      | (with_reducible exact LeO.none _)
      | (with_reducible refine LeO.ite ?_ ?_)
      | (with_reducible refine LeO.bind ?_ (fun _ => ?_))
      | exact ih0 _ _ _ _ _
      | exact ih1 _ _ _ _ _
      | exact laws_zzFits16.mono _ _
      | exact spec_IsGlob.mono _ _
      | exact spec_IsPath.mono _ _
      | exact spec_NameIgnored.mono _ _ _ _ _
      | exact LeO.none _
      | refine LeO.ite ?_ ?_
      | refine LeO.bind ?_ (fun _ => ?_)
    · intro y0 y1 y2 y3 y4
      unfold laws_FnIgnoreName.j1
      repeat' first
      | (with_reducible exact ih0 _ _ _ _ _)
      | (with_reducible exact ih1 _ _ _ _ _)
      | (with_reducible exact laws_zzFits16.mono _ _)
      | (with_reducible exact spec_IsGlob.mono _ _)
      | (with_reducible exact spec_IsPath.mono _ _)
      | (with_reducible exact spec_NameIgnored.mono _ _ _ _ _)
      | (with_reducible exact LeO.refl _)
      | (with_reducible exact LeO.none _)
      | (with_reducible refine LeO.ite ?_ ?_)
      | (with_reducible refine LeO.bind ?_ (fun _ => ?_))
      | exact ih0 _ _ _ _ _
      | exact ih1 _ _ _ _ _
      | exact laws_zzFits16.mono _ _
      | exact spec_IsGlob.mono _ _
      | exact spec_IsPath.mono _ _
      | exact spec_NameIgnored.mono _ _ _ _ _
      | exact LeO.none _
      | refine LeO.ite ?_ ?_
      | refine LeO.bind ?_ (fun _ => ?_)
theorem laws_FnIgnoreName.mono : ∀ a0 a1 a2 a3 k, LeO (laws_FnIgnoreName.f k a0 a1 a2 a3) (laws_FnIgnoreName.f (k + 1) a0 a1 a2 a3) := by
  intro a0 a1 a2 a3 k
  obtain ⟨ih0, ih1⟩ := laws_FnIgnoreName.mono_l k
  unfold laws_FnIgnoreName.f
  repeat' first
      | (with_reducible exact ih0 _ _ _ _ _)
      | (with_reducible exact ih1 _ _ _ _ _)
      | (with_reducible exact laws_zzFits16.mono _ _)
      | (with_reducible exact spec_IsGlob.mono _ _)
      | (with_reducible exact spec_IsPath.mono _ _)
      | (with_reducible exact spec_NameIgnored.mono _ _ _ _ _)
      | (with_reducible exact LeO.refl _)
      | (with_reducible exact LeO.none _)
      | (with_reducible refine LeO.ite ?_ ?_)
      | (with_reducible refine LeO.bind ?_ (fun _ => ?_))
      | exact ih0 _ _ _ _ _
      | exact ih1 _ _ _ _ _
      | exact laws_zzFits16.mono _ _
      | exact spec_IsGlob.mono _ _
      | exact spec_IsPath.mono _ _
      | exact spec_NameIgnored.mono _ _ _ _ _
      | exact LeO.none _
      | refine LeO.ite ?_ ?_
      | refine LeO.bind ?_ (fun _ => ?_)
set_option maxHeartbeats 8000000 in
set_option maxRecDepth 100000 in
theorem laws_FnIgnoreName.calls (k : Nat) (a0 : ByteArray) (a1 : Bool) (A2 : Option Addr) (c2 : Nat) (l2 : List ByteArray) (a3 : Bool) (r : Bool) (w : World) (hr2 : Kd.C Kd.string w A2 l2.length l2) (hc2 : l2.length ≤ c2) (h : laws_FnIgnoreName.f k a0 a1 l2 a3 = some r) :
    Calls Try.prog 4 #[.string a0, .bool a1, .slice A2 l2.length c2, .bool a3] w fun e w' => e = .returned (.bool r) ∧ Below w.heap.size w w' := by
  have HR2 := Aside0.mk hr2
  have HC2 := Aside0.mk hc2
  clear hr2 hc2
  have HB := Aside0.mk (Below.refl w.heap.size w)
  have H : (if (a0.size : Int) > 2147483647 then (laws_FnIgnoreName.j0 k a0 a1 l2 a3 true) else ((laws_zzFits16.f k l2).bind fun t136 => (laws_FnIgnoreName.j0 k a0 a1 l2 a3 (!t136)))) = some r := h
  clear h
  have HC5 := Aside0.mk H
  clear H
  go_enter Try.func4, Try.ntmps4
  go_upto_region 1 with (fail)
  go_cut [16] (fun v16 wc => ∃ (kq : Nat) (x16_4 : Bool), v16 = .bool x16_4 ∧ Aside0 (laws_FnIgnoreName.j0 kq a0 a1 l2 a3 x16_4 = some r) ∧ Aside0 (kq ≤ k) ∧ Aside0 (Below w.heap.size w wc))
  case first =>
    have H := HC5.out
    clear HC5
    by_cases c6 : (a0.size : Int) > 2147483647
    · rw [if_pos c6] at H
      have c6b0 : decide (2147483647 < (a0.size : Int)) = true := decide_eq_true c6
      have c6b1 : decide (2147483647 < a0.size) = true := decide_eq_true (by omega)
      clear c6
      (first | rw [c6b0] | (simp only [i64_w, i32_w]; rw [c6b0]) | skip)
      have H' := Aside0.mk H
      clear H
      go_wp2
      go_meet
      case rel => exact ⟨_, (true), (by first | rfl | (simp; done) | (simp [*]; done)), H', ⟨by first | omega | exact Nat.le_refl _⟩, ⟨by repeat (first | (with_reducible first | exact HB.out | apply below_alloc | apply pw_below_drewN | apply below_drew1) | exact HB.out)⟩⟩
    · rw [if_neg c6] at H
      have c6b0 : decide (2147483647 < (a0.size : Int)) = false := decide_eq_false c6
      have c6b1 : decide (2147483647 < a0.size) = false := decide_eq_false (by omega)
      clear c6
      (first | rw [c6b0] | (simp only [i64_w, i32_w]; rw [c6b0]) | skip)
      replace H := Option.bind_eq_some_iff.mp H
      obtain ⟨t136, A70, H⟩ := H
      replace H : (laws_FnIgnoreName.j0 k a0 a1 l2 a3 (!t136)) = some r := H
      have A7 := Aside0.mk A70
      clear A70
      have H' := Aside0.mk H
      clear H
      go_wp2_with (first | (go_at_call 7; (with_reducible refine (laws_zzFits16.calls k _ _ l2 t136 _ ?side1 ?side2 A7.out).mono ?_); (case side1 => repeat (first | exact (Kd.C_below HR2.out HB.out) | (with_reducible refine Kd.C_alloc ?_ _) | (with_reducible refine Kd.C_drewN ?_ _) | (with_reducible refine Kd.C_drew ?_))); (case side2 => exact HC2.out); rintro e w' ⟨rfl, ⟨nd, rfl⟩⟩))
      go_meet
      case rel => exact ⟨_, (!t136), (by first | rfl | (simp; done) | (simp [*]; done)), H', ⟨by first | omega | exact Nat.le_refl _⟩, ⟨by repeat (first | (with_reducible first | exact HB.out | apply below_alloc | apply pw_below_drewN | apply below_drew1) | exact HB.out)⟩⟩
  case rest =>
    clear HC5
    try clear c2
    try clear p2
    try clear c4
    try clear c6
    try clear c6b0
    try clear c6b1
    obtain ⟨kq, x16_4, rfl, HA, HJ4, HB⟩ := hcut
    cases kq with
    | zero => exact absurd HA.out (by simp [laws_FnIgnoreName.j0])
    | succ kj4 =>
      have H := HA.out
      clear HA
      simp only [laws_FnIgnoreName.j0] at H
      by_cases c8 : x16_4 = true
      · subst c8
        have H1 : (some true) = some r := by rw [if_pos rfl] at H; exact H
        clear H
        have H := H1
        clear H1
        obtain rfl := Option.some.inj H
        go_wp2
        go_ret
        exact ⟨by first | rfl | (simp [errW_none, errW_some] <;> rfl) | (simp [*, errW_none, errW_some] <;> rfl), by repeat (first | (with_reducible first | exact HB.out | apply below_alloc | apply pw_below_drewN | apply below_drew1) | exact HB.out)⟩
      · replace c8 := Bool.eq_false_iff.mpr c8
        subst c8
        have H1 : ((spec_IsGlob.f kj4 a0).bind fun t137 => (if t137 = true then ((spec_IsPath.f kj4 l2).bind fun t138 => (laws_FnIgnoreName.j1 kj4 a0 a1 l2 a3 (!t138))) else (laws_FnIgnoreName.j1 kj4 a0 a1 l2 a3 true))) = some r := by rw [if_neg (show ¬ (false = true) by decide)] at H; exact H
        clear H
        have H := H1
        clear H1
        have HC9 := Aside0.mk H
        clear H
        go_upto_region 3 with (fail)
        go_cut [24] (fun v24 wc => ∃ (kq : Nat) (x24_8 : Bool), v24 = .bool x24_8 ∧ Aside0 (laws_FnIgnoreName.j1 kq a0 a1 l2 a3 x24_8 = some r) ∧ Aside0 (kq ≤ kj4) ∧ Aside0 (Below w.heap.size w wc))
        case first =>
          have H := HC9.out
          clear HC9
          replace H := Option.bind_eq_some_iff.mp H
          obtain ⟨t137, A100, H⟩ := H
          replace H : (if t137 = true then ((spec_IsPath.f kj4 l2).bind fun t138 => (laws_FnIgnoreName.j1 kj4 a0 a1 l2 a3 (!t138))) else (laws_FnIgnoreName.j1 kj4 a0 a1 l2 a3 true)) = some r := H
          have A10 := Aside0.mk A100
          clear A100
          by_cases c11 : t137 = true
          · subst c11
            have H1 : ((spec_IsPath.f kj4 l2).bind fun t138 => (laws_FnIgnoreName.j1 kj4 a0 a1 l2 a3 (!t138))) = some r := by rw [if_pos rfl] at H; exact H
            clear H
            have H := H1
            clear H1
            replace H := Option.bind_eq_some_iff.mp H
            obtain ⟨t138, A120, H⟩ := H
            replace H : (laws_FnIgnoreName.j1 kj4 a0 a1 l2 a3 (!t138)) = some r := H
            have A12 := Aside0.mk A120
            clear A120
            have H' := Aside0.mk H
            clear H
            go_wp2_with (first | ((with_reducible refine gate_callee (f := 8) rfl ?_); refine goesL_ (some 18) rfl rfl Try.func8 (by kernel_rfl) rfl #[.string a0] rfl (by (try simp only [List.map_toArray, List.map_cons, List.map_nil]); first | done | rfl | (simp only [List.length_drop, List.length_take]; rfl)) ?_; (with_reducible refine (spec_IsGlob.calls kj4 a0 true _ A10.out).mono ?_); rintro e w' ⟨rfl, ⟨nd, rfl⟩⟩; refine ⟨_, rfl, ?_⟩) | (go_at_call 9; (with_reducible refine (spec_IsPath.calls kj4 _ _ l2 t138 _ ?side1 ?side2 A12.out).mono ?_); (case side1 => repeat (first | exact (Kd.C_below HR2.out (by repeat (first | (with_reducible first | exact HB.out | apply below_alloc | apply pw_below_drewN | apply below_drew1) | exact HB.out))) | (with_reducible refine Kd.C_alloc ?_ _) | (with_reducible refine Kd.C_drewN ?_ _) | (with_reducible refine Kd.C_drew ?_))); (case side2 => exact HC2.out); rintro e w' ⟨rfl, ⟨nd, rfl⟩⟩))
            go_meet
            case rel => exact ⟨_, (!t138), (by first | rfl | (simp; done) | (simp [*]; done)), H', ⟨by have := HJ4.out; first | omega | exact Nat.le_refl _⟩, ⟨by repeat (first | (with_reducible first | exact HB.out | apply below_alloc | apply pw_below_drewN | apply below_drew1) | exact HB.out)⟩⟩
          · replace c11 := Bool.eq_false_iff.mpr c11
            subst c11
            have H1 : (laws_FnIgnoreName.j1 kj4 a0 a1 l2 a3 true) = some r := by rw [if_neg (show ¬ (false = true) by decide)] at H; exact H
            clear H
            have H := H1
            clear H1
            have H' := Aside0.mk H
            clear H
            go_wp2_with (first | ((with_reducible refine gate_callee (f := 8) rfl ?_); refine goesL_ (some 18) rfl rfl Try.func8 (by kernel_rfl) rfl #[.string a0] rfl (by (try simp only [List.map_toArray, List.map_cons, List.map_nil]); first | done | rfl | (simp only [List.length_drop, List.length_take]; rfl)) ?_; (with_reducible refine (spec_IsGlob.calls kj4 a0 false _ A10.out).mono ?_); rintro e w' ⟨rfl, ⟨nd, rfl⟩⟩; refine ⟨_, rfl, ?_⟩))
            go_meet
            case rel => exact ⟨_, (true), (by first | rfl | (simp; done) | (simp [*]; done)), H', ⟨by have := HJ4.out; first | omega | exact Nat.le_refl _⟩, ⟨by repeat (first | (with_reducible first | exact HB.out | apply below_alloc | apply pw_below_drewN | apply below_drew1) | exact HB.out)⟩⟩
        case rest =>
          clear HC9
          try clear c1
          try clear c2
          try clear p2
          try clear c4
          try clear c6
          try clear c6b0
          try clear c6b1
          try clear c8
          try clear c11
          try clear p2
          obtain ⟨kq, x24_8, rfl, HA, HJ8, HB⟩ := hcut
          cases kq with
          | zero => exact absurd HA.out (by simp [laws_FnIgnoreName.j1])
          | succ kj8 =>
            have H := HA.out
            clear HA
            simp only [laws_FnIgnoreName.j1] at H
            by_cases c13 : x24_8 = true
            · subst c13
              have H1 : (some true) = some r := by rw [if_pos rfl] at H; exact H
              clear H
              have H := H1
              clear H1
              obtain rfl := Option.some.inj H
              go_wp2
              go_ret
              exact ⟨by first | rfl | (simp [errW_none, errW_some] <;> rfl) | (simp [*, errW_none, errW_some] <;> rfl), by repeat (first | (with_reducible first | exact HB.out | apply below_alloc | apply pw_below_drewN | apply below_drew1) | exact HB.out)⟩
            · replace c13 := Bool.eq_false_iff.mpr c13
              subst c13
              have H1 : ((laws_igTail.f a1).bind fun t139 => (if a0.size + t139.size ≤ 9223372036854775807 then ((spec_NameIgnored.f kj8 a0 a1 l2 a3).bind fun t140 => ((laws_igIs.f (a0 ++ t139) l2 a3 t140).bind fun t141 => (some t141))) else (none))) = some r := by rw [if_neg (show ¬ (false = true) by decide)] at H; exact H
              clear H
              have H := H1
              clear H1
              replace H := Option.bind_eq_some_iff.mp H
              obtain ⟨t139, A140, H⟩ := H
              replace H : (if a0.size + t139.size ≤ 9223372036854775807 then ((spec_NameIgnored.f kj8 a0 a1 l2 a3).bind fun t140 => ((laws_igIs.f (a0 ++ t139) l2 a3 t140).bind fun t141 => (some t141))) else (none)) = some r := H
              have A14 := Aside0.mk A140
              clear A140
              by_cases c15 : a0.size + t139.size ≤ 9223372036854775807
              · rw [if_pos c15] at H
                have c15b0 := eq_true c15
                have c15b1 : decide (a0.size + t139.size ≤ 9223372036854775807) = true := decide_eq_true c15
                try have c15b2 : (9223372036854775807 < a0.size + t139.size) = False := eq_false (Nat.not_lt.2 c15)
                replace H := Option.bind_eq_some_iff.mp H
                obtain ⟨t140, A160, H⟩ := H
                replace H : ((laws_igIs.f (a0 ++ t139) l2 a3 t140).bind fun t141 => (some t141)) = some r := H
                have A16 := Aside0.mk A160
                clear A160
                replace H := Option.bind_eq_some_iff.mp H
                obtain ⟨t141, A170, H⟩ := H
                replace H : (some t141) = some r := H
                have A17 := Aside0.mk A170
                clear A170
                obtain rfl := Option.some.inj H
                go_wp2_with (first | ((with_reducible refine gate_callee (f := 12) rfl ?_); refine goesL_ (some 27) rfl rfl Try.func12 (by kernel_rfl) rfl #[.bool a1] rfl (by (try simp only [List.map_toArray, List.map_cons, List.map_nil]); first | done | rfl | (simp only [List.length_drop, List.length_take]; rfl)) ?_; (with_reducible refine (laws_igTail.calls a1 t139 _ A14.out).mono ?_); rintro e w' ⟨rfl, ⟨nd, rfl⟩⟩; refine ⟨_, rfl, ?_⟩) | ((with_reducible refine gate_callee (f := 11) rfl ?_); refine goesL_ (some 35) rfl rfl Try.func11 (by kernel_rfl) rfl #[.string a0, .bool a1, .slice A2 l2.length c2, .bool a3] rfl (by (try simp only [List.map_toArray, List.map_cons, List.map_nil]); first | done | rfl | (simp only [List.length_drop, List.length_take]; rfl)) ?_; (with_reducible refine (spec_NameIgnored.calls kj8 a0 a1 _ _ l2 a3 t140 _ ?side1 ?side2 A16.out).mono ?_); (case side1 => repeat (first | exact (Kd.C_below HR2.out (by repeat (first | (with_reducible first | exact HB.out | apply below_alloc | apply pw_below_drewN | apply below_drew1) | exact HB.out))) | (with_reducible refine Kd.C_alloc ?_ _) | (with_reducible refine Kd.C_drewN ?_ _) | (with_reducible refine Kd.C_drew ?_))); (case side2 => exact HC2.out); rintro e w18 ⟨rfl, hb⟩; refine ⟨_, rfl, ?_⟩; have n0_ := Aside0.mk (below_step (by repeat (first | (with_reducible first | exact HB.out | apply below_alloc | apply pw_below_drewN | apply below_drew1) | exact HB.out)) hb); clear HB; have HB := n0_; clear n0_; (try clear hb); (try clear hb2); (try clear hk); (try clear hi)) | ((with_reducible refine gate_callee (f := 10) rfl ?_); refine goesL_ (some 36) rfl rfl Try.func10 (by kernel_rfl) rfl #[.string (a0 ++ t139), .slice A2 l2.length c2, .bool a3, .bool t140] rfl (by (try simp only [List.map_toArray, List.map_cons, List.map_nil]); first | done | rfl | (simp only [List.length_drop, List.length_take]; rfl)) ?_; (with_reducible refine (laws_igIs.calls (a0 ++ t139) _ _ l2 a3 t140 t141 _ ?side1 ?side2 A17.out).mono ?_); (case side1 => repeat (first | exact (Kd.C_below HR2.out HB.out) | (with_reducible refine Kd.C_alloc ?_ _) | (with_reducible refine Kd.C_drewN ?_ _) | (with_reducible refine Kd.C_drew ?_))); (case side2 => exact HC2.out); rintro e w19 ⟨rfl, hb⟩; refine ⟨_, rfl, ?_⟩; have n0_ := Aside0.mk (below_step (by repeat (first | (with_reducible first | exact HB.out | apply below_alloc | apply pw_below_drewN | apply below_drew1) | exact HB.out)) hb); clear HB; have HB := n0_; clear n0_; (try clear hb); (try clear hb2); (try clear hk); (try clear hi)))
                go_ret
                exact ⟨by first | rfl | (simp [errW_none, errW_some] <;> rfl) | (simp [*, errW_none, errW_some] <;> rfl), by repeat (first | (with_reducible first | exact HB.out | apply below_alloc | apply pw_below_drewN | apply below_drew1) | exact HB.out)⟩
              · rw [if_neg c15] at H
                exact absurd H (by simp)

end
end Go.Proofs.Ytlnfkpmmnennbaa.QAll
