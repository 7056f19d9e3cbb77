-- WRITTEN BY A PROGRAM OF THIS SESSION, out of the loaded program, with words of the kit
import Derived.Test.YtlnfkpmmnennbaaQAllx0
import Derived.Test.YtlnfkpmmnennbaaQAllx1
import Derived.Test.YtlnfkpmmnennbaaQAllx2
import Derived.Test.YtlnfkpmmnennbaaQAllx3
import Derived.Test.YtlnfkpmmnennbaaQAllx5
import Derived.Test.YtlnfkpmmnennbaaQAllx7
namespace Go.Proofs.Ytlnfkpmmnennbaa.QAll
noncomputable section
open Go.RowKit Go.Proofs.YtlnfkpmmnennbaaW.PrintWords Go.Proofs.YtlnfkpmmnennbaaW.PrintLast Go.Proofs.YtlnfkpmmnennbaaW.PrintMore
attribute [local go_sem] max2_int min2_int max_two min_two max_three min_three max_four min_four   -- for this text's walks alone
set_option linter.unusedVariables false
set_option linter.unusedSimpArgs false

/-! ### laws_FnIgnoreDeep: function 3 -/
mutual
def laws_FnIgnoreDeep.j0 : Nat → ByteArray → List ByteArray → Bool → Bool → Option (Bool)
  | 0, _, _, _, _ => none
  | k + 1, x0, x1, x2, x14 => if x14 = true then (some true) else ((spec_IsGlob.f k x0).bind fun t132 => (if t132 = true then ((spec_IsPath.f k x1).bind fun t133 => (laws_FnIgnoreDeep.j1 k x0 x1 x2 (!t133))) else (laws_FnIgnoreDeep.j1 k x0 x1 x2 true)))
def laws_FnIgnoreDeep.j1 : Nat → ByteArray → List ByteArray → Bool → Bool → Option (Bool)
  | 0, _, _, _, _ => none
  | k + 1, x0, x1, x2, x22 => if x22 = true then (some true) else (if 3 + x0.size ≤ 9223372036854775807 then ((spec_NameIgnored.f k x0 false x1 x2).bind fun t134 => ((laws_igIs.f ((⟨#[42, 42, 47]⟩ : ByteArray) ++ x0) x1 x2 t134).bind fun t135 => (some t135))) else (none))
end
def laws_FnIgnoreDeep.f (k : Nat) (a0 : ByteArray) (l1 : List ByteArray) (a2 : Bool) : Option (Bool) := if (a0.size : Int) > 2147483647 then (laws_FnIgnoreDeep.j0 k a0 l1 a2 true) else ((laws_zzFits16.f k l1).bind fun t131 => (laws_FnIgnoreDeep.j0 k a0 l1 a2 (!t131)))
theorem laws_FnIgnoreDeep.mono_l : ∀ k, (∀ y0 y1 y2 y3, LeO (laws_FnIgnoreDeep.j0 k y0 y1 y2 y3) (laws_FnIgnoreDeep.j0 (k + 1) y0 y1 y2 y3)) ∧ (∀ y0 y1 y2 y3, LeO (laws_FnIgnoreDeep.j1 k y0 y1 y2 y3) (laws_FnIgnoreDeep.j1 (k + 1) y0 y1 y2 y3))
  | 0 => ⟨fun _ _ _ _ r h => by simp [laws_FnIgnoreDeep.j0] at h, fun _ _ _ _ r h => by simp [laws_FnIgnoreDeep.j1] at h⟩
  | k + 1 => by
    obtain ⟨ih0, ih1⟩ := laws_FnIgnoreDeep.mono_l k
    refine ⟨?_, ?_⟩
    · intro y0 y1 y2 y3
      unfold laws_FnIgnoreDeep.j0
      repeat' first
      | (with_reducible exact ih0 _ _ _ _)
      | (with_reducible exact ih1 _ _ _ _)
      | (with_reducible exact laws_zzFits16.mono _ _)
      | (with_reducible exact spec_IsGlob.mono _ _)
      | (with_reducible exact spec_IsPath.mono _ _)
      | (with_reducible exact spec_NameIgnored.mono _ _ _ _ _)
      | (with_reducible exact LeO.refl _)
      | (with_reducible exact LeO.none _)
      | (with_reducible refine LeO.ite ?_ ?_)
      | (with_reducible refine LeO.bind ?_ (fun _ => ?_))
      | exact ih0 _ _ _ _
      | exact ih1 _ _ _ _
      | exact laws_zzFits16.mono _ _
      | exact spec_IsGlob.mono _ _
      | exact spec_IsPath.mono _ _
      | exact spec_NameIgnored.mono _ _ _ _ _
      | exact LeO.none _
      | refine LeO.ite ?_ ?_
      | refine LeO.bind ?_ (fun _ => ?_)
    · intro y0 y1 y2 y3
      unfold laws_FnIgnoreDeep.j1
      repeat' first
      | (with_reducible exact ih0 _ _ _ _)
      | (with_reducible exact ih1 _ _ _ _)
      | (with_reducible exact laws_zzFits16.mono _ _)
      | (with_reducible exact spec_IsGlob.mono _ _)
      | (with_reducible exact spec_IsPath.mono _ _)
      | (with_reducible exact spec_NameIgnored.mono _ _ _ _ _)
      | (with_reducible exact LeO.refl _)
      | (with_reducible exact LeO.none _)
      | (with_reducible refine LeO.ite ?_ ?_)
      | (with_reducible refine LeO.bind ?_ (fun _ => ?_))
      | exact ih0 _ _ _ _
      | exact ih1 _ _ _ _
      | exact laws_zzFits16.mono _ _
      | exact spec_IsGlob.mono _ _
      | exact spec_IsPath.mono _ _
      | exact spec_NameIgnored.mono _ _ _ _ _
      | exact LeO.none _
      | refine LeO.ite ?_ ?_
      | refine LeO.bind ?_ (fun _ => ?_)
theorem laws_FnIgnoreDeep.mono : ∀ a0 a1 a2 k, LeO (laws_FnIgnoreDeep.f k a0 a1 a2) (laws_FnIgnoreDeep.f (k + 1) a0 a1 a2) := by
  intro a0 a1 a2 k
  obtain ⟨ih0, ih1⟩ := laws_FnIgnoreDeep.mono_l k
  unfold laws_FnIgnoreDeep.f
  repeat' first
      | (with_reducible exact ih0 _ _ _ _)
      | (with_reducible exact ih1 _ _ _ _)
      | (with_reducible exact laws_zzFits16.mono _ _)
      | (with_reducible exact spec_IsGlob.mono _ _)
      | (with_reducible exact spec_IsPath.mono _ _)
      | (with_reducible exact spec_NameIgnored.mono _ _ _ _ _)
      | (with_reducible exact LeO.refl _)
      | (with_reducible exact LeO.none _)
      | (with_reducible refine LeO.ite ?_ ?_)
      | (with_reducible refine LeO.bind ?_ (fun _ => ?_))
      | exact ih0 _ _ _ _
      | exact ih1 _ _ _ _
      | exact laws_zzFits16.mono _ _
      | exact spec_IsGlob.mono _ _
      | exact spec_IsPath.mono _ _
      | exact spec_NameIgnored.mono _ _ _ _ _
      | exact LeO.none _
      | refine LeO.ite ?_ ?_
      | refine LeO.bind ?_ (fun _ => ?_)
set_option maxHeartbeats 8000000 in
set_option maxRecDepth 100000 in
theorem laws_FnIgnoreDeep.calls (k : Nat) (a0 : ByteArray) (A1 : Option Addr) (c1 : Nat) (l1 : List ByteArray) (a2 : Bool) (r : Bool) (w : World) (hr1 : Kd.C Kd.string w A1 l1.length l1) (hc1 : l1.length ≤ c1) (h : laws_FnIgnoreDeep.f k a0 l1 a2 = some r) :
    Calls Try.prog 3 #[.string a0, .slice A1 l1.length c1, .bool a2] w fun e w' => e = .returned (.bool r) ∧ Below w.heap.size w w' := by
  have HR1 := Aside0.mk hr1
  have HC1 := Aside0.mk hc1
  clear hr1 hc1
  have HB := Aside0.mk (Below.refl w.heap.size w)
  have H : (if (a0.size : Int) > 2147483647 then (laws_FnIgnoreDeep.j0 k a0 l1 a2 true) else ((laws_zzFits16.f k l1).bind fun t131 => (laws_FnIgnoreDeep.j0 k a0 l1 a2 (!t131)))) = some r := h
  clear h
  have HC4 := Aside0.mk H
  clear H
  go_enter Try.func3, Try.ntmps3
  go_upto_region 1 with (fail)
  go_cut [14] (fun v14 wc => ∃ (kq : Nat) (x14_3 : Bool), v14 = .bool x14_3 ∧ Aside0 (laws_FnIgnoreDeep.j0 kq a0 l1 a2 x14_3 = some r) ∧ Aside0 (kq ≤ k) ∧ Aside0 (Below w.heap.size w wc))
  case first =>
    have H := HC4.out
    clear HC4
    by_cases c5 : (a0.size : Int) > 2147483647
    · rw [if_pos c5] at H
      have c5b0 : decide (2147483647 < (a0.size : Int)) = true := decide_eq_true c5
      have c5b1 : decide (2147483647 < a0.size) = true := decide_eq_true (by omega)
      clear c5
      (first | rw [c5b0] | (simp only [i64_w, i32_w]; rw [c5b0]) | skip)
      have H' := Aside0.mk H
      clear H
      go_wp2
      go_meet
      case rel => exact ⟨_, (true), (by first | rfl | (simp; done) | (simp [*]; done)), H', ⟨by first | omega | exact Nat.le_refl _⟩, ⟨by repeat (first | (with_reducible first | exact HB.out | apply below_alloc | apply pw_below_drewN | apply below_drew1) | exact HB.out)⟩⟩
    · rw [if_neg c5] at H
      have c5b0 : decide (2147483647 < (a0.size : Int)) = false := decide_eq_false c5
      have c5b1 : decide (2147483647 < a0.size) = false := decide_eq_false (by omega)
      clear c5
      (first | rw [c5b0] | (simp only [i64_w, i32_w]; rw [c5b0]) | skip)
      replace H := Option.bind_eq_some_iff.mp H
      obtain ⟨t131, A60, H⟩ := H
      replace H : (laws_FnIgnoreDeep.j0 k a0 l1 a2 (!t131)) = some r := H
      have A6 := Aside0.mk A60
      clear A60
      have H' := Aside0.mk H
      clear H
      go_wp2_with (first | (go_at_call 7; (with_reducible refine (laws_zzFits16.calls k _ _ l1 t131 _ ?side1 ?side2 A6.out).mono ?_); (case side1 => repeat (first | exact (Kd.C_below HR1.out HB.out) | (with_reducible refine Kd.C_alloc ?_ _) | (with_reducible refine Kd.C_drewN ?_ _) | (with_reducible refine Kd.C_drew ?_))); (case side2 => exact HC1.out); rintro e w' ⟨rfl, ⟨nd, rfl⟩⟩))
      go_meet
      case rel => exact ⟨_, (!t131), (by first | rfl | (simp; done) | (simp [*]; done)), H', ⟨by first | omega | exact Nat.le_refl _⟩, ⟨by repeat (first | (with_reducible first | exact HB.out | apply below_alloc | apply pw_below_drewN | apply below_drew1) | exact HB.out)⟩⟩
  case rest =>
    clear HC4
    try clear c1
    try clear p2
    try clear c3
    try clear c5
    try clear c5b0
    try clear c5b1
    obtain ⟨kq, x14_3, rfl, HA, HJ3, HB⟩ := hcut
    cases kq with
    | zero => exact absurd HA.out (by simp [laws_FnIgnoreDeep.j0])
    | succ kj3 =>
      have H := HA.out
      clear HA
      simp only [laws_FnIgnoreDeep.j0] at H
      by_cases c7 : x14_3 = true
      · subst c7
        have H1 : (some true) = some r := by rw [if_pos rfl] at H; exact H
        clear H
        have H := H1
        clear H1
        obtain rfl := Option.some.inj H
        go_wp2
        go_ret
        exact ⟨by first | rfl | (simp [errW_none, errW_some] <;> rfl) | (simp [*, errW_none, errW_some] <;> rfl), by repeat (first | (with_reducible first | exact HB.out | apply below_alloc | apply pw_below_drewN | apply below_drew1) | exact HB.out)⟩
      · replace c7 := Bool.eq_false_iff.mpr c7
        subst c7
        have H1 : ((spec_IsGlob.f kj3 a0).bind fun t132 => (if t132 = true then ((spec_IsPath.f kj3 l1).bind fun t133 => (laws_FnIgnoreDeep.j1 kj3 a0 l1 a2 (!t133))) else (laws_FnIgnoreDeep.j1 kj3 a0 l1 a2 true))) = some r := by rw [if_neg (show ¬ (false = true) by decide)] at H; exact H
        clear H
        have H := H1
        clear H1
        have HC8 := Aside0.mk H
        clear H
        go_upto_region 3 with (fail)
        go_cut [22] (fun v22 wc => ∃ (kq : Nat) (x22_7 : Bool), v22 = .bool x22_7 ∧ Aside0 (laws_FnIgnoreDeep.j1 kq a0 l1 a2 x22_7 = some r) ∧ Aside0 (kq ≤ kj3) ∧ Aside0 (Below w.heap.size w wc))
        case first =>
          have H := HC8.out
          clear HC8
          replace H := Option.bind_eq_some_iff.mp H
          obtain ⟨t132, A90, H⟩ := H
          replace H : (if t132 = true then ((spec_IsPath.f kj3 l1).bind fun t133 => (laws_FnIgnoreDeep.j1 kj3 a0 l1 a2 (!t133))) else (laws_FnIgnoreDeep.j1 kj3 a0 l1 a2 true)) = some r := H
          have A9 := Aside0.mk A90
          clear A90
          by_cases c10 : t132 = true
          · subst c10
            have H1 : ((spec_IsPath.f kj3 l1).bind fun t133 => (laws_FnIgnoreDeep.j1 kj3 a0 l1 a2 (!t133))) = some r := by rw [if_pos rfl] at H; exact H
            clear H
            have H := H1
            clear H1
            replace H := Option.bind_eq_some_iff.mp H
            obtain ⟨t133, A110, H⟩ := H
            replace H : (laws_FnIgnoreDeep.j1 kj3 a0 l1 a2 (!t133)) = some r := H
            have A11 := Aside0.mk A110
            clear A110
            have H' := Aside0.mk H
            clear H
            go_wp2_with (first | ((with_reducible refine gate_callee (f := 8) rfl ?_); refine goesL_ (some 16) rfl rfl Try.func8 (by kernel_rfl) rfl #[.string a0] rfl (by (try simp only [List.map_toArray, List.map_cons, List.map_nil]); first | done | rfl | (simp only [List.length_drop, List.length_take]; rfl)) ?_; (with_reducible refine (spec_IsGlob.calls kj3 a0 true _ A9.out).mono ?_); rintro e w' ⟨rfl, ⟨nd, rfl⟩⟩; refine ⟨_, rfl, ?_⟩) | (go_at_call 9; (with_reducible refine (spec_IsPath.calls kj3 _ _ l1 t133 _ ?side1 ?side2 A11.out).mono ?_); (case side1 => repeat (first | exact (Kd.C_below HR1.out (by repeat (first | (with_reducible first | exact HB.out | apply below_alloc | apply pw_below_drewN | apply below_drew1) | exact HB.out))) | (with_reducible refine Kd.C_alloc ?_ _) | (with_reducible refine Kd.C_drewN ?_ _) | (with_reducible refine Kd.C_drew ?_))); (case side2 => exact HC1.out); rintro e w' ⟨rfl, ⟨nd, rfl⟩⟩))
            go_meet
            case rel => exact ⟨_, (!t133), (by first | rfl | (simp; done) | (simp [*]; done)), H', ⟨by have := HJ3.out; first | omega | exact Nat.le_refl _⟩, ⟨by repeat (first | (with_reducible first | exact HB.out | apply below_alloc | apply pw_below_drewN | apply below_drew1) | exact HB.out)⟩⟩
          · replace c10 := Bool.eq_false_iff.mpr c10
            subst c10
            have H1 : (laws_FnIgnoreDeep.j1 kj3 a0 l1 a2 true) = some r := by rw [if_neg (show ¬ (false = true) by decide)] at H; exact H
            clear H
            have H := H1
            clear H1
            have H' := Aside0.mk H
            clear H
            go_wp2_with (first | ((with_reducible refine gate_callee (f := 8) rfl ?_); refine goesL_ (some 16) rfl rfl Try.func8 (by kernel_rfl) rfl #[.string a0] rfl (by (try simp only [List.map_toArray, List.map_cons, List.map_nil]); first | done | rfl | (simp only [List.length_drop, List.length_take]; rfl)) ?_; (with_reducible refine (spec_IsGlob.calls kj3 a0 false _ A9.out).mono ?_); rintro e w' ⟨rfl, ⟨nd, rfl⟩⟩; refine ⟨_, rfl, ?_⟩))
            go_meet
            case rel => exact ⟨_, (true), (by first | rfl | (simp; done) | (simp [*]; done)), H', ⟨by have := HJ3.out; first | omega | exact Nat.le_refl _⟩, ⟨by repeat (first | (with_reducible first | exact HB.out | apply below_alloc | apply pw_below_drewN | apply below_drew1) | exact HB.out)⟩⟩
        case rest =>
          clear HC8
          try clear c1
          try clear p2
          try clear c3
          try clear c5
          try clear c5b0
          try clear c5b1
          try clear c7
          try clear c8
          try clear c10
          try clear p2
          obtain ⟨kq, x22_7, rfl, HA, HJ7, HB⟩ := hcut
          cases kq with
          | zero => exact absurd HA.out (by simp [laws_FnIgnoreDeep.j1])
          | succ kj7 =>
            have H := HA.out
            clear HA
            simp only [laws_FnIgnoreDeep.j1] at H
            by_cases c12 : x22_7 = true
            · subst c12
              have H1 : (some true) = some r := by rw [if_pos rfl] at H; exact H
              clear H
              have H := H1
              clear H1
              obtain rfl := Option.some.inj H
              go_wp2
              go_ret
              exact ⟨by first | rfl | (simp [errW_none, errW_some] <;> rfl) | (simp [*, errW_none, errW_some] <;> rfl), by repeat (first | (with_reducible first | exact HB.out | apply below_alloc | apply pw_below_drewN | apply below_drew1) | exact HB.out)⟩
            · replace c12 := Bool.eq_false_iff.mpr c12
              subst c12
              have H1 : (if 3 + a0.size ≤ 9223372036854775807 then ((spec_NameIgnored.f kj7 a0 false l1 a2).bind fun t134 => ((laws_igIs.f ((⟨#[42, 42, 47]⟩ : ByteArray) ++ a0) l1 a2 t134).bind fun t135 => (some t135))) else (none)) = some r := by rw [if_neg (show ¬ (false = true) by decide)] at H; exact H
              clear H
              have H := H1
              clear H1
              by_cases c13 : 3 + a0.size ≤ 9223372036854775807
              · rw [if_pos c13] at H
                have c13b0 := eq_true c13
                have c13b1 : decide (3 + a0.size ≤ 9223372036854775807) = true := decide_eq_true c13
                try have c13b2 : (9223372036854775807 < 3 + a0.size) = False := eq_false (Nat.not_lt.2 c13)
                replace H := Option.bind_eq_some_iff.mp H
                obtain ⟨t134, A140, H⟩ := H
                replace H : ((laws_igIs.f ((⟨#[42, 42, 47]⟩ : ByteArray) ++ a0) l1 a2 t134).bind fun t135 => (some t135)) = some r := H
                have A14 := Aside0.mk A140
                clear A140
                replace H := Option.bind_eq_some_iff.mp H
                obtain ⟨t135, A150, H⟩ := H
                replace H : (some t135) = some r := H
                have A15 := Aside0.mk A150
                clear A150
                obtain rfl := Option.some.inj H
                go_wp2_with (first | ((with_reducible refine gate_callee (f := 11) rfl ?_); refine goesL_ (some 30) rfl rfl Try.func11 (by kernel_rfl) rfl #[.string a0, .bool false, .slice A1 l1.length c1, .bool a2] rfl (by (try simp only [List.map_toArray, List.map_cons, List.map_nil]); first | done | rfl | (simp only [List.length_drop, List.length_take]; rfl)) ?_; (with_reducible refine (spec_NameIgnored.calls kj7 a0 false _ _ l1 a2 t134 _ ?side1 ?side2 A14.out).mono ?_); (case side1 => repeat (first | exact (Kd.C_below HR1.out HB.out) | (with_reducible refine Kd.C_alloc ?_ _) | (with_reducible refine Kd.C_drewN ?_ _) | (with_reducible refine Kd.C_drew ?_))); (case side2 => exact HC1.out); rintro e w16 ⟨rfl, hb⟩; refine ⟨_, rfl, ?_⟩; have n0_ := Aside0.mk (below_step (by repeat (first | (with_reducible first | exact HB.out | apply below_alloc | apply pw_below_drewN | apply below_drew1) | exact HB.out)) hb); clear HB; have HB := n0_; clear n0_; (try clear hb); (try clear hb2); (try clear hk); (try clear hi)) | ((with_reducible refine gate_callee (f := 10) rfl ?_); refine goesL_ (some 31) rfl rfl Try.func10 (by kernel_rfl) rfl #[.string ((⟨#[42, 42, 47]⟩ : ByteArray) ++ a0), .slice A1 l1.length c1, .bool a2, .bool t134] rfl (by (try simp only [List.map_toArray, List.map_cons, List.map_nil]); first | done | rfl | (simp only [List.length_drop, List.length_take]; rfl)) ?_; (with_reducible refine (laws_igIs.calls ((⟨#[42, 42, 47]⟩ : ByteArray) ++ a0) _ _ l1 a2 t134 t135 _ ?side1 ?side2 A15.out).mono ?_); (case side1 => repeat (first | exact (Kd.C_below HR1.out HB.out) | (with_reducible refine Kd.C_alloc ?_ _) | (with_reducible refine Kd.C_drewN ?_ _) | (with_reducible refine Kd.C_drew ?_))); (case side2 => exact HC1.out); rintro e w17 ⟨rfl, hb⟩; refine ⟨_, rfl, ?_⟩; have n0_ := Aside0.mk (below_step (by repeat (first | (with_reducible first | exact HB.out | apply below_alloc | apply pw_below_drewN | apply below_drew1) | exact HB.out)) hb); clear HB; have HB := n0_; clear n0_; (try clear hb); (try clear hb2); (try clear hk); (try clear hi)))
                go_ret
                exact ⟨by first | rfl | (simp [errW_none, errW_some] <;> rfl) | (simp [*, errW_none, errW_some] <;> rfl), by repeat (first | (with_reducible first | exact HB.out | apply below_alloc | apply pw_below_drewN | apply below_drew1) | exact HB.out)⟩
              · rw [if_neg c13] at H
                exact absurd H (by simp)

end
end Go.Proofs.Ytlnfkpmmnennbaa.QAll
