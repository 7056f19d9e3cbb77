-- WRITTEN BY A PROGRAM OF THIS SESSION, out of the loaded program, with words of the kit
import Derived.Test.YtlnfkpmmnennbaaQAllx0
import Derived.Test.YtlnfkpmmnennbaaQAllx1
import Derived.Test.YtlnfkpmmnennbaaQAllx3
import Derived.Test.YtlnfkpmmnennbaaQAllx7
import Derived.Test.YtlnfkpmmnennbaaQAllx11
import Derived.Test.YtlnfkpmmnennbaaExtI
namespace Go.Proofs.Ytlnfkpmmnennbaa.QAll
noncomputable section
open Go.RowKit Go.Proofs.YtlnfkpmmnennbaaW.PrintWords Go.Proofs.YtlnfkpmmnennbaaW.PrintLast Go.Proofs.YtlnfkpmmnennbaaW.PrintMore
attribute [local go_sem] max2_int min2_int max_two min_two max_three min_three max_four min_four   -- for this text's walks alone
set_option linter.unusedVariables false
set_option linter.unusedSimpArgs false

/-! ### laws_FnIgnoreLast: function 6 -/
mutual
def laws_FnIgnoreLast.j0 : Nat → List ByteArray → List Bool → List ByteArray → Bool → Bool → Option (Bool)
  | 0, _, _, _, _, _ => none
  | k + 1, x0, x1, x2, x3, x26 => if x26 = true then (some true) else ((spec_AreGlobs.f k x0).bind fun t164 => (if t164 = true then (if (x1.length : Int) = (x0.length : Int) then ((spec_IsPath.f k x2).bind fun t165 => (laws_FnIgnoreLast.j1 k x0 x1 x2 x3 (!t165))) else (laws_FnIgnoreLast.j1 k x0 x1 x2 x3 true)) else (laws_FnIgnoreLast.j1 k x0 x1 x2 x3 true)))
def laws_FnIgnoreLast.j1 : Nat → List ByteArray → List Bool → List ByteArray → Bool → Bool → Option (Bool)
  | 0, _, _, _, _, _ => none
  | k + 1, x0, x1, x2, x3, x41 => if x41 = true then (some true) else (laws_FnIgnoreLast.l0 k x1 x2 x3 ([] : List ByteArray) false x0 (x0.length : Int) 0)
def laws_FnIgnoreLast.l0 : Nat → List Bool → List ByteArray → Bool → List ByteArray → Bool → List ByteArray → Int → Int → Option (Bool)
  | 0, _, _, _, _, _, _, _, _ => none
  | k + 1, x1, x2, x3, x9, x10, x42, x43, x44 => if x44 < x43 then (if 0 ≤ x44 then (if x44 < (x42.length : Int) then ((spec_NameIgnored.f k (rdOf ByteArray.empty x42 x44) false x2 x3).bind fun t181 => (if x44 < (x1.length : Int) then (if rdOf false x1 x44 = true then (if 1 + (rdOf ByteArray.empty x42 x44).size ≤ 9223372036854775807 then (if x9.length < 8796093022208 then ((some (x9 ++ [(⟨#[33]⟩ : ByteArray) ++ (rdOf ByteArray.empty x42 x44)] : List ByteArray)).bind fun y183 => (if t181 = true then (laws_FnIgnoreLast.l0 k x1 x2 x3 y183 (!(rdOf false x1 x44)) x42 x43 (wrap64 (x44 + 1))) else (laws_FnIgnoreLast.l0 k x1 x2 x3 y183 x10 x42 x43 (wrap64 (x44 + 1))))) else (none)) else (none)) else (if x9.length < 8796093022208 then ((some (x9 ++ [rdOf ByteArray.empty x42 x44] : List ByteArray)).bind fun y187 => (if t181 = true then (laws_FnIgnoreLast.l0 k x1 x2 x3 y187 (!(rdOf false x1 x44)) x42 x43 (wrap64 (x44 + 1))) else (laws_FnIgnoreLast.l0 k x1 x2 x3 y187 x10 x42 x43 (wrap64 (x44 + 1))))) else (none))) else (none))) else (none)) else (none)) else (if 0 ≤ (x9.length : Int) then (if ((x9.length : Int) : Int).toNat ≤ 11728124029610 then ((impl_IgnoredW.f x9 (List.replicate ((x9.length : Int) : Int).toNat []) x2 x3).bind fun t169 => (if (t169 == x10) = true then ((impl_IgnoredW.f (([(⟨#[97]⟩ : ByteArray)] : List ByteArray)) (([[]] : List (List ByteArray))) (([(⟨#[97]⟩ : ByteArray)] : List ByteArray)) false).bind fun t179 => (some t179)) else (some false))) else (none)) else (none))
end
def laws_FnIgnoreLast.f (k : Nat) (l0 : List ByteArray) (l1 : List Bool) (l2 : List ByteArray) (a3 : Bool) : Option (Bool) := (laws_zzFits16.f k l0).bind fun t162 => (if t162 = true then (if (l1.length : Int) > 2147483647 then (laws_FnIgnoreLast.j0 k l0 l1 l2 a3 true) else ((laws_zzFits16.f k l2).bind fun t163 => (laws_FnIgnoreLast.j0 k l0 l1 l2 a3 (!t163)))) else (laws_FnIgnoreLast.j0 k l0 l1 l2 a3 true))
theorem laws_FnIgnoreLast.mono_l : ∀ k, (∀ y0 y1 y2 y3 y4, LeO (laws_FnIgnoreLast.j0 k y0 y1 y2 y3 y4) (laws_FnIgnoreLast.j0 (k + 1) y0 y1 y2 y3 y4)) ∧ (∀ y0 y1 y2 y3 y4, LeO (laws_FnIgnoreLast.j1 k y0 y1 y2 y3 y4) (laws_FnIgnoreLast.j1 (k + 1) y0 y1 y2 y3 y4)) ∧ (∀ y0 y1 y2 y3 y4 y5 y6 y7, LeO (laws_FnIgnoreLast.l0 k y0 y1 y2 y3 y4 y5 y6 y7) (laws_FnIgnoreLast.l0 (k + 1) y0 y1 y2 y3 y4 y5 y6 y7))
  | 0 => ⟨fun _ _ _ _ _ r h => by simp [laws_FnIgnoreLast.j0] at h, fun _ _ _ _ _ r h => by simp [laws_FnIgnoreLast.j1] at h, fun _ _ _ _ _ _ _ _ r h => by simp [laws_FnIgnoreLast.l0] at h⟩
  | k + 1 => by
    obtain ⟨ih0, ih1, ih2⟩ := laws_FnIgnoreLast.mono_l k
    refine ⟨?_, ?_, ?_⟩
    · intro y0 y1 y2 y3 y4
      unfold laws_FnIgnoreLast.j0
      repeat' first
      | (with_reducible exact ih0 _ _ _ _ _)
      | (with_reducible exact ih1 _ _ _ _ _)
      | (with_reducible exact ih2 _ _ _ _ _ _ _ _)
      | (with_reducible exact laws_zzFits16.mono _ _)
      | (with_reducible exact spec_AreGlobs.mono _ _)
      | (with_reducible exact spec_IsPath.mono _ _)
      | (with_reducible exact spec_NameIgnored.mono _ _ _ _ _)
      | (with_reducible exact LeO.refl _)
      | (with_reducible exact LeO.none _)
      | (with_reducible refine LeO.ite ?_ ?_)
      | (with_reducible refine LeO.bind ?_ (fun _ => ?_))
      | exact ih0 _ _ _ _ _
      | exact ih1 _ _ _ _ _
      | exact ih2 _ _ _ _ _ _ _ _
      | exact laws_zzFits16.mono _ _
      | exact spec_AreGlobs.mono _ _
      | exact spec_IsPath.mono _ _
      | exact spec_NameIgnored.mono _ _ _ _ _
      | exact LeO.none _
      | refine LeO.ite ?_ ?_
      | refine LeO.bind ?_ (fun _ => ?_)
    · intro y0 y1 y2 y3 y4
      unfold laws_FnIgnoreLast.j1
      repeat' first
      | (with_reducible exact ih0 _ _ _ _ _)
      | (with_reducible exact ih1 _ _ _ _ _)
      | (with_reducible exact ih2 _ _ _ _ _ _ _ _)
      | (with_reducible exact laws_zzFits16.mono _ _)
      | (with_reducible exact spec_AreGlobs.mono _ _)
      | (with_reducible exact spec_IsPath.mono _ _)
      | (with_reducible exact spec_NameIgnored.mono _ _ _ _ _)
      | (with_reducible exact LeO.refl _)
      | (with_reducible exact LeO.none _)
      | (with_reducible refine LeO.ite ?_ ?_)
      | (with_reducible refine LeO.bind ?_ (fun _ => ?_))
      | exact ih0 _ _ _ _ _
      | exact ih1 _ _ _ _ _
      | exact ih2 _ _ _ _ _ _ _ _
      | exact laws_zzFits16.mono _ _
      | exact spec_AreGlobs.mono _ _
      | exact spec_IsPath.mono _ _
      | exact spec_NameIgnored.mono _ _ _ _ _
      | exact LeO.none _
      | refine LeO.ite ?_ ?_
      | refine LeO.bind ?_ (fun _ => ?_)
    · intro y0 y1 y2 y3 y4 y5 y6 y7
      unfold laws_FnIgnoreLast.l0
      repeat' first
      | (with_reducible exact ih0 _ _ _ _ _)
      | (with_reducible exact ih1 _ _ _ _ _)
      | (with_reducible exact ih2 _ _ _ _ _ _ _ _)
      | (with_reducible exact laws_zzFits16.mono _ _)
      | (with_reducible exact spec_AreGlobs.mono _ _)
      | (with_reducible exact spec_IsPath.mono _ _)
      | (with_reducible exact spec_NameIgnored.mono _ _ _ _ _)
      | (with_reducible exact LeO.refl _)
      | (with_reducible exact LeO.none _)
      | (with_reducible refine LeO.ite ?_ ?_)
      | (with_reducible refine LeO.bind ?_ (fun _ => ?_))
      | exact ih0 _ _ _ _ _
      | exact ih1 _ _ _ _ _
      | exact ih2 _ _ _ _ _ _ _ _
      | exact laws_zzFits16.mono _ _
      | exact spec_AreGlobs.mono _ _
      | exact spec_IsPath.mono _ _
      | exact spec_NameIgnored.mono _ _ _ _ _
      | exact LeO.none _
      | refine LeO.ite ?_ ?_
      | refine LeO.bind ?_ (fun _ => ?_)
theorem laws_FnIgnoreLast.mono : ∀ a0 a1 a2 a3 k, LeO (laws_FnIgnoreLast.f k a0 a1 a2 a3) (laws_FnIgnoreLast.f (k + 1) a0 a1 a2 a3) := by
  intro a0 a1 a2 a3 k
  obtain ⟨ih0, ih1, ih2⟩ := laws_FnIgnoreLast.mono_l k
  unfold laws_FnIgnoreLast.f
  repeat' first
      | (with_reducible exact ih0 _ _ _ _ _)
      | (with_reducible exact ih1 _ _ _ _ _)
      | (with_reducible exact ih2 _ _ _ _ _ _ _ _)
      | (with_reducible exact laws_zzFits16.mono _ _)
      | (with_reducible exact spec_AreGlobs.mono _ _)
      | (with_reducible exact spec_IsPath.mono _ _)
      | (with_reducible exact spec_NameIgnored.mono _ _ _ _ _)
      | (with_reducible exact LeO.refl _)
      | (with_reducible exact LeO.none _)
      | (with_reducible refine LeO.ite ?_ ?_)
      | (with_reducible refine LeO.bind ?_ (fun _ => ?_))
      | exact ih0 _ _ _ _ _
      | exact ih1 _ _ _ _ _
      | exact ih2 _ _ _ _ _ _ _ _
      | exact laws_zzFits16.mono _ _
      | exact spec_AreGlobs.mono _ _
      | exact spec_IsPath.mono _ _
      | exact spec_NameIgnored.mono _ _ _ _ _
      | exact LeO.none _
      | refine LeO.ite ?_ ?_
      | refine LeO.bind ?_ (fun _ => ?_)
set_option maxHeartbeats 8000000 in
set_option maxRecDepth 100000 in
theorem laws_FnIgnoreLast.calls (k : Nat) (A0 : Option Addr) (c0 : Nat) (l0 : List ByteArray) (A1 : Option Addr) (c1 : Nat) (l1 : List Bool) (A2 : Option Addr) (c2 : Nat) (l2 : List ByteArray) (a3 : Bool) (r : Bool) (w : World) (hr0 : Kd.C Kd.string w A0 l0.length l0) (hc0 : l0.length ≤ c0) (hr1 : Kd.C Kd.bool w A1 l1.length l1) (hc1 : l1.length ≤ c1) (hr2 : Kd.C Kd.string w A2 l2.length l2) (hc2 : l2.length ≤ c2) (h : laws_FnIgnoreLast.f k l0 l1 l2 a3 = some r) :
    Calls Try.prog 6 #[.slice A0 l0.length c0, .slice A1 l1.length c1, .slice A2 l2.length c2, .bool a3] w fun e w' => e = .returned (.bool r) ∧ Below w.heap.size w w' := by
  have HR0 := Aside0.mk hr0
  have HC0 := Aside0.mk hc0
  clear hr0 hc0
  have HR1 := Aside0.mk hr1
  have HC1 := Aside0.mk hc1
  clear hr1 hc1
  have HR2 := Aside0.mk hr2
  have HC2 := Aside0.mk hc2
  clear hr2 hc2
  have HB := Aside0.mk (Below.refl w.heap.size w)
  have H : ((laws_zzFits16.f k l0).bind fun t162 => (if t162 = true then (if (l1.length : Int) > 2147483647 then (laws_FnIgnoreLast.j0 k l0 l1 l2 a3 true) else ((laws_zzFits16.f k l2).bind fun t163 => (laws_FnIgnoreLast.j0 k l0 l1 l2 a3 (!t163)))) else (laws_FnIgnoreLast.j0 k l0 l1 l2 a3 true))) = some r := h
  clear h
  have HC5 := Aside0.mk H
  clear H
  go_enter Try.func6, Try.ntmps6
  go_upto_region 1 with (fail)
  go_cut [26] (fun v26 wc => ∃ (kq : Nat) (x26_4 : Bool), v26 = .bool x26_4 ∧ Aside0 (laws_FnIgnoreLast.j0 kq l0 l1 l2 a3 x26_4 = some r) ∧ Aside0 (kq ≤ k) ∧ Aside0 (Below w.heap.size w wc))
  case first =>
    have H := HC5.out
    clear HC5
    replace H := Option.bind_eq_some_iff.mp H
    obtain ⟨t162, A60, H⟩ := H
    replace H : (if t162 = true then (if (l1.length : Int) > 2147483647 then (laws_FnIgnoreLast.j0 k l0 l1 l2 a3 true) else ((laws_zzFits16.f k l2).bind fun t163 => (laws_FnIgnoreLast.j0 k l0 l1 l2 a3 (!t163)))) else (laws_FnIgnoreLast.j0 k l0 l1 l2 a3 true)) = some r := H
    have A6 := Aside0.mk A60
    clear A60
    by_cases c7 : t162 = true
    · subst c7
      have H1 : (if (l1.length : Int) > 2147483647 then (laws_FnIgnoreLast.j0 k l0 l1 l2 a3 true) else ((laws_zzFits16.f k l2).bind fun t163 => (laws_FnIgnoreLast.j0 k l0 l1 l2 a3 (!t163)))) = some r := by rw [if_pos rfl] at H; exact H
      clear H
      have H := H1
      clear H1
      by_cases c8 : (l1.length : Int) > 2147483647
      · rw [if_pos c8] at H
        have c8b0 : decide (2147483647 < (l1.length : Int)) = true := decide_eq_true c8
        have c8b1 : decide (2147483647 < l1.length) = true := decide_eq_true (by omega)
        clear c8
        (first | rw [c8b0] | (simp only [i64_w, i32_w]; rw [c8b0]) | skip)
        have H' := Aside0.mk H
        clear H
        go_wp2_with (first | ((with_reducible refine gate_callee (f := 7) rfl ?_); refine goesL_ (some 15) rfl rfl Try.func7 (by kernel_rfl) rfl #[.slice A0 l0.length c0] rfl (by (try simp only [List.map_toArray, List.map_cons, List.map_nil]); first | done | rfl | (simp only [List.length_drop, List.length_take]; rfl)) ?_; (with_reducible refine (laws_zzFits16.calls k _ _ l0 true _ ?side1 ?side2 A6.out).mono ?_); (case side1 => repeat (first | exact (Kd.C_below HR0.out HB.out) | (with_reducible refine Kd.C_alloc ?_ _) | (with_reducible refine Kd.C_drewN ?_ _) | (with_reducible refine Kd.C_drew ?_))); (case side2 => exact HC0.out); rintro e w' ⟨rfl, ⟨nd, rfl⟩⟩; refine ⟨_, rfl, ?_⟩))
        go_meet
        case rel => exact ⟨_, (true), (by first | rfl | (simp; done) | (simp [*]; done)), H', ⟨by first | omega | exact Nat.le_refl _⟩, ⟨by repeat (first | (with_reducible first | exact HB.out | apply below_alloc | apply pw_below_drewN | apply below_drew1) | exact HB.out)⟩⟩
      · rw [if_neg c8] at H
        have c8b0 : decide (2147483647 < (l1.length : Int)) = false := decide_eq_false c8
        have c8b1 : decide (2147483647 < l1.length) = false := decide_eq_false (by omega)
        clear c8
        (first | rw [c8b0] | (simp only [i64_w, i32_w]; rw [c8b0]) | skip)
        replace H := Option.bind_eq_some_iff.mp H
        obtain ⟨t163, A90, H⟩ := H
        replace H : (laws_FnIgnoreLast.j0 k l0 l1 l2 a3 (!t163)) = some r := H
        have A9 := Aside0.mk A90
        clear A90
        have H' := Aside0.mk H
        clear H
        go_wp2_with (first | ((with_reducible refine gate_callee (f := 7) rfl ?_); refine goesL_ (some 15) rfl rfl Try.func7 (by kernel_rfl) rfl #[.slice A0 l0.length c0] rfl (by (try simp only [List.map_toArray, List.map_cons, List.map_nil]); first | done | rfl | (simp only [List.length_drop, List.length_take]; rfl)) ?_; (with_reducible refine (laws_zzFits16.calls k _ _ l0 true _ ?side1 ?side2 A6.out).mono ?_); (case side1 => repeat (first | exact (Kd.C_below HR0.out HB.out) | (with_reducible refine Kd.C_alloc ?_ _) | (with_reducible refine Kd.C_drewN ?_ _) | (with_reducible refine Kd.C_drew ?_))); (case side2 => exact HC0.out); rintro e w' ⟨rfl, ⟨nd, rfl⟩⟩; refine ⟨_, rfl, ?_⟩) | (go_at_call 7; (with_reducible refine (laws_zzFits16.calls k _ _ l2 t163 _ ?side1 ?side2 A9.out).mono ?_); (case side1 => repeat (first | exact (Kd.C_below HR2.out (by repeat (first | (with_reducible first | exact HB.out | apply below_alloc | apply pw_below_drewN | apply below_drew1) | exact HB.out))) | (with_reducible refine Kd.C_alloc ?_ _) | (with_reducible refine Kd.C_drewN ?_ _) | (with_reducible refine Kd.C_drew ?_))); (case side2 => exact HC2.out); rintro e w' ⟨rfl, ⟨nd, rfl⟩⟩))
        go_meet
        case rel => exact ⟨_, (!t163), (by first | rfl | (simp; done) | (simp [*]; done)), H', ⟨by first | omega | exact Nat.le_refl _⟩, ⟨by repeat (first | (with_reducible first | exact HB.out | apply below_alloc | apply pw_below_drewN | apply below_drew1) | exact HB.out)⟩⟩
    · replace c7 := Bool.eq_false_iff.mpr c7
      subst c7
      have H1 : (laws_FnIgnoreLast.j0 k l0 l1 l2 a3 true) = some r := by rw [if_neg (show ¬ (false = true) by decide)] at H; exact H
      clear H
      have H := H1
      clear H1
      have H' := Aside0.mk H
      clear H
      go_wp2_with (first | ((with_reducible refine gate_callee (f := 7) rfl ?_); refine goesL_ (some 15) rfl rfl Try.func7 (by kernel_rfl) rfl #[.slice A0 l0.length c0] rfl (by (try simp only [List.map_toArray, List.map_cons, List.map_nil]); first | done | rfl | (simp only [List.length_drop, List.length_take]; rfl)) ?_; (with_reducible refine (laws_zzFits16.calls k _ _ l0 false _ ?side1 ?side2 A6.out).mono ?_); (case side1 => repeat (first | exact (Kd.C_below HR0.out HB.out) | (with_reducible refine Kd.C_alloc ?_ _) | (with_reducible refine Kd.C_drewN ?_ _) | (with_reducible refine Kd.C_drew ?_))); (case side2 => exact HC0.out); rintro e w' ⟨rfl, ⟨nd, rfl⟩⟩; refine ⟨_, rfl, ?_⟩))
      go_meet
      case rel => exact ⟨_, (true), (by first | rfl | (simp; done) | (simp [*]; done)), H', ⟨by first | omega | exact Nat.le_refl _⟩, ⟨by repeat (first | (with_reducible first | exact HB.out | apply below_alloc | apply pw_below_drewN | apply below_drew1) | exact HB.out)⟩⟩
  case rest =>
    clear HC5
    try clear c1
    try clear c2
    try clear p2
    try clear c6
    try clear c7
    try clear c8
    try clear c8b0
    try clear c8b1
    obtain ⟨kq, x26_4, rfl, HA, HJ4, HB⟩ := hcut
    cases kq with
    | zero => exact absurd HA.out (by simp [laws_FnIgnoreLast.j0])
    | succ kj4 =>
      have H := HA.out
      clear HA
      simp only [laws_FnIgnoreLast.j0] at H
      by_cases c10 : x26_4 = true
      · subst c10
        have H1 : (some true) = some r := by rw [if_pos rfl] at H; exact H
        clear H
        have H := H1
        clear H1
        obtain rfl := Option.some.inj H
        go_wp2
        go_ret
        exact ⟨by first | rfl | (simp [errW_none, errW_some] <;> rfl) | (simp [*, errW_none, errW_some] <;> rfl), by repeat (first | (with_reducible first | exact HB.out | apply below_alloc | apply pw_below_drewN | apply below_drew1) | exact HB.out)⟩
      · replace c10 := Bool.eq_false_iff.mpr c10
        subst c10
        have H1 : ((spec_AreGlobs.f kj4 l0).bind fun t164 => (if t164 = true then (if (l1.length : Int) = (l0.length : Int) then ((spec_IsPath.f kj4 l2).bind fun t165 => (laws_FnIgnoreLast.j1 kj4 l0 l1 l2 a3 (!t165))) else (laws_FnIgnoreLast.j1 kj4 l0 l1 l2 a3 true)) else (laws_FnIgnoreLast.j1 kj4 l0 l1 l2 a3 true))) = some r := by rw [if_neg (show ¬ (false = true) by decide)] at H; exact H
        clear H
        have H := H1
        clear H1
        have HC11 := Aside0.mk H
        clear H
        go_upto_region 3 with (fail)
        go_cut [41] (fun v41 wc => ∃ (kq : Nat) (x41_10 : Bool), v41 = .bool x41_10 ∧ Aside0 (laws_FnIgnoreLast.j1 kq l0 l1 l2 a3 x41_10 = some r) ∧ Aside0 (kq ≤ kj4) ∧ Aside0 (Below w.heap.size w wc))
        case first =>
          have H := HC11.out
          clear HC11
          replace H := Option.bind_eq_some_iff.mp H
          obtain ⟨t164, A120, H⟩ := H
          replace H : (if t164 = true then (if (l1.length : Int) = (l0.length : Int) then ((spec_IsPath.f kj4 l2).bind fun t165 => (laws_FnIgnoreLast.j1 kj4 l0 l1 l2 a3 (!t165))) else (laws_FnIgnoreLast.j1 kj4 l0 l1 l2 a3 true)) else (laws_FnIgnoreLast.j1 kj4 l0 l1 l2 a3 true)) = some r := H
          have A12 := Aside0.mk A120
          clear A120
          by_cases c13 : t164 = true
          · subst c13
            have H1 : (if (l1.length : Int) = (l0.length : Int) then ((spec_IsPath.f kj4 l2).bind fun t165 => (laws_FnIgnoreLast.j1 kj4 l0 l1 l2 a3 (!t165))) else (laws_FnIgnoreLast.j1 kj4 l0 l1 l2 a3 true)) = some r := by rw [if_pos rfl] at H; exact H
            clear H
            have H := H1
            clear H1
            by_cases c14 : (l1.length : Int) = (l0.length : Int)
            · rw [if_pos c14] at H
              have c14b0 : ((l1.length : Int) == (l0.length : Int)) = true := beq_iff_eq.mpr c14
              have c14b1 : ((l1.length : Int) != (l0.length : Int)) = false := bne_eq_false_iff_eq.mpr c14
              have c14b2 : (l1.length == l0.length) = true := by first | simpa using c14 | (simp at c14 ⊢; omega)
              clear c14
              (first | rw [c14b0] | (simp only [i64_w, i32_w]; rw [c14b0]) | skip)
              replace H := Option.bind_eq_some_iff.mp H
              obtain ⟨t165, A150, H⟩ := H
              replace H : (laws_FnIgnoreLast.j1 kj4 l0 l1 l2 a3 (!t165)) = some r := H
              have A15 := Aside0.mk A150
              clear A150
              have H' := Aside0.mk H
              clear H
              go_wp2_with (first | ((with_reducible refine gate_callee (f := 13) rfl ?_); refine goesL_ (some 28) rfl rfl Try.func13 (by kernel_rfl) rfl #[.slice A0 l0.length c0] rfl (by (try simp only [List.map_toArray, List.map_cons, List.map_nil]); first | done | rfl | (simp only [List.length_drop, List.length_take]; rfl)) ?_; (with_reducible refine (spec_AreGlobs.calls kj4 _ _ l0 true _ ?side1 ?side2 A12.out).mono ?_); (case side1 => repeat (first | exact (Kd.C_below HR0.out HB.out) | (with_reducible refine Kd.C_alloc ?_ _) | (with_reducible refine Kd.C_drewN ?_ _) | (with_reducible refine Kd.C_drew ?_))); (case side2 => exact HC0.out); rintro e w' ⟨rfl, ⟨nd, rfl⟩⟩; refine ⟨_, rfl, ?_⟩) | (go_at_call 9; (with_reducible refine (spec_IsPath.calls kj4 _ _ l2 t165 _ ?side1 ?side2 A15.out).mono ?_); (case side1 => repeat (first | exact (Kd.C_below HR2.out (by repeat (first | (with_reducible first | exact HB.out | apply below_alloc | apply pw_below_drewN | apply below_drew1) | exact HB.out))) | (with_reducible refine Kd.C_alloc ?_ _) | (with_reducible refine Kd.C_drewN ?_ _) | (with_reducible refine Kd.C_drew ?_))); (case side2 => exact HC2.out); rintro e w' ⟨rfl, ⟨nd, rfl⟩⟩))
              go_meet
              case rel => exact ⟨_, (!t165), (by first | rfl | (simp; done) | (simp [*]; done)), H', ⟨by have := HJ4.out; first | omega | exact Nat.le_refl _⟩, ⟨by repeat (first | (with_reducible first | exact HB.out | apply below_alloc | apply pw_below_drewN | apply below_drew1) | exact HB.out)⟩⟩
            · rw [if_neg c14] at H
              have c14b0 : ((l1.length : Int) == (l0.length : Int)) = false := beq_eq_false_iff_ne.mpr c14
              have c14b1 : ((l1.length : Int) != (l0.length : Int)) = true := bne_iff_ne.mpr c14
              have c14b2 : (l1.length == l0.length) = false := by first | simpa using c14 | (simp at c14 ⊢; omega)
              (first | rw [c14b0] | (simp only [i64_w, i32_w]; rw [c14b0]) | skip)
              have H' := Aside0.mk H
              clear H
              go_wp2_with (first | ((with_reducible refine gate_callee (f := 13) rfl ?_); refine goesL_ (some 28) rfl rfl Try.func13 (by kernel_rfl) rfl #[.slice A0 l0.length c0] rfl (by (try simp only [List.map_toArray, List.map_cons, List.map_nil]); first | done | rfl | (simp only [List.length_drop, List.length_take]; rfl)) ?_; (with_reducible refine (spec_AreGlobs.calls kj4 _ _ l0 true _ ?side1 ?side2 A12.out).mono ?_); (case side1 => repeat (first | exact (Kd.C_below HR0.out HB.out) | (with_reducible refine Kd.C_alloc ?_ _) | (with_reducible refine Kd.C_drewN ?_ _) | (with_reducible refine Kd.C_drew ?_))); (case side2 => exact HC0.out); rintro e w' ⟨rfl, ⟨nd, rfl⟩⟩; refine ⟨_, rfl, ?_⟩))
              go_meet
              case rel => exact ⟨_, (true), (by first | rfl | (simp; done) | (simp [*]; done)), H', ⟨by have := HJ4.out; first | omega | exact Nat.le_refl _⟩, ⟨by repeat (first | (with_reducible first | exact HB.out | apply below_alloc | apply pw_below_drewN | apply below_drew1) | exact HB.out)⟩⟩
          · replace c13 := Bool.eq_false_iff.mpr c13
            subst c13
            have H1 : (laws_FnIgnoreLast.j1 kj4 l0 l1 l2 a3 true) = some r := by rw [if_neg (show ¬ (false = true) by decide)] at H; exact H
            clear H
            have H := H1
            clear H1
            have H' := Aside0.mk H
            clear H
            go_wp2_with (first | ((with_reducible refine gate_callee (f := 13) rfl ?_); refine goesL_ (some 28) rfl rfl Try.func13 (by kernel_rfl) rfl #[.slice A0 l0.length c0] rfl (by (try simp only [List.map_toArray, List.map_cons, List.map_nil]); first | done | rfl | (simp only [List.length_drop, List.length_take]; rfl)) ?_; (with_reducible refine (spec_AreGlobs.calls kj4 _ _ l0 false _ ?side1 ?side2 A12.out).mono ?_); (case side1 => repeat (first | exact (Kd.C_below HR0.out HB.out) | (with_reducible refine Kd.C_alloc ?_ _) | (with_reducible refine Kd.C_drewN ?_ _) | (with_reducible refine Kd.C_drew ?_))); (case side2 => exact HC0.out); rintro e w' ⟨rfl, ⟨nd, rfl⟩⟩; refine ⟨_, rfl, ?_⟩))
            go_meet
            case rel => exact ⟨_, (true), (by first | rfl | (simp; done) | (simp [*]; done)), H', ⟨by have := HJ4.out; first | omega | exact Nat.le_refl _⟩, ⟨by repeat (first | (with_reducible first | exact HB.out | apply below_alloc | apply pw_below_drewN | apply below_drew1) | exact HB.out)⟩⟩
        case rest =>
          clear HC11
          try clear c1
          try clear c2
          try clear p2
          try clear c6
          try clear c7
          try clear c8
          try clear c8b0
          try clear c8b1
          try clear c10
          try clear c13
          try clear c14
          try clear c14b0
          try clear c14b1
          try clear c14b2
          try clear p2
          obtain ⟨kq, x41_10, rfl, HA, HJ10, HB⟩ := hcut
          cases kq with
          | zero => exact absurd HA.out (by simp [laws_FnIgnoreLast.j1])
          | succ kj10 =>
            have H := HA.out
            clear HA
            simp only [laws_FnIgnoreLast.j1] at H
            by_cases c16 : x41_10 = true
            · subst c16
              have H1 : (some true) = some r := by rw [if_pos rfl] at H; exact H
              clear H
              have H := H1
              clear H1
              obtain rfl := Option.some.inj H
              go_wp2
              go_ret
              exact ⟨by first | rfl | (simp [errW_none, errW_some] <;> rfl) | (simp [*, errW_none, errW_some] <;> rfl), by repeat (first | (with_reducible first | exact HB.out | apply below_alloc | apply pw_below_drewN | apply below_drew1) | exact HB.out)⟩
            · replace c16 := Bool.eq_false_iff.mpr c16
              subst c16
              have H1 : (laws_FnIgnoreLast.l0 kj10 l1 l2 a3 ([] : List ByteArray) false l0 (l0.length : Int) 0) = some r := by rw [if_neg (show ¬ (false = true) by decide)] at H; exact H
              clear H
              have H := H1
              clear H1
              have H' := Aside0.mk H
              clear H
              go_wp2
              go_loopg [9, 10, 44] kj10 (fun kq v9 v10 v44 w' => ∃ (x9_3 : List ByteArray) (x10_3 : Bool) (x44_3 : Int), v10 = .bool x10_3 ∧ v44 = .int .i64 x44_3 ∧ Aside0 (laws_FnIgnoreLast.l0 kq l1 l2 a3 x9_3 x10_3 l0 (l0.length : Int) x44_3 = some r) ∧ Aside0 (kq ≤ kj10) ∧ Aside0 (Kd.R Kd.string 9 w' w.heap.size (fun _ => True) v9 x9_3) ∧ Aside0 (Below w.heap.size w w'))
              case atStart => exact ⟨(([] : List ByteArray)), (false), (0), (by first | rfl | (simp; done) | (simp [*]; done)), (by first | rfl | (simp; done) | (simp [*]; done)), H', ⟨Nat.le_refl _⟩, ⟨by first | exact Kd.R_nil _ _ _ _ _ | exact Kd.N_nil _ _ _ _ _ | exact Kd.V_nil _ _ _ _ _ | exact Kd.Q_nil _ _ _ _ _ | exact Kd.S_nil _ _ _ _ _⟩, ⟨by repeat (first | (with_reducible first | exact HB.out | apply below_alloc | apply pw_below_drewN | apply below_drew1) | exact HB.out)⟩⟩
              case round =>
                clear H'
                try clear c1
                try clear c2
                try clear p2
                try clear c6
                try clear c7
                try clear c8
                try clear c8b0
                try clear c8b1
                try clear c10
                try clear c13
                try clear c14
                try clear c14b0
                try clear c14b1
                try clear c14b2
                try clear c16
                try clear p2
                obtain ⟨x9_3, x10_3, x44_3, rfl, rfl, HA, HK3, HO_9, HB⟩ := hrel
                cases gk with
                | zero => exact absurd HA.out (by simp [laws_FnIgnoreLast.l0])
                | succ k3 =>
                  have H := HA.out
                  clear HA
                  simp only [laws_FnIgnoreLast.l0] at H
                  by_cases c17 : x44_3 < (l0.length : Int)
                  · rw [if_pos c17] at H
                    have c17b0 : decide (x44_3 < (l0.length : Int)) = true := decide_eq_true c17
                    clear c17
                    by_cases c18 : 0 ≤ x44_3
                    · rw [if_pos c18] at H
                      have c18b0 : decide (0 ≤ x44_3) = true := decide_eq_true c18
                      clear c18
                      by_cases c19 : x44_3 < (l0.length : Int)
                      · rw [if_pos c19] at H
                        have c19b0 : decide (x44_3 < (l0.length : Int)) = true := decide_eq_true c19
                        clear c19
                        replace H := Option.bind_eq_some_iff.mp H
                        obtain ⟨t181, A200, H⟩ := H
                        replace H : (if x44_3 < (l1.length : Int) then (if rdOf false l1 x44_3 = true then (if 1 + (rdOf ByteArray.empty l0 x44_3).size ≤ 9223372036854775807 then (if x9_3.length < 8796093022208 then ((some (x9_3 ++ [(⟨#[33]⟩ : ByteArray) ++ (rdOf ByteArray.empty l0 x44_3)] : List ByteArray)).bind fun y183 => (if t181 = true then (laws_FnIgnoreLast.l0 k3 l1 l2 a3 y183 (!(rdOf false l1 x44_3)) l0 (l0.length : Int) (wrap64 (x44_3 + 1))) else (laws_FnIgnoreLast.l0 k3 l1 l2 a3 y183 x10_3 l0 (l0.length : Int) (wrap64 (x44_3 + 1))))) else (none)) else (none)) else (if x9_3.length < 8796093022208 then ((some (x9_3 ++ [rdOf ByteArray.empty l0 x44_3] : List ByteArray)).bind fun y187 => (if t181 = true then (laws_FnIgnoreLast.l0 k3 l1 l2 a3 y187 (!(rdOf false l1 x44_3)) l0 (l0.length : Int) (wrap64 (x44_3 + 1))) else (laws_FnIgnoreLast.l0 k3 l1 l2 a3 y187 x10_3 l0 (l0.length : Int) (wrap64 (x44_3 + 1))))) else (none))) else (none)) = some r := H
                        have A20 := Aside0.mk A200
                        clear A200
                        by_cases c21 : x44_3 < (l1.length : Int)
                        · rw [if_pos c21] at H
                          have c21b0 : decide (x44_3 < (l1.length : Int)) = true := decide_eq_true c21
                          clear c21
                          obtain ⟨bq22, hbq22⟩ : ∃ b_ : Bool, b_ = (rdOf false l1 x44_3) := ⟨_, rfl⟩
                          replace H : (if bq22 = true then (if 1 + (rdOf ByteArray.empty l0 x44_3).size ≤ 9223372036854775807 then (if x9_3.length < 8796093022208 then ((some (x9_3 ++ [(⟨#[33]⟩ : ByteArray) ++ (rdOf ByteArray.empty l0 x44_3)] : List ByteArray)).bind fun y183 => (if t181 = true then (laws_FnIgnoreLast.l0 k3 l1 l2 a3 y183 (!(bq22)) l0 (l0.length : Int) (wrap64 (x44_3 + 1))) else (laws_FnIgnoreLast.l0 k3 l1 l2 a3 y183 x10_3 l0 (l0.length : Int) (wrap64 (x44_3 + 1))))) else (none)) else (none)) else (if x9_3.length < 8796093022208 then ((some (x9_3 ++ [rdOf ByteArray.empty l0 x44_3] : List ByteArray)).bind fun y187 => (if t181 = true then (laws_FnIgnoreLast.l0 k3 l1 l2 a3 y187 (!(bq22)) l0 (l0.length : Int) (wrap64 (x44_3 + 1))) else (laws_FnIgnoreLast.l0 k3 l1 l2 a3 y187 x10_3 l0 (l0.length : Int) (wrap64 (x44_3 + 1))))) else (none))) = some r := by rw [← hbq22] at H; exact H
                          have Nbq22 := Aside0.mk hbq22
                          clear hbq22
                          by_cases c23 : bq22 = true
                          · subst c23
                            have H1 : (if 1 + (rdOf ByteArray.empty l0 x44_3).size ≤ 9223372036854775807 then (if x9_3.length < 8796093022208 then ((some (x9_3 ++ [(⟨#[33]⟩ : ByteArray) ++ (rdOf ByteArray.empty l0 x44_3)] : List ByteArray)).bind fun y183 => (if t181 = true then (laws_FnIgnoreLast.l0 k3 l1 l2 a3 y183 (!(true)) l0 (l0.length : Int) (wrap64 (x44_3 + 1))) else (laws_FnIgnoreLast.l0 k3 l1 l2 a3 y183 x10_3 l0 (l0.length : Int) (wrap64 (x44_3 + 1))))) else (none)) else (none)) = some r := by rw [if_pos rfl] at H; exact H
                            clear H
                            have H := H1
                            clear H1
                            by_cases c24 : 1 + (rdOf ByteArray.empty l0 x44_3).size ≤ 9223372036854775807
                            · rw [if_pos c24] at H
                              have c24b0 := eq_true c24
                              have c24b1 : decide (1 + (rdOf ByteArray.empty l0 x44_3).size ≤ 9223372036854775807) = true := decide_eq_true c24
                              try have c24b2 : (9223372036854775807 < 1 + (rdOf ByteArray.empty l0 x44_3).size) = False := eq_false (Nat.not_lt.2 c24)
                              by_cases c25 : x9_3.length < 8796093022208
                              · rw [if_pos c25] at H
                                have LMc25 := Aside0.mk c25
                                clear c25
                                obtain ⟨y183, hy183⟩ : ∃ y_ : List ByteArray, y_ = (x9_3 ++ [(⟨#[33]⟩ : ByteArray) ++ (rdOf ByteArray.empty l0 x44_3)]) := ⟨_, rfl⟩
                                replace H : (if t181 = true then (laws_FnIgnoreLast.l0 k3 l1 l2 a3 y183 (!(true)) l0 (l0.length : Int) (wrap64 (x44_3 + 1))) else (laws_FnIgnoreLast.l0 k3 l1 l2 a3 y183 x10_3 l0 (l0.length : Int) (wrap64 (x44_3 + 1)))) = some r := by first | (rw [hy183]; with_reducible exact H) | (have H2_ := (Option.bind_some _ _).symm.trans H; rw [hy183]; with_reducible exact H2_) | (have H2_ := (Option.bind_some _ _).symm.trans H; with_reducible exact H2_) | with_reducible exact H | (rw [hy183]; exact H) | exact H
                                have Ny183 := Aside0.mk hy183
                                clear hy183
                                by_cases c26 : t181 = true
                                · subst c26
                                  have H1 : (laws_FnIgnoreLast.l0 k3 l1 l2 a3 y183 (!(true)) l0 (l0.length : Int) (wrap64 (x44_3 + 1))) = some r := by rw [if_pos rfl] at H; exact H
                                  clear H
                                  have H := H1
                                  clear H1
                                  have H' := Aside0.mk H
                                  clear H
                                  have p180 : 0 ≤ (x44_3 : Int) := of_decide_eq_true (by first | (with_reducible assumption) | assumption)
                                  have q180 : x44_3 < (l0.length : Int) := of_decide_eq_true (by first | (with_reducible assumption) | assumption)
                                  obtain ⟨ad180, e180, hx180_0⟩ := Kd.at_string HR0.out x44_3 p180 q180
                                  cases e180
                                  replace hx180_0 := (HB.out.cell (World.block_lt_of_cell? w _ hx180_0)).trans hx180_0
                                  replace p180 := eq_true p180
                                  replace q180 := eq_true q180
                                  go_wp2_with (first | ((with_reducible refine gate_callee (f := 11) rfl ?_); refine goesL_ (some 52) rfl rfl Try.func11 (by kernel_rfl) rfl #[.string (rdOf ByteArray.empty l0 x44_3), .bool false, .slice A2 l2.length c2, .bool a3] rfl (by (try simp only [List.map_toArray, List.map_cons, List.map_nil]); first | done | rfl | (simp only [List.length_drop, List.length_take]; rfl)) ?_; (with_reducible refine (spec_NameIgnored.calls k3 (rdOf ByteArray.empty l0 x44_3) false _ _ l2 a3 true _ ?side1 ?side2 A20.out).mono ?_); (case side1 => repeat (first | exact (Kd.C_below HR2.out HB.out) | (with_reducible refine Kd.C_alloc ?_ _) | (with_reducible refine Kd.C_drewN ?_ _) | (with_reducible refine Kd.C_drew ?_))); (case side2 => exact HC2.out); rintro e w27 ⟨rfl, hb⟩; refine ⟨_, rfl, ?_⟩; have n0_ := Aside0.mk (Kd.R_below (by (with_reducible repeat (first | apply Kd.R_alloc | apply Kd.R_drewN | apply Kd.R_drew)); exact HO_9.out) hb); have n1_ := Aside0.mk (below_step (by repeat (first | (with_reducible first | exact HB.out | apply below_alloc | apply pw_below_drewN | apply below_drew1) | exact HB.out)) hb); clear HO_9; clear HB; have HO_9 := n0_; have HB := n1_; clear n0_ n1_; (try clear hb); (try clear hb2); (try clear hk); (try clear hi); have p182 : 0 ≤ (x44_3 : Int) := of_decide_eq_true (by first | (with_reducible assumption) | assumption); have q182 : x44_3 < (l1.length : Int) := of_decide_eq_true (by first | (with_reducible assumption) | assumption); obtain ⟨ad182, e182, hx182_0⟩ := Kd.at_bool HR1.out x44_3 p182 q182; (try rw [← Nbq22.out] at hx182_0); cases e182; replace hx182_0 := (HB.out.cell (World.block_lt_of_cell? w _ hx182_0)).trans hx182_0; replace p182 := eq_true p182; replace q182 := eq_true q182) | ((with_reducible refine gate_builtin (b := .append) (xs := #[.tmp 59, .tmp 61]) rfl ?_); (try (refine gate_guard (by rfl) ?_; dsimp only)); at_builtin; refine Kd.R_append Kd.string (w0 := w) w.heap.size rfl (.tmp 59) (.tmp 61) 22 9 (.string ⟨#[]⟩) 16 rfl Try.underlying22 info9 rfl (by decide) (by omega) u9 x9_3 ((⟨#[33]⟩ : ByteArray) ++ (rdOf ByteArray.empty l0 x44_3)) [.string ((⟨#[33]⟩ : ByteArray) ++ (rdOf ByteArray.empty l0 x44_3))] (fun _ => True) (fun _ => False) rfl rfl ?aP (fun _ hk => hk.elim) ?aF ?aO ?aB ?aS ?aL ?_; (case aP => exact rfl); (case aB => exact (by repeat (first | (with_reducible first | exact HB.out | apply below_alloc | apply pw_below_drewN | apply below_drew1) | exact HB.out))); (case aF => exact (fun _ _ => trivial)); (case aO => exact (by (with_reducible repeat (first | apply Kd.R_alloc | apply Kd.R_drewN | apply Kd.R_drew)); exact HO_9.out)); (case aS => exact (below_size (by repeat (first | (with_reducible first | exact HB.out | apply below_alloc | apply pw_below_drewN | apply below_drew1) | exact HB.out)))); (case aL => have := LMc25.out; omega); intro v184 w28 ho hb hg hat; rw [← Ny183.out] at ho; have n0_ := Aside0.mk (hb); have n1_ := Aside0.mk (ho); clear HB; clear HO_9; have HB := n0_; have HO185 := n1_; clear n0_ n1_; clear ho hb hg hat; have p186 : 0 ≤ (x44_3 : Int) := of_decide_eq_true (by first | (with_reducible assumption) | assumption); have q186 : x44_3 < (l1.length : Int) := of_decide_eq_true (by first | (with_reducible assumption) | assumption); obtain ⟨ad186, e186, hx186_0⟩ := Kd.at_bool HR1.out x44_3 p186 q186; (try rw [← Nbq22.out] at hx186_0); obtain rfl : ad182 = ad186 := (by injection e186); replace hx186_0 := (HB.out.cell (World.block_lt_of_cell? w _ hx186_0)).trans hx186_0; replace p186 := eq_true p186; replace q186 := eq_true q186))
                                  go_roundg k3
                                  case measure => have := HJ4.out; have := HJ10.out; have := HK3.out; omega
                                  case rel => exact ⟨(y183), (!(true)), (wrap64 (x44_3 + 1)), (by first | rfl | (simp; done) | (simp [*]; done)), (by first | rfl | (simp; done) | (simp [*]; done)), H', ⟨by have := HJ4.out; have := HJ10.out; have := HK3.out; omega⟩, ⟨by (with_reducible repeat (first | apply Kd.R_alloc | apply Kd.R_drewN | apply Kd.R_drew)); exact HO185.out⟩, ⟨by repeat (first | (with_reducible first | exact HB.out | apply below_alloc | apply pw_below_drewN | apply below_drew1) | exact HB.out)⟩⟩
                                · replace c26 := Bool.eq_false_iff.mpr c26
                                  subst c26
                                  have H1 : (laws_FnIgnoreLast.l0 k3 l1 l2 a3 y183 x10_3 l0 (l0.length : Int) (wrap64 (x44_3 + 1))) = some r := by rw [if_neg (show ¬ (false = true) by decide)] at H; exact H
                                  clear H
                                  have H := H1
                                  clear H1
                                  have H' := Aside0.mk H
                                  clear H
                                  have p180 : 0 ≤ (x44_3 : Int) := of_decide_eq_true (by first | (with_reducible assumption) | assumption)
                                  have q180 : x44_3 < (l0.length : Int) := of_decide_eq_true (by first | (with_reducible assumption) | assumption)
                                  obtain ⟨ad180, e180, hx180_0⟩ := Kd.at_string HR0.out x44_3 p180 q180
                                  cases e180
                                  replace hx180_0 := (HB.out.cell (World.block_lt_of_cell? w _ hx180_0)).trans hx180_0
                                  replace p180 := eq_true p180
                                  replace q180 := eq_true q180
                                  go_wp2_with (first | ((with_reducible refine gate_callee (f := 11) rfl ?_); refine goesL_ (some 52) rfl rfl Try.func11 (by kernel_rfl) rfl #[.string (rdOf ByteArray.empty l0 x44_3), .bool false, .slice A2 l2.length c2, .bool a3] rfl (by (try simp only [List.map_toArray, List.map_cons, List.map_nil]); first | done | rfl | (simp only [List.length_drop, List.length_take]; rfl)) ?_; (with_reducible refine (spec_NameIgnored.calls k3 (rdOf ByteArray.empty l0 x44_3) false _ _ l2 a3 false _ ?side1 ?side2 A20.out).mono ?_); (case side1 => repeat (first | exact (Kd.C_below HR2.out HB.out) | (with_reducible refine Kd.C_alloc ?_ _) | (with_reducible refine Kd.C_drewN ?_ _) | (with_reducible refine Kd.C_drew ?_))); (case side2 => exact HC2.out); rintro e w29 ⟨rfl, hb⟩; refine ⟨_, rfl, ?_⟩; have n0_ := Aside0.mk (Kd.R_below (by (with_reducible repeat (first | apply Kd.R_alloc | apply Kd.R_drewN | apply Kd.R_drew)); exact HO_9.out) hb); have n1_ := Aside0.mk (below_step (by repeat (first | (with_reducible first | exact HB.out | apply below_alloc | apply pw_below_drewN | apply below_drew1) | exact HB.out)) hb); clear HO_9; clear HB; have HO_9 := n0_; have HB := n1_; clear n0_ n1_; (try clear hb); (try clear hb2); (try clear hk); (try clear hi); have p182 : 0 ≤ (x44_3 : Int) := of_decide_eq_true (by first | (with_reducible assumption) | assumption); have q182 : x44_3 < (l1.length : Int) := of_decide_eq_true (by first | (with_reducible assumption) | assumption); obtain ⟨ad182, e182, hx182_0⟩ := Kd.at_bool HR1.out x44_3 p182 q182; (try rw [← Nbq22.out] at hx182_0); cases e182; replace hx182_0 := (HB.out.cell (World.block_lt_of_cell? w _ hx182_0)).trans hx182_0; replace p182 := eq_true p182; replace q182 := eq_true q182) | ((with_reducible refine gate_builtin (b := .append) (xs := #[.tmp 59, .tmp 61]) rfl ?_); (try (refine gate_guard (by rfl) ?_; dsimp only)); at_builtin; refine Kd.R_append Kd.string (w0 := w) w.heap.size rfl (.tmp 59) (.tmp 61) 22 9 (.string ⟨#[]⟩) 16 rfl Try.underlying22 info9 rfl (by decide) (by omega) u9 x9_3 ((⟨#[33]⟩ : ByteArray) ++ (rdOf ByteArray.empty l0 x44_3)) [.string ((⟨#[33]⟩ : ByteArray) ++ (rdOf ByteArray.empty l0 x44_3))] (fun _ => True) (fun _ => False) rfl rfl ?aP (fun _ hk => hk.elim) ?aF ?aO ?aB ?aS ?aL ?_; (case aP => exact rfl); (case aB => exact (by repeat (first | (with_reducible first | exact HB.out | apply below_alloc | apply pw_below_drewN | apply below_drew1) | exact HB.out))); (case aF => exact (fun _ _ => trivial)); (case aO => exact (by (with_reducible repeat (first | apply Kd.R_alloc | apply Kd.R_drewN | apply Kd.R_drew)); exact HO_9.out)); (case aS => exact (below_size (by repeat (first | (with_reducible first | exact HB.out | apply below_alloc | apply pw_below_drewN | apply below_drew1) | exact HB.out)))); (case aL => have := LMc25.out; omega); intro v184 w30 ho hb hg hat; rw [← Ny183.out] at ho; have n0_ := Aside0.mk (hb); have n1_ := Aside0.mk (ho); clear HB; clear HO_9; have HB := n0_; have HO185 := n1_; clear n0_ n1_; clear ho hb hg hat))
                                  go_roundg k3
                                  case measure => have := HJ4.out; have := HJ10.out; have := HK3.out; omega
                                  case rel => exact ⟨(y183), (x10_3), (wrap64 (x44_3 + 1)), (by first | rfl | (simp; done) | (simp [*]; done)), (by first | rfl | (simp; done) | (simp [*]; done)), H', ⟨by have := HJ4.out; have := HJ10.out; have := HK3.out; omega⟩, ⟨by (with_reducible repeat (first | apply Kd.R_alloc | apply Kd.R_drewN | apply Kd.R_drew)); exact HO185.out⟩, ⟨by repeat (first | (with_reducible first | exact HB.out | apply below_alloc | apply pw_below_drewN | apply below_drew1) | exact HB.out)⟩⟩
                              · rw [if_neg c25] at H
                                exact absurd H (by simp)
                            · rw [if_neg c24] at H
                              exact absurd H (by simp)
                          · replace c23 := Bool.eq_false_iff.mpr c23
                            subst c23
                            have H1 : (if x9_3.length < 8796093022208 then ((some (x9_3 ++ [rdOf ByteArray.empty l0 x44_3] : List ByteArray)).bind fun y187 => (if t181 = true then (laws_FnIgnoreLast.l0 k3 l1 l2 a3 y187 (!(false)) l0 (l0.length : Int) (wrap64 (x44_3 + 1))) else (laws_FnIgnoreLast.l0 k3 l1 l2 a3 y187 x10_3 l0 (l0.length : Int) (wrap64 (x44_3 + 1))))) else (none)) = some r := by rw [if_neg (show ¬ (false = true) by decide)] at H; exact H
                            clear H
                            have H := H1
                            clear H1
                            by_cases c31 : x9_3.length < 8796093022208
                            · rw [if_pos c31] at H
                              have LMc31 := Aside0.mk c31
                              clear c31
                              obtain ⟨y187, hy187⟩ : ∃ y_ : List ByteArray, y_ = (x9_3 ++ [rdOf ByteArray.empty l0 x44_3]) := ⟨_, rfl⟩
                              replace H : (if t181 = true then (laws_FnIgnoreLast.l0 k3 l1 l2 a3 y187 (!(false)) l0 (l0.length : Int) (wrap64 (x44_3 + 1))) else (laws_FnIgnoreLast.l0 k3 l1 l2 a3 y187 x10_3 l0 (l0.length : Int) (wrap64 (x44_3 + 1)))) = some r := by first | (rw [hy187]; with_reducible exact H) | (have H2_ := (Option.bind_some _ _).symm.trans H; rw [hy187]; with_reducible exact H2_) | (have H2_ := (Option.bind_some _ _).symm.trans H; with_reducible exact H2_) | with_reducible exact H | (rw [hy187]; exact H) | exact H
                              have Ny187 := Aside0.mk hy187
                              clear hy187
                              by_cases c32 : t181 = true
                              · subst c32
                                have H1 : (laws_FnIgnoreLast.l0 k3 l1 l2 a3 y187 (!(false)) l0 (l0.length : Int) (wrap64 (x44_3 + 1))) = some r := by rw [if_pos rfl] at H; exact H
                                clear H
                                have H := H1
                                clear H1
                                have H' := Aside0.mk H
                                clear H
                                have p180 : 0 ≤ (x44_3 : Int) := of_decide_eq_true (by first | (with_reducible assumption) | assumption)
                                have q180 : x44_3 < (l0.length : Int) := of_decide_eq_true (by first | (with_reducible assumption) | assumption)
                                obtain ⟨ad180, e180, hx180_0⟩ := Kd.at_string HR0.out x44_3 p180 q180
                                cases e180
                                replace hx180_0 := (HB.out.cell (World.block_lt_of_cell? w _ hx180_0)).trans hx180_0
                                replace p180 := eq_true p180
                                replace q180 := eq_true q180
                                go_wp2_with (first | ((with_reducible refine gate_callee (f := 11) rfl ?_); refine goesL_ (some 52) rfl rfl Try.func11 (by kernel_rfl) rfl #[.string (rdOf ByteArray.empty l0 x44_3), .bool false, .slice A2 l2.length c2, .bool a3] rfl (by (try simp only [List.map_toArray, List.map_cons, List.map_nil]); first | done | rfl | (simp only [List.length_drop, List.length_take]; rfl)) ?_; (with_reducible refine (spec_NameIgnored.calls k3 (rdOf ByteArray.empty l0 x44_3) false _ _ l2 a3 true _ ?side1 ?side2 A20.out).mono ?_); (case side1 => repeat (first | exact (Kd.C_below HR2.out HB.out) | (with_reducible refine Kd.C_alloc ?_ _) | (with_reducible refine Kd.C_drewN ?_ _) | (with_reducible refine Kd.C_drew ?_))); (case side2 => exact HC2.out); rintro e w33 ⟨rfl, hb⟩; refine ⟨_, rfl, ?_⟩; have n0_ := Aside0.mk (Kd.R_below (by (with_reducible repeat (first | apply Kd.R_alloc | apply Kd.R_drewN | apply Kd.R_drew)); exact HO_9.out) hb); have n1_ := Aside0.mk (below_step (by repeat (first | (with_reducible first | exact HB.out | apply below_alloc | apply pw_below_drewN | apply below_drew1) | exact HB.out)) hb); clear HO_9; clear HB; have HO_9 := n0_; have HB := n1_; clear n0_ n1_; (try clear hb); (try clear hb2); (try clear hk); (try clear hi); have p182 : 0 ≤ (x44_3 : Int) := of_decide_eq_true (by first | (with_reducible assumption) | assumption); have q182 : x44_3 < (l1.length : Int) := of_decide_eq_true (by first | (with_reducible assumption) | assumption); obtain ⟨ad182, e182, hx182_0⟩ := Kd.at_bool HR1.out x44_3 p182 q182; (try rw [← Nbq22.out] at hx182_0); cases e182; replace hx182_0 := (HB.out.cell (World.block_lt_of_cell? w _ hx182_0)).trans hx182_0; replace p182 := eq_true p182; replace q182 := eq_true q182) | ((with_reducible refine gate_builtin (b := .append) (xs := #[.tmp 59, .tmp 61]) rfl ?_); (try (refine gate_guard (by rfl) ?_; dsimp only)); at_builtin; refine Kd.R_append Kd.string (w0 := w) w.heap.size rfl (.tmp 59) (.tmp 61) 22 9 (.string ⟨#[]⟩) 16 rfl Try.underlying22 info9 rfl (by decide) (by omega) u9 x9_3 (rdOf ByteArray.empty l0 x44_3) [.string (rdOf ByteArray.empty l0 x44_3)] (fun _ => True) (fun _ => False) rfl rfl ?aP (fun _ hk => hk.elim) ?aF ?aO ?aB ?aS ?aL ?_; (case aP => exact rfl); (case aB => exact (by repeat (first | (with_reducible first | exact HB.out | apply below_alloc | apply pw_below_drewN | apply below_drew1) | exact HB.out))); (case aF => exact (fun _ _ => trivial)); (case aO => exact (by (with_reducible repeat (first | apply Kd.R_alloc | apply Kd.R_drewN | apply Kd.R_drew)); exact HO_9.out)); (case aS => exact (below_size (by repeat (first | (with_reducible first | exact HB.out | apply below_alloc | apply pw_below_drewN | apply below_drew1) | exact HB.out)))); (case aL => have := LMc31.out; omega); intro v188 w34 ho hb hg hat; rw [← Ny187.out] at ho; have n0_ := Aside0.mk (hb); have n1_ := Aside0.mk (ho); clear HB; clear HO_9; have HB := n0_; have HO189 := n1_; clear n0_ n1_; clear ho hb hg hat; have p190 : 0 ≤ (x44_3 : Int) := of_decide_eq_true (by first | (with_reducible assumption) | assumption); have q190 : x44_3 < (l1.length : Int) := of_decide_eq_true (by first | (with_reducible assumption) | assumption); obtain ⟨ad190, e190, hx190_0⟩ := Kd.at_bool HR1.out x44_3 p190 q190; (try rw [← Nbq22.out] at hx190_0); obtain rfl : ad182 = ad190 := (by injection e190); replace hx190_0 := (HB.out.cell (World.block_lt_of_cell? w _ hx190_0)).trans hx190_0; replace p190 := eq_true p190; replace q190 := eq_true q190))
                                go_roundg k3
                                case measure => have := HJ4.out; have := HJ10.out; have := HK3.out; omega
                                case rel => exact ⟨(y187), (!(false)), (wrap64 (x44_3 + 1)), (by first | rfl | (simp; done) | (simp [*]; done)), (by first | rfl | (simp; done) | (simp [*]; done)), H', ⟨by have := HJ4.out; have := HJ10.out; have := HK3.out; omega⟩, ⟨by (with_reducible repeat (first | apply Kd.R_alloc | apply Kd.R_drewN | apply Kd.R_drew)); exact HO189.out⟩, ⟨by repeat (first | (with_reducible first | exact HB.out | apply below_alloc | apply pw_below_drewN | apply below_drew1) | exact HB.out)⟩⟩
                              · replace c32 := Bool.eq_false_iff.mpr c32
                                subst c32
                                have H1 : (laws_FnIgnoreLast.l0 k3 l1 l2 a3 y187 x10_3 l0 (l0.length : Int) (wrap64 (x44_3 + 1))) = some r := by rw [if_neg (show ¬ (false = true) by decide)] at H; exact H
                                clear H
                                have H := H1
                                clear H1
                                have H' := Aside0.mk H
                                clear H
                                have p180 : 0 ≤ (x44_3 : Int) := of_decide_eq_true (by first | (with_reducible assumption) | assumption)
                                have q180 : x44_3 < (l0.length : Int) := of_decide_eq_true (by first | (with_reducible assumption) | assumption)
                                obtain ⟨ad180, e180, hx180_0⟩ := Kd.at_string HR0.out x44_3 p180 q180
                                cases e180
                                replace hx180_0 := (HB.out.cell (World.block_lt_of_cell? w _ hx180_0)).trans hx180_0
                                replace p180 := eq_true p180
                                replace q180 := eq_true q180
                                go_wp2_with (first | ((with_reducible refine gate_callee (f := 11) rfl ?_); refine goesL_ (some 52) rfl rfl Try.func11 (by kernel_rfl) rfl #[.string (rdOf ByteArray.empty l0 x44_3), .bool false, .slice A2 l2.length c2, .bool a3] rfl (by (try simp only [List.map_toArray, List.map_cons, List.map_nil]); first | done | rfl | (simp only [List.length_drop, List.length_take]; rfl)) ?_; (with_reducible refine (spec_NameIgnored.calls k3 (rdOf ByteArray.empty l0 x44_3) false _ _ l2 a3 false _ ?side1 ?side2 A20.out).mono ?_); (case side1 => repeat (first | exact (Kd.C_below HR2.out HB.out) | (with_reducible refine Kd.C_alloc ?_ _) | (with_reducible refine Kd.C_drewN ?_ _) | (with_reducible refine Kd.C_drew ?_))); (case side2 => exact HC2.out); rintro e w35 ⟨rfl, hb⟩; refine ⟨_, rfl, ?_⟩; have n0_ := Aside0.mk (Kd.R_below (by (with_reducible repeat (first | apply Kd.R_alloc | apply Kd.R_drewN | apply Kd.R_drew)); exact HO_9.out) hb); have n1_ := Aside0.mk (below_step (by repeat (first | (with_reducible first | exact HB.out | apply below_alloc | apply pw_below_drewN | apply below_drew1) | exact HB.out)) hb); clear HO_9; clear HB; have HO_9 := n0_; have HB := n1_; clear n0_ n1_; (try clear hb); (try clear hb2); (try clear hk); (try clear hi); have p182 : 0 ≤ (x44_3 : Int) := of_decide_eq_true (by first | (with_reducible assumption) | assumption); have q182 : x44_3 < (l1.length : Int) := of_decide_eq_true (by first | (with_reducible assumption) | assumption); obtain ⟨ad182, e182, hx182_0⟩ := Kd.at_bool HR1.out x44_3 p182 q182; (try rw [← Nbq22.out] at hx182_0); cases e182; replace hx182_0 := (HB.out.cell (World.block_lt_of_cell? w _ hx182_0)).trans hx182_0; replace p182 := eq_true p182; replace q182 := eq_true q182) | ((with_reducible refine gate_builtin (b := .append) (xs := #[.tmp 59, .tmp 61]) rfl ?_); (try (refine gate_guard (by rfl) ?_; dsimp only)); at_builtin; refine Kd.R_append Kd.string (w0 := w) w.heap.size rfl (.tmp 59) (.tmp 61) 22 9 (.string ⟨#[]⟩) 16 rfl Try.underlying22 info9 rfl (by decide) (by omega) u9 x9_3 (rdOf ByteArray.empty l0 x44_3) [.string (rdOf ByteArray.empty l0 x44_3)] (fun _ => True) (fun _ => False) rfl rfl ?aP (fun _ hk => hk.elim) ?aF ?aO ?aB ?aS ?aL ?_; (case aP => exact rfl); (case aB => exact (by repeat (first | (with_reducible first | exact HB.out | apply below_alloc | apply pw_below_drewN | apply below_drew1) | exact HB.out))); (case aF => exact (fun _ _ => trivial)); (case aO => exact (by (with_reducible repeat (first | apply Kd.R_alloc | apply Kd.R_drewN | apply Kd.R_drew)); exact HO_9.out)); (case aS => exact (below_size (by repeat (first | (with_reducible first | exact HB.out | apply below_alloc | apply pw_below_drewN | apply below_drew1) | exact HB.out)))); (case aL => have := LMc31.out; omega); intro v188 w36 ho hb hg hat; rw [← Ny187.out] at ho; have n0_ := Aside0.mk (hb); have n1_ := Aside0.mk (ho); clear HB; clear HO_9; have HB := n0_; have HO189 := n1_; clear n0_ n1_; clear ho hb hg hat))
                                go_roundg k3
                                case measure => have := HJ4.out; have := HJ10.out; have := HK3.out; omega
                                case rel => exact ⟨(y187), (x10_3), (wrap64 (x44_3 + 1)), (by first | rfl | (simp; done) | (simp [*]; done)), (by first | rfl | (simp; done) | (simp [*]; done)), H', ⟨by have := HJ4.out; have := HJ10.out; have := HK3.out; omega⟩, ⟨by (with_reducible repeat (first | apply Kd.R_alloc | apply Kd.R_drewN | apply Kd.R_drew)); exact HO189.out⟩, ⟨by repeat (first | (with_reducible first | exact HB.out | apply below_alloc | apply pw_below_drewN | apply below_drew1) | exact HB.out)⟩⟩
                            · rw [if_neg c31] at H
                              exact absurd H (by simp)
                        · rw [if_neg c21] at H
                          exact absurd H (by simp)
                      · rw [if_neg c19] at H
                        exact absurd H (by simp)
                    · rw [if_neg c18] at H
                      exact absurd H (by simp)
                  · rw [if_neg c17] at H
                    have c17b0 : decide (x44_3 < (l0.length : Int)) = false := decide_eq_false c17
                    clear c17
                    by_cases c37 : 0 ≤ (x9_3.length : Int)
                    · rw [if_pos c37] at H
                      have c37b0 := eq_true c37
                      have c37b1 : decide (0 ≤ (x9_3.length : Int)) = true := decide_eq_true c37
                      clear c37
                      by_cases c38 : ((x9_3.length : Int) : Int).toNat ≤ 11728124029610
                      · rw [if_pos c38] at H
                        have c38b0 := eq_true c38
                        have c38b1 : decide (((x9_3.length : Int) : Int).toNat ≤ 11728124029610) = true := decide_eq_true c38
                        clear c38
                        obtain ⟨y166, hy166⟩ : ∃ y_ : List (List ByteArray), y_ = (List.replicate ((x9_3.length : Int) : Int).toNat []) := ⟨_, rfl⟩
                        replace H : ((impl_IgnoredW.f x9_3 y166 l2 a3).bind fun t169 => (if (t169 == x10_3) = true then ((impl_IgnoredW.f (([(⟨#[97]⟩ : ByteArray)] : List ByteArray)) (([[]] : List (List ByteArray))) (([(⟨#[97]⟩ : ByteArray)] : List ByteArray)) false).bind fun t179 => (some t179)) else (some false))) = some r := by first | (rw [hy166]; with_reducible exact H) | (have H2_ := (Option.bind_some _ _).symm.trans H; rw [hy166]; with_reducible exact H2_) | (have H2_ := (Option.bind_some _ _).symm.trans H; with_reducible exact H2_) | with_reducible exact H | (rw [hy166]; exact H) | exact H
                        have Ny166 := Aside0.mk hy166
                        clear hy166
                        replace H := Option.bind_eq_some_iff.mp H
                        obtain ⟨t169, A390, H⟩ := H
                        replace H : (if (t169 == x10_3) = true then ((impl_IgnoredW.f (([(⟨#[97]⟩ : ByteArray)] : List ByteArray)) (([[]] : List (List ByteArray))) (([(⟨#[97]⟩ : ByteArray)] : List ByteArray)) false).bind fun t179 => (some t179)) else (some false)) = some r := H
                        have A39 := Aside0.mk A390
                        clear A390
                        by_cases c40 : (t169 == x10_3) = true
                        · rw [if_pos c40] at H
                          have c40b0 : (t169 == x10_3) = true := c40
                          (try (have c40b1 : decide (t169 = x10_3) = true := by simpa using c40))
                          (try (have c40b2 : (t169 == x10_3) = true := by simpa using c40))
                          clear c40
                          obtain ⟨y170, hy170⟩ : ∃ y_ : List ByteArray, y_ = (([(⟨#[97]⟩ : ByteArray)] : List ByteArray)) := ⟨_, rfl⟩
                          replace H : ((impl_IgnoredW.f y170 (([[]] : List (List ByteArray))) (([(⟨#[97]⟩ : ByteArray)] : List ByteArray)) false).bind fun t179 => (some t179)) = some r := by first | (rw [hy170]; with_reducible exact H) | (have H2_ := (Option.bind_some _ _).symm.trans H; rw [hy170]; with_reducible exact H2_) | (have H2_ := (Option.bind_some _ _).symm.trans H; with_reducible exact H2_) | with_reducible exact H | (rw [hy170]; exact H) | exact H
                          have Ny170 := Aside0.mk hy170
                          clear hy170
                          obtain ⟨y173, hy173⟩ : ∃ y_ : List (List ByteArray), y_ = (([[]] : List (List ByteArray))) := ⟨_, rfl⟩
                          replace H : ((impl_IgnoredW.f y170 y173 (([(⟨#[97]⟩ : ByteArray)] : List ByteArray)) false).bind fun t179 => (some t179)) = some r := by first | (rw [hy173]; with_reducible exact H) | (have H2_ := (Option.bind_some _ _).symm.trans H; rw [hy173]; with_reducible exact H2_) | (have H2_ := (Option.bind_some _ _).symm.trans H; with_reducible exact H2_) | with_reducible exact H | (rw [hy173]; exact H) | exact H
                          have Ny173 := Aside0.mk hy173
                          clear hy173
                          obtain ⟨y176, hy176⟩ : ∃ y_ : List ByteArray, y_ = (([(⟨#[97]⟩ : ByteArray)] : List ByteArray)) := ⟨_, rfl⟩
                          replace H : ((impl_IgnoredW.f y170 y173 y176 false).bind fun t179 => (some t179)) = some r := by first | (rw [hy176]; with_reducible exact H) | (have H2_ := (Option.bind_some _ _).symm.trans H; rw [hy176]; with_reducible exact H2_) | (have H2_ := (Option.bind_some _ _).symm.trans H; with_reducible exact H2_) | with_reducible exact H | (rw [hy176]; exact H) | exact H
                          have Ny176 := Aside0.mk hy176
                          clear hy176
                          replace H := Option.bind_eq_some_iff.mp H
                          obtain ⟨t179, A410, H⟩ := H
                          replace H : (some t179) = some r := H
                          have A41 := Aside0.mk A410
                          clear A410
                          obtain rfl := Option.some.inj H
                          obtain ⟨Ao42, co42, eo42⟩ := Kd.R_slice HO_9.out
                          subst eo42
                          go_wp2_with (first | ((with_reducible refine gate_dst (N := 73) rfl ?_); (try (refine gate_guard (by rfl) ?_; dsimp only)); refine Kd.S_make (Kd.slice 9 Kd.string) _ 22 rfl (N := 73) rfl 34 _ _ rfl (x9_3.length : Int) rfl rfl Try.underlying34 (.slice none 0 0) 24 info22 rfl (by decide) (by omega) [] (ok := fun _ => True) (okp := fun _ => True) ⟨_, rfl, Kd.R_nil _ _ _ _ _⟩ (fun _ hk => hk) trivial (of_decide_eq_true (by first | (with_reducible assumption) | assumption)) (Nat.le_trans (Nat.mul_le_mul_right _ (of_decide_eq_true (by first | (with_reducible assumption) | assumption) : (x9_3.length : Int).toNat ≤ 11728124029610)) (by omega)) (Below.refl _ _) (Nat.le_refl _) ?_; intro v167 w43 ho44 hb hg_ hnew_; clear hg_ hnew_; (first | rw [← Ny166.out] at ho44 | (simp only [Int.reduceToNat] at ho44; rw [← Ny166.out] at ho44)); have n0_ := Aside0.mk (Kd.R_below (by (with_reducible repeat (first | apply Kd.R_alloc | apply Kd.R_drewN | apply Kd.R_drew)); exact HO_9.out) hb); have n1_ := Aside0.mk (Kd.S_lower (Kd.S_new' ho44 (Kd.R_lt (by (with_reducible repeat (first | apply Kd.R_alloc | apply Kd.R_drewN | apply Kd.R_drew)); exact HO_9.out))) (below_size (by repeat (first | (with_reducible first | exact HB.out | apply below_alloc | apply pw_below_drewN | apply below_drew1) | exact HB.out)))); have n2_ := Aside0.mk (below_step (by repeat (first | (with_reducible first | exact HB.out | apply below_alloc | apply pw_below_drewN | apply below_drew1) | exact HB.out)) hb); clear HO_9; clear HB; have HO_9 := n0_; have HO168 := n1_; have HB := n2_; clear n0_ n1_ n2_; clear hb ho44; obtain ⟨Ao45, co45, eo45⟩ := Kd.S_slice HO168.out; subst eo45) | ((with_reducible refine gate_callee (f := 16) rfl ?_); refine goesL_ (some 76) rfl rfl Try.func16 (by kernel_rfl) rfl #[.slice Ao42 x9_3.length co42, .slice Ao45 y166.length co45, .slice A2 l2.length c2, .bool a3] rfl (by (try simp only [List.map_toArray, List.map_cons, List.map_nil]); first | done | rfl | (simp only [List.length_drop, List.length_take]; rfl)) ?_; (with_reducible refine (impl_IgnoredW.calls _ _ x9_3 _ _ y166 _ _ l2 a3 t169 _ ?side1 ?side2 ?side3 ?side4 ?side5 ?side6 A39.out).mono ?_); (case side1 => repeat (first | exact (Kd.R_reads' HO_9.out).2.2 | (with_reducible refine Kd.C_alloc ?_ _) | (with_reducible refine Kd.C_drewN ?_ _) | (with_reducible refine Kd.C_drew ?_))); (case side2 => exact (Kd.R_reads' HO_9.out).2.1); (case side3 => repeat (first | exact (Kd.S_reads' HO168.out).2.2 | (with_reducible refine Kd.C_alloc ?_ _) | (with_reducible refine Kd.C_drewN ?_ _) | (with_reducible refine Kd.C_drew ?_))); (case side4 => exact (Kd.S_reads' HO168.out).2.1); (case side5 => repeat (first | exact (Kd.C_below HR2.out HB.out) | (with_reducible refine Kd.C_alloc ?_ _) | (with_reducible refine Kd.C_drewN ?_ _) | (with_reducible refine Kd.C_drew ?_))); (case side6 => exact HC2.out); rintro e w46 ⟨rfl, hb⟩; refine ⟨_, rfl, ?_⟩; have n0_ := Aside0.mk (Kd.R_below (by (with_reducible repeat (first | apply Kd.R_alloc | apply Kd.R_drewN | apply Kd.R_drew)); exact HO_9.out) hb); have n1_ := Aside0.mk (Kd.S_below (by (with_reducible repeat (first | apply Kd.S_alloc | apply Kd.S_drewN | apply Kd.S_drew)); exact HO168.out) hb); have n2_ := Aside0.mk (below_step (by repeat (first | (with_reducible first | exact HB.out | apply below_alloc | apply pw_below_drewN | apply below_drew1) | exact HB.out)) hb); clear HO_9; clear HO168; clear HB; have HO_9 := n0_; have HO168 := n1_; have HB := n2_; clear n0_ n1_ n2_; (try clear hb); (try clear hb2); (try clear hk); (try clear hi)) | ((with_reducible refine gate_dst (N := 80) rfl ?_); (try (refine gate_guard (by rfl) ?_; dsimp only)); refine Kd.R_lit Kd.string _ 9 ?hg (N := 80) ?hd (xs := ([(⟨#[97]⟩ : ByteArray)] : List ByteArray)) (inner := [.string (⟨#[97]⟩ : ByteArray)]) (ok := fun _ => True) (okp := fun _ => True) ?hr ?hp (fun _ hk => hk) trivial (Below.refl _ _) (Nat.le_refl _) (by simp) ?_; (case hd => rfl); (case hg => rfl); (case hr => first | (go_simp; done) | (go_simp; rfl)); (case hp => exact (Reps.one (show Kd.M Kd.string _ _ _ (⟨#[97]⟩ : ByteArray) [.string (⟨#[97]⟩ : ByteArray)] from rfl) (Reps.none _ _))); intro v171 w47 ho48 hb hg_ hnew_; clear hg_ hnew_; (first | rw [← Ny170.out] at ho48 | (simp only [Int.reduceToNat] at ho48; rw [← Ny170.out] at ho48)); have n0_ := Aside0.mk (Kd.R_elder' (by (with_reducible repeat (first | apply Kd.R_alloc | apply Kd.R_drewN | apply Kd.R_drew)); exact HO_9.out) (Kd.R_base ho48) hb); have n1_ := Aside0.mk (Kd.S_elder' (by (with_reducible repeat (first | apply Kd.S_alloc | apply Kd.S_drewN | apply Kd.S_drew)); exact HO168.out) (Kd.R_base ho48) hb); have n2_ := Aside0.mk (Kd.R_lower (Kd.R_new' ho48 (Kd.R_lt (by (with_reducible repeat (first | apply Kd.R_alloc | apply Kd.R_drewN | apply Kd.R_drew)); exact HO_9.out))) (below_size (by repeat (first | (with_reducible first | exact HB.out | apply below_alloc | apply pw_below_drewN | apply below_drew1) | exact HB.out)))); have n3_ := Aside0.mk (below_step (by repeat (first | (with_reducible first | exact HB.out | apply below_alloc | apply pw_below_drewN | apply below_drew1) | exact HB.out)) hb); clear HO_9; clear HO168; clear HB; have HO_9 := n0_; have HO168 := n1_; have HO172 := n2_; have HB := n3_; clear n0_ n1_ n2_ n3_; clear hb ho48) | ((with_reducible refine gate_dst (N := 81) rfl ?_); (try (refine gate_guard (by rfl) ?_; dsimp only)); refine Kd.S_lit (Kd.slice 9 Kd.string) _ 22 ?hg (N := 81) ?hd (xs := ([[]] : List (List ByteArray))) (inner := [.slice none 0 0]) (ok := fun _ => True) (okp := fun _ => True) ?hr ?hp (fun _ hk => hk) trivial (Below.refl _ _) (Nat.le_refl _) (by simp) ?_; (case hd => rfl); (case hg => rfl); (case hr => first | (go_simp; done) | (go_simp; rfl)); (case hp => exact (Reps.one (show Kd.M (Kd.slice 9 Kd.string) _ _ _ [] [.slice none 0 0] from ⟨_, rfl, Kd.R_nil _ _ _ _ _⟩) (Reps.none _ _))); intro v174 w49 ho50 hb hg_ hnew_; clear hg_ hnew_; (first | rw [← Ny173.out] at ho50 | (simp only [Int.reduceToNat] at ho50; rw [← Ny173.out] at ho50)); have n0_ := Aside0.mk (Kd.R_below (by (with_reducible repeat (first | apply Kd.R_alloc | apply Kd.R_drewN | apply Kd.R_drew)); exact HO_9.out) hb); have n1_ := Aside0.mk (Kd.S_elder' (by (with_reducible repeat (first | apply Kd.S_alloc | apply Kd.S_drewN | apply Kd.S_drew)); exact HO168.out) (Kd.S_base ho50) hb); have n2_ := Aside0.mk (Kd.R_below (by (with_reducible repeat (first | apply Kd.R_alloc | apply Kd.R_drewN | apply Kd.R_drew)); exact HO172.out) hb); have n3_ := Aside0.mk (Kd.S_lower (Kd.S_new' (Kd.S_new' (Kd.S_new' ho50 (Kd.R_lt (by (with_reducible repeat (first | apply Kd.R_alloc | apply Kd.R_drewN | apply Kd.R_drew)); exact HO_9.out))) (Kd.S_lt (by (with_reducible repeat (first | apply Kd.S_alloc | apply Kd.S_drewN | apply Kd.S_drew)); exact HO168.out))) (Kd.R_lt (by (with_reducible repeat (first | apply Kd.R_alloc | apply Kd.R_drewN | apply Kd.R_drew)); exact HO172.out))) (below_size (by repeat (first | (with_reducible first | exact HB.out | apply below_alloc | apply pw_below_drewN | apply below_drew1) | exact HB.out)))); have n4_ := Aside0.mk (below_step (by repeat (first | (with_reducible first | exact HB.out | apply below_alloc | apply pw_below_drewN | apply below_drew1) | exact HB.out)) hb); clear HO_9; clear HO168; clear HO172; clear HB; have HO_9 := n0_; have HO168 := n1_; have HO172 := n2_; have HO175 := n3_; have HB := n4_; clear n0_ n1_ n2_ n3_ n4_; clear hb ho50) | ((with_reducible refine gate_dst (N := 82) rfl ?_); (try (refine gate_guard (by rfl) ?_; dsimp only)); refine Kd.R_lit Kd.string _ 9 ?hg (N := 82) ?hd (xs := ([(⟨#[97]⟩ : ByteArray)] : List ByteArray)) (inner := [.string (⟨#[97]⟩ : ByteArray)]) (ok := fun _ => True) (okp := fun _ => True) ?hr ?hp (fun _ hk => hk) trivial (Below.refl _ _) (Nat.le_refl _) (by simp) ?_; (case hd => rfl); (case hg => rfl); (case hr => first | (go_simp; done) | (go_simp; rfl)); (case hp => exact (Reps.one (show Kd.M Kd.string _ _ _ (⟨#[97]⟩ : ByteArray) [.string (⟨#[97]⟩ : ByteArray)] from rfl) (Reps.none _ _))); intro v177 w51 ho52 hb hg_ hnew_; clear hg_ hnew_; (first | rw [← Ny176.out] at ho52 | (simp only [Int.reduceToNat] at ho52; rw [← Ny176.out] at ho52)); have n0_ := Aside0.mk (Kd.R_elder' (by (with_reducible repeat (first | apply Kd.R_alloc | apply Kd.R_drewN | apply Kd.R_drew)); exact HO_9.out) (Kd.R_base ho52) hb); have n1_ := Aside0.mk (Kd.S_elder' (by (with_reducible repeat (first | apply Kd.S_alloc | apply Kd.S_drewN | apply Kd.S_drew)); exact HO168.out) (Kd.R_base ho52) hb); have n2_ := Aside0.mk (Kd.R_elder' (by (with_reducible repeat (first | apply Kd.R_alloc | apply Kd.R_drewN | apply Kd.R_drew)); exact HO172.out) (Kd.R_base ho52) hb); have n3_ := Aside0.mk (Kd.S_elder' (by (with_reducible repeat (first | apply Kd.S_alloc | apply Kd.S_drewN | apply Kd.S_drew)); exact HO175.out) (Kd.R_base ho52) hb); have n4_ := Aside0.mk (Kd.R_lower (Kd.R_new' (Kd.R_new' ho52 (Kd.R_lt (by (with_reducible repeat (first | apply Kd.R_alloc | apply Kd.R_drewN | apply Kd.R_drew)); exact HO_9.out))) (Kd.R_lt (by (with_reducible repeat (first | apply Kd.R_alloc | apply Kd.R_drewN | apply Kd.R_drew)); exact HO172.out))) (below_size (by repeat (first | (with_reducible first | exact HB.out | apply below_alloc | apply pw_below_drewN | apply below_drew1) | exact HB.out)))); have n5_ := Aside0.mk (below_step (by repeat (first | (with_reducible first | exact HB.out | apply below_alloc | apply pw_below_drewN | apply below_drew1) | exact HB.out)) hb); clear HO_9; clear HO168; clear HO172; clear HO175; clear HB; have HO_9 := n0_; have HO168 := n1_; have HO172 := n2_; have HO175 := n3_; have HO178 := n4_; have HB := n5_; clear n0_ n1_ n2_ n3_ n4_ n5_; clear hb ho52; obtain ⟨Ao53, co53, eo53⟩ := Kd.R_slice HO172.out; subst eo53; obtain ⟨Ao54, co54, eo54⟩ := Kd.S_slice HO175.out; subst eo54; obtain ⟨Ao55, co55, eo55⟩ := Kd.R_slice HO178.out; subst eo55) | (go_at_call 16; (with_reducible refine (impl_IgnoredW.calls _ _ y170 _ _ y173 _ _ y176 false t179 _ ?side1 ?side2 ?side3 ?side4 ?side5 ?side6 A41.out).mono ?_); (case side1 => repeat (first | exact (Kd.R_reads' HO172.out).2.2 | (with_reducible refine Kd.C_alloc ?_ _) | (with_reducible refine Kd.C_drewN ?_ _) | (with_reducible refine Kd.C_drew ?_))); (case side2 => exact (Kd.R_reads' HO172.out).2.1); (case side3 => repeat (first | exact (Kd.S_reads' HO175.out).2.2 | (with_reducible refine Kd.C_alloc ?_ _) | (with_reducible refine Kd.C_drewN ?_ _) | (with_reducible refine Kd.C_drew ?_))); (case side4 => exact (Kd.S_reads' HO175.out).2.1); (case side5 => repeat (first | exact (Kd.R_reads' HO178.out).2.2 | (with_reducible refine Kd.C_alloc ?_ _) | (with_reducible refine Kd.C_drewN ?_ _) | (with_reducible refine Kd.C_drew ?_))); (case side6 => exact (Kd.R_reads' HO178.out).2.1); rintro e w56 ⟨rfl, hb⟩; have n0_ := Aside0.mk (Kd.R_below (by (with_reducible repeat (first | apply Kd.R_alloc | apply Kd.R_drewN | apply Kd.R_drew)); exact HO_9.out) hb); have n1_ := Aside0.mk (Kd.S_below (by (with_reducible repeat (first | apply Kd.S_alloc | apply Kd.S_drewN | apply Kd.S_drew)); exact HO168.out) hb); have n2_ := Aside0.mk (Kd.R_below (by (with_reducible repeat (first | apply Kd.R_alloc | apply Kd.R_drewN | apply Kd.R_drew)); exact HO172.out) hb); have n3_ := Aside0.mk (Kd.S_below (by (with_reducible repeat (first | apply Kd.S_alloc | apply Kd.S_drewN | apply Kd.S_drew)); exact HO175.out) hb); have n4_ := Aside0.mk (Kd.R_below (by (with_reducible repeat (first | apply Kd.R_alloc | apply Kd.R_drewN | apply Kd.R_drew)); exact HO178.out) hb); have n5_ := Aside0.mk (below_step (by repeat (first | (with_reducible first | exact HB.out | apply below_alloc | apply pw_below_drewN | apply below_drew1) | exact HB.out)) hb); clear HO_9; clear HO168; clear HO172; clear HO175; clear HO178; clear HB; have HO_9 := n0_; have HO168 := n1_; have HO172 := n2_; have HO175 := n3_; have HO178 := n4_; have HB := n5_; clear n0_ n1_ n2_ n3_ n4_ n5_; (try clear hb); (try clear hb2); (try clear hk); (try clear hi)))
                          go_ret
                          exact ⟨by first | rfl | (simp [errW_none, errW_some] <;> rfl) | (simp [*, errW_none, errW_some] <;> rfl), by repeat (first | (with_reducible first | exact HB.out | apply below_alloc | apply pw_below_drewN | apply below_drew1) | exact HB.out)⟩
                        · rw [if_neg c40] at H
                          have c40b0 : (t169 == x10_3) = false := by simpa using c40
                          (try (have c40b1 : decide (t169 = x10_3) = false := by simpa using c40))
                          (try (have c40b2 : (t169 == x10_3) = false := by simpa using c40))
                          (try (have c40b3 : ¬ (t169 = x10_3) := by simpa using c40))
                          clear c40
                          obtain rfl := Option.some.inj H
                          obtain ⟨Ao57, co57, eo57⟩ := Kd.R_slice HO_9.out
                          subst eo57
                          go_wp2_with (first | ((with_reducible refine gate_dst (N := 73) rfl ?_); (try (refine gate_guard (by rfl) ?_; dsimp only)); refine Kd.S_make (Kd.slice 9 Kd.string) _ 22 rfl (N := 73) rfl 34 _ _ rfl (x9_3.length : Int) rfl rfl Try.underlying34 (.slice none 0 0) 24 info22 rfl (by decide) (by omega) [] (ok := fun _ => True) (okp := fun _ => True) ⟨_, rfl, Kd.R_nil _ _ _ _ _⟩ (fun _ hk => hk) trivial (of_decide_eq_true (by first | (with_reducible assumption) | assumption)) (Nat.le_trans (Nat.mul_le_mul_right _ (of_decide_eq_true (by first | (with_reducible assumption) | assumption) : (x9_3.length : Int).toNat ≤ 11728124029610)) (by omega)) (Below.refl _ _) (Nat.le_refl _) ?_; intro v167 w58 ho59 hb hg_ hnew_; clear hg_ hnew_; (first | rw [← Ny166.out] at ho59 | (simp only [Int.reduceToNat] at ho59; rw [← Ny166.out] at ho59)); have n0_ := Aside0.mk (Kd.R_below (by (with_reducible repeat (first | apply Kd.R_alloc | apply Kd.R_drewN | apply Kd.R_drew)); exact HO_9.out) hb); have n1_ := Aside0.mk (Kd.S_lower (Kd.S_new' ho59 (Kd.R_lt (by (with_reducible repeat (first | apply Kd.R_alloc | apply Kd.R_drewN | apply Kd.R_drew)); exact HO_9.out))) (below_size (by repeat (first | (with_reducible first | exact HB.out | apply below_alloc | apply pw_below_drewN | apply below_drew1) | exact HB.out)))); have n2_ := Aside0.mk (below_step (by repeat (first | (with_reducible first | exact HB.out | apply below_alloc | apply pw_below_drewN | apply below_drew1) | exact HB.out)) hb); clear HO_9; clear HB; have HO_9 := n0_; have HO168 := n1_; have HB := n2_; clear n0_ n1_ n2_; clear hb ho59; obtain ⟨Ao60, co60, eo60⟩ := Kd.S_slice HO168.out; subst eo60) | ((with_reducible refine gate_callee (f := 16) rfl ?_); refine goesL_ (some 76) rfl rfl Try.func16 (by kernel_rfl) rfl #[.slice Ao57 x9_3.length co57, .slice Ao60 y166.length co60, .slice A2 l2.length c2, .bool a3] rfl (by (try simp only [List.map_toArray, List.map_cons, List.map_nil]); first | done | rfl | (simp only [List.length_drop, List.length_take]; rfl)) ?_; (with_reducible refine (impl_IgnoredW.calls _ _ x9_3 _ _ y166 _ _ l2 a3 t169 _ ?side1 ?side2 ?side3 ?side4 ?side5 ?side6 A39.out).mono ?_); (case side1 => repeat (first | exact (Kd.R_reads' HO_9.out).2.2 | (with_reducible refine Kd.C_alloc ?_ _) | (with_reducible refine Kd.C_drewN ?_ _) | (with_reducible refine Kd.C_drew ?_))); (case side2 => exact (Kd.R_reads' HO_9.out).2.1); (case side3 => repeat (first | exact (Kd.S_reads' HO168.out).2.2 | (with_reducible refine Kd.C_alloc ?_ _) | (with_reducible refine Kd.C_drewN ?_ _) | (with_reducible refine Kd.C_drew ?_))); (case side4 => exact (Kd.S_reads' HO168.out).2.1); (case side5 => repeat (first | exact (Kd.C_below HR2.out HB.out) | (with_reducible refine Kd.C_alloc ?_ _) | (with_reducible refine Kd.C_drewN ?_ _) | (with_reducible refine Kd.C_drew ?_))); (case side6 => exact HC2.out); rintro e w61 ⟨rfl, hb⟩; refine ⟨_, rfl, ?_⟩; have n0_ := Aside0.mk (Kd.R_below (by (with_reducible repeat (first | apply Kd.R_alloc | apply Kd.R_drewN | apply Kd.R_drew)); exact HO_9.out) hb); have n1_ := Aside0.mk (Kd.S_below (by (with_reducible repeat (first | apply Kd.S_alloc | apply Kd.S_drewN | apply Kd.S_drew)); exact HO168.out) hb); have n2_ := Aside0.mk (below_step (by repeat (first | (with_reducible first | exact HB.out | apply below_alloc | apply pw_below_drewN | apply below_drew1) | exact HB.out)) hb); clear HO_9; clear HO168; clear HB; have HO_9 := n0_; have HO168 := n1_; have HB := n2_; clear n0_ n1_ n2_; (try clear hb); (try clear hb2); (try clear hk); (try clear hi)))
                          go_ret
                          exact ⟨by first | rfl | (simp [errW_none, errW_some] <;> rfl) | (simp [*, errW_none, errW_some] <;> rfl), by repeat (first | (with_reducible first | exact HB.out | apply below_alloc | apply pw_below_drewN | apply below_drew1) | exact HB.out)⟩
                      · rw [if_neg c38] at H
                        exact absurd H (by simp)
                    · rw [if_neg c37] at H
                      exact absurd H (by simp)

end
end Go.Proofs.Ytlnfkpmmnennbaa.QAll
