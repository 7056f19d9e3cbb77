-- WRITTEN BY A PROGRAM OF THIS SESSION, out of the loaded program, with words of the kit
import Derived.Test.YtlnfkpmmnennbaaQAllx0
import Derived.Test.YtlnfkpmmnennbaaQAllx6
namespace Go.Proofs.Ytlnfkpmmnennbaa.QAll
open Go.RowKit Go.Proofs.YtlnfkpmmnennbaaW.PrintWords Go.Proofs.YtlnfkpmmnennbaaW.PrintLast Go.Proofs.YtlnfkpmmnennbaaW.PrintMore
attribute [local go_sem] max2_int min2_int max_two min_two max_three min_three max_four min_four   -- for this text's walks alone
set_option linter.unusedVariables false
set_option linter.unusedSimpArgs false

/-! ### spec_NameIgnored: function 11 -/
def spec_NameIgnored.l0 : Nat → ByteArray → Bool → List ByteArray → Bool → List ByteArray → Int → Int → Option (Bool)
  | 0, _, _, _, _, _, _, _ => none
  | k + 1, x0, x1, x2, x3, x11, x12, x13 => if x13 < x12 then (if 0 ≤ x13 then (if x13 < (x11.length : Int) then ((spec_Globs.f k x0 (rdOf ByteArray.empty x11 x13)).bind fun t130 => (if t130 = true then (if x1 = true then (if x13 < (wrap64 ((x2.length : Int) - 1)) then (some true) else (if x3 = true then (some true) else (spec_NameIgnored.l0 k x0 x1 x2 x3 x11 x12 (wrap64 (x13 + 1))))) else (some true)) else (spec_NameIgnored.l0 k x0 x1 x2 x3 x11 x12 (wrap64 (x13 + 1))))) else (none)) else (none)) else (some false)
def spec_NameIgnored.f (k : Nat) (a0 : ByteArray) (a1 : Bool) (l2 : List ByteArray) (a3 : Bool) : Option (Bool) := spec_NameIgnored.l0 k a0 a1 l2 a3 l2 (l2.length : Int) 0
theorem spec_NameIgnored.mono_l : ∀ k, (∀ y0 y1 y2 y3 y4 y5 y6, LeO (spec_NameIgnored.l0 k y0 y1 y2 y3 y4 y5 y6) (spec_NameIgnored.l0 (k + 1) y0 y1 y2 y3 y4 y5 y6))
  | 0 => fun _ _ _ _ _ _ _ r h => by simp [spec_NameIgnored.l0] at h
  | k + 1 => by
    have ih0 := spec_NameIgnored.mono_l k
    · intro y0 y1 y2 y3 y4 y5 y6
      unfold spec_NameIgnored.l0
      repeat' first
      | (with_reducible exact ih0 _ _ _ _ _ _ _)
      | (with_reducible exact spec_Globs.mono _ _ _)
      | (with_reducible exact LeO.refl _)
      | (with_reducible exact LeO.none _)
      | (with_reducible refine LeO.ite ?_ ?_)
      | (with_reducible refine LeO.bind ?_ (fun _ => ?_))
      | exact ih0 _ _ _ _ _ _ _
      | exact spec_Globs.mono _ _ _
      | exact LeO.none _
      | refine LeO.ite ?_ ?_
      | refine LeO.bind ?_ (fun _ => ?_)
theorem spec_NameIgnored.mono : ∀ a0 a1 a2 a3 k, LeO (spec_NameIgnored.f k a0 a1 a2 a3) (spec_NameIgnored.f (k + 1) a0 a1 a2 a3) := by
  intro a0 a1 a2 a3 k
  have ih0 := spec_NameIgnored.mono_l k
  unfold spec_NameIgnored.f
  repeat' first
      | (with_reducible exact ih0 _ _ _ _ _ _ _)
      | (with_reducible exact spec_Globs.mono _ _ _)
      | (with_reducible exact LeO.refl _)
      | (with_reducible exact LeO.none _)
      | (with_reducible refine LeO.ite ?_ ?_)
      | (with_reducible refine LeO.bind ?_ (fun _ => ?_))
      | exact ih0 _ _ _ _ _ _ _
      | exact spec_Globs.mono _ _ _
      | exact LeO.none _
      | refine LeO.ite ?_ ?_
      | refine LeO.bind ?_ (fun _ => ?_)
set_option maxHeartbeats 8000000 in
set_option maxRecDepth 100000 in
theorem spec_NameIgnored.calls (k : Nat) (a0 : ByteArray) (a1 : Bool) (A2 : Option Addr) (c2 : Nat) (l2 : List ByteArray) (a3 : Bool) (r : Bool) (w : World) (hr2 : Kd.C Kd.string w A2 l2.length l2) (hc2 : l2.length ≤ c2) (h : spec_NameIgnored.f k a0 a1 l2 a3 = some r) :
    Calls Try.prog 11 #[.string a0, .bool a1, .slice A2 l2.length c2, .bool a3] w fun e w' => e = .returned (.bool r) ∧ Below w.heap.size w w' := by
  have HR2 := Aside0.mk hr2
  have HC2 := Aside0.mk hc2
  clear hr2 hc2
  have HB := Aside0.mk (Below.refl w.heap.size w)
  have H : (spec_NameIgnored.l0 k a0 a1 l2 a3 l2 (l2.length : Int) 0) = some r := h
  clear h
  have H' := Aside0.mk H
  clear H
  go_enter Try.func11, Try.ntmps11
  go_wp2
  go_loopg [13] k (fun kq v13 w' => ∃ (x13_1 : Int), v13 = .int .i64 x13_1 ∧ Aside0 (spec_NameIgnored.l0 kq a0 a1 l2 a3 l2 (l2.length : Int) x13_1 = some r) ∧ Aside0 (kq ≤ k) ∧ Aside0 (Below w.heap.size w w'))
  case atStart => exact ⟨(0), (by first | rfl | (simp; done) | (simp [*]; done)), H', ⟨Nat.le_refl _⟩, ⟨by repeat (first | (with_reducible first | exact HB.out | apply below_alloc | apply pw_below_drewN | apply below_drew1) | exact HB.out)⟩⟩
  case round =>
    clear H'
    try clear c1
    try clear c2
    try clear p2
    obtain ⟨x13_1, rfl, HA, HK1, HB⟩ := hrel
    cases gk with
    | zero => exact absurd HA.out (by simp [spec_NameIgnored.l0])
    | succ k1 =>
      have H := HA.out
      clear HA
      simp only [spec_NameIgnored.l0] at H
      by_cases c5 : x13_1 < (l2.length : Int)
      · rw [if_pos c5] at H
        have c5b0 : decide (x13_1 < (l2.length : Int)) = true := decide_eq_true c5
        clear c5
        by_cases c6 : 0 ≤ x13_1
        · rw [if_pos c6] at H
          have c6b0 : decide (0 ≤ x13_1) = true := decide_eq_true c6
          clear c6
          by_cases c7 : x13_1 < (l2.length : Int)
          · rw [if_pos c7] at H
            have c7b0 : decide (x13_1 < (l2.length : Int)) = true := decide_eq_true c7
            clear c7
            replace H := Option.bind_eq_some_iff.mp H
            obtain ⟨t130, A80, H⟩ := H
            replace H : (if t130 = true then (if a1 = true then (if x13_1 < (wrap64 ((l2.length : Int) - 1)) then (some true) else (if a3 = true then (some true) else (spec_NameIgnored.l0 k1 a0 a1 l2 a3 l2 (l2.length : Int) (wrap64 (x13_1 + 1))))) else (some true)) else (spec_NameIgnored.l0 k1 a0 a1 l2 a3 l2 (l2.length : Int) (wrap64 (x13_1 + 1)))) = some r := H
            have A8 := Aside0.mk A80
            clear A80
            by_cases c9 : t130 = true
            · subst c9
              have H1 : (if a1 = true then (if x13_1 < (wrap64 ((l2.length : Int) - 1)) then (some true) else (if a3 = true then (some true) else (spec_NameIgnored.l0 k1 a0 a1 l2 a3 l2 (l2.length : Int) (wrap64 (x13_1 + 1))))) else (some true)) = some r := by rw [if_pos rfl] at H; exact H
              clear H
              have H := H1
              clear H1
              by_cases c10 : a1 = true
              · subst c10
                have H1 : (if x13_1 < (wrap64 ((l2.length : Int) - 1)) then (some true) else (if a3 = true then (some true) else (spec_NameIgnored.l0 k1 a0 true l2 a3 l2 (l2.length : Int) (wrap64 (x13_1 + 1))))) = some r := by rw [if_pos rfl] at H; exact H
                clear H
                have H := H1
                clear H1
                by_cases c11 : x13_1 < (wrap64 ((l2.length : Int) - 1))
                · rw [if_pos c11] at H
                  have c11b0 : decide (x13_1 < (wrap64 ((l2.length : Int) - 1))) = true := decide_eq_true c11
                  clear c11
                  obtain rfl := Option.some.inj H
                  have p129 : 0 ≤ (x13_1 : Int) := of_decide_eq_true (by first | (with_reducible assumption) | assumption)
                  have q129 : x13_1 < (l2.length : Int) := of_decide_eq_true (by first | (with_reducible assumption) | assumption)
                  obtain ⟨ad129, e129, hx129_0⟩ := Kd.at_string HR2.out x13_1 p129 q129
                  cases e129
                  replace hx129_0 := (HB.out.cell (World.block_lt_of_cell? w _ hx129_0)).trans hx129_0
                  replace p129 := eq_true p129
                  replace q129 := eq_true q129
                  go_wp2_with (first | ((with_reducible refine gate_callee (f := 18) rfl ?_); refine goesL_ (some 20) rfl rfl Try.func18 (by kernel_rfl) rfl #[.string a0, .string (rdOf ByteArray.empty l2 x13_1)] rfl (by (try simp only [List.map_toArray, List.map_cons, List.map_nil]); first | done | rfl | (simp only [List.length_drop, List.length_take]; rfl)) ?_; (with_reducible refine (spec_Globs.calls k1 a0 (rdOf ByteArray.empty l2 x13_1) true _ A8.out).mono ?_); rintro e w12 ⟨rfl, hb⟩; refine ⟨_, rfl, ?_⟩; have n0_ := Aside0.mk (below_step (by repeat (first | (with_reducible first | exact HB.out | apply below_alloc | apply pw_below_drewN | apply below_drew1) | exact HB.out)) hb); clear HB; have HB := n0_; clear n0_; (try clear hb); (try clear hb2); (try clear hk); (try clear hi)))
                  go_ret
                  exact ⟨by first | rfl | (simp [errW_none, errW_some] <;> rfl) | (simp [*, errW_none, errW_some] <;> rfl), by repeat (first | (with_reducible first | exact HB.out | apply below_alloc | apply pw_below_drewN | apply below_drew1) | exact HB.out)⟩
                · rw [if_neg c11] at H
                  have c11b0 : decide (x13_1 < (wrap64 ((l2.length : Int) - 1))) = false := decide_eq_false c11
                  clear c11
                  by_cases c13 : a3 = true
                  · subst c13
                    have H1 : (some true) = some r := by rw [if_pos rfl] at H; exact H
                    clear H
                    have H := H1
                    clear H1
                    obtain rfl := Option.some.inj H
                    have p129 : 0 ≤ (x13_1 : Int) := of_decide_eq_true (by first | (with_reducible assumption) | assumption)
                    have q129 : x13_1 < (l2.length : Int) := of_decide_eq_true (by first | (with_reducible assumption) | assumption)
                    obtain ⟨ad129, e129, hx129_0⟩ := Kd.at_string HR2.out x13_1 p129 q129
                    cases e129
                    replace hx129_0 := (HB.out.cell (World.block_lt_of_cell? w _ hx129_0)).trans hx129_0
                    replace p129 := eq_true p129
                    replace q129 := eq_true q129
                    go_wp2_with (first | ((with_reducible refine gate_callee (f := 18) rfl ?_); refine goesL_ (some 20) rfl rfl Try.func18 (by kernel_rfl) rfl #[.string a0, .string (rdOf ByteArray.empty l2 x13_1)] rfl (by (try simp only [List.map_toArray, List.map_cons, List.map_nil]); first | done | rfl | (simp only [List.length_drop, List.length_take]; rfl)) ?_; (with_reducible refine (spec_Globs.calls k1 a0 (rdOf ByteArray.empty l2 x13_1) true _ A8.out).mono ?_); rintro e w14 ⟨rfl, hb⟩; refine ⟨_, rfl, ?_⟩; have n0_ := Aside0.mk (below_step (by repeat (first | (with_reducible first | exact HB.out | apply below_alloc | apply pw_below_drewN | apply below_drew1) | exact HB.out)) hb); clear HB; have HB := n0_; clear n0_; (try clear hb); (try clear hb2); (try clear hk); (try clear hi)))
                    go_ret
                    exact ⟨by first | rfl | (simp [errW_none, errW_some] <;> rfl) | (simp [*, errW_none, errW_some] <;> rfl), by repeat (first | (with_reducible first | exact HB.out | apply below_alloc | apply pw_below_drewN | apply below_drew1) | exact HB.out)⟩
                  · replace c13 := Bool.eq_false_iff.mpr c13
                    subst c13
                    have H1 : (spec_NameIgnored.l0 k1 a0 true l2 false l2 (l2.length : Int) (wrap64 (x13_1 + 1))) = some r := by rw [if_neg (show ¬ (false = true) by decide)] at H; exact H
                    clear H
                    have H := H1
                    clear H1
                    have H' := Aside0.mk H
                    clear H
                    have p129 : 0 ≤ (x13_1 : Int) := of_decide_eq_true (by first | (with_reducible assumption) | assumption)
                    have q129 : x13_1 < (l2.length : Int) := of_decide_eq_true (by first | (with_reducible assumption) | assumption)
                    obtain ⟨ad129, e129, hx129_0⟩ := Kd.at_string HR2.out x13_1 p129 q129
                    cases e129
                    replace hx129_0 := (HB.out.cell (World.block_lt_of_cell? w _ hx129_0)).trans hx129_0
                    replace p129 := eq_true p129
                    replace q129 := eq_true q129
                    go_wp2_with (first | ((with_reducible refine gate_callee (f := 18) rfl ?_); refine goesL_ (some 20) rfl rfl Try.func18 (by kernel_rfl) rfl #[.string a0, .string (rdOf ByteArray.empty l2 x13_1)] rfl (by (try simp only [List.map_toArray, List.map_cons, List.map_nil]); first | done | rfl | (simp only [List.length_drop, List.length_take]; rfl)) ?_; (with_reducible refine (spec_Globs.calls k1 a0 (rdOf ByteArray.empty l2 x13_1) true _ A8.out).mono ?_); rintro e w15 ⟨rfl, hb⟩; refine ⟨_, rfl, ?_⟩; have n0_ := Aside0.mk (below_step (by repeat (first | (with_reducible first | exact HB.out | apply below_alloc | apply pw_below_drewN | apply below_drew1) | exact HB.out)) hb); clear HB; have HB := n0_; clear n0_; (try clear hb); (try clear hb2); (try clear hk); (try clear hi)))
                    go_roundg k1
                    case measure => have := HK1.out; omega
                    case rel => exact ⟨(wrap64 (x13_1 + 1)), (by first | rfl | (simp; done) | (simp [*]; done)), H', ⟨by have := HK1.out; omega⟩, ⟨by repeat (first | (with_reducible first | exact HB.out | apply below_alloc | apply pw_below_drewN | apply below_drew1) | exact HB.out)⟩⟩
              · replace c10 := Bool.eq_false_iff.mpr c10
                subst c10
                have H1 : (some true) = some r := by rw [if_neg (show ¬ (false = true) by decide)] at H; exact H
                clear H
                have H := H1
                clear H1
                obtain rfl := Option.some.inj H
                have p129 : 0 ≤ (x13_1 : Int) := of_decide_eq_true (by first | (with_reducible assumption) | assumption)
                have q129 : x13_1 < (l2.length : Int) := of_decide_eq_true (by first | (with_reducible assumption) | assumption)
                obtain ⟨ad129, e129, hx129_0⟩ := Kd.at_string HR2.out x13_1 p129 q129
                cases e129
                replace hx129_0 := (HB.out.cell (World.block_lt_of_cell? w _ hx129_0)).trans hx129_0
                replace p129 := eq_true p129
                replace q129 := eq_true q129
                go_wp2_with (first | ((with_reducible refine gate_callee (f := 18) rfl ?_); refine goesL_ (some 20) rfl rfl Try.func18 (by kernel_rfl) rfl #[.string a0, .string (rdOf ByteArray.empty l2 x13_1)] rfl (by (try simp only [List.map_toArray, List.map_cons, List.map_nil]); first | done | rfl | (simp only [List.length_drop, List.length_take]; rfl)) ?_; (with_reducible refine (spec_Globs.calls k1 a0 (rdOf ByteArray.empty l2 x13_1) true _ A8.out).mono ?_); rintro e w16 ⟨rfl, hb⟩; refine ⟨_, rfl, ?_⟩; have n0_ := Aside0.mk (below_step (by repeat (first | (with_reducible first | exact HB.out | apply below_alloc | apply pw_below_drewN | apply below_drew1) | exact HB.out)) hb); clear HB; have HB := n0_; clear n0_; (try clear hb); (try clear hb2); (try clear hk); (try clear hi)))
                go_ret
                exact ⟨by first | rfl | (simp [errW_none, errW_some] <;> rfl) | (simp [*, errW_none, errW_some] <;> rfl), by repeat (first | (with_reducible first | exact HB.out | apply below_alloc | apply pw_below_drewN | apply below_drew1) | exact HB.out)⟩
            · replace c9 := Bool.eq_false_iff.mpr c9
              subst c9
              have H1 : (spec_NameIgnored.l0 k1 a0 a1 l2 a3 l2 (l2.length : Int) (wrap64 (x13_1 + 1))) = some r := by rw [if_neg (show ¬ (false = true) by decide)] at H; exact H
              clear H
              have H := H1
              clear H1
              have H' := Aside0.mk H
              clear H
              have p129 : 0 ≤ (x13_1 : Int) := of_decide_eq_true (by first | (with_reducible assumption) | assumption)
              have q129 : x13_1 < (l2.length : Int) := of_decide_eq_true (by first | (with_reducible assumption) | assumption)
              obtain ⟨ad129, e129, hx129_0⟩ := Kd.at_string HR2.out x13_1 p129 q129
              cases e129
              replace hx129_0 := (HB.out.cell (World.block_lt_of_cell? w _ hx129_0)).trans hx129_0
              replace p129 := eq_true p129
              replace q129 := eq_true q129
              go_wp2_with (first | ((with_reducible refine gate_callee (f := 18) rfl ?_); refine goesL_ (some 20) rfl rfl Try.func18 (by kernel_rfl) rfl #[.string a0, .string (rdOf ByteArray.empty l2 x13_1)] rfl (by (try simp only [List.map_toArray, List.map_cons, List.map_nil]); first | done | rfl | (simp only [List.length_drop, List.length_take]; rfl)) ?_; (with_reducible refine (spec_Globs.calls k1 a0 (rdOf ByteArray.empty l2 x13_1) false _ A8.out).mono ?_); rintro e w17 ⟨rfl, hb⟩; refine ⟨_, rfl, ?_⟩; have n0_ := Aside0.mk (below_step (by repeat (first | (with_reducible first | exact HB.out | apply below_alloc | apply pw_below_drewN | apply below_drew1) | exact HB.out)) hb); clear HB; have HB := n0_; clear n0_; (try clear hb); (try clear hb2); (try clear hk); (try clear hi)))
              go_roundg k1
              case measure => have := HK1.out; omega
              case rel => exact ⟨(wrap64 (x13_1 + 1)), (by first | rfl | (simp; done) | (simp [*]; done)), H', ⟨by have := HK1.out; omega⟩, ⟨by repeat (first | (with_reducible first | exact HB.out | apply below_alloc | apply pw_below_drewN | apply below_drew1) | exact HB.out)⟩⟩
          · rw [if_neg c7] at H
            exact absurd H (by simp)
        · rw [if_neg c6] at H
          exact absurd H (by simp)
      · rw [if_neg c5] at H
        have c5b0 : decide (x13_1 < (l2.length : Int)) = false := decide_eq_false c5
        clear c5
        obtain rfl := Option.some.inj H
        go_wp2
        go_ret
        exact ⟨by first | rfl | (simp [errW_none, errW_some] <;> rfl) | (simp [*, errW_none, errW_some] <;> rfl), by repeat (first | (with_reducible first | exact HB.out | apply below_alloc | apply pw_below_drewN | apply below_drew1) | exact HB.out)⟩

end Go.Proofs.Ytlnfkpmmnennbaa.QAll
