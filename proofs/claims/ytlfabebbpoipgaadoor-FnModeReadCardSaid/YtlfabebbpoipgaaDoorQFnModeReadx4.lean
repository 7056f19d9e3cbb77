-- WRITTEN BY A PROGRAM OF THIS SESSION, out of the loaded program, with words of the kit
import Derived.Test.YtlfabebbpoipgaaDoorQFnModeReadx0
import Derived.Test.YtlfabebbpoipgaaDoorExtU
namespace Go.Proofs.YtlfabebbpoipgaaDoor.QFnModeRead
open Go.RowKit Go.Proofs.YtlfabebbpoipgaaDoorW.PrintWords Go.Proofs.YtlfabebbpoipgaaDoorW.PrintLast Go.Proofs.YtlfabebbpoipgaaDoorW.PrintMore
attribute [local go_sem] max2_int min2_int max_two min_two max_three min_three max_four min_four   -- for this text's walks alone
set_option linter.unusedVariables false
set_option linter.unusedSimpArgs false

/-! ### laws_FnModeRead: function 4 -/
def laws_FnModeRead.l0 : Nat → Int → ByteArray → Int → Int → Option (Bool)
  | 0, _, _, _, _ => none
  | k + 1, x0, x5, x12, x13 => if x13 < x12 then (if 1 + x5.size ≤ 9223372036854775807 then (laws_FnModeRead.l0 k x0 ((⟨#[48]⟩ : ByteArray) ++ x5) x12 (wrap64 (x13 + 1))) else (none)) else ((impl_ModeOf.f x5).bind fun bt136 => (if bt136.2 = true then (some (bt136.1 == x0)) else (some false)))
def laws_FnModeRead.f (k : Nat) (a0 : Int) (a1 : Int) : Option (Bool) := (spec_Octal.f (wrap64 (a0))).bind fun t135 => (laws_FnModeRead.l0 k a0 t135 (Go.bits .and .i64 a1 7) 0)
theorem laws_FnModeRead.mono_l : ∀ k, (∀ y0 y1 y2 y3, LeO (laws_FnModeRead.l0 k y0 y1 y2 y3) (laws_FnModeRead.l0 (k + 1) y0 y1 y2 y3))
  | 0 => fun _ _ _ _ r h => by simp [laws_FnModeRead.l0] at h
  | k + 1 => by
    have ih0 := laws_FnModeRead.mono_l k
    · intro y0 y1 y2 y3
      unfold laws_FnModeRead.l0
      repeat' first
      | (with_reducible exact ih0 _ _ _ _)
      | (with_reducible exact LeO.refl _)
      | (with_reducible exact LeO.none _)
      | (with_reducible refine LeO.ite ?_ ?_)
      | (with_reducible refine LeO.bind ?_ (fun _ => ?_))
      | exact ih0 _ _ _ _
      | exact LeO.none _
      | refine LeO.ite ?_ ?_
      | refine LeO.bind ?_ (fun _ => ?_)
theorem laws_FnModeRead.mono : ∀ a0 a1 k, LeO (laws_FnModeRead.f k a0 a1) (laws_FnModeRead.f (k + 1) a0 a1) := by
  intro a0 a1 k
  have ih0 := laws_FnModeRead.mono_l k
  unfold laws_FnModeRead.f
  repeat' first
      | (with_reducible exact ih0 _ _ _ _)
      | (with_reducible exact LeO.refl _)
      | (with_reducible exact LeO.none _)
      | (with_reducible refine LeO.ite ?_ ?_)
      | (with_reducible refine LeO.bind ?_ (fun _ => ?_))
      | exact ih0 _ _ _ _
      | exact LeO.none _
      | refine LeO.ite ?_ ?_
      | refine LeO.bind ?_ (fun _ => ?_)
set_option maxHeartbeats 8000000 in
set_option maxRecDepth 100000 in
theorem laws_FnModeRead.calls (k : Nat) (a0 : Int) (a1 : Int) (r : Bool) (w : World) (h : laws_FnModeRead.f k a0 a1 = some r) :
    Calls Tryd.prog 4 #[.int .u32 a0, .int .i64 a1] w fun e w' => e = .returned (.bool r) ∧ Below w.heap.size w w' := by
  have HB := Aside0.mk (Below.refl w.heap.size w)
  have H : ((spec_Octal.f (wrap64 (a0))).bind fun t135 => (laws_FnModeRead.l0 k a0 t135 (Go.bits .and .i64 a1 7) 0)) = some r := h
  clear h
  replace H := Option.bind_eq_some_iff.mp H
  obtain ⟨t135, A30, H⟩ := H
  replace H : (laws_FnModeRead.l0 k a0 t135 (Go.bits .and .i64 a1 7) 0) = some r := H
  have A3 := Aside0.mk A30
  clear A30
  have H' := Aside0.mk H
  clear H
  go_enter Tryd.func4, Tryd.ntmps4
  go_wp2_with (first | ((with_reducible refine gate_callee (f := 6) rfl ?_); refine goesL_ (some 10) rfl rfl Tryd.func6 (by kernel_rfl) rfl #[.int .i64 (wrap64 (a0))] rfl (by (try simp only [List.map_toArray, List.map_cons, List.map_nil]); first | done | rfl | (simp only [List.length_drop, List.length_take]; rfl)) ?_; (with_reducible refine (spec_Octal.calls (wrap64 (a0)) t135 _ A3.out).mono ?_); rintro e w4 ⟨rfl, hb⟩; refine ⟨_, rfl, ?_⟩; have n0_ := Aside0.mk (below_step (by repeat (first | (with_reducible first | exact HB.out | apply below_alloc | apply pw_below_drewN | apply below_drew1) | exact HB.out)) hb); clear HB; have HB := n0_; clear n0_; (try clear hb); (try clear hb2); (try clear hk); (try clear hi)))
  go_loopg [5, 13] k (fun kq v5 v13 w' => ∃ (x5_1 : ByteArray) (x13_1 : Int), v5 = .string x5_1 ∧ v13 = .int .i64 x13_1 ∧ Aside0 (laws_FnModeRead.l0 kq a0 x5_1 (Go.bits .and .i64 a1 7) x13_1 = some r) ∧ Aside0 (kq ≤ k) ∧ Aside0 (Below w.heap.size w w'))
  case atStart => exact ⟨(t135), (0), (by first | rfl | (simp; done) | (simp [*]; done)), (by first | rfl | (simp; done) | (simp [*]; done)), H', ⟨Nat.le_refl _⟩, ⟨by repeat (first | (with_reducible first | exact HB.out | apply below_alloc | apply pw_below_drewN | apply below_drew1) | exact HB.out)⟩⟩
  case round =>
    clear H'
    try clear p2
    try clear c4
    obtain ⟨x5_1, x13_1, rfl, rfl, HA, HK1, HB⟩ := hrel
    cases gk with
    | zero => exact absurd HA.out (by simp [laws_FnModeRead.l0])
    | succ k1 =>
      have H := HA.out
      clear HA
      simp only [laws_FnModeRead.l0] at H
      by_cases c5 : x13_1 < (Go.bits .and .i64 a1 7)
      · rw [if_pos c5] at H
        have c5b0 : decide (x13_1 < (Go.bits .and .i64 a1 7)) = true := decide_eq_true c5
        clear c5
        by_cases c6 : 1 + x5_1.size ≤ 9223372036854775807
        · rw [if_pos c6] at H
          have c6b0 := eq_true c6
          have c6b1 : decide (1 + x5_1.size ≤ 9223372036854775807) = true := decide_eq_true c6
          try have c6b2 : (9223372036854775807 < 1 + x5_1.size) = False := eq_false (Nat.not_lt.2 c6)
          have H' := Aside0.mk H
          clear H
          go_wp2
          go_roundg k1
          case measure => have := HK1.out; omega
          case rel => exact ⟨((⟨#[48]⟩ : ByteArray) ++ x5_1), (wrap64 (x13_1 + 1)), (by first | rfl | (simp; done) | (simp [*]; done)), (by first | rfl | (simp; done) | (simp [*]; done)), H', ⟨by have := HK1.out; omega⟩, ⟨by repeat (first | (with_reducible first | exact HB.out | apply below_alloc | apply pw_below_drewN | apply below_drew1) | exact HB.out)⟩⟩
        · rw [if_neg c6] at H
          exact absurd H (by simp)
      · rw [if_neg c5] at H
        have c5b0 : decide (x13_1 < (Go.bits .and .i64 a1 7)) = false := decide_eq_false c5
        clear c5
        replace H := Option.bind_eq_some_iff.mp H
        obtain ⟨⟨t136, t137⟩, A70, H⟩ := H
        replace H : (if t137 = true then (some (t136 == a0)) else (some false)) = some r := H
        have A7 := Aside0.mk A70
        clear A70
        by_cases c8 : t137 = true
        · subst c8
          have H1 : (some (t136 == a0)) = some r := by rw [if_pos rfl] at H; exact H
          clear H
          have H := H1
          clear H1
          obtain rfl := Option.some.inj H
          go_wp2_with (first | ((with_reducible refine gate_callee (f := 5) rfl ?_); refine goesL_ (some 20) rfl rfl Tryd.func5 (by kernel_rfl) rfl #[.string x5_1] rfl (by (try simp only [List.map_toArray, List.map_cons, List.map_nil]); first | done | rfl | (simp only [List.length_drop, List.length_take]; rfl)) ?_; (with_reducible refine (impl_ModeOf.calls x5_1 t136 true _ A7.out).mono ?_); rintro e w9 ⟨rfl, hb⟩; refine ⟨_, rfl, ?_⟩; have n0_ := Aside0.mk (below_step (by repeat (first | (with_reducible first | exact HB.out | apply below_alloc | apply pw_below_drewN | apply below_drew1) | exact HB.out)) hb); clear HB; have HB := n0_; clear n0_; (try clear hb); (try clear hb2); (try clear hk); (try clear hi)))
          go_ret
          exact ⟨by first | rfl | (simp [errW_none, errW_some] <;> rfl) | (simp [*, errW_none, errW_some] <;> rfl), by repeat (first | (with_reducible first | exact HB.out | apply below_alloc | apply pw_below_drewN | apply below_drew1) | exact HB.out)⟩
        · replace c8 := Bool.eq_false_iff.mpr c8
          subst c8
          have H1 : (some false) = some r := by rw [if_neg (show ¬ (false = true) by decide)] at H; exact H
          clear H
          have H := H1
          clear H1
          obtain rfl := Option.some.inj H
          go_wp2_with (first | ((with_reducible refine gate_callee (f := 5) rfl ?_); refine goesL_ (some 20) rfl rfl Tryd.func5 (by kernel_rfl) rfl #[.string x5_1] rfl (by (try simp only [List.map_toArray, List.map_cons, List.map_nil]); first | done | rfl | (simp only [List.length_drop, List.length_take]; rfl)) ?_; (with_reducible refine (impl_ModeOf.calls x5_1 t136 false _ A7.out).mono ?_); rintro e w10 ⟨rfl, hb⟩; refine ⟨_, rfl, ?_⟩; have n0_ := Aside0.mk (below_step (by repeat (first | (with_reducible first | exact HB.out | apply below_alloc | apply pw_below_drewN | apply below_drew1) | exact HB.out)) hb); clear HB; have HB := n0_; clear n0_; (try clear hb); (try clear hb2); (try clear hk); (try clear hi)))
          go_ret
          exact ⟨by first | rfl | (simp [errW_none, errW_some] <;> rfl) | (simp [*, errW_none, errW_some] <;> rfl), by repeat (first | (with_reducible first | exact HB.out | apply below_alloc | apply pw_below_drewN | apply below_drew1) | exact HB.out)⟩

/-- THE ONE PURE STATEMENT of laws_FnModeRead: yours. -/
def laws_FnModeRead.Pure : Prop := ∀ (a0 : Int) (a1 : Int), (Lit.int .u32 a0).wf = true → (Lit.int .i64 a1).wf = true → ∃ k, laws_FnModeRead.f k a0 a1 = some true
theorem laws_FnModeRead.walk (P : laws_FnModeRead.Pure) (a0 : Int) (a1 : Int) (w : World) (w0 : (Lit.int .u32 a0).wf = true) (w1 : (Lit.int .i64 a1).wf = true) :
    Calls Tryd.prog 4 #[.int .u32 a0, .int .i64 a1] w fun e w' => e = .returned (.bool true) ∧ Below w.heap.size w w' := by
  obtain ⟨k, h⟩ := P a0 a1 w0 w1
  refine (laws_FnModeRead.calls k a0 a1 true w h).mono ?_
  rintro e w' ⟨rfl, hd⟩
  exact ⟨rfl, hd⟩

end Go.Proofs.YtlfabebbpoipgaaDoor.QFnModeRead
