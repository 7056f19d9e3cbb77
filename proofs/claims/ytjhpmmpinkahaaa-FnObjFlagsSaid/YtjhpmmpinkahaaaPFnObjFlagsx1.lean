-- PRINTED BY print.sh 35421559b90ae4d0a3588c463048766b98c2df88dd9212a6774a882060cdf62d: not written by this session
import Derived.Test.YtjhpmmpinkahaaaPFnObjFlagsx0
namespace Go.Proofs.Ytjhpmmpinkahaaa.PFnObjFlags
open Go.RowKit Go.Proofs.YtjhpmmpinkahaaaW.PrintWords Go.Proofs.YtjhpmmpinkahaaaW.PrintLast Go.Proofs.YtjhpmmpinkahaaaW.PrintMore
attribute [local go_sem] max2_int min2_int max_two min_two max_three min_three max_four min_four   -- for this text's walks alone
set_option linter.unusedVariables false
set_option linter.unusedSimpArgs false

/-! ### plumbing_ObjectType_Valid: function 11 -/
def plumbing_ObjectType_Valid.f (a0 : Int) : Option (Bool) := if a0 ≥ 1 then (some (decide (a0 ≤ 7))) else (some false)
set_option maxHeartbeats 8000000 in
set_option maxRecDepth 100000 in
theorem plumbing_ObjectType_Valid.calls (a0 : Int) (r : Bool) (w : World) (h : plumbing_ObjectType_Valid.f a0 = some r) :
    Calls Try.prog 11 #[.int .i8 a0] w fun e w' => e = .returned (.bool r) ∧ Drawn0 w w' := by
  have H : (if a0 ≥ 1 then (some (decide (a0 ≤ 7))) else (some false)) = some r := h
  clear h
  by_cases c2 : a0 ≥ 1
  · rw [if_pos c2] at H
    have c2b0 : decide (1 ≤ a0) = true := decide_eq_true c2
    clear c2
    obtain rfl := Option.some.inj H
    go_enter Try.func11, Try.ntmps11
    go_wp2
    go_ret
    exact ⟨by first | rfl | (simp; done) | (simp [*]; done), by repeat (first | exact Drawn0.refl _ | apply Drawn0.step)⟩
  · rw [if_neg c2] at H
    have c2b0 : decide (1 ≤ a0) = false := decide_eq_false c2
    clear c2
    obtain rfl := Option.some.inj H
    go_enter Try.func11, Try.ntmps11
    go_wp2
    go_ret
    exact ⟨by first | rfl | (simp; done) | (simp [*]; done), by repeat (first | exact Drawn0.refl _ | apply Drawn0.step)⟩

/-! ### plumbing_ObjectType_IsDelta: function 12 -/
def plumbing_ObjectType_IsDelta.f (a0 : Int) : Option (Bool) := if a0 = 7 then (some true) else (some (a0 == 6))
set_option maxHeartbeats 8000000 in
set_option maxRecDepth 100000 in
theorem plumbing_ObjectType_IsDelta.calls (a0 : Int) (r : Bool) (w : World) (h : plumbing_ObjectType_IsDelta.f a0 = some r) :
    Calls Try.prog 12 #[.int .i8 a0] w fun e w' => e = .returned (.bool r) ∧ Drawn0 w w' := by
  have H : (if a0 = 7 then (some true) else (some (a0 == 6))) = some r := h
  clear h
  by_cases c2 : a0 = 7
  · rw [if_pos c2] at H
    have c2b0 : (a0 == 7) = true := beq_iff_eq.mpr c2
    have c2b1 : (a0 != 7) = false := bne_eq_false_iff_eq.mpr c2
    clear c2
    obtain rfl := Option.some.inj H
    go_enter Try.func12, Try.ntmps12
    go_wp2
    go_ret
    exact ⟨by first | rfl | (simp; done) | (simp [*]; done), by repeat (first | exact Drawn0.refl _ | apply Drawn0.step)⟩
  · rw [if_neg c2] at H
    have c2b0 : (a0 == 7) = false := beq_eq_false_iff_ne.mpr c2
    have c2b1 : (a0 != 7) = true := bne_iff_ne.mpr c2
    obtain rfl := Option.some.inj H
    go_enter Try.func12, Try.ntmps12
    go_wp2
    go_ret
    exact ⟨by first | rfl | (simp; done) | (simp [*]; done), by repeat (first | exact Drawn0.refl _ | apply Drawn0.step)⟩

/-! ### impl_TypeFlags: function 5 -/
def impl_TypeFlags.f (a0 : Int) : Option (Bool × Bool) := (plumbing_ObjectType_Valid.f (IntKind.i8.wrap (a0))).bind fun t101 => ((plumbing_ObjectType_IsDelta.f (IntKind.i8.wrap (a0))).bind fun t102 => (some (t101, t102)))
set_option maxHeartbeats 8000000 in
set_option maxRecDepth 100000 in
theorem impl_TypeFlags.calls (a0 : Int) (r1 : Bool) (r2 : Bool) (w : World) (h : impl_TypeFlags.f a0 = some (r1, r2)) :
    Calls Try.prog 5 #[.int .i64 a0] w fun e w' => e = .returned (.tuple #[.bool r1, .bool r2]) ∧ Drawn0 w w' := by
  have H : ((plumbing_ObjectType_Valid.f (IntKind.i8.wrap (a0))).bind fun t101 => ((plumbing_ObjectType_IsDelta.f (IntKind.i8.wrap (a0))).bind fun t102 => (some (t101, t102)))) = some (r1, r2) := h
  clear h
  replace H := Option.bind_eq_some_iff.mp H
  obtain ⟨t101, A20, H⟩ := H
  replace H : ((plumbing_ObjectType_IsDelta.f (IntKind.i8.wrap (a0))).bind fun t102 => (some (t101, t102))) = some (r1, r2) := H
  have A2 := Aside0.mk A20
  clear A20
  replace H := Option.bind_eq_some_iff.mp H
  obtain ⟨t102, A30, H⟩ := H
  replace H : (some (t101, t102)) = some (r1, r2) := H
  have A3 := Aside0.mk A30
  clear A30
  simp only [Option.some.injEq, Prod.mk.injEq] at H
  obtain ⟨rfl, rfl⟩ := H
  go_enter Try.func5, Try.ntmps5
  go_wp2_with (first | ((with_reducible refine gate_callee (f := 11) rfl ?_); refine goesL_ (some 8) rfl rfl Try.func11 (by kernel_rfl) rfl #[.int .i8 (IntKind.i8.wrap (a0))] rfl (by (try simp only [List.map_toArray, List.map_cons, List.map_nil]); first | done | rfl | (simp only [List.length_drop, List.length_take]; rfl)) ?_; (with_reducible refine (plumbing_ObjectType_Valid.calls (IntKind.i8.wrap (a0)) t101 _ A2.out).mono ?_); rintro e w' ⟨rfl, ⟨nd, rfl⟩⟩; refine ⟨_, rfl, ?_⟩) | ((with_reducible refine gate_callee (f := 12) rfl ?_); refine goesL_ (some 10) rfl rfl Try.func12 (by kernel_rfl) rfl #[.int .i8 (IntKind.i8.wrap (a0))] rfl (by (try simp only [List.map_toArray, List.map_cons, List.map_nil]); first | done | rfl | (simp only [List.length_drop, List.length_take]; rfl)) ?_; (with_reducible refine (plumbing_ObjectType_IsDelta.calls (IntKind.i8.wrap (a0)) t102 _ A3.out).mono ?_); rintro e w' ⟨rfl, ⟨nd, rfl⟩⟩; refine ⟨_, rfl, ?_⟩))
  go_ret2
  exact ⟨by first | rfl | (simp; done) | (simp [*]; done), by repeat (first | exact Drawn0.refl _ | apply Drawn0.step)⟩

/-! ### laws_FnObjFlags: function 3 -/
def laws_FnObjFlags.f (a0 : Int) : Option (Bool) := if (Int.tmod (Go.bits .and .i64 a0 65535) 100) = 5 then (some true) else ((impl_TypeFlags.f (Int.tmod (Go.bits .and .i64 a0 65535) 100)).bind fun bt103 => (if (Int.tmod (Go.bits .and .i64 a0 65535) 100) ≥ 1 then (if (bt103.1 == (decide ((Int.tmod (Go.bits .and .i64 a0 65535) 100) ≤ 7))) = true then (if (Int.tmod (Go.bits .and .i64 a0 65535) 100) = 6 then (some (bt103.2 == true)) else (some (bt103.2 == ((Int.tmod (Go.bits .and .i64 a0 65535) 100) == 7)))) else (some false)) else (if (bt103.1 == false) = true then (if (Int.tmod (Go.bits .and .i64 a0 65535) 100) = 6 then (some (bt103.2 == true)) else (some (bt103.2 == ((Int.tmod (Go.bits .and .i64 a0 65535) 100) == 7)))) else (some false))))
set_option maxHeartbeats 8000000 in
set_option maxRecDepth 100000 in
theorem laws_FnObjFlags.calls (a0 : Int) (r : Bool) (w : World) (h : laws_FnObjFlags.f a0 = some r) :
    Calls Try.prog 3 #[.int .i64 a0] w fun e w' => e = .returned (.bool r) ∧ Drawn0 w w' := by
  have H : (if (Int.tmod (Go.bits .and .i64 a0 65535) 100) = 5 then (some true) else ((impl_TypeFlags.f (Int.tmod (Go.bits .and .i64 a0 65535) 100)).bind fun bt103 => (if (Int.tmod (Go.bits .and .i64 a0 65535) 100) ≥ 1 then (if (bt103.1 == (decide ((Int.tmod (Go.bits .and .i64 a0 65535) 100) ≤ 7))) = true then (if (Int.tmod (Go.bits .and .i64 a0 65535) 100) = 6 then (some (bt103.2 == true)) else (some (bt103.2 == ((Int.tmod (Go.bits .and .i64 a0 65535) 100) == 7)))) else (some false)) else (if (bt103.1 == false) = true then (if (Int.tmod (Go.bits .and .i64 a0 65535) 100) = 6 then (some (bt103.2 == true)) else (some (bt103.2 == ((Int.tmod (Go.bits .and .i64 a0 65535) 100) == 7)))) else (some false))))) = some r := h
  clear h
  by_cases c2 : (Int.tmod (Go.bits .and .i64 a0 65535) 100) = 5
  · rw [if_pos c2] at H
    have c2b0 : ((Int.tmod (Go.bits .and .i64 a0 65535) 100) == 5) = true := beq_iff_eq.mpr c2
    have c2b1 : ((Int.tmod (Go.bits .and .i64 a0 65535) 100) != 5) = false := bne_eq_false_iff_eq.mpr c2
    clear c2
    obtain rfl := Option.some.inj H
    go_enter Try.func3, Try.ntmps3
    go_wp2
    go_ret
    exact ⟨by first | rfl | (simp; done) | (simp [*]; done), by repeat (first | exact Drawn0.refl _ | apply Drawn0.step)⟩
  · rw [if_neg c2] at H
    have c2b0 : ((Int.tmod (Go.bits .and .i64 a0 65535) 100) == 5) = false := beq_eq_false_iff_ne.mpr c2
    have c2b1 : ((Int.tmod (Go.bits .and .i64 a0 65535) 100) != 5) = true := bne_iff_ne.mpr c2
    replace H := Option.bind_eq_some_iff.mp H
    obtain ⟨⟨t103, t104⟩, A30, H⟩ := H
    replace H : (if (Int.tmod (Go.bits .and .i64 a0 65535) 100) ≥ 1 then (if (t103 == (decide ((Int.tmod (Go.bits .and .i64 a0 65535) 100) ≤ 7))) = true then (if (Int.tmod (Go.bits .and .i64 a0 65535) 100) = 6 then (some (t104 == true)) else (some (t104 == ((Int.tmod (Go.bits .and .i64 a0 65535) 100) == 7)))) else (some false)) else (if (t103 == false) = true then (if (Int.tmod (Go.bits .and .i64 a0 65535) 100) = 6 then (some (t104 == true)) else (some (t104 == ((Int.tmod (Go.bits .and .i64 a0 65535) 100) == 7)))) else (some false))) = some r := H
    have A3 := Aside0.mk A30
    clear A30
    by_cases c4 : (Int.tmod (Go.bits .and .i64 a0 65535) 100) ≥ 1
    · rw [if_pos c4] at H
      have c4b0 : decide (1 ≤ (Int.tmod (Go.bits .and .i64 a0 65535) 100)) = true := decide_eq_true c4
      clear c4
      by_cases c5 : (t103 == (decide ((Int.tmod (Go.bits .and .i64 a0 65535) 100) ≤ 7))) = true
      · rw [if_pos c5] at H
        have c5b0 : (t103 == (decide ((Int.tmod (Go.bits .and .i64 a0 65535) 100) ≤ 7))) = true := c5
        (try (have c5b1 : decide (t103 = (decide ((Int.tmod (Go.bits .and .i64 a0 65535) 100) ≤ 7))) = true := by simpa using c5))
        (try (have c5b2 : (t103 == (decide ((Int.tmod (Go.bits .and .i64 a0 65535) 100) ≤ 7))) = true := by simpa using c5))
        clear c5
        by_cases c6 : (Int.tmod (Go.bits .and .i64 a0 65535) 100) = 6
        · rw [if_pos c6] at H
          have c6b0 : ((Int.tmod (Go.bits .and .i64 a0 65535) 100) == 6) = true := beq_iff_eq.mpr c6
          have c6b1 : ((Int.tmod (Go.bits .and .i64 a0 65535) 100) != 6) = false := bne_eq_false_iff_eq.mpr c6
          clear c6
          obtain rfl := Option.some.inj H
          go_enter Try.func3, Try.ntmps3
          go_wp2_with (first | ((with_reducible refine gate_callee (f := 5) rfl ?_); refine goesL_ (some 13) rfl rfl Try.func5 (by kernel_rfl) rfl #[.int .i64 (Int.tmod (Go.bits .and .i64 a0 65535) 100)] rfl (by (try simp only [List.map_toArray, List.map_cons, List.map_nil]); first | done | rfl | (simp only [List.length_drop, List.length_take]; rfl)) ?_; (with_reducible refine (impl_TypeFlags.calls (Int.tmod (Go.bits .and .i64 a0 65535) 100) t103 t104 _ A3.out).mono ?_); rintro e w' ⟨rfl, ⟨nd, rfl⟩⟩; refine ⟨_, rfl, ?_⟩))
          go_ret
          exact ⟨by first | rfl | (simp; done) | (simp [*]; done), by repeat (first | exact Drawn0.refl _ | apply Drawn0.step)⟩
        · rw [if_neg c6] at H
          have c6b0 : ((Int.tmod (Go.bits .and .i64 a0 65535) 100) == 6) = false := beq_eq_false_iff_ne.mpr c6
          have c6b1 : ((Int.tmod (Go.bits .and .i64 a0 65535) 100) != 6) = true := bne_iff_ne.mpr c6
          obtain rfl := Option.some.inj H
          go_enter Try.func3, Try.ntmps3
          go_wp2_with (first | ((with_reducible refine gate_callee (f := 5) rfl ?_); refine goesL_ (some 13) rfl rfl Try.func5 (by kernel_rfl) rfl #[.int .i64 (Int.tmod (Go.bits .and .i64 a0 65535) 100)] rfl (by (try simp only [List.map_toArray, List.map_cons, List.map_nil]); first | done | rfl | (simp only [List.length_drop, List.length_take]; rfl)) ?_; (with_reducible refine (impl_TypeFlags.calls (Int.tmod (Go.bits .and .i64 a0 65535) 100) t103 t104 _ A3.out).mono ?_); rintro e w' ⟨rfl, ⟨nd, rfl⟩⟩; refine ⟨_, rfl, ?_⟩))
          go_ret
          exact ⟨by first | rfl | (simp; done) | (simp [*]; done), by repeat (first | exact Drawn0.refl _ | apply Drawn0.step)⟩
      · rw [if_neg c5] at H
        have c5b0 : (t103 == (decide ((Int.tmod (Go.bits .and .i64 a0 65535) 100) ≤ 7))) = false := by simpa using c5
        (try (have c5b1 : decide (t103 = (decide ((Int.tmod (Go.bits .and .i64 a0 65535) 100) ≤ 7))) = false := by simpa using c5))
        (try (have c5b2 : (t103 == (decide ((Int.tmod (Go.bits .and .i64 a0 65535) 100) ≤ 7))) = false := by simpa using c5))
        (try (have c5b3 : ¬ (t103 = (decide ((Int.tmod (Go.bits .and .i64 a0 65535) 100) ≤ 7))) := by simpa using c5))
        clear c5
        obtain rfl := Option.some.inj H
        go_enter Try.func3, Try.ntmps3
        go_wp2_with (first | ((with_reducible refine gate_callee (f := 5) rfl ?_); refine goesL_ (some 13) rfl rfl Try.func5 (by kernel_rfl) rfl #[.int .i64 (Int.tmod (Go.bits .and .i64 a0 65535) 100)] rfl (by (try simp only [List.map_toArray, List.map_cons, List.map_nil]); first | done | rfl | (simp only [List.length_drop, List.length_take]; rfl)) ?_; (with_reducible refine (impl_TypeFlags.calls (Int.tmod (Go.bits .and .i64 a0 65535) 100) t103 t104 _ A3.out).mono ?_); rintro e w' ⟨rfl, ⟨nd, rfl⟩⟩; refine ⟨_, rfl, ?_⟩))
        go_ret
        exact ⟨by first | rfl | (simp; done) | (simp [*]; done), by repeat (first | exact Drawn0.refl _ | apply Drawn0.step)⟩
    · rw [if_neg c4] at H
      have c4b0 : decide (1 ≤ (Int.tmod (Go.bits .and .i64 a0 65535) 100)) = false := decide_eq_false c4
      clear c4
      by_cases c7 : (t103 == false) = true
      · rw [if_pos c7] at H
        have c7b0 : (t103 == false) = true := c7
        (try (have c7b1 : decide (t103 = false) = true := by simpa using c7))
        (try (have c7b2 : (t103 == false) = true := by simpa using c7))
        clear c7
        by_cases c8 : (Int.tmod (Go.bits .and .i64 a0 65535) 100) = 6
        · rw [if_pos c8] at H
          have c8b0 : ((Int.tmod (Go.bits .and .i64 a0 65535) 100) == 6) = true := beq_iff_eq.mpr c8
          have c8b1 : ((Int.tmod (Go.bits .and .i64 a0 65535) 100) != 6) = false := bne_eq_false_iff_eq.mpr c8
          clear c8
          obtain rfl := Option.some.inj H
          go_enter Try.func3, Try.ntmps3
          go_wp2_with (first | ((with_reducible refine gate_callee (f := 5) rfl ?_); refine goesL_ (some 13) rfl rfl Try.func5 (by kernel_rfl) rfl #[.int .i64 (Int.tmod (Go.bits .and .i64 a0 65535) 100)] rfl (by (try simp only [List.map_toArray, List.map_cons, List.map_nil]); first | done | rfl | (simp only [List.length_drop, List.length_take]; rfl)) ?_; (with_reducible refine (impl_TypeFlags.calls (Int.tmod (Go.bits .and .i64 a0 65535) 100) t103 t104 _ A3.out).mono ?_); rintro e w' ⟨rfl, ⟨nd, rfl⟩⟩; refine ⟨_, rfl, ?_⟩))
          go_ret
          exact ⟨by first | rfl | (simp; done) | (simp [*]; done), by repeat (first | exact Drawn0.refl _ | apply Drawn0.step)⟩
        · rw [if_neg c8] at H
          have c8b0 : ((Int.tmod (Go.bits .and .i64 a0 65535) 100) == 6) = false := beq_eq_false_iff_ne.mpr c8
          have c8b1 : ((Int.tmod (Go.bits .and .i64 a0 65535) 100) != 6) = true := bne_iff_ne.mpr c8
          obtain rfl := Option.some.inj H
          go_enter Try.func3, Try.ntmps3
          go_wp2_with (first | ((with_reducible refine gate_callee (f := 5) rfl ?_); refine goesL_ (some 13) rfl rfl Try.func5 (by kernel_rfl) rfl #[.int .i64 (Int.tmod (Go.bits .and .i64 a0 65535) 100)] rfl (by (try simp only [List.map_toArray, List.map_cons, List.map_nil]); first | done | rfl | (simp only [List.length_drop, List.length_take]; rfl)) ?_; (with_reducible refine (impl_TypeFlags.calls (Int.tmod (Go.bits .and .i64 a0 65535) 100) t103 t104 _ A3.out).mono ?_); rintro e w' ⟨rfl, ⟨nd, rfl⟩⟩; refine ⟨_, rfl, ?_⟩))
          go_ret
          exact ⟨by first | rfl | (simp; done) | (simp [*]; done), by repeat (first | exact Drawn0.refl _ | apply Drawn0.step)⟩
      · rw [if_neg c7] at H
        have c7b0 : (t103 == false) = false := by simpa using c7
        (try (have c7b1 : decide (t103 = false) = false := by simpa using c7))
        (try (have c7b2 : (t103 == false) = false := by simpa using c7))
        (try (have c7b3 : ¬ (t103 = false) := by simpa using c7))
        clear c7
        obtain rfl := Option.some.inj H
        go_enter Try.func3, Try.ntmps3
        go_wp2_with (first | ((with_reducible refine gate_callee (f := 5) rfl ?_); refine goesL_ (some 13) rfl rfl Try.func5 (by kernel_rfl) rfl #[.int .i64 (Int.tmod (Go.bits .and .i64 a0 65535) 100)] rfl (by (try simp only [List.map_toArray, List.map_cons, List.map_nil]); first | done | rfl | (simp only [List.length_drop, List.length_take]; rfl)) ?_; (with_reducible refine (impl_TypeFlags.calls (Int.tmod (Go.bits .and .i64 a0 65535) 100) t103 t104 _ A3.out).mono ?_); rintro e w' ⟨rfl, ⟨nd, rfl⟩⟩; refine ⟨_, rfl, ?_⟩))
        go_ret
        exact ⟨by first | rfl | (simp; done) | (simp [*]; done), by repeat (first | exact Drawn0.refl _ | apply Drawn0.step)⟩

/-- THE ONE PURE STATEMENT of laws_FnObjFlags: yours. -/
def laws_FnObjFlags.Pure : Prop := ∀ (a0 : Int), (Lit.int .i64 a0).wf = true → laws_FnObjFlags.f a0 = some true
theorem laws_FnObjFlags.walk (P : laws_FnObjFlags.Pure) (a0 : Int) (w : World) (w0 : (Lit.int .i64 a0).wf = true) :
    Calls Try.prog 3 #[.int .i64 a0] w fun e w' => e = .returned (.bool true) ∧ Below w.heap.size w w' := by
  have h := P a0 w0
  refine (laws_FnObjFlags.calls a0 true w h).mono ?_
  rintro e w' ⟨rfl, hd⟩
  exact ⟨rfl, hd.below⟩

end Go.Proofs.Ytjhpmmpinkahaaa.PFnObjFlags
