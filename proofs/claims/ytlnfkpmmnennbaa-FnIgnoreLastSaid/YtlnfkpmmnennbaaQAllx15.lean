-- WRITTEN BY A PROGRAM OF THIS SESSION, out of the loaded program, with words of the kit
import Derived.Test.YtlnfkpmmnennbaaQAllx0
import Derived.Test.YtlnfkpmmnennbaaQAllx14
import Derived.Test.YtlnfkpmmnennbaaExtA
namespace Go.Proofs.Ytlnfkpmmnennbaa.QAll
open Go.RowKit Go.Proofs.YtlnfkpmmnennbaaW.PrintWords Go.Proofs.YtlnfkpmmnennbaaW.PrintLast Go.Proofs.YtlnfkpmmnennbaaW.PrintMore
attribute [local go_sem] max2_int min2_int max_two min_two max_three min_three max_four min_four   -- for this text's walks alone
set_option linter.unusedVariables false
set_option linter.unusedSimpArgs false

/-! ### path_Match: function 47 -/
mutual
def path_Match.l0 : Nat → ByteArray → ByteArray → Option (Bool × Option Int)
  | 0, _, _ => none
  | k + 1, x0, x1 => if (x0.size : Int) > 0 then ((path_scanChunk.f k x0).bind fun bt197 => (if bt197.1 = true then (path_Match.j1 k bt197.2.2 x1 bt197.1 bt197.2.1 (bt197.2.1.toList.isEmpty)) else (path_Match.j1 k bt197.2.2 x1 bt197.1 bt197.2.1 false))) else (some (((x1.size : Int) == 0), none))
def path_Match.j1 : Nat → ByteArray → ByteArray → Bool → ByteArray → Bool → Option (Bool × Option Int)
  | 0, _, _, _, _, _ => none
  | k + 1, x0, x1, x6, x7, x31 => if x31 = true then ((bytealg_IndexByteString.f x1 47).bind fun t200 => (some (decide (t200 < 0), none))) else ((path_matchChunk.f k x7 x1).bind fun bt201 => (if bt201.2.1 = true then (if (bt201.1.size : Int) = 0 then (path_Match.j2 k x0 x1 x6 x7 bt201.1 bt201.2.2 true) else (path_Match.j2 k x0 x1 x6 x7 bt201.1 bt201.2.2 (decide ((x0.size : Int) > 0)))) else (path_Match.j2 k x0 x1 x6 x7 bt201.1 bt201.2.2 false)))
def path_Match.j2 : Nat → ByteArray → ByteArray → Bool → ByteArray → ByteArray → Option Int → Bool → Option (Bool × Option Int)
  | 0, _, _, _, _, _, _, _ => none
  | k + 1, x0, x1, x6, x7, x8, x10, x52 => if x52 = true then (path_Match.l0 k x0 x8) else (if x10.isNone = true then (if x6 = true then (path_Match.l1 k x0 x1 x7 0) else (path_Match.j6 k x0)) else (some (false, some (x10.getD 0))))
def path_Match.j6 : Nat → ByteArray → Option (Bool × Option Int)
  | 0, _ => none
  | k + 1, x0 => path_Match.l2 k x0
def path_Match.l2 : Nat → ByteArray → Option (Bool × Option Int)
  | 0, _ => none
  | k + 1, x0 => if (x0.size : Int) > 0 then ((path_scanChunk.f k x0).bind fun bt209 => ((path_matchChunk.f k bt209.2.1 (⟨#[]⟩ : ByteArray)).bind fun bt212 => (if bt212.2.2.isNone = true then (path_Match.l2 k bt209.2.2) else (some (false, some (bt212.2.2.getD 0)))))) else (some (false, none))
def path_Match.l1 : Nat → ByteArray → ByteArray → ByteArray → Int → Option (Bool × Option Int)
  | 0, _, _, _, _ => none
  | k + 1, x0, x1, x7, x11 => if x11 < (x1.size : Int) then (if 0 ≤ x11 then (path_Match.j4 k x0 x1 x7 x11 ((bt x1 x11) != 47)) else (none)) else (path_Match.j4 k x0 x1 x7 x11 false)
def path_Match.j4 : Nat → ByteArray → ByteArray → ByteArray → Int → Bool → Option (Bool × Option Int)
  | 0, _, _, _, _, _ => none
  | k + 1, x0, x1, x7, x11, x67 => if x67 = true then (if 0 ≤ (wrap64 (x11 + 1)) then (if (wrap64 (x11 + 1)) ≤ (x1.size : Int) then ((path_matchChunk.f k x7 (x1.extract ((wrap64 (x11 + 1)) : Int).toNat x1.size)).bind fun bt205 => (if bt205.2.1 = true then (if (x0.size : Int) = 0 then (path_Match.j5 k x0 x1 x7 x11 bt205.1 (decide ((bt205.1.size : Int) > 0))) else (path_Match.j5 k x0 x1 x7 x11 bt205.1 false)) else (if bt205.2.2.isNone = true then (path_Match.l1 k x0 x1 x7 (wrap64 (x11 + 1))) else (some (false, some (bt205.2.2.getD 0)))))) else (none)) else (none)) else (path_Match.j6 k x0)
def path_Match.j5 : Nat → ByteArray → ByteArray → ByteArray → Int → ByteArray → Bool → Option (Bool × Option Int)
  | 0, _, _, _, _, _, _ => none
  | k + 1, x0, x1, x7, x11, x12, x88 => if x88 = true then (path_Match.l1 k x0 x1 x7 (wrap64 (x11 + 1))) else (path_Match.l0 k x0 x12)
end
def path_Match.f (k : Nat) (a0 : ByteArray) (a1 : ByteArray) : Option (Bool × Option Int) := path_Match.l0 k a0 a1
theorem path_Match.mono_l : ∀ k, (∀ y0 y1, LeO (path_Match.l0 k y0 y1) (path_Match.l0 (k + 1) y0 y1)) ∧ (∀ y0 y1 y2 y3 y4, LeO (path_Match.j1 k y0 y1 y2 y3 y4) (path_Match.j1 (k + 1) y0 y1 y2 y3 y4)) ∧ (∀ y0 y1 y2 y3 y4 y5 y6, LeO (path_Match.j2 k y0 y1 y2 y3 y4 y5 y6) (path_Match.j2 (k + 1) y0 y1 y2 y3 y4 y5 y6)) ∧ (∀ y0, LeO (path_Match.j6 k y0) (path_Match.j6 (k + 1) y0)) ∧ (∀ y0, LeO (path_Match.l2 k y0) (path_Match.l2 (k + 1) y0)) ∧ (∀ y0 y1 y2 y3, LeO (path_Match.l1 k y0 y1 y2 y3) (path_Match.l1 (k + 1) y0 y1 y2 y3)) ∧ (∀ y0 y1 y2 y3 y4, LeO (path_Match.j4 k y0 y1 y2 y3 y4) (path_Match.j4 (k + 1) y0 y1 y2 y3 y4)) ∧ (∀ y0 y1 y2 y3 y4 y5, LeO (path_Match.j5 k y0 y1 y2 y3 y4 y5) (path_Match.j5 (k + 1) y0 y1 y2 y3 y4 y5))
  | 0 => ⟨fun _ _ r h => by simp [path_Match.l0] at h, fun _ _ _ _ _ r h => by simp [path_Match.j1] at h, fun _ _ _ _ _ _ _ r h => by simp [path_Match.j2] at h, fun _ r h => by simp [path_Match.j6] at h, fun _ r h => by simp [path_Match.l2] at h, fun _ _ _ _ r h => by simp [path_Match.l1] at h, fun _ _ _ _ _ r h => by simp [path_Match.j4] at h, fun _ _ _ _ _ _ r h => by simp [path_Match.j5] at h⟩
  | k + 1 => by
    obtain ⟨ih0, ih1, ih2, ih3, ih4, ih5, ih6, ih7⟩ := path_Match.mono_l k
    refine ⟨?_, ?_, ?_, ?_, ?_, ?_, ?_, ?_⟩
    · intro y0 y1
      unfold path_Match.l0
      repeat' first
      | (with_reducible exact ih0 _ _)
      | (with_reducible exact ih1 _ _ _ _ _)
      | (with_reducible exact ih2 _ _ _ _ _ _ _)
      | (with_reducible exact ih3 _)
      | (with_reducible exact ih4 _)
      | (with_reducible exact ih5 _ _ _ _)
      | (with_reducible exact ih6 _ _ _ _ _)
      | (with_reducible exact ih7 _ _ _ _ _ _)
      | (with_reducible exact path_matchChunk.mono _ _ _)
      | (with_reducible exact path_scanChunk.mono _ _)
      | (with_reducible exact LeO.refl _)
      | (with_reducible exact LeO.none _)
      | (with_reducible refine LeO.ite ?_ ?_)
      | (with_reducible refine LeO.bind ?_ (fun _ => ?_))
      | exact ih0 _ _
      | exact ih1 _ _ _ _ _
      | exact ih2 _ _ _ _ _ _ _
      | exact ih3 _
      | exact ih4 _
      | exact ih5 _ _ _ _
      | exact ih6 _ _ _ _ _
      | exact ih7 _ _ _ _ _ _
      | exact path_matchChunk.mono _ _ _
      | exact path_scanChunk.mono _ _
      | exact LeO.none _
      | refine LeO.ite ?_ ?_
      | refine LeO.bind ?_ (fun _ => ?_)
    · intro y0 y1 y2 y3 y4
      unfold path_Match.j1
      repeat' first
      | (with_reducible exact ih0 _ _)
      | (with_reducible exact ih1 _ _ _ _ _)
      | (with_reducible exact ih2 _ _ _ _ _ _ _)
      | (with_reducible exact ih3 _)
      | (with_reducible exact ih4 _)
      | (with_reducible exact ih5 _ _ _ _)
      | (with_reducible exact ih6 _ _ _ _ _)
      | (with_reducible exact ih7 _ _ _ _ _ _)
      | (with_reducible exact path_matchChunk.mono _ _ _)
      | (with_reducible exact path_scanChunk.mono _ _)
      | (with_reducible exact LeO.refl _)
      | (with_reducible exact LeO.none _)
      | (with_reducible refine LeO.ite ?_ ?_)
      | (with_reducible refine LeO.bind ?_ (fun _ => ?_))
      | exact ih0 _ _
      | exact ih1 _ _ _ _ _
      | exact ih2 _ _ _ _ _ _ _
      | exact ih3 _
      | exact ih4 _
      | exact ih5 _ _ _ _
      | exact ih6 _ _ _ _ _
      | exact ih7 _ _ _ _ _ _
      | exact path_matchChunk.mono _ _ _
      | exact path_scanChunk.mono _ _
      | exact LeO.none _
      | refine LeO.ite ?_ ?_
      | refine LeO.bind ?_ (fun _ => ?_)
    · intro y0 y1 y2 y3 y4 y5 y6
      unfold path_Match.j2
      repeat' first
      | (with_reducible exact ih0 _ _)
      | (with_reducible exact ih1 _ _ _ _ _)
      | (with_reducible exact ih2 _ _ _ _ _ _ _)
      | (with_reducible exact ih3 _)
      | (with_reducible exact ih4 _)
      | (with_reducible exact ih5 _ _ _ _)
      | (with_reducible exact ih6 _ _ _ _ _)
      | (with_reducible exact ih7 _ _ _ _ _ _)
      | (with_reducible exact path_matchChunk.mono _ _ _)
      | (with_reducible exact path_scanChunk.mono _ _)
      | (with_reducible exact LeO.refl _)
      | (with_reducible exact LeO.none _)
      | (with_reducible refine LeO.ite ?_ ?_)
      | (with_reducible refine LeO.bind ?_ (fun _ => ?_))
      | exact ih0 _ _
      | exact ih1 _ _ _ _ _
      | exact ih2 _ _ _ _ _ _ _
      | exact ih3 _
      | exact ih4 _
      | exact ih5 _ _ _ _
      | exact ih6 _ _ _ _ _
      | exact ih7 _ _ _ _ _ _
      | exact path_matchChunk.mono _ _ _
      | exact path_scanChunk.mono _ _
      | exact LeO.none _
      | refine LeO.ite ?_ ?_
      | refine LeO.bind ?_ (fun _ => ?_)
    · intro y0
      unfold path_Match.j6
      repeat' first
      | (with_reducible exact ih0 _ _)
      | (with_reducible exact ih1 _ _ _ _ _)
      | (with_reducible exact ih2 _ _ _ _ _ _ _)
      | (with_reducible exact ih3 _)
      | (with_reducible exact ih4 _)
      | (with_reducible exact ih5 _ _ _ _)
      | (with_reducible exact ih6 _ _ _ _ _)
      | (with_reducible exact ih7 _ _ _ _ _ _)
      | (with_reducible exact path_matchChunk.mono _ _ _)
      | (with_reducible exact path_scanChunk.mono _ _)
      | (with_reducible exact LeO.refl _)
      | (with_reducible exact LeO.none _)
      | (with_reducible refine LeO.ite ?_ ?_)
      | (with_reducible refine LeO.bind ?_ (fun _ => ?_))
      | exact ih0 _ _
      | exact ih1 _ _ _ _ _
      | exact ih2 _ _ _ _ _ _ _
      | exact ih3 _
      | exact ih4 _
      | exact ih5 _ _ _ _
      | exact ih6 _ _ _ _ _
      | exact ih7 _ _ _ _ _ _
      | exact path_matchChunk.mono _ _ _
      | exact path_scanChunk.mono _ _
      | exact LeO.none _
      | refine LeO.ite ?_ ?_
      | refine LeO.bind ?_ (fun _ => ?_)
    · intro y0
      unfold path_Match.l2
      repeat' first
      | (with_reducible exact ih0 _ _)
      | (with_reducible exact ih1 _ _ _ _ _)
      | (with_reducible exact ih2 _ _ _ _ _ _ _)
      | (with_reducible exact ih3 _)
      | (with_reducible exact ih4 _)
      | (with_reducible exact ih5 _ _ _ _)
      | (with_reducible exact ih6 _ _ _ _ _)
      | (with_reducible exact ih7 _ _ _ _ _ _)
      | (with_reducible exact path_matchChunk.mono _ _ _)
      | (with_reducible exact path_scanChunk.mono _ _)
      | (with_reducible exact LeO.refl _)
      | (with_reducible exact LeO.none _)
      | (with_reducible refine LeO.ite ?_ ?_)
      | (with_reducible refine LeO.bind ?_ (fun _ => ?_))
      | exact ih0 _ _
      | exact ih1 _ _ _ _ _
      | exact ih2 _ _ _ _ _ _ _
      | exact ih3 _
      | exact ih4 _
      | exact ih5 _ _ _ _
      | exact ih6 _ _ _ _ _
      | exact ih7 _ _ _ _ _ _
      | exact path_matchChunk.mono _ _ _
      | exact path_scanChunk.mono _ _
      | exact LeO.none _
      | refine LeO.ite ?_ ?_
      | refine LeO.bind ?_ (fun _ => ?_)
    · intro y0 y1 y2 y3
      unfold path_Match.l1
      repeat' first
      | (with_reducible exact ih0 _ _)
      | (with_reducible exact ih1 _ _ _ _ _)
      | (with_reducible exact ih2 _ _ _ _ _ _ _)
      | (with_reducible exact ih3 _)
      | (with_reducible exact ih4 _)
      | (with_reducible exact ih5 _ _ _ _)
      | (with_reducible exact ih6 _ _ _ _ _)
      | (with_reducible exact ih7 _ _ _ _ _ _)
      | (with_reducible exact path_matchChunk.mono _ _ _)
      | (with_reducible exact path_scanChunk.mono _ _)
      | (with_reducible exact LeO.refl _)
      | (with_reducible exact LeO.none _)
      | (with_reducible refine LeO.ite ?_ ?_)
      | (with_reducible refine LeO.bind ?_ (fun _ => ?_))
      | exact ih0 _ _
      | exact ih1 _ _ _ _ _
      | exact ih2 _ _ _ _ _ _ _
      | exact ih3 _
      | exact ih4 _
      | exact ih5 _ _ _ _
      | exact ih6 _ _ _ _ _
      | exact ih7 _ _ _ _ _ _
      | exact path_matchChunk.mono _ _ _
      | exact path_scanChunk.mono _ _
      | exact LeO.none _
      | refine LeO.ite ?_ ?_
      | refine LeO.bind ?_ (fun _ => ?_)
    · intro y0 y1 y2 y3 y4
      unfold path_Match.j4
      repeat' first
      | (with_reducible exact ih0 _ _)
      | (with_reducible exact ih1 _ _ _ _ _)
      | (with_reducible exact ih2 _ _ _ _ _ _ _)
      | (with_reducible exact ih3 _)
      | (with_reducible exact ih4 _)
      | (with_reducible exact ih5 _ _ _ _)
      | (with_reducible exact ih6 _ _ _ _ _)
      | (with_reducible exact ih7 _ _ _ _ _ _)
      | (with_reducible exact path_matchChunk.mono _ _ _)
      | (with_reducible exact path_scanChunk.mono _ _)
      | (with_reducible exact LeO.refl _)
      | (with_reducible exact LeO.none _)
      | (with_reducible refine LeO.ite ?_ ?_)
      | (with_reducible refine LeO.bind ?_ (fun _ => ?_))
      | exact ih0 _ _
      | exact ih1 _ _ _ _ _
      | exact ih2 _ _ _ _ _ _ _
      | exact ih3 _
      | exact ih4 _
      | exact ih5 _ _ _ _
      | exact ih6 _ _ _ _ _
      | exact ih7 _ _ _ _ _ _
      | exact path_matchChunk.mono _ _ _
      | exact path_scanChunk.mono _ _
      | exact LeO.none _
      | refine LeO.ite ?_ ?_
      | refine LeO.bind ?_ (fun _ => ?_)
    · intro y0 y1 y2 y3 y4 y5
      unfold path_Match.j5
      repeat' first
      | (with_reducible exact ih0 _ _)
      | (with_reducible exact ih1 _ _ _ _ _)
      | (with_reducible exact ih2 _ _ _ _ _ _ _)
      | (with_reducible exact ih3 _)
      | (with_reducible exact ih4 _)
      | (with_reducible exact ih5 _ _ _ _)
      | (with_reducible exact ih6 _ _ _ _ _)
      | (with_reducible exact ih7 _ _ _ _ _ _)
      | (with_reducible exact path_matchChunk.mono _ _ _)
      | (with_reducible exact path_scanChunk.mono _ _)
      | (with_reducible exact LeO.refl _)
      | (with_reducible exact LeO.none _)
      | (with_reducible refine LeO.ite ?_ ?_)
      | (with_reducible refine LeO.bind ?_ (fun _ => ?_))
      | exact ih0 _ _
      | exact ih1 _ _ _ _ _
      | exact ih2 _ _ _ _ _ _ _
      | exact ih3 _
      | exact ih4 _
      | exact ih5 _ _ _ _
      | exact ih6 _ _ _ _ _
      | exact ih7 _ _ _ _ _ _
      | exact path_matchChunk.mono _ _ _
      | exact path_scanChunk.mono _ _
      | exact LeO.none _
      | refine LeO.ite ?_ ?_
      | refine LeO.bind ?_ (fun _ => ?_)
theorem path_Match.mono : ∀ a0 a1 k, LeO (path_Match.f k a0 a1) (path_Match.f (k + 1) a0 a1) := by
  intro a0 a1 k
  obtain ⟨ih0, ih1, ih2, ih3, ih4, ih5, ih6, ih7⟩ := path_Match.mono_l k
  unfold path_Match.f
  repeat' first
      | (with_reducible exact ih0 _ _)
      | (with_reducible exact ih1 _ _ _ _ _)
      | (with_reducible exact ih2 _ _ _ _ _ _ _)
      | (with_reducible exact ih3 _)
      | (with_reducible exact ih4 _)
      | (with_reducible exact ih5 _ _ _ _)
      | (with_reducible exact ih6 _ _ _ _ _)
      | (with_reducible exact ih7 _ _ _ _ _ _)
      | (with_reducible exact path_matchChunk.mono _ _ _)
      | (with_reducible exact path_scanChunk.mono _ _)
      | (with_reducible exact LeO.refl _)
      | (with_reducible exact LeO.none _)
      | (with_reducible refine LeO.ite ?_ ?_)
      | (with_reducible refine LeO.bind ?_ (fun _ => ?_))
      | exact ih0 _ _
      | exact ih1 _ _ _ _ _
      | exact ih2 _ _ _ _ _ _ _
      | exact ih3 _
      | exact ih4 _
      | exact ih5 _ _ _ _
      | exact ih6 _ _ _ _ _
      | exact ih7 _ _ _ _ _ _
      | exact path_matchChunk.mono _ _ _
      | exact path_scanChunk.mono _ _
      | exact LeO.none _
      | refine LeO.ite ?_ ?_
      | refine LeO.bind ?_ (fun _ => ?_)
set_option maxHeartbeats 8000000 in
set_option maxRecDepth 100000 in
theorem path_Match.calls (k : Nat) (a0 : ByteArray) (a1 : ByteArray) (r1 : Bool) (r2 : Option Int) (w : World) (h : path_Match.f k a0 a1 = some (r1, r2)) :
    Calls Try.prog 47 #[.string a0, .string a1] w fun e w' => e = .returned (.tuple #[.bool r1, errW r2]) ∧ Below w.heap.size w w' := by
  have hu74 := Try.underlying74
  have HB := Aside0.mk (Below.refl w.heap.size w)
  have H : (path_Match.l0 k a0 a1) = some (r1, r2) := h
  clear h
  have H' := Aside0.mk H
  clear H
  go_enter Try.func47, Try.ntmps47
  try go_wp2
  go_step3
  try go_wp2
  go_step3
  go_wp2
  go_loopg [0, 1] k (fun kq v0 v1 w' => ∃ (x0_1 : ByteArray) (x1_1 : ByteArray), v0 = .string x0_1 ∧ v1 = .string x1_1 ∧ Aside0 (path_Match.l0 kq x0_1 x1_1 = some (r1, r2)) ∧ Aside0 (kq ≤ k) ∧ Aside0 (Below w.heap.size w w'))
  case atStart => exact ⟨(a0), (a1), (by first | rfl | (simp; done) | (simp [*]; done)), (by first | rfl | (simp; done) | (simp [*]; done)), H', ⟨Nat.le_refl _⟩, ⟨by repeat (first | (with_reducible first | exact HB.out | apply below_alloc | apply pw_below_drewN | apply below_drew1) | exact HB.out)⟩⟩
  case round =>
    clear H'
    try clear p2
    obtain ⟨x0_1, x1_1, rfl, rfl, HA, HK1, HB⟩ := hrel
    cases gk with
    | zero => exact absurd HA.out (by simp [path_Match.l0])
    | succ k1 =>
      have H := HA.out
      clear HA
      simp only [path_Match.l0] at H
      by_cases c3 : (x0_1.size : Int) > 0
      · rw [if_pos c3] at H
        have c3b0 : decide (0 < (x0_1.size : Int)) = true := decide_eq_true c3
        have c3b1 : decide (0 < x0_1.size) = true := decide_eq_true (by omega)
        clear c3
        replace H := Option.bind_eq_some_iff.mp H
        obtain ⟨⟨t197, t198, t199⟩, A40, H⟩ := H
        replace H : (if t197 = true then (path_Match.j1 k1 t199 x1_1 t197 t198 (t198.toList.isEmpty)) else (path_Match.j1 k1 t199 x1_1 t197 t198 false)) = some (r1, r2) := H
        have A4 := Aside0.mk A40
        clear A40
        have HC5 := Aside0.mk H
        clear H
        go_upto_region 5 with (first | ((with_reducible refine gate_callee (f := 48) rfl ?_); refine goesL_ (some 23) rfl rfl Try.func48 (by kernel_rfl) rfl #[.string x0_1] rfl (by (try simp only [List.map_toArray, List.map_cons, List.map_nil]); first | done | rfl | (simp only [List.length_drop, List.length_take]; rfl)) ?_; (with_reducible refine (path_scanChunk.calls k1 x0_1 t197 t198 t199 _ A4.out).mono ?_); rintro e w' ⟨rfl, ⟨nd, rfl⟩⟩; refine ⟨_, rfl, ?_⟩))
        (try simp only [Act.put, List.setIfInBounds_toArray, List.set_cons_zero, List.set_cons_succ])
        go_cut [31] (fun v31 wc => ∃ (kq : Nat) (x31_4 : Bool), v31 = .bool x31_4 ∧ Aside0 (path_Match.j1 kq t199 x1_1 t197 t198 x31_4 = some (r1, r2)) ∧ Aside0 (kq ≤ k1) ∧ Aside0 (Below w.heap.size w wc))
        case first =>
          have H := HC5.out
          clear HC5
          by_cases c6 : t197 = true
          · subst c6
            have H1 : (path_Match.j1 k1 t199 x1_1 true t198 (t198.toList.isEmpty)) = some (r1, r2) := by rw [if_pos rfl] at H; exact H
            clear H
            have H := H1
            clear H1
            have H' := Aside0.mk H
            clear H
            go_wp2
            go_meet
            case rel => exact ⟨_, ((t198.toList.isEmpty)), (by first | rfl | (simp; done) | (simp [*]; done)), H', ⟨by have := HK1.out; first | omega | exact Nat.le_refl _⟩, ⟨by repeat (first | (with_reducible first | exact HB.out | apply below_alloc | apply pw_below_drewN | apply below_drew1) | exact HB.out)⟩⟩
          · replace c6 := Bool.eq_false_iff.mpr c6
            subst c6
            have H1 : (path_Match.j1 k1 t199 x1_1 false t198 false) = some (r1, r2) := by rw [if_neg (show ¬ (false = true) by decide)] at H; exact H
            clear H
            have H := H1
            clear H1
            have H' := Aside0.mk H
            clear H
            go_wp2
            go_meet
            case rel => exact ⟨_, (false), (by first | rfl | (simp; done) | (simp [*]; done)), H', ⟨by have := HK1.out; first | omega | exact Nat.le_refl _⟩, ⟨by repeat (first | (with_reducible first | exact HB.out | apply below_alloc | apply pw_below_drewN | apply below_drew1) | exact HB.out)⟩⟩
        case rest =>
          clear HC5
          try clear p2
          try clear c3
          try clear c3b0
          try clear c3b1
          try clear p3
          try clear c4
          try clear c6
          try clear p2
          obtain ⟨kq, x31_4, rfl, HA, HJ4, HB⟩ := hcut
          cases kq with
          | zero => exact absurd HA.out (by simp [path_Match.j1])
          | succ kj4 =>
            have H := HA.out
            clear HA
            simp only [path_Match.j1] at H
            by_cases c7 : x31_4 = true
            · subst c7
              have H1 : ((bytealg_IndexByteString.f x1_1 47).bind fun t200 => (some (decide (t200 < 0), none))) = some (r1, r2) := by rw [if_pos rfl] at H; exact H
              clear H
              have H := H1
              clear H1
              replace H := Option.bind_eq_some_iff.mp H
              obtain ⟨t200, A80, H⟩ := H
              replace H : (some (decide (t200 < 0), none)) = some (r1, r2) := H
              have A8 := Aside0.mk A80
              clear A80
              simp only [Option.some.injEq, Prod.mk.injEq] at H
              obtain ⟨rfl, rfl⟩ := H
              go_wp2_with (first | ((with_reducible refine gate_callee (f := 49) rfl ?_); refine goesV_ (some 33) rfl rfl #[.string x1_1, .int .u8 47] rfl (by (try simp only [List.map_toArray, List.map_cons, List.map_nil]); first | done | rfl | (simp only [List.length_drop, List.length_take]; rfl)) (bytealg_IndexByteString.run x1_1 47 t200 _ A8.out) ?_))
              (try rw [Exit.noGoto_ret]); go_ret2
              exact ⟨by first | rfl | (simp [errW_none, errW_some] <;> rfl) | (simp [*, errW_none, errW_some] <;> rfl), by repeat (first | (with_reducible first | exact HB.out | apply below_alloc | apply pw_below_drewN | apply below_drew1) | exact HB.out)⟩
            · replace c7 := Bool.eq_false_iff.mpr c7
              subst c7
              have H1 : ((path_matchChunk.f kj4 t198 x1_1).bind fun bt201 => (if bt201.2.1 = true then (if (bt201.1.size : Int) = 0 then (path_Match.j2 kj4 t199 x1_1 t197 t198 bt201.1 bt201.2.2 true) else (path_Match.j2 kj4 t199 x1_1 t197 t198 bt201.1 bt201.2.2 (decide ((t199.size : Int) > 0)))) else (path_Match.j2 kj4 t199 x1_1 t197 t198 bt201.1 bt201.2.2 false))) = some (r1, r2) := by rw [if_neg (show ¬ (false = true) by decide)] at H; exact H
              clear H
              have H := H1
              clear H1
              replace H := Option.bind_eq_some_iff.mp H
              obtain ⟨⟨t201, t202, t203⟩, A90, H⟩ := H
              replace H : (if t202 = true then (if (t201.size : Int) = 0 then (path_Match.j2 kj4 t199 x1_1 t197 t198 t201 t203 true) else (path_Match.j2 kj4 t199 x1_1 t197 t198 t201 t203 (decide ((t199.size : Int) > 0)))) else (path_Match.j2 kj4 t199 x1_1 t197 t198 t201 t203 false)) = some (r1, r2) := H
              have A9 := Aside0.mk A90
              clear A90
              have HC10 := Aside0.mk H
              clear H
              go_upto_region 8 with (first | ((with_reducible refine gate_callee (f := 50) rfl ?_); refine goesL_ (some 38) rfl rfl Try.func50 (by kernel_rfl) rfl #[.string t198, .string x1_1] rfl (by (try simp only [List.map_toArray, List.map_cons, List.map_nil]); first | done | rfl | (simp only [List.length_drop, List.length_take]; rfl)) ?_; (with_reducible refine (path_matchChunk.calls kj4 t198 x1_1 t201 t202 t203 _ A9.out).mono ?_); rintro e w11 ⟨rfl, hb⟩; refine ⟨_, rfl, ?_⟩; have n0_ := Aside0.mk (below_step (by repeat (first | (with_reducible first | exact HB.out | apply below_alloc | apply pw_below_drewN | apply below_drew1) | exact HB.out)) hb); clear HB; have HB := n0_; clear n0_; (try clear hb); (try clear hb2); (try clear hk); (try clear hi); (try simp only [errW_none, errW_some])))
              (try simp only [Act.put, List.setIfInBounds_toArray, List.set_cons_zero, List.set_cons_succ])
              go_cut [52] (fun v52 wc => ∃ (kq : Nat) (x52_9 : Bool), v52 = .bool x52_9 ∧ Aside0 (path_Match.j2 kq t199 x1_1 t197 t198 t201 t203 x52_9 = some (r1, r2)) ∧ Aside0 (kq ≤ kj4) ∧ Aside0 (Below w.heap.size w wc))
              case first =>
                have H := HC10.out
                clear HC10
                by_cases c12 : t202 = true
                · subst c12
                  have H1 : (if (t201.size : Int) = 0 then (path_Match.j2 kj4 t199 x1_1 t197 t198 t201 t203 true) else (path_Match.j2 kj4 t199 x1_1 t197 t198 t201 t203 (decide ((t199.size : Int) > 0)))) = some (r1, r2) := by rw [if_pos rfl] at H; exact H
                  clear H
                  have H := H1
                  clear H1
                  by_cases c13 : (t201.size : Int) = 0
                  · rw [if_pos c13] at H
                    have c13b0 : ((t201.size : Int) == 0) = true := beq_iff_eq.mpr c13
                    have c13b1 : ((t201.size : Int) != 0) = false := bne_eq_false_iff_eq.mpr c13
                    clear c13
                    (first | rw [c13b0] | (simp only [i64_w, i32_w]; rw [c13b0]) | skip)
                    have H' := Aside0.mk H
                    clear H
                    go_wp2
                    go_meet
                    case rel => exact ⟨_, (true), (by first | rfl | (simp; done) | (simp [*]; done)), H', ⟨by have := HK1.out; have := HJ4.out; first | omega | exact Nat.le_refl _⟩, ⟨by repeat (first | (with_reducible first | exact HB.out | apply below_alloc | apply pw_below_drewN | apply below_drew1) | exact HB.out)⟩⟩
                  · rw [if_neg c13] at H
                    have c13b0 : ((t201.size : Int) == 0) = false := beq_eq_false_iff_ne.mpr c13
                    have c13b1 : ((t201.size : Int) != 0) = true := bne_iff_ne.mpr c13
                    (first | rw [c13b0] | (simp only [i64_w, i32_w]; rw [c13b0]) | skip)
                    have H' := Aside0.mk H
                    clear H
                    go_wp2
                    go_meet
                    case rel => exact ⟨_, (decide ((t199.size : Int) > 0)), (by first | rfl | (simp; done) | (simp [*]; done)), H', ⟨by have := HK1.out; have := HJ4.out; first | omega | exact Nat.le_refl _⟩, ⟨by repeat (first | (with_reducible first | exact HB.out | apply below_alloc | apply pw_below_drewN | apply below_drew1) | exact HB.out)⟩⟩
                · replace c12 := Bool.eq_false_iff.mpr c12
                  subst c12
                  have H1 : (path_Match.j2 kj4 t199 x1_1 t197 t198 t201 t203 false) = some (r1, r2) := by rw [if_neg (show ¬ (false = true) by decide)] at H; exact H
                  clear H
                  have H := H1
                  clear H1
                  have H' := Aside0.mk H
                  clear H
                  go_wp2
                  go_meet
                  case rel => exact ⟨_, (false), (by first | rfl | (simp; done) | (simp [*]; done)), H', ⟨by have := HK1.out; have := HJ4.out; first | omega | exact Nat.le_refl _⟩, ⟨by repeat (first | (with_reducible first | exact HB.out | apply below_alloc | apply pw_below_drewN | apply below_drew1) | exact HB.out)⟩⟩
              case rest =>
                clear HC10
                try clear c1
                try clear p2
                try clear c3
                try clear c3b0
                try clear c3b1
                try clear p3
                try clear c4
                try clear c5
                try clear c6
                try clear c7
                try clear c12
                try clear c13
                try clear c13b0
                try clear c13b1
                try clear p2
                try clear p3
                obtain ⟨kq, x52_9, rfl, HA, HJ9, HB⟩ := hcut
                cases kq with
                | zero => exact absurd HA.out (by simp [path_Match.j2])
                | succ kj9 =>
                  have H := HA.out
                  clear HA
                  simp only [path_Match.j2] at H
                  by_cases c14 : x52_9 = true
                  · subst c14
                    have H1 : (path_Match.l0 kj9 t199 t201) = some (r1, r2) := by rw [if_pos rfl] at H; exact H
                    clear H
                    have H := H1
                    clear H1
                    have H' := Aside0.mk H
                    clear H
                    go_wp2
                    go_roundg kj9
                    case measure => have := HK1.out; have := HJ4.out; have := HJ9.out; omega
                    case rel => exact ⟨(t199), (t201), (by first | rfl | (simp; done) | (simp [*]; done)), (by first | rfl | (simp; done) | (simp [*]; done)), H', ⟨by have := HK1.out; have := HJ4.out; have := HJ9.out; omega⟩, ⟨by repeat (first | (with_reducible first | exact HB.out | apply below_alloc | apply pw_below_drewN | apply below_drew1) | exact HB.out)⟩⟩
                  · replace c14 := Bool.eq_false_iff.mpr c14
                    subst c14
                    have H1 : (if t203.isNone = true then (if t197 = true then (path_Match.l1 kj9 t199 x1_1 t198 0) else (path_Match.j6 kj9 t199)) else (some (false, some (t203.getD 0)))) = some (r1, r2) := by rw [if_neg (show ¬ (false = true) by decide)] at H; exact H
                    clear H
                    have H := H1
                    clear H1
                    rcases t203 with _ | q204
                    · have H1 : (if t197 = true then (path_Match.l1 kj9 t199 x1_1 t198 0) else (path_Match.j6 kj9 t199)) = some (r1, r2) := by rw [if_pos (show (none : Option Int).isNone = true by rfl)] at H; exact H
                      clear H
                      have H := H1
                      clear H1
                      try simp only [errW_none, errW_some]
                      have HC15 := Aside0.mk H
                      clear H
                      go_upto_if 57 with (fail)
                      go_cut [] (fun wc => ∃ (kq : Nat), Aside0 (path_Match.j6 kq t199 = some (r1, r2)) ∧ Aside0 (kq ≤ kj9) ∧ Aside0 (Below w.heap.size w wc))
                      case first =>
                        have H := HC15.out
                        clear HC15
                        by_cases c16 : t197 = true
                        · subst c16
                          have H1 : (path_Match.l1 kj9 t199 x1_1 t198 0) = some (r1, r2) := by rw [if_pos rfl] at H; exact H
                          clear H
                          have H := H1
                          clear H1
                          have H' := Aside0.mk H
                          clear H
                          go_wp2
                          go_loopg [1, 11] kj9 (fun kq v1 v11 w' => ∃ (x1_4 : ByteArray) (x11_4 : Int), v1 = .string x1_4 ∧ v11 = .int .i64 x11_4 ∧ Aside0 (path_Match.l1 kq t199 x1_4 t198 x11_4 = some (r1, r2)) ∧ Aside0 (kq ≤ kj9) ∧ Aside0 (Below w.heap.size w w'))
                          case atStart => exact ⟨(x1_1), (0), (by first | rfl | (simp; done) | (simp [*]; done)), (by first | rfl | (simp; done) | (simp [*]; done)), H', ⟨Nat.le_refl _⟩, ⟨by repeat (first | (with_reducible first | exact HB.out | apply below_alloc | apply pw_below_drewN | apply below_drew1) | exact HB.out)⟩⟩
                          case round =>
                            clear H'
                            try clear c1
                            try clear p2
                            try clear q2
                            try clear c3
                            try clear c3b0
                            try clear c3b1
                            try clear p3
                            try clear c4
                            try clear c5
                            try clear c6
                            try clear c7
                            try clear c12
                            try clear c13
                            try clear c13b0
                            try clear c13b1
                            try clear c14
                            try clear c16
                            try clear p2
                            try clear p3
                            try clear q204
                            obtain ⟨x1_4, x11_4, rfl, rfl, HA, HK4, HB⟩ := hrel
                            cases gk with
                            | zero => exact absurd HA.out (by simp [path_Match.l1])
                            | succ k4 =>
                              have H := HA.out
                              clear HA
                              simp only [path_Match.l1] at H
                              have HC17 := Aside0.mk H
                              clear H
                              go_upto_region 14 with (fail)
                              go_cut [67] (fun v67 wc => ∃ (kq : Nat) (x67_16 : Bool), v67 = .bool x67_16 ∧ Aside0 (path_Match.j4 kq t199 x1_4 t198 x11_4 x67_16 = some (r1, r2)) ∧ Aside0 (kq ≤ k4) ∧ Aside0 (Below w.heap.size w wc))
                              case first =>
                                have H := HC17.out
                                clear HC17
                                by_cases c18 : x11_4 < (x1_4.size : Int)
                                · rw [if_pos c18] at H
                                  have c18b0 : decide (x11_4 < (x1_4.size : Int)) = true := decide_eq_true c18
                                  clear c18
                                  (first | rw [c18b0] | (simp only [i64_w, i32_w]; rw [c18b0]) | skip)
                                  by_cases c19 : 0 ≤ x11_4
                                  · rw [if_pos c19] at H
                                    have c19b0 : decide (0 ≤ x11_4) = true := decide_eq_true c19
                                    clear c19
                                    have H' := Aside0.mk H
                                    clear H
                                    have p20 : 0 ≤ (x11_4 : Int) := of_decide_eq_true (by first | (with_reducible assumption) | assumption)
                                    have q20 : x11_4 < (x1_4.size : Int) := of_decide_eq_true (by first | (with_reducible assumption) | assumption)
                                    have hx20 := bt_at x1_4 x11_4
                                    replace p20 := eq_true p20
                                    replace q20 := eq_true q20
                                    go_wp2
                                    go_meet
                                    case rel => exact ⟨_, (((bt x1_4 x11_4) != 47)), (by first | rfl | (simp; done) | (simp [*]; done)), H', ⟨by have := HK1.out; have := HJ4.out; have := HJ9.out; have := HK4.out; first | omega | exact Nat.le_refl _⟩, ⟨by repeat (first | (with_reducible first | exact HB.out | apply below_alloc | apply pw_below_drewN | apply below_drew1) | exact HB.out)⟩⟩
                                  · rw [if_neg c19] at H
                                    exact absurd H (by simp)
                                · rw [if_neg c18] at H
                                  have c18b0 : decide (x11_4 < (x1_4.size : Int)) = false := decide_eq_false c18
                                  clear c18
                                  (first | rw [c18b0] | (simp only [i64_w, i32_w]; rw [c18b0]) | skip)
                                  have H' := Aside0.mk H
                                  clear H
                                  go_wp2
                                  go_meet
                                  case rel => exact ⟨_, (false), (by first | rfl | (simp; done) | (simp [*]; done)), H', ⟨by have := HK1.out; have := HJ4.out; have := HJ9.out; have := HK4.out; first | omega | exact Nat.le_refl _⟩, ⟨by repeat (first | (with_reducible first | exact HB.out | apply below_alloc | apply pw_below_drewN | apply below_drew1) | exact HB.out)⟩⟩
                              case rest =>
                                clear HC17
                                try clear c1
                                try clear p2
                                try clear q2
                                try clear hx2
                                try clear c3
                                try clear c3b0
                                try clear c3b1
                                try clear p3
                                try clear c4
                                try clear c5
                                try clear c6
                                try clear c7
                                try clear c12
                                try clear c13
                                try clear c13b0
                                try clear c13b1
                                try clear c14
                                try clear c16
                                try clear c18
                                try clear c18b0
                                try clear c19
                                try clear c19b0
                                try clear p20
                                try clear q20
                                try clear hx20
                                try clear p2
                                try clear p20
                                try clear p3
                                try clear q2
                                try clear q20
                                try clear q204
                                obtain ⟨kq, x67_16, rfl, HA, HJ16, HB⟩ := hcut
                                cases kq with
                                | zero => exact absurd HA.out (by simp [path_Match.j4])
                                | succ kj16 =>
                                  have H := HA.out
                                  clear HA
                                  simp only [path_Match.j4] at H
                                  by_cases c21 : x67_16 = true
                                  · subst c21
                                    have H1 : (if 0 ≤ (wrap64 (x11_4 + 1)) then (if (wrap64 (x11_4 + 1)) ≤ (x1_4.size : Int) then ((path_matchChunk.f kj16 t198 (x1_4.extract ((wrap64 (x11_4 + 1)) : Int).toNat x1_4.size)).bind fun bt205 => (if bt205.2.1 = true then (if (t199.size : Int) = 0 then (path_Match.j5 kj16 t199 x1_4 t198 x11_4 bt205.1 (decide ((bt205.1.size : Int) > 0))) else (path_Match.j5 kj16 t199 x1_4 t198 x11_4 bt205.1 false)) else (if bt205.2.2.isNone = true then (path_Match.l1 kj16 t199 x1_4 t198 (wrap64 (x11_4 + 1))) else (some (false, some (bt205.2.2.getD 0)))))) else (none)) else (none)) = some (r1, r2) := by rw [if_pos rfl] at H; exact H
                                    clear H
                                    have H := H1
                                    clear H1
                                    obtain ⟨ji22, hji22⟩ : ∃ j_ : Int, (wrap64 (x11_4 + 1)) = j_ := ⟨_, rfl⟩
                                    replace H : (if 0 ≤ (ji22) then (if (ji22) ≤ (x1_4.size : Int) then ((path_matchChunk.f kj16 t198 (x1_4.extract ((ji22) : Int).toNat x1_4.size)).bind fun bt205 => (if bt205.2.1 = true then (if (t199.size : Int) = 0 then (path_Match.j5 kj16 t199 x1_4 t198 x11_4 bt205.1 (decide ((bt205.1.size : Int) > 0))) else (path_Match.j5 kj16 t199 x1_4 t198 x11_4 bt205.1 false)) else (if bt205.2.2.isNone = true then (path_Match.l1 kj16 t199 x1_4 t198 ji22) else (some (false, some (bt205.2.2.getD 0)))))) else (none)) else (none)) = some (r1, r2) := by first | (rw [hji22] at H; exact H) | (simp only [hji22] at H ⊢; exact H)
                                    have hji22w : (IntKind.i64.wrap (x11_4 + 1)) = ji22 := (i64_w _).trans hji22
                                    by_cases c23 : 0 ≤ (ji22)
                                    · rw [if_pos c23] at H
                                      have c23b0 := eq_true c23
                                      have c23b1 : decide (0 ≤ (ji22)) = true := decide_eq_true c23
                                      clear c23
                                      by_cases c24 : (ji22) ≤ (x1_4.size : Int)
                                      · rw [if_pos c24] at H
                                        have c24b0 := eq_true c24
                                        have c24b1 : decide ((ji22) ≤ (x1_4.size : Int)) = true := decide_eq_true c24
                                        clear c24
                                        replace H := Option.bind_eq_some_iff.mp H
                                        obtain ⟨⟨t205, t206, t207⟩, A250, H⟩ := H
                                        replace H : (if t206 = true then (if (t199.size : Int) = 0 then (path_Match.j5 kj16 t199 x1_4 t198 x11_4 t205 (decide ((t205.size : Int) > 0))) else (path_Match.j5 kj16 t199 x1_4 t198 x11_4 t205 false)) else (if t207.isNone = true then (path_Match.l1 kj16 t199 x1_4 t198 ji22) else (some (false, some (t207.getD 0))))) = some (r1, r2) := H
                                        have A25 := Aside0.mk A250
                                        clear A250
                                        by_cases c26 : t206 = true
                                        · subst c26
                                          have H1 : (if (t199.size : Int) = 0 then (path_Match.j5 kj16 t199 x1_4 t198 x11_4 t205 (decide ((t205.size : Int) > 0))) else (path_Match.j5 kj16 t199 x1_4 t198 x11_4 t205 false)) = some (r1, r2) := by rw [if_pos rfl] at H; exact H
                                          clear H
                                          have H := H1
                                          clear H1
                                          have HC27 := Aside0.mk H
                                          clear H
                                          go_upto_region 18 with (first | ((with_reducible refine gate_callee (f := 50) rfl ?_); refine goesL_ (some 76) rfl rfl Try.func50 (by kernel_rfl) rfl #[.string t198, .string (x1_4.extract ((ji22) : Int).toNat x1_4.size)] rfl (by (try simp only [List.map_toArray, List.map_cons, List.map_nil]); first | done | (simp only [hji22]; rfl) | rfl | (simp only [List.length_drop, List.length_take]; rfl)) ?_; (with_reducible refine (path_matchChunk.calls kj16 t198 (x1_4.extract ((ji22) : Int).toNat x1_4.size) t205 true t207 _ A25.out).mono ?_); rintro e w28 ⟨rfl, hb⟩; refine ⟨_, rfl, ?_⟩; have n0_ := Aside0.mk (below_step (by repeat (first | (with_reducible first | exact HB.out | apply below_alloc | apply pw_below_drewN | apply below_drew1) | exact HB.out)) hb); clear HB; have HB := n0_; clear n0_; (try clear hb); (try clear hb2); (try clear hk); (try clear hi); (try simp only [errW_none, errW_some])))
                                          (try simp only [Act.put, List.setIfInBounds_toArray, List.set_cons_zero, List.set_cons_succ])
                                          go_cut [88] (fun v88 wc => ∃ (kq : Nat) (x88_26 : Bool), v88 = .bool x88_26 ∧ Aside0 (path_Match.j5 kq t199 x1_4 t198 x11_4 t205 x88_26 = some (r1, r2)) ∧ Aside0 (kq ≤ kj16) ∧ Aside0 (Below w.heap.size w wc))
                                          case first =>
                                            have H := HC27.out
                                            clear HC27
                                            by_cases c29 : (t199.size : Int) = 0
                                            · rw [if_pos c29] at H
                                              have c29b0 : ((t199.size : Int) == 0) = true := beq_iff_eq.mpr c29
                                              have c29b1 : ((t199.size : Int) != 0) = false := bne_eq_false_iff_eq.mpr c29
                                              clear c29
                                              (first | rw [c29b0] | (simp only [i64_w, i32_w]; rw [c29b0]) | skip)
                                              have H' := Aside0.mk H
                                              clear H
                                              go_wp2
                                              go_meet
                                              case rel => exact ⟨_, (decide ((t205.size : Int) > 0)), (by first | rfl | (simp; done) | (simp [*]; done)), H', ⟨by have := HK1.out; have := HJ4.out; have := HJ9.out; have := HK4.out; have := HJ16.out; first | omega | exact Nat.le_refl _⟩, ⟨by repeat (first | (with_reducible first | exact HB.out | apply below_alloc | apply pw_below_drewN | apply below_drew1) | exact HB.out)⟩⟩
                                            · rw [if_neg c29] at H
                                              have c29b0 : ((t199.size : Int) == 0) = false := beq_eq_false_iff_ne.mpr c29
                                              have c29b1 : ((t199.size : Int) != 0) = true := bne_iff_ne.mpr c29
                                              (first | rw [c29b0] | (simp only [i64_w, i32_w]; rw [c29b0]) | skip)
                                              have H' := Aside0.mk H
                                              clear H
                                              go_wp2
                                              go_meet
                                              case rel => exact ⟨_, (false), (by first | rfl | (simp; done) | (simp [*]; done)), H', ⟨by have := HK1.out; have := HJ4.out; have := HJ9.out; have := HK4.out; have := HJ16.out; first | omega | exact Nat.le_refl _⟩, ⟨by repeat (first | (with_reducible first | exact HB.out | apply below_alloc | apply pw_below_drewN | apply below_drew1) | exact HB.out)⟩⟩
                                          case rest =>
                                            clear HC27
                                            try clear c1
                                            try clear c2
                                            try clear p2
                                            try clear q2
                                            try clear hx2
                                            try clear c3
                                            try clear c3b0
                                            try clear c3b1
                                            try clear p3
                                            try clear c4
                                            try clear c5
                                            try clear c6
                                            try clear p6
                                            try clear c7
                                            try clear c12
                                            try clear c13
                                            try clear c13b0
                                            try clear c13b1
                                            try clear c14
                                            try clear c16
                                            try clear c18
                                            try clear c18b0
                                            try clear c19
                                            try clear c19b0
                                            try clear p20
                                            try clear q20
                                            try clear hx20
                                            try clear c21
                                            try clear c23
                                            try clear c23b0
                                            try clear c23b1
                                            try clear c24
                                            try clear c24b0
                                            try clear c24b1
                                            try clear c26
                                            try clear c29
                                            try clear c29b0
                                            try clear c29b1
                                            try clear p2
                                            try clear p20
                                            try clear p3
                                            try clear q2
                                            try clear q20
                                            try clear q204
                                            obtain ⟨kq, x88_26, rfl, HA, HJ26, HB⟩ := hcut
                                            cases kq with
                                            | zero => exact absurd HA.out (by simp [path_Match.j5])
                                            | succ kj26 =>
                                              have H := HA.out
                                              clear HA
                                              simp only [path_Match.j5] at H
                                              by_cases c30 : x88_26 = true
                                              · subst c30
                                                have H1 : (path_Match.l1 kj26 t199 x1_4 t198 (wrap64 (x11_4 + 1))) = some (r1, r2) := by rw [if_pos rfl] at H; exact H
                                                clear H
                                                have H := H1
                                                clear H1
                                                have H' := Aside0.mk H
                                                clear H
                                                go_wp2
                                                go_roundg kj26
                                                case measure => have := HK1.out; have := HJ4.out; have := HJ9.out; have := HK4.out; have := HJ16.out; have := HJ26.out; omega
                                                case rel => exact ⟨(x1_4), (wrap64 (x11_4 + 1)), (by first | rfl | (simp; done) | (simp [*]; done)), (by first | rfl | (simp; done) | (simp [*]; done)), H', ⟨by have := HK1.out; have := HJ4.out; have := HJ9.out; have := HK4.out; have := HJ16.out; have := HJ26.out; omega⟩, ⟨by repeat (first | (with_reducible first | exact HB.out | apply below_alloc | apply pw_below_drewN | apply below_drew1) | exact HB.out)⟩⟩
                                              · replace c30 := Bool.eq_false_iff.mpr c30
                                                subst c30
                                                have H1 : (path_Match.l0 kj26 t199 t205) = some (r1, r2) := by rw [if_neg (show ¬ (false = true) by decide)] at H; exact H
                                                clear H
                                                have H := H1
                                                clear H1
                                                have H' := Aside0.mk H
                                                clear H
                                                go_wp2
                                                go_roundg kj26
                                                case measure => have := HK1.out; have := HJ4.out; have := HJ9.out; have := HK4.out; have := HJ16.out; have := HJ26.out; omega
                                                case rel => exact ⟨(t199), (t205), (by first | rfl | (simp; done) | (simp [*]; done)), (by first | rfl | (simp; done) | (simp [*]; done)), H', ⟨by have := HK1.out; have := HJ4.out; have := HJ9.out; have := HK4.out; have := HJ16.out; have := HJ26.out; omega⟩, ⟨by repeat (first | (with_reducible first | exact HB.out | apply below_alloc | apply pw_below_drewN | apply below_drew1) | exact HB.out)⟩⟩
                                        · replace c26 := Bool.eq_false_iff.mpr c26
                                          subst c26
                                          have H1 : (if t207.isNone = true then (path_Match.l1 kj16 t199 x1_4 t198 ji22) else (some (false, some (t207.getD 0)))) = some (r1, r2) := by rw [if_neg (show ¬ (false = true) by decide)] at H; exact H
                                          clear H
                                          have H := H1
                                          clear H1
                                          rcases t207 with _ | q208
                                          · have H1 : (path_Match.l1 kj16 t199 x1_4 t198 ji22) = some (r1, r2) := by rw [if_pos (show (none : Option Int).isNone = true by rfl)] at H; exact H
                                            clear H
                                            have H := H1
                                            clear H1
                                            try simp only [errW_none, errW_some]
                                            have H' := Aside0.mk H
                                            clear H
                                            go_wp2_with (first | ((with_reducible refine gate_callee (f := 50) rfl ?_); refine goesL_ (some 76) rfl rfl Try.func50 (by kernel_rfl) rfl #[.string t198, .string (x1_4.extract ((ji22) : Int).toNat x1_4.size)] rfl (by (try simp only [List.map_toArray, List.map_cons, List.map_nil]); first | done | (simp only [hji22]; rfl) | rfl | (simp only [List.length_drop, List.length_take]; rfl)) ?_; (with_reducible refine (path_matchChunk.calls kj16 t198 (x1_4.extract ((ji22) : Int).toNat x1_4.size) t205 false none _ A25.out).mono ?_); rintro e w31 ⟨rfl, hb⟩; refine ⟨_, rfl, ?_⟩; have n0_ := Aside0.mk (below_step (by repeat (first | (with_reducible first | exact HB.out | apply below_alloc | apply pw_below_drewN | apply below_drew1) | exact HB.out)) hb); clear HB; have HB := n0_; clear n0_; (try clear hb); (try clear hb2); (try clear hk); (try clear hi); (try simp only [errW_none, errW_some])))
                                            go_roundg kj16
                                            case measure => have := HK1.out; have := HJ4.out; have := HJ9.out; have := HK4.out; have := HJ16.out; omega
                                            case rel => exact ⟨(x1_4), (ji22), (by first | rfl | (simp; done) | (simp [*]; done)), (by first | rfl | (simp; done) | (simp only [← hji22] <;> (first | rfl | simp)) | (simp [*]; done)), H', ⟨by have := HK1.out; have := HJ4.out; have := HJ9.out; have := HK4.out; have := HJ16.out; omega⟩, ⟨by repeat (first | (with_reducible first | exact HB.out | apply below_alloc | apply pw_below_drewN | apply below_drew1) | exact HB.out)⟩⟩
                                          · have H1 : (some (false, some q208)) = some (r1, r2) := by rw [if_neg (show ¬ (some q208).isNone = true by simp)] at H; exact H
                                            clear H
                                            have H := H1
                                            clear H1
                                            try simp only [errW_none, errW_some]
                                            simp only [Option.some.injEq, Prod.mk.injEq] at H
                                            obtain ⟨rfl, rfl⟩ := H
                                            go_wp2_with (first | ((with_reducible refine gate_callee (f := 50) rfl ?_); refine goesL_ (some 76) rfl rfl Try.func50 (by kernel_rfl) rfl #[.string t198, .string (x1_4.extract ((ji22) : Int).toNat x1_4.size)] rfl (by (try simp only [List.map_toArray, List.map_cons, List.map_nil]); first | done | (simp only [hji22]; rfl) | rfl | (simp only [List.length_drop, List.length_take]; rfl)) ?_; (with_reducible refine (path_matchChunk.calls kj16 t198 (x1_4.extract ((ji22) : Int).toNat x1_4.size) t205 false (some q208) _ A25.out).mono ?_); rintro e w32 ⟨rfl, hb⟩; refine ⟨_, rfl, ?_⟩; have n0_ := Aside0.mk (below_step (by repeat (first | (with_reducible first | exact HB.out | apply below_alloc | apply pw_below_drewN | apply below_drew1) | exact HB.out)) hb); clear HB; have HB := n0_; clear n0_; (try clear hb); (try clear hb2); (try clear hk); (try clear hi); (try simp only [errW_none, errW_some])))
                                            (try rw [Exit.noGoto_ret]); go_ret2
                                            exact ⟨by first | rfl | (simp [errW_none, errW_some] <;> rfl) | (simp only [← hji22]; first | rfl | (simp [errW_none, errW_some] <;> rfl)) | (simp [*, errW_none, errW_some] <;> rfl), by repeat (first | (with_reducible first | exact HB.out | apply below_alloc | apply pw_below_drewN | apply below_drew1) | exact HB.out)⟩
                                      · rw [if_neg c24] at H
                                        exact absurd H (by simp)
                                    · rw [if_neg c23] at H
                                      exact absurd H (by simp)
                                  · replace c21 := Bool.eq_false_iff.mpr c21
                                    subst c21
                                    have H1 : (path_Match.j6 kj16 t199) = some (r1, r2) := by rw [if_neg (show ¬ (false = true) by decide)] at H; exact H
                                    clear H
                                    have H := H1
                                    clear H1
                                    have H' := Aside0.mk H
                                    clear H
                                    go_wp2
                                    go_meet
                                    case rel => exact ⟨_, H', ⟨by have := HK1.out; have := HJ4.out; have := HJ9.out; have := HK4.out; have := HJ16.out; first | omega | exact Nat.le_refl _⟩, ⟨by repeat (first | (with_reducible first | exact HB.out | apply below_alloc | apply pw_below_drewN | apply below_drew1) | exact HB.out)⟩⟩
                        · replace c16 := Bool.eq_false_iff.mpr c16
                          subst c16
                          have H1 : (path_Match.j6 kj9 t199) = some (r1, r2) := by rw [if_neg (show ¬ (false = true) by decide)] at H; exact H
                          clear H
                          have H := H1
                          clear H1
                          have H' := Aside0.mk H
                          clear H
                          go_wp2
                          go_meet
                          case rel => exact ⟨_, H', ⟨by have := HK1.out; have := HJ4.out; have := HJ9.out; first | omega | exact Nat.le_refl _⟩, ⟨by repeat (first | (with_reducible first | exact HB.out | apply below_alloc | apply pw_below_drewN | apply below_drew1) | exact HB.out)⟩⟩
                      case rest =>
                        clear HC15
                        try clear c1
                        try clear c2
                        try clear p2
                        try clear q2
                        try clear hx2
                        try clear c3
                        try clear c3b0
                        try clear c3b1
                        try clear p3
                        try clear c4
                        try clear c5
                        try clear c6
                        try clear p6
                        try clear c7
                        try clear c12
                        try clear c13
                        try clear c13b0
                        try clear c13b1
                        try clear c14
                        try clear c16
                        try clear c18
                        try clear c18b0
                        try clear c19
                        try clear c19b0
                        try clear p20
                        try clear q20
                        try clear hx20
                        try clear c21
                        try clear c23
                        try clear c23b0
                        try clear c23b1
                        try clear c24
                        try clear c24b0
                        try clear c24b1
                        try clear c26
                        try clear c29
                        try clear c29b0
                        try clear c29b1
                        try clear c30
                        try clear p2
                        try clear p20
                        try clear p3
                        try clear p6
                        try clear q2
                        try clear q20
                        try clear q204
                        try clear q208
                        obtain ⟨kq, HA, HJ14, HB⟩ := hcut
                        cases kq with
                        | zero => exact absurd HA.out (by simp [path_Match.j6])
                        | succ kj14 =>
                          have H := HA.out
                          clear HA
                          simp only [path_Match.j6] at H
                          have H' := Aside0.mk H
                          clear H
                          go_wp2
                          go_loopg [0] kj14 (fun kq v0 w' => ∃ (x0_5 : ByteArray), v0 = .string x0_5 ∧ Aside0 (path_Match.l2 kq x0_5 = some (r1, r2)) ∧ Aside0 (kq ≤ kj14) ∧ Aside0 (Below w.heap.size w w'))
                          case atStart => exact ⟨(t199), (by first | rfl | (simp; done) | (simp [*]; done)), H', ⟨Nat.le_refl _⟩, ⟨by repeat (first | (with_reducible first | exact HB.out | apply below_alloc | apply pw_below_drewN | apply below_drew1) | exact HB.out)⟩⟩
                          case round =>
                            clear H'
                            try clear c1
                            try clear c2
                            try clear p2
                            try clear q2
                            try clear hx2
                            try clear c3
                            try clear c3b0
                            try clear c3b1
                            try clear p3
                            try clear c4
                            try clear c5
                            try clear c6
                            try clear p6
                            try clear c7
                            try clear c12
                            try clear c13
                            try clear c13b0
                            try clear c13b1
                            try clear c14
                            try clear c16
                            try clear c18
                            try clear c18b0
                            try clear c19
                            try clear c19b0
                            try clear p20
                            try clear q20
                            try clear hx20
                            try clear c21
                            try clear c23
                            try clear c23b0
                            try clear c23b1
                            try clear c24
                            try clear c24b0
                            try clear c24b1
                            try clear c26
                            try clear c29
                            try clear c29b0
                            try clear c29b1
                            try clear c30
                            try clear p2
                            try clear p20
                            try clear p3
                            try clear p6
                            try clear q2
                            try clear q20
                            try clear q204
                            try clear q208
                            obtain ⟨x0_5, rfl, HA, HK5, HB⟩ := hrel
                            cases gk with
                            | zero => exact absurd HA.out (by simp [path_Match.l2])
                            | succ k5 =>
                              have H := HA.out
                              clear HA
                              simp only [path_Match.l2] at H
                              by_cases c33 : (x0_5.size : Int) > 0
                              · rw [if_pos c33] at H
                                have c33b0 : decide (0 < (x0_5.size : Int)) = true := decide_eq_true c33
                                have c33b1 : decide (0 < x0_5.size) = true := decide_eq_true (by omega)
                                clear c33
                                replace H := Option.bind_eq_some_iff.mp H
                                obtain ⟨⟨t209, t210, t211⟩, A340, H⟩ := H
                                replace H : ((path_matchChunk.f k5 t210 (⟨#[]⟩ : ByteArray)).bind fun bt212 => (if bt212.2.2.isNone = true then (path_Match.l2 k5 t211) else (some (false, some (bt212.2.2.getD 0))))) = some (r1, r2) := H
                                have A34 := Aside0.mk A340
                                clear A340
                                replace H := Option.bind_eq_some_iff.mp H
                                obtain ⟨⟨t212, t213, t214⟩, A350, H⟩ := H
                                replace H : (if t214.isNone = true then (path_Match.l2 k5 t211) else (some (false, some (t214.getD 0)))) = some (r1, r2) := H
                                have A35 := Aside0.mk A350
                                clear A350
                                rcases t214 with _ | q215
                                · have H1 : (path_Match.l2 k5 t211) = some (r1, r2) := by rw [if_pos (show (none : Option Int).isNone = true by rfl)] at H; exact H
                                  clear H
                                  have H := H1
                                  clear H1
                                  try simp only [errW_none, errW_some]
                                  have H' := Aside0.mk H
                                  clear H
                                  go_wp2_with (first | ((with_reducible refine gate_callee (f := 48) rfl ?_); refine goesL_ (some 98) rfl rfl Try.func48 (by kernel_rfl) rfl #[.string x0_5] rfl (by (try simp only [List.map_toArray, List.map_cons, List.map_nil]); first | done | rfl | (simp only [List.length_drop, List.length_take]; rfl)) ?_; (with_reducible refine (path_scanChunk.calls k5 x0_5 t209 t210 t211 _ A34.out).mono ?_); rintro e w' ⟨rfl, ⟨nd, rfl⟩⟩; refine ⟨_, rfl, ?_⟩) | ((with_reducible refine gate_callee (f := 50) rfl ?_); refine goesL_ (some 104) rfl rfl Try.func50 (by kernel_rfl) rfl #[.string t210, .string (⟨#[]⟩ : ByteArray)] rfl (by (try simp only [List.map_toArray, List.map_cons, List.map_nil]); first | done | rfl | (simp only [List.length_drop, List.length_take]; rfl)) ?_; (with_reducible refine (path_matchChunk.calls k5 t210 (⟨#[]⟩ : ByteArray) t212 t213 none _ A35.out).mono ?_); rintro e w36 ⟨rfl, hb⟩; refine ⟨_, rfl, ?_⟩; have n0_ := Aside0.mk (below_step (by repeat (first | (with_reducible first | exact HB.out | apply below_alloc | apply pw_below_drewN | apply below_drew1) | exact HB.out)) hb); clear HB; have HB := n0_; clear n0_; (try clear hb); (try clear hb2); (try clear hk); (try clear hi); (try simp only [errW_none, errW_some])))
                                  go_roundg k5
                                  case measure => have := HK1.out; have := HJ4.out; have := HJ9.out; have := HJ14.out; have := HK5.out; omega
                                  case rel => exact ⟨(t211), (by first | rfl | (simp; done) | (simp [*]; done)), H', ⟨by have := HK1.out; have := HJ4.out; have := HJ9.out; have := HJ14.out; have := HK5.out; omega⟩, ⟨by repeat (first | (with_reducible first | exact HB.out | apply below_alloc | apply pw_below_drewN | apply below_drew1) | exact HB.out)⟩⟩
                                · have H1 : (some (false, some q215)) = some (r1, r2) := by rw [if_neg (show ¬ (some q215).isNone = true by simp)] at H; exact H
                                  clear H
                                  have H := H1
                                  clear H1
                                  try simp only [errW_none, errW_some]
                                  simp only [Option.some.injEq, Prod.mk.injEq] at H
                                  obtain ⟨rfl, rfl⟩ := H
                                  go_wp2_with (first | ((with_reducible refine gate_callee (f := 48) rfl ?_); refine goesL_ (some 98) rfl rfl Try.func48 (by kernel_rfl) rfl #[.string x0_5] rfl (by (try simp only [List.map_toArray, List.map_cons, List.map_nil]); first | done | rfl | (simp only [List.length_drop, List.length_take]; rfl)) ?_; (with_reducible refine (path_scanChunk.calls k5 x0_5 t209 t210 t211 _ A34.out).mono ?_); rintro e w' ⟨rfl, ⟨nd, rfl⟩⟩; refine ⟨_, rfl, ?_⟩) | ((with_reducible refine gate_callee (f := 50) rfl ?_); refine goesL_ (some 104) rfl rfl Try.func50 (by kernel_rfl) rfl #[.string t210, .string (⟨#[]⟩ : ByteArray)] rfl (by (try simp only [List.map_toArray, List.map_cons, List.map_nil]); first | done | rfl | (simp only [List.length_drop, List.length_take]; rfl)) ?_; (with_reducible refine (path_matchChunk.calls k5 t210 (⟨#[]⟩ : ByteArray) t212 t213 (some q215) _ A35.out).mono ?_); rintro e w37 ⟨rfl, hb⟩; refine ⟨_, rfl, ?_⟩; have n0_ := Aside0.mk (below_step (by repeat (first | (with_reducible first | exact HB.out | apply below_alloc | apply pw_below_drewN | apply below_drew1) | exact HB.out)) hb); clear HB; have HB := n0_; clear n0_; (try clear hb); (try clear hb2); (try clear hk); (try clear hi); (try simp only [errW_none, errW_some])))
                                  (try rw [Exit.noGoto_ret]); go_ret2
                                  exact ⟨by first | rfl | (simp [errW_none, errW_some] <;> rfl) | (simp [*, errW_none, errW_some] <;> rfl), by repeat (first | (with_reducible first | exact HB.out | apply below_alloc | apply pw_below_drewN | apply below_drew1) | exact HB.out)⟩
                              · rw [if_neg c33] at H
                                have c33b0 : decide (0 < (x0_5.size : Int)) = false := decide_eq_false c33
                                have c33b1 : decide (0 < x0_5.size) = false := decide_eq_false (by omega)
                                clear c33
                                simp only [Option.some.injEq, Prod.mk.injEq] at H
                                obtain ⟨rfl, rfl⟩ := H
                                go_wp2
                                (try rw [Exit.noGoto_ret]); go_ret2
                                exact ⟨by first | rfl | (simp [errW_none, errW_some] <;> rfl) | (simp [*, errW_none, errW_some] <;> rfl), by repeat (first | (with_reducible first | exact HB.out | apply below_alloc | apply pw_below_drewN | apply below_drew1) | exact HB.out)⟩
                    · have H1 : (some (false, some q204)) = some (r1, r2) := by rw [if_neg (show ¬ (some q204).isNone = true by simp)] at H; exact H
                      clear H
                      have H := H1
                      clear H1
                      try simp only [errW_none, errW_some]
                      simp only [Option.some.injEq, Prod.mk.injEq] at H
                      obtain ⟨rfl, rfl⟩ := H
                      go_wp2
                      (try rw [Exit.noGoto_ret]); go_ret2
                      exact ⟨by first | rfl | (simp [errW_none, errW_some] <;> rfl) | (simp [*, errW_none, errW_some] <;> rfl), by repeat (first | (with_reducible first | exact HB.out | apply below_alloc | apply pw_below_drewN | apply below_drew1) | exact HB.out)⟩
      · rw [if_neg c3] at H
        have c3b0 : decide (0 < (x0_1.size : Int)) = false := decide_eq_false c3
        have c3b1 : decide (0 < x0_1.size) = false := decide_eq_false (by omega)
        clear c3
        simp only [Option.some.injEq, Prod.mk.injEq] at H
        obtain ⟨rfl, rfl⟩ := H
        go_wp2
        (try rw [Exit.noGoto_ret]); go_ret2
        exact ⟨by first | rfl | (simp [errW_none, errW_some] <;> rfl) | (simp [*, errW_none, errW_some] <;> rfl), by repeat (first | (with_reducible first | exact HB.out | apply below_alloc | apply pw_below_drewN | apply below_drew1) | exact HB.out)⟩

end Go.Proofs.Ytlnfkpmmnennbaa.QAll
