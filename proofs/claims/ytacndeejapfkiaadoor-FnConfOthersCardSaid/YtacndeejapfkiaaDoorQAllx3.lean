-- WRITTEN BY A PROGRAM OF THIS SESSION, out of the loaded program, with words of the kit
import Derived.Test.YtacndeejapfkiaaDoorQAllx0
import Derived.Test.YtacndeejapfkiaaDoorQAllx1
import Derived.Test.YtacndeejapfkiaaDoorQAllx2
namespace Go.Proofs.YtacndeejapfkiaaDoor.QAll
open Go.RowKit Go.Proofs.YtacndeejapfkiaaDoorW.PrintWords Go.Proofs.YtacndeejapfkiaaDoorW.PrintLast Go.Proofs.YtacndeejapfkiaaDoorW.PrintMore
attribute [local go_sem] max2_int min2_int max_two min_two max_three min_three max_four min_four   -- for this text's walks alone
set_option linter.unusedVariables false
set_option linter.unusedSimpArgs false

/-! ### spec_AreSections: function 14 -/
mutual
def spec_AreSections.l0 : Nat → List (S36) → List (S36) → Int → Int → Option (Bool)
  | 0, _, _, _, _ => none
  | k + 1, x0, x11, x12, x13 => if x13 < x12 then (if 0 ≤ x13 then (if x13 < (x11.length : Int) then ((spec_IsConfWord.f k ((rd_T36 x11 x13).f0)).bind fun t123 => (if t123 = true then ((spec_areOptions.f k ((rd_T36 x11 x13).f1)).bind fun t124 => (spec_AreSections.j1 k x0 x13 x11 x12 x13 (!t124) ((rd_T36 x11 x13).f0) ((rd_T36 x11 x13).f1) ((rd_T36 x11 x13).f2))) else (spec_AreSections.j1 k x0 x13 x11 x12 x13 true ((rd_T36 x11 x13).f0) ((rd_T36 x11 x13).f1) ((rd_T36 x11 x13).f2)))) else (none)) else (none)) else (some (decide ((x0.length : Int) ≤ 100)))
def spec_AreSections.j1 : Nat → List (S36) → Int → List (S36) → Int → Int → Bool → ByteArray → List (S42) → List (S46) → Option (Bool)
  | 0, _, _, _, _, _, _, _, _, _ => none
  | k + 1, x0, x3, x11, x12, x13, x27, x123000, x123001, x123002 => if x27 = true then (some false) else (if 0 ≤ x3 then (if x3 ≤ (x0.length : Int) then ((some (x0.take (x3 : Int).toNat : List (S36))).bind fun y125 => (spec_AreSections.l1 k x0 x11 x12 x13 y125 (y125.length : Int) 0 x123000 x123001 x123002)) else (none)) else (none))
def spec_AreSections.l1 : Nat → List (S36) → List (S36) → Int → Int → List (S36) → Int → Int → ByteArray → List (S42) → List (S46) → Option (Bool)
  | 0, _, _, _, _, _, _, _, _, _, _ => none
  | k + 1, x0, x11, x12, x13, x30, x31, x32, x123000, x123001, x123002 => if x32 < x31 then (if 0 ≤ x32 then (if x32 < (x30.length : Int) then (if ((rd_T36 x30 x32).f0).toList = x123000.toList then (some false) else (spec_AreSections.l1 k x0 x11 x12 x13 x30 x31 (wrap64 (x32 + 1)) x123000 x123001 x123002)) else (none)) else (none)) else (spec_AreSections.l2 k x0 x11 x12 x13 x123002 (x123002.length : Int) 0 x123000 x123001 x123002)
def spec_AreSections.l2 : Nat → List (S36) → List (S36) → Int → Int → List (S46) → Int → Int → ByteArray → List (S42) → List (S46) → Option (Bool)
  | 0, _, _, _, _, _, _, _, _, _, _ => none
  | k + 1, x0, x11, x12, x13, x43, x44, x45, x123000, x123001, x123002 => if x45 < x44 then (if 0 ≤ x45 then (if x45 < (x43.length : Int) then ((spec_IsConfWord.f k ((rd_T46 x43 x45).f0)).bind fun t133 => (if t133 = true then ((spec_areOptions.f k ((rd_T46 x43 x45).f1)).bind fun t134 => (spec_AreSections.j4 k x0 x45 x11 x12 x13 x43 x44 x45 (!t134) x123000 x123001 x123002 ((rd_T46 x43 x45).f0) ((rd_T46 x43 x45).f1))) else (spec_AreSections.j4 k x0 x45 x11 x12 x13 x43 x44 x45 true x123000 x123001 x123002 ((rd_T46 x43 x45).f0) ((rd_T46 x43 x45).f1)))) else (none)) else (none)) else (spec_AreSections.l0 k x0 x11 x12 (wrap64 (x13 + 1)))
def spec_AreSections.j4 : Nat → List (S36) → Int → List (S36) → Int → Int → List (S46) → Int → Int → Bool → ByteArray → List (S42) → List (S46) → ByteArray → List (S42) → Option (Bool)
  | 0, _, _, _, _, _, _, _, _, _, _, _, _, _, _ => none
  | k + 1, x0, x7, x11, x12, x13, x43, x44, x45, x59, x123000, x123001, x123002, x133000, x133001 => if x59 = true then (some false) else (if 0 ≤ x7 then (if x7 ≤ (x123002.length : Int) then ((some (x123002.take (x7 : Int).toNat : List (S46))).bind fun y135 => (spec_AreSections.l3 k x0 x11 x12 x13 x43 x44 x45 y135 (y135.length : Int) 0 x123000 x123001 x123002 x133000 x133001)) else (none)) else (none))
def spec_AreSections.l3 : Nat → List (S36) → List (S36) → Int → Int → List (S46) → Int → Int → List (S46) → Int → Int → ByteArray → List (S42) → List (S46) → ByteArray → List (S42) → Option (Bool)
  | 0, _, _, _, _, _, _, _, _, _, _, _, _, _, _, _ => none
  | k + 1, x0, x11, x12, x13, x43, x44, x45, x63, x64, x65, x123000, x123001, x123002, x133000, x133001 => if x65 < x64 then (if 0 ≤ x65 then (if x65 < (x63.length : Int) then (if ((rd_T46 x63 x65).f0).toList = x133000.toList then (some false) else (spec_AreSections.l3 k x0 x11 x12 x13 x43 x44 x45 x63 x64 (wrap64 (x65 + 1)) x123000 x123001 x123002 x133000 x133001)) else (none)) else (none)) else (spec_AreSections.l2 k x0 x11 x12 x13 x43 x44 (wrap64 (x45 + 1)) x123000 x123001 x123002)
end
def spec_AreSections.f (k : Nat) (l0 : List (S36)) : Option (Bool) := spec_AreSections.l0 k l0 l0 (l0.length : Int) 0
theorem spec_AreSections.mono_l : ∀ k, (∀ y0 y1 y2 y3, LeO (spec_AreSections.l0 k y0 y1 y2 y3) (spec_AreSections.l0 (k + 1) y0 y1 y2 y3)) ∧ (∀ y0 y1 y2 y3 y4 y5 y6 y7 y8, LeO (spec_AreSections.j1 k y0 y1 y2 y3 y4 y5 y6 y7 y8) (spec_AreSections.j1 (k + 1) y0 y1 y2 y3 y4 y5 y6 y7 y8)) ∧ (∀ y0 y1 y2 y3 y4 y5 y6 y7 y8 y9, LeO (spec_AreSections.l1 k y0 y1 y2 y3 y4 y5 y6 y7 y8 y9) (spec_AreSections.l1 (k + 1) y0 y1 y2 y3 y4 y5 y6 y7 y8 y9)) ∧ (∀ y0 y1 y2 y3 y4 y5 y6 y7 y8 y9, LeO (spec_AreSections.l2 k y0 y1 y2 y3 y4 y5 y6 y7 y8 y9) (spec_AreSections.l2 (k + 1) y0 y1 y2 y3 y4 y5 y6 y7 y8 y9)) ∧ (∀ y0 y1 y2 y3 y4 y5 y6 y7 y8 y9 y10 y11 y12 y13, LeO (spec_AreSections.j4 k y0 y1 y2 y3 y4 y5 y6 y7 y8 y9 y10 y11 y12 y13) (spec_AreSections.j4 (k + 1) y0 y1 y2 y3 y4 y5 y6 y7 y8 y9 y10 y11 y12 y13)) ∧ (∀ y0 y1 y2 y3 y4 y5 y6 y7 y8 y9 y10 y11 y12 y13 y14, LeO (spec_AreSections.l3 k y0 y1 y2 y3 y4 y5 y6 y7 y8 y9 y10 y11 y12 y13 y14) (spec_AreSections.l3 (k + 1) y0 y1 y2 y3 y4 y5 y6 y7 y8 y9 y10 y11 y12 y13 y14))
  | 0 => ⟨fun _ _ _ _ r h => by simp [spec_AreSections.l0] at h, fun _ _ _ _ _ _ _ _ _ r h => by simp [spec_AreSections.j1] at h, fun _ _ _ _ _ _ _ _ _ _ r h => by simp [spec_AreSections.l1] at h, fun _ _ _ _ _ _ _ _ _ _ r h => by simp [spec_AreSections.l2] at h, fun _ _ _ _ _ _ _ _ _ _ _ _ _ _ r h => by simp [spec_AreSections.j4] at h, fun _ _ _ _ _ _ _ _ _ _ _ _ _ _ _ r h => by simp [spec_AreSections.l3] at h⟩
  | k + 1 => by
    obtain ⟨ih0, ih1, ih2, ih3, ih4, ih5⟩ := spec_AreSections.mono_l k
    refine ⟨?_, ?_, ?_, ?_, ?_, ?_⟩
    · intro y0 y1 y2 y3
      unfold spec_AreSections.l0
      repeat' first
      | (with_reducible exact ih0 _ _ _ _)
      | (with_reducible exact ih1 _ _ _ _ _ _ _ _ _)
      | (with_reducible exact ih2 _ _ _ _ _ _ _ _ _ _)
      | (with_reducible exact ih3 _ _ _ _ _ _ _ _ _ _)
      | (with_reducible exact ih4 _ _ _ _ _ _ _ _ _ _ _ _ _ _)
      | (with_reducible exact ih5 _ _ _ _ _ _ _ _ _ _ _ _ _ _ _)
      | (with_reducible exact spec_IsConfWord.mono _ _)
      | (with_reducible exact spec_areOptions.mono _ _)
      | (with_reducible exact LeO.refl _)
      | (with_reducible exact LeO.none _)
      | (with_reducible refine LeO.ite ?_ ?_)
      | (with_reducible refine LeO.bind ?_ (fun _ => ?_))
      | exact ih0 _ _ _ _
      | exact ih1 _ _ _ _ _ _ _ _ _
      | exact ih2 _ _ _ _ _ _ _ _ _ _
      | exact ih3 _ _ _ _ _ _ _ _ _ _
      | exact ih4 _ _ _ _ _ _ _ _ _ _ _ _ _ _
      | exact ih5 _ _ _ _ _ _ _ _ _ _ _ _ _ _ _
      | exact spec_IsConfWord.mono _ _
      | exact spec_areOptions.mono _ _
      | exact LeO.none _
      | refine LeO.ite ?_ ?_
      | refine LeO.bind ?_ (fun _ => ?_)
    · intro y0 y1 y2 y3 y4 y5 y6 y7 y8
      unfold spec_AreSections.j1
      repeat' first
      | (with_reducible exact ih0 _ _ _ _)
      | (with_reducible exact ih1 _ _ _ _ _ _ _ _ _)
      | (with_reducible exact ih2 _ _ _ _ _ _ _ _ _ _)
      | (with_reducible exact ih3 _ _ _ _ _ _ _ _ _ _)
      | (with_reducible exact ih4 _ _ _ _ _ _ _ _ _ _ _ _ _ _)
      | (with_reducible exact ih5 _ _ _ _ _ _ _ _ _ _ _ _ _ _ _)
      | (with_reducible exact spec_IsConfWord.mono _ _)
      | (with_reducible exact spec_areOptions.mono _ _)
      | (with_reducible exact LeO.refl _)
      | (with_reducible exact LeO.none _)
      | (with_reducible refine LeO.ite ?_ ?_)
      | (with_reducible refine LeO.bind ?_ (fun _ => ?_))
      | exact ih0 _ _ _ _
      | exact ih1 _ _ _ _ _ _ _ _ _
      | exact ih2 _ _ _ _ _ _ _ _ _ _
      | exact ih3 _ _ _ _ _ _ _ _ _ _
      | exact ih4 _ _ _ _ _ _ _ _ _ _ _ _ _ _
      | exact ih5 _ _ _ _ _ _ _ _ _ _ _ _ _ _ _
      | exact spec_IsConfWord.mono _ _
      | exact spec_areOptions.mono _ _
      | exact LeO.none _
      | refine LeO.ite ?_ ?_
      | refine LeO.bind ?_ (fun _ => ?_)
    · intro y0 y1 y2 y3 y4 y5 y6 y7 y8 y9
      unfold spec_AreSections.l1
      repeat' first
      | (with_reducible exact ih0 _ _ _ _)
      | (with_reducible exact ih1 _ _ _ _ _ _ _ _ _)
      | (with_reducible exact ih2 _ _ _ _ _ _ _ _ _ _)
      | (with_reducible exact ih3 _ _ _ _ _ _ _ _ _ _)
      | (with_reducible exact ih4 _ _ _ _ _ _ _ _ _ _ _ _ _ _)
      | (with_reducible exact ih5 _ _ _ _ _ _ _ _ _ _ _ _ _ _ _)
      | (with_reducible exact spec_IsConfWord.mono _ _)
      | (with_reducible exact spec_areOptions.mono _ _)
      | (with_reducible exact LeO.refl _)
      | (with_reducible exact LeO.none _)
      | (with_reducible refine LeO.ite ?_ ?_)
      | (with_reducible refine LeO.bind ?_ (fun _ => ?_))
      | exact ih0 _ _ _ _
      | exact ih1 _ _ _ _ _ _ _ _ _
      | exact ih2 _ _ _ _ _ _ _ _ _ _
      | exact ih3 _ _ _ _ _ _ _ _ _ _
      | exact ih4 _ _ _ _ _ _ _ _ _ _ _ _ _ _
      | exact ih5 _ _ _ _ _ _ _ _ _ _ _ _ _ _ _
      | exact spec_IsConfWord.mono _ _
      | exact spec_areOptions.mono _ _
      | exact LeO.none _
      | refine LeO.ite ?_ ?_
      | refine LeO.bind ?_ (fun _ => ?_)
    · intro y0 y1 y2 y3 y4 y5 y6 y7 y8 y9
      unfold spec_AreSections.l2
      repeat' first
      | (with_reducible exact ih0 _ _ _ _)
      | (with_reducible exact ih1 _ _ _ _ _ _ _ _ _)
      | (with_reducible exact ih2 _ _ _ _ _ _ _ _ _ _)
      | (with_reducible exact ih3 _ _ _ _ _ _ _ _ _ _)
      | (with_reducible exact ih4 _ _ _ _ _ _ _ _ _ _ _ _ _ _)
      | (with_reducible exact ih5 _ _ _ _ _ _ _ _ _ _ _ _ _ _ _)
      | (with_reducible exact spec_IsConfWord.mono _ _)
      | (with_reducible exact spec_areOptions.mono _ _)
      | (with_reducible exact LeO.refl _)
      | (with_reducible exact LeO.none _)
      | (with_reducible refine LeO.ite ?_ ?_)
      | (with_reducible refine LeO.bind ?_ (fun _ => ?_))
      | exact ih0 _ _ _ _
      | exact ih1 _ _ _ _ _ _ _ _ _
      | exact ih2 _ _ _ _ _ _ _ _ _ _
      | exact ih3 _ _ _ _ _ _ _ _ _ _
      | exact ih4 _ _ _ _ _ _ _ _ _ _ _ _ _ _
      | exact ih5 _ _ _ _ _ _ _ _ _ _ _ _ _ _ _
      | exact spec_IsConfWord.mono _ _
      | exact spec_areOptions.mono _ _
      | exact LeO.none _
      | refine LeO.ite ?_ ?_
      | refine LeO.bind ?_ (fun _ => ?_)
    · intro y0 y1 y2 y3 y4 y5 y6 y7 y8 y9 y10 y11 y12 y13
      unfold spec_AreSections.j4
      repeat' first
      | (with_reducible exact ih0 _ _ _ _)
      | (with_reducible exact ih1 _ _ _ _ _ _ _ _ _)
      | (with_reducible exact ih2 _ _ _ _ _ _ _ _ _ _)
      | (with_reducible exact ih3 _ _ _ _ _ _ _ _ _ _)
      | (with_reducible exact ih4 _ _ _ _ _ _ _ _ _ _ _ _ _ _)
      | (with_reducible exact ih5 _ _ _ _ _ _ _ _ _ _ _ _ _ _ _)
      | (with_reducible exact spec_IsConfWord.mono _ _)
      | (with_reducible exact spec_areOptions.mono _ _)
      | (with_reducible exact LeO.refl _)
      | (with_reducible exact LeO.none _)
      | (with_reducible refine LeO.ite ?_ ?_)
      | (with_reducible refine LeO.bind ?_ (fun _ => ?_))
      | exact ih0 _ _ _ _
      | exact ih1 _ _ _ _ _ _ _ _ _
      | exact ih2 _ _ _ _ _ _ _ _ _ _
      | exact ih3 _ _ _ _ _ _ _ _ _ _
      | exact ih4 _ _ _ _ _ _ _ _ _ _ _ _ _ _
      | exact ih5 _ _ _ _ _ _ _ _ _ _ _ _ _ _ _
      | exact spec_IsConfWord.mono _ _
      | exact spec_areOptions.mono _ _
      | exact LeO.none _
      | refine LeO.ite ?_ ?_
      | refine LeO.bind ?_ (fun _ => ?_)
    · intro y0 y1 y2 y3 y4 y5 y6 y7 y8 y9 y10 y11 y12 y13 y14
      unfold spec_AreSections.l3
      repeat' first
      | (with_reducible exact ih0 _ _ _ _)
      | (with_reducible exact ih1 _ _ _ _ _ _ _ _ _)
      | (with_reducible exact ih2 _ _ _ _ _ _ _ _ _ _)
      | (with_reducible exact ih3 _ _ _ _ _ _ _ _ _ _)
      | (with_reducible exact ih4 _ _ _ _ _ _ _ _ _ _ _ _ _ _)
      | (with_reducible exact ih5 _ _ _ _ _ _ _ _ _ _ _ _ _ _ _)
      | (with_reducible exact spec_IsConfWord.mono _ _)
      | (with_reducible exact spec_areOptions.mono _ _)
      | (with_reducible exact LeO.refl _)
      | (with_reducible exact LeO.none _)
      | (with_reducible refine LeO.ite ?_ ?_)
      | (with_reducible refine LeO.bind ?_ (fun _ => ?_))
      | exact ih0 _ _ _ _
      | exact ih1 _ _ _ _ _ _ _ _ _
      | exact ih2 _ _ _ _ _ _ _ _ _ _
      | exact ih3 _ _ _ _ _ _ _ _ _ _
      | exact ih4 _ _ _ _ _ _ _ _ _ _ _ _ _ _
      | exact ih5 _ _ _ _ _ _ _ _ _ _ _ _ _ _ _
      | exact spec_IsConfWord.mono _ _
      | exact spec_areOptions.mono _ _
      | exact LeO.none _
      | refine LeO.ite ?_ ?_
      | refine LeO.bind ?_ (fun _ => ?_)
theorem spec_AreSections.mono : ∀ a0 k, LeO (spec_AreSections.f k a0) (spec_AreSections.f (k + 1) a0) := by
  intro a0 k
  obtain ⟨ih0, ih1, ih2, ih3, ih4, ih5⟩ := spec_AreSections.mono_l k
  unfold spec_AreSections.f
  repeat' first
      | (with_reducible exact ih0 _ _ _ _)
      | (with_reducible exact ih1 _ _ _ _ _ _ _ _ _)
      | (with_reducible exact ih2 _ _ _ _ _ _ _ _ _ _)
      | (with_reducible exact ih3 _ _ _ _ _ _ _ _ _ _)
      | (with_reducible exact ih4 _ _ _ _ _ _ _ _ _ _ _ _ _ _)
      | (with_reducible exact ih5 _ _ _ _ _ _ _ _ _ _ _ _ _ _ _)
      | (with_reducible exact spec_IsConfWord.mono _ _)
      | (with_reducible exact spec_areOptions.mono _ _)
      | (with_reducible exact LeO.refl _)
      | (with_reducible exact LeO.none _)
      | (with_reducible refine LeO.ite ?_ ?_)
      | (with_reducible refine LeO.bind ?_ (fun _ => ?_))
      | exact ih0 _ _ _ _
      | exact ih1 _ _ _ _ _ _ _ _ _
      | exact ih2 _ _ _ _ _ _ _ _ _ _
      | exact ih3 _ _ _ _ _ _ _ _ _ _
      | exact ih4 _ _ _ _ _ _ _ _ _ _ _ _ _ _
      | exact ih5 _ _ _ _ _ _ _ _ _ _ _ _ _ _ _
      | exact spec_IsConfWord.mono _ _
      | exact spec_areOptions.mono _ _
      | exact LeO.none _
      | refine LeO.ite ?_ ?_
      | refine LeO.bind ?_ (fun _ => ?_)
set_option maxHeartbeats 8000000 in
set_option maxRecDepth 100000 in
theorem spec_AreSections.calls (k : Nat) (A0 : Option Addr) (c0 : Nat) (l0 : List (S36)) (r : Bool) (w : World) (hr0 : Kd.C k36 w A0 l0.length l0) (hc0 : l0.length ≤ c0) (h : spec_AreSections.f k l0 = some r) :
    Calls Tryd.prog 14 #[.slice A0 l0.length c0] w fun e w' => e = .returned (.bool r) ∧ Below w.heap.size w w' := by
  have hu36 := Tryd.underlying36
  have hu46 := Tryd.underlying46
  have HR0 := Aside0.mk hr0
  have HC0 := Aside0.mk hc0
  clear hr0 hc0
  have HB := Aside0.mk (Below.refl w.heap.size w)
  have H : (spec_AreSections.l0 k l0 l0 (l0.length : Int) 0) = some r := h
  clear h
  have H' := Aside0.mk H
  clear H
  go_enter Tryd.func14, Tryd.ntmps14
  go_wp2
  go_loopg [13] k (fun kq v13 w' => ∃ (x13_1 : Int), v13 = .int .i64 x13_1 ∧ Aside0 (spec_AreSections.l0 kq l0 l0 (l0.length : Int) x13_1 = some r) ∧ Aside0 (kq ≤ k) ∧ Aside0 (Below w.heap.size w w'))
  case atStart => exact ⟨(0), (by first | rfl | (simp; done) | (simp [*]; done)), H', ⟨Nat.le_refl _⟩, ⟨by repeat (first | (with_reducible first | exact HB.out | apply below_alloc | apply pw_below_drewN | apply below_drew1) | exact HB.out)⟩⟩
  case round =>
    clear H'
    try clear c1
    obtain ⟨x13_1, rfl, HA, HK1, HB⟩ := hrel
    cases gk with
    | zero => exact absurd HA.out (by simp [spec_AreSections.l0])
    | succ k1 =>
      have H := HA.out
      clear HA
      simp only [spec_AreSections.l0] at H
      by_cases c2 : x13_1 < (l0.length : Int)
      · rw [if_pos c2] at H
        have c2b0 : decide (x13_1 < (l0.length : Int)) = true := decide_eq_true c2
        clear c2
        by_cases c3 : 0 ≤ x13_1
        · rw [if_pos c3] at H
          have c3b0 : decide (0 ≤ x13_1) = true := decide_eq_true c3
          clear c3
          by_cases c4 : x13_1 < (l0.length : Int)
          · rw [if_pos c4] at H
            have c4b0 : decide (x13_1 < (l0.length : Int)) = true := decide_eq_true c4
            clear c4
            have HC5 := Aside0.mk H
            clear H
            have p121 : 0 ≤ (x13_1 : Int) := of_decide_eq_true (by first | (with_reducible assumption) | assumption)
            have q121 : x13_1 < (l0.length : Int) := of_decide_eq_true (by first | (with_reducible assumption) | assumption)
            obtain ⟨ad121, A121_1, c121_1, A121_2, c121_2, e121, hx121_0, hx121_1, hx121_2, hl121_1, hi121_1, hl121_2, hi121_2⟩ := at_T36 HR0.out x13_1 p121 q121
            cases e121
            replace hx121_0 := (HB.out.cell (World.block_lt_of_cell? w _ hx121_0)).trans hx121_0
            replace hx121_1 := (HB.out.cell (World.block_lt_of_cell? w _ hx121_1)).trans hx121_1
            replace hx121_2 := (HB.out.cell (World.block_lt_of_cell? w _ hx121_2)).trans hx121_2
            have HR121_1 := Aside0.mk hi121_1
            have HC121_1 := Aside0.mk hl121_1
            clear hi121_1 hl121_1
            have HR121_2 := Aside0.mk hi121_2
            have HC121_2 := Aside0.mk hl121_2
            clear hi121_2 hl121_2
            replace p121 := eq_true p121
            replace q121 := eq_true q121
            go_upto_region 4 with (first | ((with_reducible refine gate_dst (N := 4) rfl ?_); refine box_event ?hg (N := 4) ?hd (cs := #[.string (⟨#[]⟩ : ByteArray), .slice none 0 0, .slice none 0 0]) (t := 36) ?hr ?_; (case hd => rfl); (case hg => rfl); (case hr => first | (go_simp; done) | (go_simp; rfl)); intro gb122 hg w6 hbox hb; have n0_ := Aside0.mk (below_step (by repeat (first | (with_reducible first | exact HB.out | apply below_alloc | apply pw_below_drewN | apply below_drew1) | exact HB.out)) hb); have n1_ := Aside0.mk (hbox); have n2_ := Aside0.mk ((by rw [hg]; exact (below_size (by repeat (first | (with_reducible first | exact HB.out | apply below_alloc | apply pw_below_drewN | apply below_drew1) | exact HB.out))) : w.heap.size ≤ gb122)); have n3_ := Aside0.mk ((by rw [hg]; exact (below_size (by repeat (first | (with_reducible first | exact HB.out | apply below_alloc | apply pw_below_drewN | apply below_drew1) | exact HB.out))) : w.heap.size ≤ gb122)); clear HB; have HB := n0_; have BK122 := n1_; have GW122 := n2_; have GE122 := n3_; clear n0_ n1_ n2_ n3_; clear hb hbox hg; have hcz7_0 : w6.cell? ⟨gb122, 0, none⟩ = some (.string (⟨#[]⟩ : ByteArray)) := (blk_cell BK122.out 0).trans rfl; have hcz7_1 : w6.cell? ⟨gb122, 1, none⟩ = some (.slice none 0 0) := (blk_cell BK122.out 1).trans rfl; have hcz7_2 : w6.cell? ⟨gb122, 2, none⟩ = some (.slice none 0 0) := (blk_cell BK122.out 2).trans rfl; have hfz7_0 := blk_frozen BK122.out 0; have hfz7_1 := blk_frozen BK122.out 1; have hfz7_2 := blk_frozen BK122.out 2))
            (try simp only [Act.put, List.setIfInBounds_toArray, List.set_cons_zero, List.set_cons_succ])
            go_cut [27] (fun v27 wc => ∃ (kq : Nat) (x27_4 : Bool), v27 = .bool x27_4 ∧ Aside0 (spec_AreSections.j1 kq l0 x13_1 l0 (l0.length : Int) x13_1 x27_4 ((rd_T36 l0 x13_1).f0) ((rd_T36 l0 x13_1).f1) ((rd_T36 l0 x13_1).f2) = some r) ∧ Aside0 (kq ≤ k1) ∧ Aside0 (wc.heap[gb122]? = some (.cells #[.string ((rd_T36 l0 x13_1).f0), (.slice A121_1 ((rd_T36 l0 x13_1).f1).length c121_1), (.slice A121_2 ((rd_T36 l0 x13_1).f2).length c121_2)] 36 (0, 0))) ∧ Aside0 (Below w.heap.size w wc))
            case first =>
              have H := HC5.out
              clear HC5
              replace H := Option.bind_eq_some_iff.mp H
              obtain ⟨t123, A80, H⟩ := H
              replace H : (if t123 = true then ((spec_areOptions.f k1 ((rd_T36 l0 x13_1).f1)).bind fun t124 => (spec_AreSections.j1 k1 l0 x13_1 l0 (l0.length : Int) x13_1 (!t124) ((rd_T36 l0 x13_1).f0) ((rd_T36 l0 x13_1).f1) ((rd_T36 l0 x13_1).f2))) else (spec_AreSections.j1 k1 l0 x13_1 l0 (l0.length : Int) x13_1 true ((rd_T36 l0 x13_1).f0) ((rd_T36 l0 x13_1).f1) ((rd_T36 l0 x13_1).f2))) = some r := H
              have A8 := Aside0.mk A80
              clear A80
              by_cases c9 : t123 = true
              · subst c9
                have H1 : ((spec_areOptions.f k1 ((rd_T36 l0 x13_1).f1)).bind fun t124 => (spec_AreSections.j1 k1 l0 x13_1 l0 (l0.length : Int) x13_1 (!t124) ((rd_T36 l0 x13_1).f0) ((rd_T36 l0 x13_1).f1) ((rd_T36 l0 x13_1).f2))) = some r := by rw [if_pos rfl] at H; exact H
                clear H
                have H := H1
                clear H1
                replace H := Option.bind_eq_some_iff.mp H
                obtain ⟨t124, A100, H⟩ := H
                replace H : (spec_AreSections.j1 k1 l0 x13_1 l0 (l0.length : Int) x13_1 (!t124) ((rd_T36 l0 x13_1).f0) ((rd_T36 l0 x13_1).f1) ((rd_T36 l0 x13_1).f2)) = some r := H
                have A10 := Aside0.mk A100
                clear A100
                have H' := Aside0.mk H
                clear H
                have hcz11_0 : w6.cell? ⟨gb122, 0, none⟩ = some (.string (⟨#[]⟩ : ByteArray)) := (blk_cell BK122.out 0).trans rfl
                have hcz11_1 : w6.cell? ⟨gb122, 1, none⟩ = some (.slice none 0 0) := (blk_cell BK122.out 1).trans rfl
                have hcz11_2 : w6.cell? ⟨gb122, 2, none⟩ = some (.slice none 0 0) := (blk_cell BK122.out 2).trans rfl
                have hfz11_0 := blk_frozen BK122.out 0
                have hfz11_1 := blk_frozen BK122.out 1
                have hfz11_2 := blk_frozen BK122.out 2
                go_wp2_with (first | ((with_reducible refine gate_callee (f := 15) rfl ?_); refine goesL_ (some 20) rfl rfl Tryd.func15 (by kernel_rfl) rfl #[.string ((rd_T36 l0 x13_1).f0)] rfl (by (try simp only [List.map_toArray, List.map_cons, List.map_nil]); first | done | rfl | (simp only [List.length_drop, List.length_take]; rfl)) ?_; (with_reducible refine (spec_IsConfWord.calls k1 ((rd_T36 l0 x13_1).f0) true _ A8.out).mono ?_); rintro e w' ⟨rfl, ⟨nd, rfl⟩⟩; refine ⟨_, rfl, ?_⟩) | (go_at_call 25; (with_reducible refine (spec_areOptions.calls k1 _ _ ((rd_T36 l0 x13_1).f1) t124 _ ?side1 ?side2 A10.out).mono ?_); (case side1 => exact Kd.C_below HR121_1.out (by repeat (first | (with_reducible first | exact HB.out | apply below_alloc | apply pw_below_drewN | apply below_drew1 | refine below_set ?_ GE122.out) | exact HB.out))); (case side2 => exact HC121_1.out); rintro e w12 ⟨rfl, hb⟩; have n0_ := Aside0.mk (blk_below (g := gb122) (o := .cells #[.string ((rd_T36 l0 x13_1).f0), .slice A121_1 ((rd_T36 l0 x13_1).f1).length c121_1, .slice A121_2 ((rd_T36 l0 x13_1).f2).length c121_2] 36 (0, 0)) (by (with_reducible repeat (first | refine blk_drewN ?_ _ | refine blk_drew ?_ | refine blk_alloc ?_ _)); refine blk_put (cs := #[.string ((rd_T36 l0 x13_1).f0), .slice A121_1 ((rd_T36 l0 x13_1).f1).length c121_1, .slice none 0 0]) ?_ 2 _ rfl; (with_reducible repeat (first | refine blk_drewN ?_ _ | refine blk_drew ?_ | refine blk_alloc ?_ _)); refine blk_put (cs := #[.string ((rd_T36 l0 x13_1).f0), .slice none 0 0, .slice none 0 0]) ?_ 1 _ rfl; (with_reducible repeat (first | refine blk_drewN ?_ _ | refine blk_drew ?_ | refine blk_alloc ?_ _)); refine blk_put (cs := #[.string (⟨#[]⟩ : ByteArray), .slice none 0 0, .slice none 0 0]) ?_ 0 _ rfl; (with_reducible repeat (first | refine blk_drewN ?_ _ | refine blk_drew ?_ | refine blk_alloc ?_ _)); exact BK122.out) hb); have n1_ := Aside0.mk (below_step (by repeat (first | (with_reducible first | exact HB.out | apply below_alloc | apply pw_below_drewN | apply below_drew1 | refine below_set ?_ GE122.out) | exact HB.out)) hb); clear BK122; clear HB; have BK122 := n0_; have HB := n1_; clear n0_ n1_; (try clear hb); (try clear hb2); (try clear hk); (try clear hi)))
                go_meet
                case rel => exact ⟨_, (!t124), (by first | rfl | (simp; done) | (simp [*]; done)), H', ⟨by have := HK1.out; first | omega | exact Nat.le_refl _⟩, ⟨by (with_reducible repeat (first | refine blk_drewN ?_ _ | refine blk_drew ?_ | refine blk_alloc ?_ _)); exact BK122.out⟩, ⟨by repeat (first | (with_reducible first | exact HB.out | apply below_alloc | apply pw_below_drewN | apply below_drew1 | refine below_set ?_ GE122.out) | exact HB.out)⟩⟩
              · replace c9 := Bool.eq_false_iff.mpr c9
                subst c9
                have H1 : (spec_AreSections.j1 k1 l0 x13_1 l0 (l0.length : Int) x13_1 true ((rd_T36 l0 x13_1).f0) ((rd_T36 l0 x13_1).f1) ((rd_T36 l0 x13_1).f2)) = some r := by rw [if_neg (show ¬ (false = true) by decide)] at H; exact H
                clear H
                have H := H1
                clear H1
                have H' := Aside0.mk H
                clear H
                have hcz13_0 : w6.cell? ⟨gb122, 0, none⟩ = some (.string (⟨#[]⟩ : ByteArray)) := (blk_cell BK122.out 0).trans rfl
                have hcz13_1 : w6.cell? ⟨gb122, 1, none⟩ = some (.slice none 0 0) := (blk_cell BK122.out 1).trans rfl
                have hcz13_2 : w6.cell? ⟨gb122, 2, none⟩ = some (.slice none 0 0) := (blk_cell BK122.out 2).trans rfl
                have hfz13_0 := blk_frozen BK122.out 0
                have hfz13_1 := blk_frozen BK122.out 1
                have hfz13_2 := blk_frozen BK122.out 2
                go_wp2_with (first | ((with_reducible refine gate_callee (f := 15) rfl ?_); refine goesL_ (some 20) rfl rfl Tryd.func15 (by kernel_rfl) rfl #[.string ((rd_T36 l0 x13_1).f0)] rfl (by (try simp only [List.map_toArray, List.map_cons, List.map_nil]); first | done | rfl | (simp only [List.length_drop, List.length_take]; rfl)) ?_; (with_reducible refine (spec_IsConfWord.calls k1 ((rd_T36 l0 x13_1).f0) false _ A8.out).mono ?_); rintro e w' ⟨rfl, ⟨nd, rfl⟩⟩; refine ⟨_, rfl, ?_⟩))
                go_meet
                case rel => exact ⟨_, (true), (by first | rfl | (simp; done) | (simp [*]; done)), H', ⟨by have := HK1.out; first | omega | exact Nat.le_refl _⟩, ⟨by (with_reducible repeat (first | refine blk_drewN ?_ _ | refine blk_drew ?_ | refine blk_alloc ?_ _)); refine blk_put (cs := #[.string ((rd_T36 l0 x13_1).f0), .slice A121_1 ((rd_T36 l0 x13_1).f1).length c121_1, .slice none 0 0]) ?_ 2 _ rfl; (with_reducible repeat (first | refine blk_drewN ?_ _ | refine blk_drew ?_ | refine blk_alloc ?_ _)); refine blk_put (cs := #[.string ((rd_T36 l0 x13_1).f0), .slice none 0 0, .slice none 0 0]) ?_ 1 _ rfl; (with_reducible repeat (first | refine blk_drewN ?_ _ | refine blk_drew ?_ | refine blk_alloc ?_ _)); refine blk_put (cs := #[.string (⟨#[]⟩ : ByteArray), .slice none 0 0, .slice none 0 0]) ?_ 0 _ rfl; (with_reducible repeat (first | refine blk_drewN ?_ _ | refine blk_drew ?_ | refine blk_alloc ?_ _)); exact BK122.out⟩, ⟨by repeat (first | (with_reducible first | exact HB.out | apply below_alloc | apply pw_below_drewN | apply below_drew1 | refine below_set ?_ GE122.out) | exact HB.out)⟩⟩
            case rest =>
              clear HC5
              try clear c1
              try clear p1
              try clear q1
              try clear hx1
              try clear c2
              try clear c2b0
              try clear p2
              try clear c3
              try clear c3b0
              try clear c4
              try clear c4b0
              try clear c9
              try clear c12
              try clear p12
              try clear q12
              try clear hx12
              try clear hcz11_0
              try clear hcz11_1
              try clear hcz11_2
              try clear hcz13_0
              try clear hcz13_1
              try clear hcz13_2
              try clear hcz7_0
              try clear hcz7_1
              try clear hcz7_2
              try clear hfz11_0
              try clear hfz11_1
              try clear hfz11_2
              try clear hfz13_0
              try clear hfz13_1
              try clear hfz13_2
              try clear hfz7_0
              try clear hfz7_1
              try clear hfz7_2
              try clear hx121_0
              try clear hx121_1
              try clear hx121_2
              try clear p121
              try clear q121
              obtain ⟨kq, x27_4, rfl, HA, HJ4, BK122, HB⟩ := hcut
              cases kq with
              | zero => exact absurd HA.out (by simp [spec_AreSections.j1])
              | succ kj4 =>
                have H := HA.out
                clear HA
                simp only [spec_AreSections.j1] at H
                by_cases c14 : x27_4 = true
                · subst c14
                  have H1 : (some false) = some r := by rw [if_pos rfl] at H; exact H
                  clear H
                  have H := H1
                  clear H1
                  obtain rfl := Option.some.inj H
                  go_wp2
                  go_ret
                  exact ⟨by first | rfl | (simp [errW_none, errW_some] <;> rfl) | (simp [*, errW_none, errW_some] <;> rfl), by repeat (first | (with_reducible first | exact HB.out | apply below_alloc | apply pw_below_drewN | apply below_drew1 | refine below_set ?_ GE122.out) | exact HB.out)⟩
                · replace c14 := Bool.eq_false_iff.mpr c14
                  subst c14
                  have H1 : (if 0 ≤ x13_1 then (if x13_1 ≤ (l0.length : Int) then ((some (l0.take (x13_1 : Int).toNat : List (S36))).bind fun y125 => (spec_AreSections.l1 kj4 l0 l0 (l0.length : Int) x13_1 y125 (y125.length : Int) 0 ((rd_T36 l0 x13_1).f0) ((rd_T36 l0 x13_1).f1) ((rd_T36 l0 x13_1).f2))) else (none)) else (none)) = some r := by rw [if_neg (show ¬ (false = true) by decide)] at H; exact H
                  clear H
                  have H := H1
                  clear H1
                  by_cases c15 : 0 ≤ x13_1
                  · rw [if_pos c15] at H
                    have c15b0 := eq_true c15
                    have c15b1 : decide (0 ≤ x13_1) = true := decide_eq_true c15
                    clear c15
                    by_cases c16 : x13_1 ≤ (l0.length : Int)
                    · rw [if_pos c16] at H
                      have c16b0 := eq_true c16
                      have c16b1 : decide (x13_1 ≤ (l0.length : Int)) = true := decide_eq_true c16
                      clear c16
                      obtain ⟨y125, hy125⟩ : ∃ y_ : List (S36), y_ = (l0.take (x13_1 : Int).toNat) := ⟨_, rfl⟩
                      replace H : (spec_AreSections.l1 kj4 l0 l0 (l0.length : Int) x13_1 y125 (y125.length : Int) 0 ((rd_T36 l0 x13_1).f0) ((rd_T36 l0 x13_1).f1) ((rd_T36 l0 x13_1).f2)) = some r := by first | (rw [hy125]; with_reducible exact H) | (have H2_ := (Option.bind_some _ _).symm.trans H; rw [hy125]; with_reducible exact H2_) | (have H2_ := (Option.bind_some _ _).symm.trans H; with_reducible exact H2_) | with_reducible exact H | (rw [hy125]; exact H) | exact H
                      have Ny125 := Aside0.mk hy125
                      clear hy125
                      have H' := Aside0.mk H
                      clear H
                      have q17 : (x13_1 : Int) ≤ ((l0.length : Int) : Int) := of_decide_eq_true (by first | (with_reducible assumption) | assumption)
                      obtain ⟨i017, hi017, _, hsz17, _⟩ := info_parts info36
                      have hroom17 : l0.length ≤ c0 := HC0.out
                      have hC17 : Kd.C k36 _ (some ad121) l0.length l0 := HR0.out
                      have hcut17 := cut_to (P := Tryd.prog) 22 36 .i64 Tryd.underlying22 hi017 (some ad121) l0.length c0 x13_1 (of_decide_eq_true (by first | (with_reducible assumption) | assumption)) q17 hroom17
                      have hr17 := Kd.C_take (m := (x13_1 : Int).toNat) hC17 (by omega)
                      have hy17 : y125.length = (x13_1 : Int).toNat := (by rw [Ny125.out, List.length_take]; omega)
                      rw [← Ny125.out] at hr17
                      rw [← hy17] at hcut17
                      have HR128 := Aside0.mk hr17
                      have HC128 := Aside0.mk (show y125.length ≤ c0 from by omega)
                      clear hr17 hC17 hroom17 hi017 hsz17
                      have KY17 := Aside0.mk hy17
                      clear hy17
                      replace q17 := eq_true q17
                      go_wp2
                      go_loopg [32] kj4 (fun kq v32 w' => ∃ (x32_3 : Int), v32 = .int .i64 x32_3 ∧ Aside0 (spec_AreSections.l1 kq l0 l0 (l0.length : Int) x13_1 y125 (y125.length : Int) x32_3 ((rd_T36 l0 x13_1).f0) ((rd_T36 l0 x13_1).f1) ((rd_T36 l0 x13_1).f2) = some r) ∧ Aside0 (kq ≤ kj4) ∧ Aside0 (w'.heap[gb122]? = some (.cells #[.string ((rd_T36 l0 x13_1).f0), (.slice A121_1 ((rd_T36 l0 x13_1).f1).length c121_1), (.slice A121_2 ((rd_T36 l0 x13_1).f2).length c121_2)] 36 (0, 0))) ∧ Aside0 (Below w.heap.size w w'))
                      case atStart => exact ⟨(0), (by first | rfl | (simp; done) | (simp [*]; done)), H', ⟨Nat.le_refl _⟩, ⟨by (with_reducible repeat (first | refine blk_drewN ?_ _ | refine blk_drew ?_ | refine blk_alloc ?_ _)); exact BK122.out⟩, ⟨by repeat (first | (with_reducible first | exact HB.out | apply below_alloc | apply pw_below_drewN | apply below_drew1 | refine below_set ?_ GE122.out) | exact HB.out)⟩⟩
                      case round =>
                        clear H'
                        try clear c1
                        try clear p1
                        try clear q1
                        try clear hx1
                        try clear c2
                        try clear c2b0
                        try clear p2
                        try clear c3
                        try clear c3b0
                        try clear c4
                        try clear c4b0
                        try clear c9
                        try clear c12
                        try clear p12
                        try clear q12
                        try clear hx12
                        try clear c14
                        try clear c15
                        try clear c15b0
                        try clear c15b1
                        try clear c16
                        try clear c16b0
                        try clear c16b1
                        try clear q17
                        try clear hcz11_0
                        try clear hcz11_1
                        try clear hcz11_2
                        try clear hcz13_0
                        try clear hcz13_1
                        try clear hcz13_2
                        try clear hcz7_0
                        try clear hcz7_1
                        try clear hcz7_2
                        try clear hfz11_0
                        try clear hfz11_1
                        try clear hfz11_2
                        try clear hfz13_0
                        try clear hfz13_1
                        try clear hfz13_2
                        try clear hfz7_0
                        try clear hfz7_1
                        try clear hfz7_2
                        try clear hx121_0
                        try clear hx121_1
                        try clear hx121_2
                        try clear p1
                        try clear p12
                        try clear p121
                        try clear p2
                        try clear q1
                        try clear q12
                        try clear q121
                        try clear q17
                        obtain ⟨x32_3, rfl, HA, HK3, BK122, HB⟩ := hrel
                        cases gk with
                        | zero => exact absurd HA.out (by simp [spec_AreSections.l1])
                        | succ k3 =>
                          have H := HA.out
                          clear HA
                          simp only [spec_AreSections.l1] at H
                          by_cases c18 : x32_3 < (y125.length : Int)
                          · rw [if_pos c18] at H
                            have c18b0 : decide (x32_3 < (y125.length : Int)) = true := decide_eq_true c18
                            clear c18
                            by_cases c19 : 0 ≤ x32_3
                            · rw [if_pos c19] at H
                              have c19b0 : decide (0 ≤ x32_3) = true := decide_eq_true c19
                              clear c19
                              by_cases c20 : x32_3 < (y125.length : Int)
                              · rw [if_pos c20] at H
                                have c20b0 : decide (x32_3 < (y125.length : Int)) = true := decide_eq_true c20
                                clear c20
                                by_cases c21 : ((rd_T36 y125 x32_3).f0).toList = ((rd_T36 l0 x13_1).f0).toList
                                · rw [if_pos c21] at H
                                  have c21b0 : (((rd_T36 y125 x32_3).f0).toList == ((rd_T36 l0 x13_1).f0).toList) = true := beq_iff_eq.mpr c21
                                  have c21b1 : (((rd_T36 y125 x32_3).f0).toList != ((rd_T36 l0 x13_1).f0).toList) = false := bne_eq_false_iff_eq.mpr c21
                                  clear c21
                                  obtain rfl := Option.some.inj H
                                  have p129 : 0 ≤ (x32_3 : Int) := of_decide_eq_true (by first | (with_reducible assumption) | assumption)
                                  have q129 : x32_3 < (y125.length : Int) := of_decide_eq_true (by first | (with_reducible assumption) | assumption)
                                  obtain ⟨ad129, A129_1, c129_1, A129_2, c129_2, e129, hx129_0, hx129_1, hx129_2, hl129_1, hi129_1, hl129_2, hi129_2⟩ := at_T36 HR128.out x32_3 p129 q129
                                  obtain rfl : ad121 = ad129 := (by injection e129)
                                  replace hx129_0 := (HB.out.cell (World.block_lt_of_cell? w _ hx129_0)).trans hx129_0
                                  replace hx129_1 := (HB.out.cell (World.block_lt_of_cell? w _ hx129_1)).trans hx129_1
                                  replace hx129_2 := (HB.out.cell (World.block_lt_of_cell? w _ hx129_2)).trans hx129_2
                                  have HR129_1 := Aside0.mk hi129_1
                                  have HC129_1 := Aside0.mk hl129_1
                                  clear hi129_1 hl129_1
                                  have HR129_2 := Aside0.mk hi129_2
                                  have HC129_2 := Aside0.mk hl129_2
                                  clear hi129_2 hl129_2
                                  replace p129 := eq_true p129
                                  replace q129 := eq_true q129
                                  go_wp2_with (first | ((with_reducible refine gate_dst (N := 6) rfl ?_); refine box_event ?hg (N := 6) ?hd (cs := #[.string (⟨#[]⟩ : ByteArray), .slice none 0 0, .slice none 0 0]) (t := 36) ?hr ?_; (case hd => rfl); (case hg => rfl); (case hr => first | (go_simp; done) | (go_simp; rfl)); intro gb130 hg w22 hbox hb; have n0_ := Aside0.mk (blk_below (g := gb122) (o := .cells #[.string ((rd_T36 l0 x13_1).f0), .slice A121_1 ((rd_T36 l0 x13_1).f1).length c121_1, .slice A121_2 ((rd_T36 l0 x13_1).f2).length c121_2] 36 (0, 0)) (by (with_reducible repeat (first | refine blk_drewN ?_ _ | refine blk_drew ?_ | refine blk_alloc ?_ _)); exact BK122.out) hb); have n1_ := Aside0.mk (below_step (by repeat (first | (with_reducible first | exact HB.out | apply below_alloc | apply pw_below_drewN | apply below_drew1 | refine below_set ?_ GE122.out) | exact HB.out)) hb); have n2_ := Aside0.mk (hbox); have n3_ := Aside0.mk ((by rw [hg]; exact (below_size (by repeat (first | (with_reducible first | exact HB.out | apply below_alloc | apply pw_below_drewN | apply below_drew1 | refine below_set ?_ GE122.out) | exact HB.out))) : w.heap.size ≤ gb130)); have n4_ := Aside0.mk ((by rw [hg]; exact (below_size (by repeat (first | (with_reducible first | exact HB.out | apply below_alloc | apply pw_below_drewN | apply below_drew1 | refine below_set ?_ GE122.out) | exact HB.out))) : w.heap.size ≤ gb130)); have n5_ := Aside0.mk ((by rw [hg]; exact Nat.ne_of_lt (blk_lt (g := gb122) (o := .cells #[.string ((rd_T36 l0 x13_1).f0), .slice A121_1 ((rd_T36 l0 x13_1).f1).length c121_1, .slice A121_2 ((rd_T36 l0 x13_1).f2).length c121_2] 36 (0, 0)) (by (with_reducible repeat (first | refine blk_drewN ?_ _ | refine blk_drew ?_ | refine blk_alloc ?_ _)); exact BK122.out)) : gb122 ≠ gb130)); have n6_ := Aside0.mk ((by rw [hg]; exact Nat.ne_of_gt (blk_lt (g := gb122) (o := .cells #[.string ((rd_T36 l0 x13_1).f0), .slice A121_1 ((rd_T36 l0 x13_1).f1).length c121_1, .slice A121_2 ((rd_T36 l0 x13_1).f2).length c121_2] 36 (0, 0)) (by (with_reducible repeat (first | refine blk_drewN ?_ _ | refine blk_drew ?_ | refine blk_alloc ?_ _)); exact BK122.out)) : gb130 ≠ gb122)); clear BK122; clear HB; have BK122 := n0_; have HB := n1_; have BK130 := n2_; have GW130 := n3_; have GE130 := n4_; have NB122_130 := n5_; have NB130_122 := n6_; clear n0_ n1_ n2_ n3_ n4_ n5_ n6_; clear hb hbox hg; have hnb23 := NB130_122.out; have hnc23 := NB122_130.out; have hcz24_0 : w22.cell? ⟨gb130, 0, none⟩ = some (.string (⟨#[]⟩ : ByteArray)) := (blk_cell BK130.out 0).trans rfl; have hcz24_1 : w22.cell? ⟨gb130, 1, none⟩ = some (.slice none 0 0) := (blk_cell BK130.out 1).trans rfl; have hcz24_2 : w22.cell? ⟨gb130, 2, none⟩ = some (.slice none 0 0) := (blk_cell BK130.out 2).trans rfl; have hfz24_0 := blk_frozen BK130.out 0; have hfz24_1 := blk_frozen BK130.out 1; have hfz24_2 := blk_frozen BK130.out 2; have hcz25_0 : w22.cell? ⟨gb122, 0, none⟩ = some (.string ((rd_T36 l0 x13_1).f0)) := (blk_cell BK122.out 0).trans rfl; have hcz25_1 : w22.cell? ⟨gb122, 1, none⟩ = some (.slice A121_1 ((rd_T36 l0 x13_1).f1).length c121_1) := (blk_cell BK122.out 1).trans rfl; have hcz25_2 : w22.cell? ⟨gb122, 2, none⟩ = some (.slice A121_2 ((rd_T36 l0 x13_1).f2).length c121_2) := (blk_cell BK122.out 2).trans rfl; have hfz25_0 := blk_frozen BK122.out 0; have hfz25_1 := blk_frozen BK122.out 1; have hfz25_2 := blk_frozen BK122.out 2))
                                  go_ret
                                  exact ⟨by first | rfl | (simp [errW_none, errW_some] <;> rfl) | (simp [*, errW_none, errW_some] <;> rfl), by repeat (first | (with_reducible first | exact HB.out | apply below_alloc | apply pw_below_drewN | apply below_drew1 | refine below_set ?_ GE122.out | refine below_set ?_ GE130.out) | exact HB.out)⟩
                                · rw [if_neg c21] at H
                                  have c21b0 : (((rd_T36 y125 x32_3).f0).toList == ((rd_T36 l0 x13_1).f0).toList) = false := beq_eq_false_iff_ne.mpr c21
                                  have c21b1 : (((rd_T36 y125 x32_3).f0).toList != ((rd_T36 l0 x13_1).f0).toList) = true := bne_iff_ne.mpr c21
                                  have H' := Aside0.mk H
                                  clear H
                                  have p129 : 0 ≤ (x32_3 : Int) := of_decide_eq_true (by first | (with_reducible assumption) | assumption)
                                  have q129 : x32_3 < (y125.length : Int) := of_decide_eq_true (by first | (with_reducible assumption) | assumption)
                                  obtain ⟨ad129, A129_1, c129_1, A129_2, c129_2, e129, hx129_0, hx129_1, hx129_2, hl129_1, hi129_1, hl129_2, hi129_2⟩ := at_T36 HR128.out x32_3 p129 q129
                                  obtain rfl : ad121 = ad129 := (by injection e129)
                                  replace hx129_0 := (HB.out.cell (World.block_lt_of_cell? w _ hx129_0)).trans hx129_0
                                  replace hx129_1 := (HB.out.cell (World.block_lt_of_cell? w _ hx129_1)).trans hx129_1
                                  replace hx129_2 := (HB.out.cell (World.block_lt_of_cell? w _ hx129_2)).trans hx129_2
                                  have HR129_1 := Aside0.mk hi129_1
                                  have HC129_1 := Aside0.mk hl129_1
                                  clear hi129_1 hl129_1
                                  have HR129_2 := Aside0.mk hi129_2
                                  have HC129_2 := Aside0.mk hl129_2
                                  clear hi129_2 hl129_2
                                  replace p129 := eq_true p129
                                  replace q129 := eq_true q129
                                  go_wp2_with (first | ((with_reducible refine gate_dst (N := 6) rfl ?_); refine box_event ?hg (N := 6) ?hd (cs := #[.string (⟨#[]⟩ : ByteArray), .slice none 0 0, .slice none 0 0]) (t := 36) ?hr ?_; (case hd => rfl); (case hg => rfl); (case hr => first | (go_simp; done) | (go_simp; rfl)); intro gb130 hg w26 hbox hb; have n0_ := Aside0.mk (blk_below (g := gb122) (o := .cells #[.string ((rd_T36 l0 x13_1).f0), .slice A121_1 ((rd_T36 l0 x13_1).f1).length c121_1, .slice A121_2 ((rd_T36 l0 x13_1).f2).length c121_2] 36 (0, 0)) (by (with_reducible repeat (first | refine blk_drewN ?_ _ | refine blk_drew ?_ | refine blk_alloc ?_ _)); exact BK122.out) hb); have n1_ := Aside0.mk (below_step (by repeat (first | (with_reducible first | exact HB.out | apply below_alloc | apply pw_below_drewN | apply below_drew1 | refine below_set ?_ GE122.out) | exact HB.out)) hb); have n2_ := Aside0.mk (hbox); have n3_ := Aside0.mk ((by rw [hg]; exact (below_size (by repeat (first | (with_reducible first | exact HB.out | apply below_alloc | apply pw_below_drewN | apply below_drew1 | refine below_set ?_ GE122.out) | exact HB.out))) : w.heap.size ≤ gb130)); have n4_ := Aside0.mk ((by rw [hg]; exact (below_size (by repeat (first | (with_reducible first | exact HB.out | apply below_alloc | apply pw_below_drewN | apply below_drew1 | refine below_set ?_ GE122.out) | exact HB.out))) : w.heap.size ≤ gb130)); have n5_ := Aside0.mk ((by rw [hg]; exact Nat.ne_of_lt (blk_lt (g := gb122) (o := .cells #[.string ((rd_T36 l0 x13_1).f0), .slice A121_1 ((rd_T36 l0 x13_1).f1).length c121_1, .slice A121_2 ((rd_T36 l0 x13_1).f2).length c121_2] 36 (0, 0)) (by (with_reducible repeat (first | refine blk_drewN ?_ _ | refine blk_drew ?_ | refine blk_alloc ?_ _)); exact BK122.out)) : gb122 ≠ gb130)); have n6_ := Aside0.mk ((by rw [hg]; exact Nat.ne_of_gt (blk_lt (g := gb122) (o := .cells #[.string ((rd_T36 l0 x13_1).f0), .slice A121_1 ((rd_T36 l0 x13_1).f1).length c121_1, .slice A121_2 ((rd_T36 l0 x13_1).f2).length c121_2] 36 (0, 0)) (by (with_reducible repeat (first | refine blk_drewN ?_ _ | refine blk_drew ?_ | refine blk_alloc ?_ _)); exact BK122.out)) : gb130 ≠ gb122)); clear BK122; clear HB; have BK122 := n0_; have HB := n1_; have BK130 := n2_; have GW130 := n3_; have GE130 := n4_; have NB122_130 := n5_; have NB130_122 := n6_; clear n0_ n1_ n2_ n3_ n4_ n5_ n6_; clear hb hbox hg; have hnb27 := NB130_122.out; have hnc27 := NB122_130.out; have hcz28_0 : w26.cell? ⟨gb130, 0, none⟩ = some (.string (⟨#[]⟩ : ByteArray)) := (blk_cell BK130.out 0).trans rfl; have hcz28_1 : w26.cell? ⟨gb130, 1, none⟩ = some (.slice none 0 0) := (blk_cell BK130.out 1).trans rfl; have hcz28_2 : w26.cell? ⟨gb130, 2, none⟩ = some (.slice none 0 0) := (blk_cell BK130.out 2).trans rfl; have hfz28_0 := blk_frozen BK130.out 0; have hfz28_1 := blk_frozen BK130.out 1; have hfz28_2 := blk_frozen BK130.out 2; have hcz29_0 : w26.cell? ⟨gb122, 0, none⟩ = some (.string ((rd_T36 l0 x13_1).f0)) := (blk_cell BK122.out 0).trans rfl; have hcz29_1 : w26.cell? ⟨gb122, 1, none⟩ = some (.slice A121_1 ((rd_T36 l0 x13_1).f1).length c121_1) := (blk_cell BK122.out 1).trans rfl; have hcz29_2 : w26.cell? ⟨gb122, 2, none⟩ = some (.slice A121_2 ((rd_T36 l0 x13_1).f2).length c121_2) := (blk_cell BK122.out 2).trans rfl; have hfz29_0 := blk_frozen BK122.out 0; have hfz29_1 := blk_frozen BK122.out 1; have hfz29_2 := blk_frozen BK122.out 2))
                                  go_roundg k3
                                  case measure => have := HK1.out; have := HJ4.out; have := HK3.out; omega
                                  case rel => exact ⟨(wrap64 (x32_3 + 1)), (by first | rfl | (simp; done) | (simp [*]; done)), H', ⟨by have := HK1.out; have := HJ4.out; have := HK3.out; omega⟩, ⟨by (with_reducible repeat (first | refine blk_drewN ?_ _ | refine blk_drew ?_ | refine blk_alloc ?_ _)); refine blk_far ?_ NB122_130.out _; (with_reducible repeat (first | refine blk_drewN ?_ _ | refine blk_drew ?_ | refine blk_alloc ?_ _)); refine blk_far ?_ NB122_130.out _; (with_reducible repeat (first | refine blk_drewN ?_ _ | refine blk_drew ?_ | refine blk_alloc ?_ _)); refine blk_far ?_ NB122_130.out _; (with_reducible repeat (first | refine blk_drewN ?_ _ | refine blk_drew ?_ | refine blk_alloc ?_ _)); exact BK122.out⟩, ⟨by repeat (first | (with_reducible first | exact HB.out | apply below_alloc | apply pw_below_drewN | apply below_drew1 | refine below_set ?_ GE122.out | refine below_set ?_ GE130.out) | exact HB.out)⟩⟩
                              · rw [if_neg c20] at H
                                exact absurd H (by simp)
                            · rw [if_neg c19] at H
                              exact absurd H (by simp)
                          · rw [if_neg c18] at H
                            have c18b0 : decide (x32_3 < (y125.length : Int)) = false := decide_eq_false c18
                            clear c18
                            have H' := Aside0.mk H
                            clear H
                            have hcz30_0 : wr.cell? ⟨gb122, 0, none⟩ = some (.string ((rd_T36 l0 x13_1).f0)) := (blk_cell BK122.out 0).trans rfl
                            have hcz30_1 : wr.cell? ⟨gb122, 1, none⟩ = some (.slice A121_1 ((rd_T36 l0 x13_1).f1).length c121_1) := (blk_cell BK122.out 1).trans rfl
                            have hcz30_2 : wr.cell? ⟨gb122, 2, none⟩ = some (.slice A121_2 ((rd_T36 l0 x13_1).f2).length c121_2) := (blk_cell BK122.out 2).trans rfl
                            have hfz30_0 := blk_frozen BK122.out 0
                            have hfz30_1 := blk_frozen BK122.out 1
                            have hfz30_2 := blk_frozen BK122.out 2
                            go_wp2
                            go_loopg [45] k3 (fun kq v45 w' => ∃ (x45_4 : Int), v45 = .int .i64 x45_4 ∧ Aside0 (spec_AreSections.l2 kq l0 l0 (l0.length : Int) x13_1 ((rd_T36 l0 x13_1).f2) (((rd_T36 l0 x13_1).f2).length : Int) x45_4 ((rd_T36 l0 x13_1).f0) ((rd_T36 l0 x13_1).f1) ((rd_T36 l0 x13_1).f2) = some r) ∧ Aside0 (kq ≤ k3) ∧ Aside0 (w'.heap[gb122]? = some (.cells #[.string ((rd_T36 l0 x13_1).f0), (.slice A121_1 ((rd_T36 l0 x13_1).f1).length c121_1), (.slice A121_2 ((rd_T36 l0 x13_1).f2).length c121_2)] 36 (0, 0))) ∧ Aside0 (Below w.heap.size w w'))
                            case atStart => exact ⟨(0), (by first | rfl | (simp; done) | (simp [*]; done)), H', ⟨Nat.le_refl _⟩, ⟨by (with_reducible repeat (first | refine blk_drewN ?_ _ | refine blk_drew ?_ | refine blk_alloc ?_ _)); exact BK122.out⟩, ⟨by repeat (first | (with_reducible first | exact HB.out | apply below_alloc | apply pw_below_drewN | apply below_drew1 | refine below_set ?_ GE122.out) | exact HB.out)⟩⟩
                            case round =>
                              clear H'
                              try clear c1
                              try clear p1
                              try clear q1
                              try clear hx1
                              try clear c2
                              try clear c2b0
                              try clear p2
                              try clear c3
                              try clear c3b0
                              try clear c4
                              try clear c4b0
                              try clear p6
                              try clear c9
                              try clear c12
                              try clear p12
                              try clear q12
                              try clear hx12
                              try clear c14
                              try clear c15
                              try clear c15b0
                              try clear c15b1
                              try clear c16
                              try clear c16b0
                              try clear c16b1
                              try clear q17
                              try clear c18
                              try clear c18b0
                              try clear c19
                              try clear c19b0
                              try clear c20
                              try clear c20b0
                              try clear c21
                              try clear c21b0
                              try clear c21b1
                              try clear c23
                              try clear c27
                              try clear hcz11_0
                              try clear hcz11_1
                              try clear hcz11_2
                              try clear hcz13_0
                              try clear hcz13_1
                              try clear hcz13_2
                              try clear hcz24_0
                              try clear hcz24_1
                              try clear hcz24_2
                              try clear hcz25_0
                              try clear hcz25_1
                              try clear hcz25_2
                              try clear hcz28_0
                              try clear hcz28_1
                              try clear hcz28_2
                              try clear hcz29_0
                              try clear hcz29_1
                              try clear hcz29_2
                              try clear hcz30_0
                              try clear hcz30_1
                              try clear hcz30_2
                              try clear hcz7_0
                              try clear hcz7_1
                              try clear hcz7_2
                              try clear hfz11_0
                              try clear hfz11_1
                              try clear hfz11_2
                              try clear hfz13_0
                              try clear hfz13_1
                              try clear hfz13_2
                              try clear hfz24_0
                              try clear hfz24_1
                              try clear hfz24_2
                              try clear hfz25_0
                              try clear hfz25_1
                              try clear hfz25_2
                              try clear hfz28_0
                              try clear hfz28_1
                              try clear hfz28_2
                              try clear hfz29_0
                              try clear hfz29_1
                              try clear hfz29_2
                              try clear hfz30_0
                              try clear hfz30_1
                              try clear hfz30_2
                              try clear hfz7_0
                              try clear hfz7_1
                              try clear hfz7_2
                              try clear hx121_0
                              try clear hx121_1
                              try clear hx121_2
                              try clear hx129_0
                              try clear hx129_1
                              try clear hx129_2
                              try clear p1
                              try clear p12
                              try clear p121
                              try clear p129
                              try clear p2
                              try clear q1
                              try clear q12
                              try clear q121
                              try clear q129
                              try clear q17
                              obtain ⟨x45_4, rfl, HA, HK4, BK122, HB⟩ := hrel
                              cases gk with
                              | zero => exact absurd HA.out (by simp [spec_AreSections.l2])
                              | succ k4 =>
                                have H := HA.out
                                clear HA
                                simp only [spec_AreSections.l2] at H
                                by_cases c31 : x45_4 < (((rd_T36 l0 x13_1).f2).length : Int)
                                · rw [if_pos c31] at H
                                  have c31b0 : decide (x45_4 < (((rd_T36 l0 x13_1).f2).length : Int)) = true := decide_eq_true c31
                                  clear c31
                                  by_cases c32 : 0 ≤ x45_4
                                  · rw [if_pos c32] at H
                                    have c32b0 : decide (0 ≤ x45_4) = true := decide_eq_true c32
                                    clear c32
                                    by_cases c33 : x45_4 < (((rd_T36 l0 x13_1).f2).length : Int)
                                    · rw [if_pos c33] at H
                                      have c33b0 : decide (x45_4 < (((rd_T36 l0 x13_1).f2).length : Int)) = true := decide_eq_true c33
                                      clear c33
                                      have HC34 := Aside0.mk H
                                      clear H
                                      have p131 : 0 ≤ (x45_4 : Int) := of_decide_eq_true (by first | (with_reducible assumption) | assumption)
                                      have q131 : x45_4 < (((rd_T36 l0 x13_1).f2).length : Int) := of_decide_eq_true (by first | (with_reducible assumption) | assumption)
                                      obtain ⟨ad131, A131_1, c131_1, e131, hx131_0, hx131_1, hl131_1, hi131_1⟩ := at_T46 HR121_2.out x45_4 p131 q131
                                      cases e131
                                      replace hx131_0 := (HB.out.cell (World.block_lt_of_cell? w _ hx131_0)).trans hx131_0
                                      replace hx131_1 := (HB.out.cell (World.block_lt_of_cell? w _ hx131_1)).trans hx131_1
                                      have HR131_1 := Aside0.mk hi131_1
                                      have HC131_1 := Aside0.mk hl131_1
                                      clear hi131_1 hl131_1
                                      replace p131 := eq_true p131
                                      replace q131 := eq_true q131
                                      go_upto_region 15 with (first | ((with_reducible refine gate_dst (N := 8) rfl ?_); refine box_event ?hg (N := 8) ?hd (cs := #[.string (⟨#[]⟩ : ByteArray), .slice none 0 0]) (t := 46) ?hr ?_; (case hd => rfl); (case hg => rfl); (case hr => first | (go_simp; done) | (go_simp; rfl)); intro gb132 hg w35 hbox hb; have n0_ := Aside0.mk (blk_below (g := gb122) (o := .cells #[.string ((rd_T36 l0 x13_1).f0), .slice A121_1 ((rd_T36 l0 x13_1).f1).length c121_1, .slice (some ad131) ((rd_T36 l0 x13_1).f2).length c121_2] 36 (0, 0)) (by (with_reducible repeat (first | refine blk_drewN ?_ _ | refine blk_drew ?_ | refine blk_alloc ?_ _)); exact BK122.out) hb); have n1_ := Aside0.mk (below_step (by repeat (first | (with_reducible first | exact HB.out | apply below_alloc | apply pw_below_drewN | apply below_drew1 | refine below_set ?_ GE122.out) | exact HB.out)) hb); have n2_ := Aside0.mk (hbox); have n3_ := Aside0.mk ((by rw [hg]; exact (below_size (by repeat (first | (with_reducible first | exact HB.out | apply below_alloc | apply pw_below_drewN | apply below_drew1 | refine below_set ?_ GE122.out) | exact HB.out))) : w.heap.size ≤ gb132)); have n4_ := Aside0.mk ((by rw [hg]; exact (below_size (by repeat (first | (with_reducible first | exact HB.out | apply below_alloc | apply pw_below_drewN | apply below_drew1 | refine below_set ?_ GE122.out) | exact HB.out))) : w.heap.size ≤ gb132)); have n5_ := Aside0.mk ((by rw [hg]; exact Nat.ne_of_lt (blk_lt (g := gb122) (o := .cells #[.string ((rd_T36 l0 x13_1).f0), .slice A121_1 ((rd_T36 l0 x13_1).f1).length c121_1, .slice (some ad131) ((rd_T36 l0 x13_1).f2).length c121_2] 36 (0, 0)) (by (with_reducible repeat (first | refine blk_drewN ?_ _ | refine blk_drew ?_ | refine blk_alloc ?_ _)); exact BK122.out)) : gb122 ≠ gb132)); have n6_ := Aside0.mk ((by rw [hg]; exact Nat.ne_of_gt (blk_lt (g := gb122) (o := .cells #[.string ((rd_T36 l0 x13_1).f0), .slice A121_1 ((rd_T36 l0 x13_1).f1).length c121_1, .slice (some ad131) ((rd_T36 l0 x13_1).f2).length c121_2] 36 (0, 0)) (by (with_reducible repeat (first | refine blk_drewN ?_ _ | refine blk_drew ?_ | refine blk_alloc ?_ _)); exact BK122.out)) : gb132 ≠ gb122)); clear BK122; clear HB; have BK122 := n0_; have HB := n1_; have BK132 := n2_; have GW132 := n3_; have GE132 := n4_; have NB122_132 := n5_; have NB132_122 := n6_; clear n0_ n1_ n2_ n3_ n4_ n5_ n6_; clear hb hbox hg; have hnb36 := NB132_122.out; have hnc36 := NB122_132.out; have hcz37_0 : w35.cell? ⟨gb132, 0, none⟩ = some (.string (⟨#[]⟩ : ByteArray)) := (blk_cell BK132.out 0).trans rfl; have hcz37_1 : w35.cell? ⟨gb132, 1, none⟩ = some (.slice none 0 0) := (blk_cell BK132.out 1).trans rfl; have hfz37_0 := blk_frozen BK132.out 0; have hfz37_1 := blk_frozen BK132.out 1))
                                      (try simp only [Act.put, List.setIfInBounds_toArray, List.set_cons_zero, List.set_cons_succ])
                                      go_cut [59] (fun v59 wc => ∃ (kq : Nat) (x59_33 : Bool), v59 = .bool x59_33 ∧ Aside0 (spec_AreSections.j4 kq l0 x45_4 l0 (l0.length : Int) x13_1 ((rd_T36 l0 x13_1).f2) (((rd_T36 l0 x13_1).f2).length : Int) x45_4 x59_33 ((rd_T36 l0 x13_1).f0) ((rd_T36 l0 x13_1).f1) ((rd_T36 l0 x13_1).f2) ((rd_T46 ((rd_T36 l0 x13_1).f2) x45_4).f0) ((rd_T46 ((rd_T36 l0 x13_1).f2) x45_4).f1) = some r) ∧ Aside0 (kq ≤ k4) ∧ Aside0 (wc.heap[gb122]? = some (.cells #[.string ((rd_T36 l0 x13_1).f0), (.slice A121_1 ((rd_T36 l0 x13_1).f1).length c121_1), (.slice (some ad131) ((rd_T36 l0 x13_1).f2).length c121_2)] 36 (0, 0))) ∧ Aside0 (wc.heap[gb132]? = some (.cells #[.string ((rd_T46 ((rd_T36 l0 x13_1).f2) x45_4).f0), (.slice A131_1 ((rd_T46 ((rd_T36 l0 x13_1).f2) x45_4).f1).length c131_1)] 46 (0, 0))) ∧ Aside0 (Below w.heap.size w wc))
                                      case first =>
                                        have H := HC34.out
                                        clear HC34
                                        replace H := Option.bind_eq_some_iff.mp H
                                        obtain ⟨t133, A380, H⟩ := H
                                        replace H : (if t133 = true then ((spec_areOptions.f k4 ((rd_T46 ((rd_T36 l0 x13_1).f2) x45_4).f1)).bind fun t134 => (spec_AreSections.j4 k4 l0 x45_4 l0 (l0.length : Int) x13_1 ((rd_T36 l0 x13_1).f2) (((rd_T36 l0 x13_1).f2).length : Int) x45_4 (!t134) ((rd_T36 l0 x13_1).f0) ((rd_T36 l0 x13_1).f1) ((rd_T36 l0 x13_1).f2) ((rd_T46 ((rd_T36 l0 x13_1).f2) x45_4).f0) ((rd_T46 ((rd_T36 l0 x13_1).f2) x45_4).f1))) else (spec_AreSections.j4 k4 l0 x45_4 l0 (l0.length : Int) x13_1 ((rd_T36 l0 x13_1).f2) (((rd_T36 l0 x13_1).f2).length : Int) x45_4 true ((rd_T36 l0 x13_1).f0) ((rd_T36 l0 x13_1).f1) ((rd_T36 l0 x13_1).f2) ((rd_T46 ((rd_T36 l0 x13_1).f2) x45_4).f0) ((rd_T46 ((rd_T36 l0 x13_1).f2) x45_4).f1))) = some r := H
                                        have A38 := Aside0.mk A380
                                        clear A380
                                        by_cases c39 : t133 = true
                                        · subst c39
                                          have H1 : ((spec_areOptions.f k4 ((rd_T46 ((rd_T36 l0 x13_1).f2) x45_4).f1)).bind fun t134 => (spec_AreSections.j4 k4 l0 x45_4 l0 (l0.length : Int) x13_1 ((rd_T36 l0 x13_1).f2) (((rd_T36 l0 x13_1).f2).length : Int) x45_4 (!t134) ((rd_T36 l0 x13_1).f0) ((rd_T36 l0 x13_1).f1) ((rd_T36 l0 x13_1).f2) ((rd_T46 ((rd_T36 l0 x13_1).f2) x45_4).f0) ((rd_T46 ((rd_T36 l0 x13_1).f2) x45_4).f1))) = some r := by rw [if_pos rfl] at H; exact H
                                          clear H
                                          have H := H1
                                          clear H1
                                          replace H := Option.bind_eq_some_iff.mp H
                                          obtain ⟨t134, A400, H⟩ := H
                                          replace H : (spec_AreSections.j4 k4 l0 x45_4 l0 (l0.length : Int) x13_1 ((rd_T36 l0 x13_1).f2) (((rd_T36 l0 x13_1).f2).length : Int) x45_4 (!t134) ((rd_T36 l0 x13_1).f0) ((rd_T36 l0 x13_1).f1) ((rd_T36 l0 x13_1).f2) ((rd_T46 ((rd_T36 l0 x13_1).f2) x45_4).f0) ((rd_T46 ((rd_T36 l0 x13_1).f2) x45_4).f1)) = some r := H
                                          have A40 := Aside0.mk A400
                                          clear A400
                                          have H' := Aside0.mk H
                                          clear H
                                          have hnb41 := NB132_122.out
                                          have hnc41 := NB122_132.out
                                          have hcz42_0 : w35.cell? ⟨gb132, 0, none⟩ = some (.string (⟨#[]⟩ : ByteArray)) := (blk_cell BK132.out 0).trans rfl
                                          have hcz42_1 : w35.cell? ⟨gb132, 1, none⟩ = some (.slice none 0 0) := (blk_cell BK132.out 1).trans rfl
                                          have hfz42_0 := blk_frozen BK132.out 0
                                          have hfz42_1 := blk_frozen BK132.out 1
                                          go_wp2_with (first | ((with_reducible refine gate_callee (f := 15) rfl ?_); refine goesL_ (some 52) rfl rfl Tryd.func15 (by kernel_rfl) rfl #[.string ((rd_T46 ((rd_T36 l0 x13_1).f2) x45_4).f0)] rfl (by (try simp only [List.map_toArray, List.map_cons, List.map_nil]); first | done | rfl | (simp only [List.length_drop, List.length_take]; rfl)) ?_; (with_reducible refine (spec_IsConfWord.calls k4 ((rd_T46 ((rd_T36 l0 x13_1).f2) x45_4).f0) true _ A38.out).mono ?_); rintro e w' ⟨rfl, ⟨nd, rfl⟩⟩; refine ⟨_, rfl, ?_⟩) | (go_at_call 25; (with_reducible refine (spec_areOptions.calls k4 _ _ ((rd_T46 ((rd_T36 l0 x13_1).f2) x45_4).f1) t134 _ ?side1 ?side2 A40.out).mono ?_); (case side1 => exact Kd.C_below HR131_1.out (by repeat (first | (with_reducible first | exact HB.out | apply below_alloc | apply pw_below_drewN | apply below_drew1 | refine below_set ?_ GE122.out | refine below_set ?_ GE132.out) | exact HB.out))); (case side2 => exact HC131_1.out); rintro e w43 ⟨rfl, hb⟩; have n0_ := Aside0.mk (blk_below (g := gb122) (o := .cells #[.string ((rd_T36 l0 x13_1).f0), .slice A121_1 ((rd_T36 l0 x13_1).f1).length c121_1, .slice (some ad131) ((rd_T36 l0 x13_1).f2).length c121_2] 36 (0, 0)) (by (with_reducible repeat (first | refine blk_drewN ?_ _ | refine blk_drew ?_ | refine blk_alloc ?_ _)); refine blk_far ?_ NB122_132.out _; (with_reducible repeat (first | refine blk_drewN ?_ _ | refine blk_drew ?_ | refine blk_alloc ?_ _)); refine blk_far ?_ NB122_132.out _; (with_reducible repeat (first | refine blk_drewN ?_ _ | refine blk_drew ?_ | refine blk_alloc ?_ _)); exact BK122.out) hb); have n1_ := Aside0.mk (blk_below (g := gb132) (o := .cells #[.string ((rd_T46 ((rd_T36 l0 x13_1).f2) x45_4).f0), .slice A131_1 ((rd_T46 ((rd_T36 l0 x13_1).f2) x45_4).f1).length c131_1] 46 (0, 0)) (by (with_reducible repeat (first | refine blk_drewN ?_ _ | refine blk_drew ?_ | refine blk_alloc ?_ _)); refine blk_put (cs := #[.string ((rd_T46 ((rd_T36 l0 x13_1).f2) x45_4).f0), .slice none 0 0]) ?_ 1 _ rfl; (with_reducible repeat (first | refine blk_drewN ?_ _ | refine blk_drew ?_ | refine blk_alloc ?_ _)); refine blk_put (cs := #[.string (⟨#[]⟩ : ByteArray), .slice none 0 0]) ?_ 0 _ rfl; (with_reducible repeat (first | refine blk_drewN ?_ _ | refine blk_drew ?_ | refine blk_alloc ?_ _)); exact BK132.out) hb); have n2_ := Aside0.mk (below_step (by repeat (first | (with_reducible first | exact HB.out | apply below_alloc | apply pw_below_drewN | apply below_drew1 | refine below_set ?_ GE122.out | refine below_set ?_ GE132.out) | exact HB.out)) hb); clear BK122; clear BK132; clear HB; have BK122 := n0_; have BK132 := n1_; have HB := n2_; clear n0_ n1_ n2_; (try clear hb); (try clear hb2); (try clear hk); (try clear hi)))
                                          go_meet
                                          case rel => exact ⟨_, (!t134), (by first | rfl | (simp; done) | (simp [*]; done)), H', ⟨by have := HK1.out; have := HJ4.out; have := HK3.out; have := HK4.out; first | omega | exact Nat.le_refl _⟩, ⟨by (with_reducible repeat (first | refine blk_drewN ?_ _ | refine blk_drew ?_ | refine blk_alloc ?_ _)); exact BK122.out⟩, ⟨by (with_reducible repeat (first | refine blk_drewN ?_ _ | refine blk_drew ?_ | refine blk_alloc ?_ _)); exact BK132.out⟩, ⟨by repeat (first | (with_reducible first | exact HB.out | apply below_alloc | apply pw_below_drewN | apply below_drew1 | refine below_set ?_ GE122.out | refine below_set ?_ GE132.out) | exact HB.out)⟩⟩
                                        · replace c39 := Bool.eq_false_iff.mpr c39
                                          subst c39
                                          have H1 : (spec_AreSections.j4 k4 l0 x45_4 l0 (l0.length : Int) x13_1 ((rd_T36 l0 x13_1).f2) (((rd_T36 l0 x13_1).f2).length : Int) x45_4 true ((rd_T36 l0 x13_1).f0) ((rd_T36 l0 x13_1).f1) ((rd_T36 l0 x13_1).f2) ((rd_T46 ((rd_T36 l0 x13_1).f2) x45_4).f0) ((rd_T46 ((rd_T36 l0 x13_1).f2) x45_4).f1)) = some r := by rw [if_neg (show ¬ (false = true) by decide)] at H; exact H
                                          clear H
                                          have H := H1
                                          clear H1
                                          have H' := Aside0.mk H
                                          clear H
                                          have hnb44 := NB132_122.out
                                          have hnc44 := NB122_132.out
                                          have hcz45_0 : w35.cell? ⟨gb132, 0, none⟩ = some (.string (⟨#[]⟩ : ByteArray)) := (blk_cell BK132.out 0).trans rfl
                                          have hcz45_1 : w35.cell? ⟨gb132, 1, none⟩ = some (.slice none 0 0) := (blk_cell BK132.out 1).trans rfl
                                          have hfz45_0 := blk_frozen BK132.out 0
                                          have hfz45_1 := blk_frozen BK132.out 1
                                          go_wp2_with (first | ((with_reducible refine gate_callee (f := 15) rfl ?_); refine goesL_ (some 52) rfl rfl Tryd.func15 (by kernel_rfl) rfl #[.string ((rd_T46 ((rd_T36 l0 x13_1).f2) x45_4).f0)] rfl (by (try simp only [List.map_toArray, List.map_cons, List.map_nil]); first | done | rfl | (simp only [List.length_drop, List.length_take]; rfl)) ?_; (with_reducible refine (spec_IsConfWord.calls k4 ((rd_T46 ((rd_T36 l0 x13_1).f2) x45_4).f0) false _ A38.out).mono ?_); rintro e w' ⟨rfl, ⟨nd, rfl⟩⟩; refine ⟨_, rfl, ?_⟩))
                                          go_meet
                                          case rel => exact ⟨_, (true), (by first | rfl | (simp; done) | (simp [*]; done)), H', ⟨by have := HK1.out; have := HJ4.out; have := HK3.out; have := HK4.out; first | omega | exact Nat.le_refl _⟩, ⟨by (with_reducible repeat (first | refine blk_drewN ?_ _ | refine blk_drew ?_ | refine blk_alloc ?_ _)); refine blk_far ?_ NB122_132.out _; (with_reducible repeat (first | refine blk_drewN ?_ _ | refine blk_drew ?_ | refine blk_alloc ?_ _)); refine blk_far ?_ NB122_132.out _; (with_reducible repeat (first | refine blk_drewN ?_ _ | refine blk_drew ?_ | refine blk_alloc ?_ _)); exact BK122.out⟩, ⟨by (with_reducible repeat (first | refine blk_drewN ?_ _ | refine blk_drew ?_ | refine blk_alloc ?_ _)); refine blk_put (cs := #[.string ((rd_T46 ((rd_T36 l0 x13_1).f2) x45_4).f0), .slice none 0 0]) ?_ 1 _ rfl; (with_reducible repeat (first | refine blk_drewN ?_ _ | refine blk_drew ?_ | refine blk_alloc ?_ _)); refine blk_put (cs := #[.string (⟨#[]⟩ : ByteArray), .slice none 0 0]) ?_ 0 _ rfl; (with_reducible repeat (first | refine blk_drewN ?_ _ | refine blk_drew ?_ | refine blk_alloc ?_ _)); exact BK132.out⟩, ⟨by repeat (first | (with_reducible first | exact HB.out | apply below_alloc | apply pw_below_drewN | apply below_drew1 | refine below_set ?_ GE122.out | refine below_set ?_ GE132.out) | exact HB.out)⟩⟩
                                      case rest =>
                                        clear HC34
                                        try clear c1
                                        try clear p1
                                        try clear q1
                                        try clear hx1
                                        try clear c2
                                        try clear c2b0
                                        try clear p2
                                        try clear c3
                                        try clear c3b0
                                        try clear c4
                                        try clear c4b0
                                        try clear p6
                                        try clear c9
                                        try clear c12
                                        try clear p12
                                        try clear q12
                                        try clear hx12
                                        try clear c13
                                        try clear p13
                                        try clear q13
                                        try clear hx13
                                        try clear c14
                                        try clear c15
                                        try clear c15b0
                                        try clear c15b1
                                        try clear c16
                                        try clear c16b0
                                        try clear c16b1
                                        try clear q17
                                        try clear c18
                                        try clear c18b0
                                        try clear c19
                                        try clear c19b0
                                        try clear c20
                                        try clear c20b0
                                        try clear c21
                                        try clear c21b0
                                        try clear c21b1
                                        try clear c23
                                        try clear c27
                                        try clear c31
                                        try clear c31b0
                                        try clear c32
                                        try clear c32b0
                                        try clear c33
                                        try clear c33b0
                                        try clear c36
                                        try clear c39
                                        try clear c41
                                        try clear c44
                                        try clear hcz11_0
                                        try clear hcz11_1
                                        try clear hcz11_2
                                        try clear hcz13_0
                                        try clear hcz13_1
                                        try clear hcz13_2
                                        try clear hcz24_0
                                        try clear hcz24_1
                                        try clear hcz24_2
                                        try clear hcz25_0
                                        try clear hcz25_1
                                        try clear hcz25_2
                                        try clear hcz28_0
                                        try clear hcz28_1
                                        try clear hcz28_2
                                        try clear hcz29_0
                                        try clear hcz29_1
                                        try clear hcz29_2
                                        try clear hcz30_0
                                        try clear hcz30_1
                                        try clear hcz30_2
                                        try clear hcz37_0
                                        try clear hcz37_1
                                        try clear hcz42_0
                                        try clear hcz42_1
                                        try clear hcz45_0
                                        try clear hcz45_1
                                        try clear hcz7_0
                                        try clear hcz7_1
                                        try clear hcz7_2
                                        try clear hfz11_0
                                        try clear hfz11_1
                                        try clear hfz11_2
                                        try clear hfz13_0
                                        try clear hfz13_1
                                        try clear hfz13_2
                                        try clear hfz24_0
                                        try clear hfz24_1
                                        try clear hfz24_2
                                        try clear hfz25_0
                                        try clear hfz25_1
                                        try clear hfz25_2
                                        try clear hfz28_0
                                        try clear hfz28_1
                                        try clear hfz28_2
                                        try clear hfz29_0
                                        try clear hfz29_1
                                        try clear hfz29_2
                                        try clear hfz30_0
                                        try clear hfz30_1
                                        try clear hfz30_2
                                        try clear hfz37_0
                                        try clear hfz37_1
                                        try clear hfz42_0
                                        try clear hfz42_1
                                        try clear hfz45_0
                                        try clear hfz45_1
                                        try clear hfz7_0
                                        try clear hfz7_1
                                        try clear hfz7_2
                                        try clear hx121_0
                                        try clear hx121_1
                                        try clear hx121_2
                                        try clear hx129_0
                                        try clear hx129_1
                                        try clear hx129_2
                                        try clear hx131_0
                                        try clear hx131_1
                                        try clear p1
                                        try clear p12
                                        try clear p121
                                        try clear p129
                                        try clear p131
                                        try clear p2
                                        try clear p6
                                        try clear q1
                                        try clear q12
                                        try clear q121
                                        try clear q129
                                        try clear q131
                                        try clear q17
                                        obtain ⟨kq, x59_33, rfl, HA, HJ33, BK122, BK132, HB⟩ := hcut
                                        cases kq with
                                        | zero => exact absurd HA.out (by simp [spec_AreSections.j4])
                                        | succ kj33 =>
                                          have H := HA.out
                                          clear HA
                                          simp only [spec_AreSections.j4] at H
                                          by_cases c46 : x59_33 = true
                                          · subst c46
                                            have H1 : (some false) = some r := by rw [if_pos rfl] at H; exact H
                                            clear H
                                            have H := H1
                                            clear H1
                                            obtain rfl := Option.some.inj H
                                            go_wp2
                                            go_ret
                                            exact ⟨by first | rfl | (simp [errW_none, errW_some] <;> rfl) | (simp [*, errW_none, errW_some] <;> rfl), by repeat (first | (with_reducible first | exact HB.out | apply below_alloc | apply pw_below_drewN | apply below_drew1 | refine below_set ?_ GE122.out | refine below_set ?_ GE132.out) | exact HB.out)⟩
                                          · replace c46 := Bool.eq_false_iff.mpr c46
                                            subst c46
                                            have H1 : (if 0 ≤ x45_4 then (if x45_4 ≤ (((rd_T36 l0 x13_1).f2).length : Int) then ((some (((rd_T36 l0 x13_1).f2).take (x45_4 : Int).toNat : List (S46))).bind fun y135 => (spec_AreSections.l3 kj33 l0 l0 (l0.length : Int) x13_1 ((rd_T36 l0 x13_1).f2) (((rd_T36 l0 x13_1).f2).length : Int) x45_4 y135 (y135.length : Int) 0 ((rd_T36 l0 x13_1).f0) ((rd_T36 l0 x13_1).f1) ((rd_T36 l0 x13_1).f2) ((rd_T46 ((rd_T36 l0 x13_1).f2) x45_4).f0) ((rd_T46 ((rd_T36 l0 x13_1).f2) x45_4).f1))) else (none)) else (none)) = some r := by rw [if_neg (show ¬ (false = true) by decide)] at H; exact H
                                            clear H
                                            have H := H1
                                            clear H1
                                            by_cases c47 : 0 ≤ x45_4
                                            · rw [if_pos c47] at H
                                              have c47b0 := eq_true c47
                                              have c47b1 : decide (0 ≤ x45_4) = true := decide_eq_true c47
                                              clear c47
                                              by_cases c48 : x45_4 ≤ (((rd_T36 l0 x13_1).f2).length : Int)
                                              · rw [if_pos c48] at H
                                                have c48b0 := eq_true c48
                                                have c48b1 : decide (x45_4 ≤ (((rd_T36 l0 x13_1).f2).length : Int)) = true := decide_eq_true c48
                                                clear c48
                                                obtain ⟨y135, hy135⟩ : ∃ y_ : List (S46), y_ = (((rd_T36 l0 x13_1).f2).take (x45_4 : Int).toNat) := ⟨_, rfl⟩
                                                replace H : (spec_AreSections.l3 kj33 l0 l0 (l0.length : Int) x13_1 ((rd_T36 l0 x13_1).f2) (((rd_T36 l0 x13_1).f2).length : Int) x45_4 y135 (y135.length : Int) 0 ((rd_T36 l0 x13_1).f0) ((rd_T36 l0 x13_1).f1) ((rd_T36 l0 x13_1).f2) ((rd_T46 ((rd_T36 l0 x13_1).f2) x45_4).f0) ((rd_T46 ((rd_T36 l0 x13_1).f2) x45_4).f1)) = some r := by first | (rw [hy135]; with_reducible exact H) | (have H2_ := (Option.bind_some _ _).symm.trans H; rw [hy135]; with_reducible exact H2_) | (have H2_ := (Option.bind_some _ _).symm.trans H; with_reducible exact H2_) | with_reducible exact H | (rw [hy135]; exact H) | exact H
                                                have Ny135 := Aside0.mk hy135
                                                clear hy135
                                                have H' := Aside0.mk H
                                                clear H
                                                have hnb49 := NB122_132.out
                                                have hnc49 := NB132_122.out
                                                have hcz50_0 : wc.cell? ⟨gb122, 0, none⟩ = some (.string ((rd_T36 l0 x13_1).f0)) := (blk_cell BK122.out 0).trans rfl
                                                have hcz50_1 : wc.cell? ⟨gb122, 1, none⟩ = some (.slice A121_1 ((rd_T36 l0 x13_1).f1).length c121_1) := (blk_cell BK122.out 1).trans rfl
                                                have hcz50_2 : wc.cell? ⟨gb122, 2, none⟩ = some (.slice (some ad131) ((rd_T36 l0 x13_1).f2).length c121_2) := (blk_cell BK122.out 2).trans rfl
                                                have hfz50_0 := blk_frozen BK122.out 0
                                                have hfz50_1 := blk_frozen BK122.out 1
                                                have hfz50_2 := blk_frozen BK122.out 2
                                                have q51 : (x45_4 : Int) ≤ ((((rd_T36 l0 x13_1).f2).length : Int) : Int) := of_decide_eq_true (by first | (with_reducible assumption) | assumption)
                                                obtain ⟨i051, hi051, _, hsz51, _⟩ := info_parts info46
                                                have hroom51 : ((rd_T36 l0 x13_1).f2).length ≤ c121_2 := HC121_2.out
                                                have hC51 : Kd.C k46 _ (some ad131) ((rd_T36 l0 x13_1).f2).length ((rd_T36 l0 x13_1).f2) := HR121_2.out
                                                have hcut51 := cut_to (P := Tryd.prog) 34 46 .i64 Tryd.underlying34 hi051 (some ad131) ((rd_T36 l0 x13_1).f2).length c121_2 x45_4 (of_decide_eq_true (by first | (with_reducible assumption) | assumption)) q51 hroom51
                                                have hr51 := Kd.C_take (m := (x45_4 : Int).toNat) hC51 (by omega)
                                                have hy51 : y135.length = (x45_4 : Int).toNat := (by rw [Ny135.out, List.length_take]; omega)
                                                rw [← Ny135.out] at hr51
                                                rw [← hy51] at hcut51
                                                have HR138 := Aside0.mk hr51
                                                have HC138 := Aside0.mk (show y135.length ≤ c121_2 from by omega)
                                                clear hr51 hC51 hroom51 hi051 hsz51
                                                have KY51 := Aside0.mk hy51
                                                clear hy51
                                                replace q51 := eq_true q51
                                                go_wp2
                                                go_loopg [65] kj33 (fun kq v65 w' => ∃ (x65_6 : Int), v65 = .int .i64 x65_6 ∧ Aside0 (spec_AreSections.l3 kq l0 l0 (l0.length : Int) x13_1 ((rd_T36 l0 x13_1).f2) (((rd_T36 l0 x13_1).f2).length : Int) x45_4 y135 (y135.length : Int) x65_6 ((rd_T36 l0 x13_1).f0) ((rd_T36 l0 x13_1).f1) ((rd_T36 l0 x13_1).f2) ((rd_T46 ((rd_T36 l0 x13_1).f2) x45_4).f0) ((rd_T46 ((rd_T36 l0 x13_1).f2) x45_4).f1) = some r) ∧ Aside0 (kq ≤ kj33) ∧ Aside0 (w'.heap[gb122]? = some (.cells #[.string ((rd_T36 l0 x13_1).f0), (.slice A121_1 ((rd_T36 l0 x13_1).f1).length c121_1), (.slice (some ad131) ((rd_T36 l0 x13_1).f2).length c121_2)] 36 (0, 0))) ∧ Aside0 (w'.heap[gb132]? = some (.cells #[.string ((rd_T46 ((rd_T36 l0 x13_1).f2) x45_4).f0), (.slice A131_1 ((rd_T46 ((rd_T36 l0 x13_1).f2) x45_4).f1).length c131_1)] 46 (0, 0))) ∧ Aside0 (Below w.heap.size w w'))
                                                case atStart => exact ⟨(0), (by first | rfl | (simp; done) | (simp [*]; done)), H', ⟨Nat.le_refl _⟩, ⟨by (with_reducible repeat (first | refine blk_drewN ?_ _ | refine blk_drew ?_ | refine blk_alloc ?_ _)); exact BK122.out⟩, ⟨by (with_reducible repeat (first | refine blk_drewN ?_ _ | refine blk_drew ?_ | refine blk_alloc ?_ _)); exact BK132.out⟩, ⟨by repeat (first | (with_reducible first | exact HB.out | apply below_alloc | apply pw_below_drewN | apply below_drew1 | refine below_set ?_ GE122.out | refine below_set ?_ GE132.out) | exact HB.out)⟩⟩
                                                case round =>
                                                  clear H'
                                                  try clear c1
                                                  try clear p1
                                                  try clear q1
                                                  try clear hx1
                                                  try clear c2
                                                  try clear c2b0
                                                  try clear p2
                                                  try clear c3
                                                  try clear c3b0
                                                  try clear c4
                                                  try clear c4b0
                                                  try clear q5
                                                  try clear p6
                                                  try clear c9
                                                  try clear c12
                                                  try clear p12
                                                  try clear q12
                                                  try clear hx12
                                                  try clear c13
                                                  try clear p13
                                                  try clear q13
                                                  try clear hx13
                                                  try clear c14
                                                  try clear c15
                                                  try clear c15b0
                                                  try clear c15b1
                                                  try clear c16
                                                  try clear c16b0
                                                  try clear c16b1
                                                  try clear q17
                                                  try clear c18
                                                  try clear c18b0
                                                  try clear c19
                                                  try clear c19b0
                                                  try clear c20
                                                  try clear c20b0
                                                  try clear c21
                                                  try clear c21b0
                                                  try clear c21b1
                                                  try clear c23
                                                  try clear c27
                                                  try clear c31
                                                  try clear c31b0
                                                  try clear c32
                                                  try clear c32b0
                                                  try clear c33
                                                  try clear c33b0
                                                  try clear c36
                                                  try clear c39
                                                  try clear c41
                                                  try clear c44
                                                  try clear c46
                                                  try clear c47
                                                  try clear c47b0
                                                  try clear c47b1
                                                  try clear c48
                                                  try clear c48b0
                                                  try clear c48b1
                                                  try clear c49
                                                  try clear q51
                                                  try clear hcz11_0
                                                  try clear hcz11_1
                                                  try clear hcz11_2
                                                  try clear hcz13_0
                                                  try clear hcz13_1
                                                  try clear hcz13_2
                                                  try clear hcz24_0
                                                  try clear hcz24_1
                                                  try clear hcz24_2
                                                  try clear hcz25_0
                                                  try clear hcz25_1
                                                  try clear hcz25_2
                                                  try clear hcz28_0
                                                  try clear hcz28_1
                                                  try clear hcz28_2
                                                  try clear hcz29_0
                                                  try clear hcz29_1
                                                  try clear hcz29_2
                                                  try clear hcz30_0
                                                  try clear hcz30_1
                                                  try clear hcz30_2
                                                  try clear hcz37_0
                                                  try clear hcz37_1
                                                  try clear hcz42_0
                                                  try clear hcz42_1
                                                  try clear hcz45_0
                                                  try clear hcz45_1
                                                  try clear hcz50_0
                                                  try clear hcz50_1
                                                  try clear hcz50_2
                                                  try clear hcz7_0
                                                  try clear hcz7_1
                                                  try clear hcz7_2
                                                  try clear hfz11_0
                                                  try clear hfz11_1
                                                  try clear hfz11_2
                                                  try clear hfz13_0
                                                  try clear hfz13_1
                                                  try clear hfz13_2
                                                  try clear hfz24_0
                                                  try clear hfz24_1
                                                  try clear hfz24_2
                                                  try clear hfz25_0
                                                  try clear hfz25_1
                                                  try clear hfz25_2
                                                  try clear hfz28_0
                                                  try clear hfz28_1
                                                  try clear hfz28_2
                                                  try clear hfz29_0
                                                  try clear hfz29_1
                                                  try clear hfz29_2
                                                  try clear hfz30_0
                                                  try clear hfz30_1
                                                  try clear hfz30_2
                                                  try clear hfz37_0
                                                  try clear hfz37_1
                                                  try clear hfz42_0
                                                  try clear hfz42_1
                                                  try clear hfz45_0
                                                  try clear hfz45_1
                                                  try clear hfz50_0
                                                  try clear hfz50_1
                                                  try clear hfz50_2
                                                  try clear hfz7_0
                                                  try clear hfz7_1
                                                  try clear hfz7_2
                                                  try clear hx121_0
                                                  try clear hx121_1
                                                  try clear hx121_2
                                                  try clear hx129_0
                                                  try clear hx129_1
                                                  try clear hx129_2
                                                  try clear hx131_0
                                                  try clear hx131_1
                                                  try clear p1
                                                  try clear p12
                                                  try clear p121
                                                  try clear p129
                                                  try clear p13
                                                  try clear p131
                                                  try clear p2
                                                  try clear p6
                                                  try clear q1
                                                  try clear q12
                                                  try clear q121
                                                  try clear q129
                                                  try clear q13
                                                  try clear q131
                                                  try clear q17
                                                  try clear q51
                                                  obtain ⟨x65_6, rfl, HA, HK6, BK122, BK132, HB⟩ := hrel
                                                  cases gk with
                                                  | zero => exact absurd HA.out (by simp [spec_AreSections.l3])
                                                  | succ k6 =>
                                                    have H := HA.out
                                                    clear HA
                                                    simp only [spec_AreSections.l3] at H
                                                    by_cases c52 : x65_6 < (y135.length : Int)
                                                    · rw [if_pos c52] at H
                                                      have c52b0 : decide (x65_6 < (y135.length : Int)) = true := decide_eq_true c52
                                                      clear c52
                                                      by_cases c53 : 0 ≤ x65_6
                                                      · rw [if_pos c53] at H
                                                        have c53b0 : decide (0 ≤ x65_6) = true := decide_eq_true c53
                                                        clear c53
                                                        by_cases c54 : x65_6 < (y135.length : Int)
                                                        · rw [if_pos c54] at H
                                                          have c54b0 : decide (x65_6 < (y135.length : Int)) = true := decide_eq_true c54
                                                          clear c54
                                                          by_cases c55 : ((rd_T46 y135 x65_6).f0).toList = ((rd_T46 ((rd_T36 l0 x13_1).f2) x45_4).f0).toList
                                                          · rw [if_pos c55] at H
                                                            have c55b0 : (((rd_T46 y135 x65_6).f0).toList == ((rd_T46 ((rd_T36 l0 x13_1).f2) x45_4).f0).toList) = true := beq_iff_eq.mpr c55
                                                            have c55b1 : (((rd_T46 y135 x65_6).f0).toList != ((rd_T46 ((rd_T36 l0 x13_1).f2) x45_4).f0).toList) = false := bne_eq_false_iff_eq.mpr c55
                                                            clear c55
                                                            obtain rfl := Option.some.inj H
                                                            have p139 : 0 ≤ (x65_6 : Int) := of_decide_eq_true (by first | (with_reducible assumption) | assumption)
                                                            have q139 : x65_6 < (y135.length : Int) := of_decide_eq_true (by first | (with_reducible assumption) | assumption)
                                                            obtain ⟨ad139, A139_1, c139_1, e139, hx139_0, hx139_1, hl139_1, hi139_1⟩ := at_T46 HR138.out x65_6 p139 q139
                                                            obtain rfl : ad131 = ad139 := (by injection e139)
                                                            replace hx139_0 := (HB.out.cell (World.block_lt_of_cell? w _ hx139_0)).trans hx139_0
                                                            replace hx139_1 := (HB.out.cell (World.block_lt_of_cell? w _ hx139_1)).trans hx139_1
                                                            have HR139_1 := Aside0.mk hi139_1
                                                            have HC139_1 := Aside0.mk hl139_1
                                                            clear hi139_1 hl139_1
                                                            replace p139 := eq_true p139
                                                            replace q139 := eq_true q139
                                                            go_wp2_with (first | ((with_reducible refine gate_dst (N := 10) rfl ?_); refine box_event ?hg (N := 10) ?hd (cs := #[.string (⟨#[]⟩ : ByteArray), .slice none 0 0]) (t := 46) ?hr ?_; (case hd => rfl); (case hg => rfl); (case hr => first | (go_simp; done) | (go_simp; rfl)); intro gb140 hg w56 hbox hb; have n0_ := Aside0.mk (blk_below (g := gb122) (o := .cells #[.string ((rd_T36 l0 x13_1).f0), .slice A121_1 ((rd_T36 l0 x13_1).f1).length c121_1, .slice (some ad131) ((rd_T36 l0 x13_1).f2).length c121_2] 36 (0, 0)) (by (with_reducible repeat (first | refine blk_drewN ?_ _ | refine blk_drew ?_ | refine blk_alloc ?_ _)); exact BK122.out) hb); have n1_ := Aside0.mk (blk_below (g := gb132) (o := .cells #[.string ((rd_T46 ((rd_T36 l0 x13_1).f2) x45_4).f0), .slice A131_1 ((rd_T46 ((rd_T36 l0 x13_1).f2) x45_4).f1).length c131_1] 46 (0, 0)) (by (with_reducible repeat (first | refine blk_drewN ?_ _ | refine blk_drew ?_ | refine blk_alloc ?_ _)); exact BK132.out) hb); have n2_ := Aside0.mk (below_step (by repeat (first | (with_reducible first | exact HB.out | apply below_alloc | apply pw_below_drewN | apply below_drew1 | refine below_set ?_ GE122.out | refine below_set ?_ GE132.out) | exact HB.out)) hb); have n3_ := Aside0.mk (hbox); have n4_ := Aside0.mk ((by rw [hg]; exact (below_size (by repeat (first | (with_reducible first | exact HB.out | apply below_alloc | apply pw_below_drewN | apply below_drew1 | refine below_set ?_ GE122.out | refine below_set ?_ GE132.out) | exact HB.out))) : w.heap.size ≤ gb140)); have n5_ := Aside0.mk ((by rw [hg]; exact (below_size (by repeat (first | (with_reducible first | exact HB.out | apply below_alloc | apply pw_below_drewN | apply below_drew1 | refine below_set ?_ GE122.out | refine below_set ?_ GE132.out) | exact HB.out))) : w.heap.size ≤ gb140)); have n6_ := Aside0.mk ((by rw [hg]; exact Nat.ne_of_lt (blk_lt (g := gb122) (o := .cells #[.string ((rd_T36 l0 x13_1).f0), .slice A121_1 ((rd_T36 l0 x13_1).f1).length c121_1, .slice (some ad131) ((rd_T36 l0 x13_1).f2).length c121_2] 36 (0, 0)) (by (with_reducible repeat (first | refine blk_drewN ?_ _ | refine blk_drew ?_ | refine blk_alloc ?_ _)); exact BK122.out)) : gb122 ≠ gb140)); have n7_ := Aside0.mk ((by rw [hg]; exact Nat.ne_of_gt (blk_lt (g := gb122) (o := .cells #[.string ((rd_T36 l0 x13_1).f0), .slice A121_1 ((rd_T36 l0 x13_1).f1).length c121_1, .slice (some ad131) ((rd_T36 l0 x13_1).f2).length c121_2] 36 (0, 0)) (by (with_reducible repeat (first | refine blk_drewN ?_ _ | refine blk_drew ?_ | refine blk_alloc ?_ _)); exact BK122.out)) : gb140 ≠ gb122)); have n8_ := Aside0.mk ((by rw [hg]; exact Nat.ne_of_lt (blk_lt (g := gb132) (o := .cells #[.string ((rd_T46 ((rd_T36 l0 x13_1).f2) x45_4).f0), .slice A131_1 ((rd_T46 ((rd_T36 l0 x13_1).f2) x45_4).f1).length c131_1] 46 (0, 0)) (by (with_reducible repeat (first | refine blk_drewN ?_ _ | refine blk_drew ?_ | refine blk_alloc ?_ _)); exact BK132.out)) : gb132 ≠ gb140)); have n9_ := Aside0.mk ((by rw [hg]; exact Nat.ne_of_gt (blk_lt (g := gb132) (o := .cells #[.string ((rd_T46 ((rd_T36 l0 x13_1).f2) x45_4).f0), .slice A131_1 ((rd_T46 ((rd_T36 l0 x13_1).f2) x45_4).f1).length c131_1] 46 (0, 0)) (by (with_reducible repeat (first | refine blk_drewN ?_ _ | refine blk_drew ?_ | refine blk_alloc ?_ _)); exact BK132.out)) : gb140 ≠ gb132)); clear BK122; clear BK132; clear HB; have BK122 := n0_; have BK132 := n1_; have HB := n2_; have BK140 := n3_; have GW140 := n4_; have GE140 := n5_; have NB122_140 := n6_; have NB140_122 := n7_; have NB132_140 := n8_; have NB140_132 := n9_; clear n0_ n1_ n2_ n3_ n4_ n5_ n6_ n7_ n8_ n9_; clear hb hbox hg; have hnb57 := NB140_122.out; have hnc57 := NB122_140.out; have hnb58 := NB140_132.out; have hnc58 := NB132_140.out; have hcz59_0 : w56.cell? ⟨gb140, 0, none⟩ = some (.string (⟨#[]⟩ : ByteArray)) := (blk_cell BK140.out 0).trans rfl; have hcz59_1 : w56.cell? ⟨gb140, 1, none⟩ = some (.slice none 0 0) := (blk_cell BK140.out 1).trans rfl; have hfz59_0 := blk_frozen BK140.out 0; have hfz59_1 := blk_frozen BK140.out 1; have hnb60 := NB132_122.out; have hnc60 := NB122_132.out; have hcz61_0 : w56.cell? ⟨gb132, 0, none⟩ = some (.string ((rd_T46 ((rd_T36 l0 x13_1).f2) x45_4).f0)) := (blk_cell BK132.out 0).trans rfl; have hcz61_1 : w56.cell? ⟨gb132, 1, none⟩ = some (.slice A131_1 ((rd_T46 ((rd_T36 l0 x13_1).f2) x45_4).f1).length c131_1) := (blk_cell BK132.out 1).trans rfl; have hfz61_0 := blk_frozen BK132.out 0; have hfz61_1 := blk_frozen BK132.out 1))
                                                            go_ret
                                                            exact ⟨by first | rfl | (simp [errW_none, errW_some] <;> rfl) | (simp [*, errW_none, errW_some] <;> rfl), by repeat (first | (with_reducible first | exact HB.out | apply below_alloc | apply pw_below_drewN | apply below_drew1 | refine below_set ?_ GE122.out | refine below_set ?_ GE132.out | refine below_set ?_ GE140.out) | exact HB.out)⟩
                                                          · rw [if_neg c55] at H
                                                            have c55b0 : (((rd_T46 y135 x65_6).f0).toList == ((rd_T46 ((rd_T36 l0 x13_1).f2) x45_4).f0).toList) = false := beq_eq_false_iff_ne.mpr c55
                                                            have c55b1 : (((rd_T46 y135 x65_6).f0).toList != ((rd_T46 ((rd_T36 l0 x13_1).f2) x45_4).f0).toList) = true := bne_iff_ne.mpr c55
                                                            have H' := Aside0.mk H
                                                            clear H
                                                            have p139 : 0 ≤ (x65_6 : Int) := of_decide_eq_true (by first | (with_reducible assumption) | assumption)
                                                            have q139 : x65_6 < (y135.length : Int) := of_decide_eq_true (by first | (with_reducible assumption) | assumption)
                                                            obtain ⟨ad139, A139_1, c139_1, e139, hx139_0, hx139_1, hl139_1, hi139_1⟩ := at_T46 HR138.out x65_6 p139 q139
                                                            obtain rfl : ad131 = ad139 := (by injection e139)
                                                            replace hx139_0 := (HB.out.cell (World.block_lt_of_cell? w _ hx139_0)).trans hx139_0
                                                            replace hx139_1 := (HB.out.cell (World.block_lt_of_cell? w _ hx139_1)).trans hx139_1
                                                            have HR139_1 := Aside0.mk hi139_1
                                                            have HC139_1 := Aside0.mk hl139_1
                                                            clear hi139_1 hl139_1
                                                            replace p139 := eq_true p139
                                                            replace q139 := eq_true q139
                                                            go_wp2_with (first | ((with_reducible refine gate_dst (N := 10) rfl ?_); refine box_event ?hg (N := 10) ?hd (cs := #[.string (⟨#[]⟩ : ByteArray), .slice none 0 0]) (t := 46) ?hr ?_; (case hd => rfl); (case hg => rfl); (case hr => first | (go_simp; done) | (go_simp; rfl)); intro gb140 hg w62 hbox hb; have n0_ := Aside0.mk (blk_below (g := gb122) (o := .cells #[.string ((rd_T36 l0 x13_1).f0), .slice A121_1 ((rd_T36 l0 x13_1).f1).length c121_1, .slice (some ad131) ((rd_T36 l0 x13_1).f2).length c121_2] 36 (0, 0)) (by (with_reducible repeat (first | refine blk_drewN ?_ _ | refine blk_drew ?_ | refine blk_alloc ?_ _)); exact BK122.out) hb); have n1_ := Aside0.mk (blk_below (g := gb132) (o := .cells #[.string ((rd_T46 ((rd_T36 l0 x13_1).f2) x45_4).f0), .slice A131_1 ((rd_T46 ((rd_T36 l0 x13_1).f2) x45_4).f1).length c131_1] 46 (0, 0)) (by (with_reducible repeat (first | refine blk_drewN ?_ _ | refine blk_drew ?_ | refine blk_alloc ?_ _)); exact BK132.out) hb); have n2_ := Aside0.mk (below_step (by repeat (first | (with_reducible first | exact HB.out | apply below_alloc | apply pw_below_drewN | apply below_drew1 | refine below_set ?_ GE122.out | refine below_set ?_ GE132.out) | exact HB.out)) hb); have n3_ := Aside0.mk (hbox); have n4_ := Aside0.mk ((by rw [hg]; exact (below_size (by repeat (first | (with_reducible first | exact HB.out | apply below_alloc | apply pw_below_drewN | apply below_drew1 | refine below_set ?_ GE122.out | refine below_set ?_ GE132.out) | exact HB.out))) : w.heap.size ≤ gb140)); have n5_ := Aside0.mk ((by rw [hg]; exact (below_size (by repeat (first | (with_reducible first | exact HB.out | apply below_alloc | apply pw_below_drewN | apply below_drew1 | refine below_set ?_ GE122.out | refine below_set ?_ GE132.out) | exact HB.out))) : w.heap.size ≤ gb140)); have n6_ := Aside0.mk ((by rw [hg]; exact Nat.ne_of_lt (blk_lt (g := gb122) (o := .cells #[.string ((rd_T36 l0 x13_1).f0), .slice A121_1 ((rd_T36 l0 x13_1).f1).length c121_1, .slice (some ad131) ((rd_T36 l0 x13_1).f2).length c121_2] 36 (0, 0)) (by (with_reducible repeat (first | refine blk_drewN ?_ _ | refine blk_drew ?_ | refine blk_alloc ?_ _)); exact BK122.out)) : gb122 ≠ gb140)); have n7_ := Aside0.mk ((by rw [hg]; exact Nat.ne_of_gt (blk_lt (g := gb122) (o := .cells #[.string ((rd_T36 l0 x13_1).f0), .slice A121_1 ((rd_T36 l0 x13_1).f1).length c121_1, .slice (some ad131) ((rd_T36 l0 x13_1).f2).length c121_2] 36 (0, 0)) (by (with_reducible repeat (first | refine blk_drewN ?_ _ | refine blk_drew ?_ | refine blk_alloc ?_ _)); exact BK122.out)) : gb140 ≠ gb122)); have n8_ := Aside0.mk ((by rw [hg]; exact Nat.ne_of_lt (blk_lt (g := gb132) (o := .cells #[.string ((rd_T46 ((rd_T36 l0 x13_1).f2) x45_4).f0), .slice A131_1 ((rd_T46 ((rd_T36 l0 x13_1).f2) x45_4).f1).length c131_1] 46 (0, 0)) (by (with_reducible repeat (first | refine blk_drewN ?_ _ | refine blk_drew ?_ | refine blk_alloc ?_ _)); exact BK132.out)) : gb132 ≠ gb140)); have n9_ := Aside0.mk ((by rw [hg]; exact Nat.ne_of_gt (blk_lt (g := gb132) (o := .cells #[.string ((rd_T46 ((rd_T36 l0 x13_1).f2) x45_4).f0), .slice A131_1 ((rd_T46 ((rd_T36 l0 x13_1).f2) x45_4).f1).length c131_1] 46 (0, 0)) (by (with_reducible repeat (first | refine blk_drewN ?_ _ | refine blk_drew ?_ | refine blk_alloc ?_ _)); exact BK132.out)) : gb140 ≠ gb132)); clear BK122; clear BK132; clear HB; have BK122 := n0_; have BK132 := n1_; have HB := n2_; have BK140 := n3_; have GW140 := n4_; have GE140 := n5_; have NB122_140 := n6_; have NB140_122 := n7_; have NB132_140 := n8_; have NB140_132 := n9_; clear n0_ n1_ n2_ n3_ n4_ n5_ n6_ n7_ n8_ n9_; clear hb hbox hg; have hnb63 := NB140_122.out; have hnc63 := NB122_140.out; have hnb64 := NB140_132.out; have hnc64 := NB132_140.out; have hcz65_0 : w62.cell? ⟨gb140, 0, none⟩ = some (.string (⟨#[]⟩ : ByteArray)) := (blk_cell BK140.out 0).trans rfl; have hcz65_1 : w62.cell? ⟨gb140, 1, none⟩ = some (.slice none 0 0) := (blk_cell BK140.out 1).trans rfl; have hfz65_0 := blk_frozen BK140.out 0; have hfz65_1 := blk_frozen BK140.out 1; have hnb66 := NB132_122.out; have hnc66 := NB122_132.out; have hcz67_0 : w62.cell? ⟨gb132, 0, none⟩ = some (.string ((rd_T46 ((rd_T36 l0 x13_1).f2) x45_4).f0)) := (blk_cell BK132.out 0).trans rfl; have hcz67_1 : w62.cell? ⟨gb132, 1, none⟩ = some (.slice A131_1 ((rd_T46 ((rd_T36 l0 x13_1).f2) x45_4).f1).length c131_1) := (blk_cell BK132.out 1).trans rfl; have hfz67_0 := blk_frozen BK132.out 0; have hfz67_1 := blk_frozen BK132.out 1))
                                                            go_roundg k6
                                                            case measure => have := HK1.out; have := HJ4.out; have := HK3.out; have := HK4.out; have := HJ33.out; have := HK6.out; omega
                                                            case rel => exact ⟨(wrap64 (x65_6 + 1)), (by first | rfl | (simp; done) | (simp [*]; done)), H', ⟨by have := HK1.out; have := HJ4.out; have := HK3.out; have := HK4.out; have := HJ33.out; have := HK6.out; omega⟩, ⟨by (with_reducible repeat (first | refine blk_drewN ?_ _ | refine blk_drew ?_ | refine blk_alloc ?_ _)); refine blk_far ?_ NB122_140.out _; (with_reducible repeat (first | refine blk_drewN ?_ _ | refine blk_drew ?_ | refine blk_alloc ?_ _)); refine blk_far ?_ NB122_140.out _; (with_reducible repeat (first | refine blk_drewN ?_ _ | refine blk_drew ?_ | refine blk_alloc ?_ _)); exact BK122.out⟩, ⟨by (with_reducible repeat (first | refine blk_drewN ?_ _ | refine blk_drew ?_ | refine blk_alloc ?_ _)); refine blk_far ?_ NB132_140.out _; (with_reducible repeat (first | refine blk_drewN ?_ _ | refine blk_drew ?_ | refine blk_alloc ?_ _)); refine blk_far ?_ NB132_140.out _; (with_reducible repeat (first | refine blk_drewN ?_ _ | refine blk_drew ?_ | refine blk_alloc ?_ _)); exact BK132.out⟩, ⟨by repeat (first | (with_reducible first | exact HB.out | apply below_alloc | apply pw_below_drewN | apply below_drew1 | refine below_set ?_ GE122.out | refine below_set ?_ GE132.out | refine below_set ?_ GE140.out) | exact HB.out)⟩⟩
                                                        · rw [if_neg c54] at H
                                                          exact absurd H (by simp)
                                                      · rw [if_neg c53] at H
                                                        exact absurd H (by simp)
                                                    · rw [if_neg c52] at H
                                                      have c52b0 : decide (x65_6 < (y135.length : Int)) = false := decide_eq_false c52
                                                      clear c52
                                                      have H' := Aside0.mk H
                                                      clear H
                                                      go_wp2
                                                      go_roundg k6
                                                      case measure => have := HK1.out; have := HJ4.out; have := HK3.out; have := HK4.out; have := HJ33.out; have := HK6.out; omega
                                                      case rel => exact ⟨(wrap64 (x45_4 + 1)), (by first | rfl | (simp; done) | (simp [*]; done)), H', ⟨by have := HK1.out; have := HJ4.out; have := HK3.out; have := HK4.out; have := HJ33.out; have := HK6.out; omega⟩, ⟨by (with_reducible repeat (first | refine blk_drewN ?_ _ | refine blk_drew ?_ | refine blk_alloc ?_ _)); exact BK122.out⟩, ⟨by repeat (first | (with_reducible first | exact HB.out | apply below_alloc | apply pw_below_drewN | apply below_drew1 | refine below_set ?_ GE122.out | refine below_set ?_ GE132.out) | exact HB.out)⟩⟩
                                              · rw [if_neg c48] at H
                                                exact absurd H (by simp)
                                            · rw [if_neg c47] at H
                                              exact absurd H (by simp)
                                    · rw [if_neg c33] at H
                                      exact absurd H (by simp)
                                  · rw [if_neg c32] at H
                                    exact absurd H (by simp)
                                · rw [if_neg c31] at H
                                  have c31b0 : decide (x45_4 < (((rd_T36 l0 x13_1).f2).length : Int)) = false := decide_eq_false c31
                                  clear c31
                                  have H' := Aside0.mk H
                                  clear H
                                  go_wp2
                                  go_roundg k4
                                  case measure => have := HK1.out; have := HJ4.out; have := HK3.out; have := HK4.out; omega
                                  case rel => exact ⟨(wrap64 (x13_1 + 1)), (by first | rfl | (simp; done) | (simp [*]; done)), H', ⟨by have := HK1.out; have := HJ4.out; have := HK3.out; have := HK4.out; omega⟩, ⟨by repeat (first | (with_reducible first | exact HB.out | apply below_alloc | apply pw_below_drewN | apply below_drew1 | refine below_set ?_ GE122.out) | exact HB.out)⟩⟩
                    · rw [if_neg c16] at H
                      exact absurd H (by simp)
                  · rw [if_neg c15] at H
                    exact absurd H (by simp)
          · rw [if_neg c4] at H
            exact absurd H (by simp)
        · rw [if_neg c3] at H
          exact absurd H (by simp)
      · rw [if_neg c2] at H
        have c2b0 : decide (x13_1 < (l0.length : Int)) = false := decide_eq_false c2
        clear c2
        obtain rfl := Option.some.inj H
        go_wp2
        go_ret
        exact ⟨by first | rfl | (simp [errW_none, errW_some] <;> rfl) | (simp [*, errW_none, errW_some] <;> rfl), by repeat (first | (with_reducible first | exact HB.out | apply below_alloc | apply pw_below_drewN | apply below_drew1) | exact HB.out)⟩

end Go.Proofs.YtacndeejapfkiaaDoor.QAll
