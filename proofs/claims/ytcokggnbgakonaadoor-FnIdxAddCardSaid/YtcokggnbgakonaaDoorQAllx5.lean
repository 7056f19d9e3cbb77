-- WRITTEN BY A PROGRAM OF THIS SESSION, out of the loaded program, with words of the kit
import Derived.Test.YtcokggnbgakonaaDoorQAllx0
import Derived.Test.YtcokggnbgakonaaDoorQAllx1
namespace Go.Proofs.YtcokggnbgakonaaDoor.QAll
open Go.RowKit Go.Proofs.YtcokggnbgakonaaDoorW.PrintWords Go.Proofs.YtcokggnbgakonaaDoorW.PrintLast Go.Proofs.YtcokggnbgakonaaDoorW.PrintMore
attribute [local go_sem] max2_int min2_int max_two min_two max_three min_three max_four min_four   -- for this text's walks alone
set_option linter.unusedVariables false
set_option linter.unusedSimpArgs false

attribute [local go_sem high] eqA31
/-! ### spec_SameFiles: function 8 -/
def spec_SameFiles.l0 : Nat → List (S31) → List (S31) → Int → Int → Option (Bool)
  | 0, _, _, _, _ => none
  | k + 1, x0, x1, x12, x13 => if x13 < x12 then (if 0 ≤ x13 then (if x13 < (x0.length : Int) then (if x13 < (x1.length : Int) then (if ((!(((rd_T31 x0 x13).f0.f0) == ((rd_T31 x1 x13).f0.f0)) || (!(((rd_T31 x0 x13).f0.f1) == ((rd_T31 x1 x13).f0.f1)))) || ((!(((rd_T31 x0 x13).f1.f0) == ((rd_T31 x1 x13).f1.f0)) || (!(((rd_T31 x0 x13).f1.f1) == ((rd_T31 x1 x13).f1.f1)))) || (!(((rd_T31 x0 x13).f2) == ((rd_T31 x1 x13).f2)) || (!(((rd_T31 x0 x13).f3) == ((rd_T31 x1 x13).f3)) || (!(((rd_T31 x0 x13).f4) == ((rd_T31 x1 x13).f4)) || (!(((rd_T31 x0 x13).f5) == ((rd_T31 x1 x13).f5)) || (!(((rd_T31 x0 x13).f6) == ((rd_T31 x1 x13).f6)) || (!(((rd_T31 x0 x13).f7) == ((rd_T31 x1 x13).f7)) || (!((((rd_T31 x0 x13).f8).toList) == (((rd_T31 x1 x13).f8).toList)) || (!((((rd_T31 x0 x13).f9).toList) == (((rd_T31 x1 x13).f9).toList)) || (!(((rd_T31 x0 x13).f10) == ((rd_T31 x1 x13).f10)) || (!(((rd_T31 x0 x13).f11) == ((rd_T31 x1 x13).f11)) || (!(((rd_T31 x0 x13).f12) == ((rd_T31 x1 x13).f12))))))))))))))) = true then (some false) else (spec_SameFiles.l0 k x0 x1 x12 (wrap64 (x13 + 1)))) else (none)) else (none)) else (none)) else (some true)
def spec_SameFiles.f (k : Nat) (l0 : List (S31)) (l1 : List (S31)) : Option (Bool) := if (l0.length : Int) = (l1.length : Int) then (spec_SameFiles.l0 k l0 l1 (l0.length : Int) 0) else (some false)
theorem spec_SameFiles.mono_l : ∀ k, (∀ y0 y1 y2 y3, LeO (spec_SameFiles.l0 k y0 y1 y2 y3) (spec_SameFiles.l0 (k + 1) y0 y1 y2 y3))
  | 0 => fun _ _ _ _ r h => by simp [spec_SameFiles.l0] at h
  | k + 1 => by
    have ih0 := spec_SameFiles.mono_l k
    · intro y0 y1 y2 y3
      unfold spec_SameFiles.l0
      repeat' first
      | (with_reducible exact ih0 _ _ _ _)
      | (with_reducible exact LeO.refl _)
      | (with_reducible exact LeO.none _)
      | (with_reducible refine LeO.ite ?_ ?_)
      | (with_reducible refine LeO.bind ?_ (fun _ => ?_))
      | exact ih0 _ _ _ _
      | exact LeO.none _
      | refine LeO.ite ?_ ?_
      | refine LeO.bind ?_ (fun _ => ?_)
theorem spec_SameFiles.mono : ∀ a0 a1 k, LeO (spec_SameFiles.f k a0 a1) (spec_SameFiles.f (k + 1) a0 a1) := by
  intro a0 a1 k
  have ih0 := spec_SameFiles.mono_l k
  unfold spec_SameFiles.f
  repeat' first
      | (with_reducible exact ih0 _ _ _ _)
      | (with_reducible exact LeO.refl _)
      | (with_reducible exact LeO.none _)
      | (with_reducible refine LeO.ite ?_ ?_)
      | (with_reducible refine LeO.bind ?_ (fun _ => ?_))
      | exact ih0 _ _ _ _
      | exact LeO.none _
      | refine LeO.ite ?_ ?_
      | refine LeO.bind ?_ (fun _ => ?_)
set_option maxHeartbeats 8000000 in
set_option maxRecDepth 100000 in
theorem spec_SameFiles.calls (k : Nat) (A0 : Option Addr) (c0 : Nat) (l0 : List (S31)) (A1 : Option Addr) (c1 : Nat) (l1 : List (S31)) (r : Bool) (w : World) (hr0 : Kd.C k31 w A0 l0.length l0) (hc0 : l0.length ≤ c0) (hr1 : Kd.C k31 w A1 l1.length l1) (hc1 : l1.length ≤ c1) (h : spec_SameFiles.f k l0 l1 = some r) :
    Calls Tryd.prog 8 #[.slice A0 l0.length c0, .slice A1 l1.length c1] w fun e w' => e = .returned (.bool r) ∧ Drawn0 w w' := by
  have hu31 := Tryd.underlying31
  have HR0 := Aside0.mk hr0
  have HC0 := Aside0.mk hc0
  clear hr0 hc0
  have HR1 := Aside0.mk hr1
  have HC1 := Aside0.mk hc1
  clear hr1 hc1
  have H : (if (l0.length : Int) = (l1.length : Int) then (spec_SameFiles.l0 k l0 l1 (l0.length : Int) 0) else (some false)) = some r := h
  clear h
  by_cases c3 : (l0.length : Int) = (l1.length : Int)
  · rw [if_pos c3] at H
    have c3b0 : ((l0.length : Int) == (l1.length : Int)) = true := beq_iff_eq.mpr c3
    have c3b1 : ((l0.length : Int) != (l1.length : Int)) = false := bne_eq_false_iff_eq.mpr c3
    have c3b2 : (l0.length == l1.length) = true := by first | simpa using c3 | (simp at c3 ⊢; omega)
    clear c3
    have H' := Aside0.mk H
    clear H
    go_enter Tryd.func8, Tryd.ntmps8
    go_wp2
    repeat (go_quiet (fail); try go_wp2)
    go_loopg [13] k (fun kq v13 w' => ∃ (x13_1 : Int), v13 = .int .i64 x13_1 ∧ Aside0 (spec_SameFiles.l0 kq l0 l1 (l0.length : Int) x13_1 = some r) ∧ Aside0 (kq ≤ k) ∧ Drawn0 w w')
    case atStart => exact ⟨(0), (by first | rfl | (simp; done) | (simp [*]; done)), H', ⟨Nat.le_refl _⟩, by repeat (first | exact Drawn0.refl _ | apply Drawn0.step)⟩
    case round =>
      clear H'
      try clear c1
      try clear p2
      try clear c3
      try clear c3b0
      try clear c3b1
      try clear c3b2
      obtain ⟨x13_1, rfl, HA, HK1, ⟨m1, rfl⟩⟩ := hrel
      cases gk with
      | zero => exact absurd HA.out (by simp [spec_SameFiles.l0])
      | succ k1 =>
        have H := HA.out
        clear HA
        simp only [spec_SameFiles.l0] at H
        by_cases c4 : x13_1 < (l0.length : Int)
        · rw [if_pos c4] at H
          have c4b0 : decide (x13_1 < (l0.length : Int)) = true := decide_eq_true c4
          clear c4
          by_cases c5 : 0 ≤ x13_1
          · rw [if_pos c5] at H
            have c5b0 : decide (0 ≤ x13_1) = true := decide_eq_true c5
            clear c5
            by_cases c6 : x13_1 < (l0.length : Int)
            · rw [if_pos c6] at H
              have c6b0 : decide (x13_1 < (l0.length : Int)) = true := decide_eq_true c6
              clear c6
              by_cases c7 : x13_1 < (l1.length : Int)
              · rw [if_pos c7] at H
                have c7b0 : decide (x13_1 < (l1.length : Int)) = true := decide_eq_true c7
                clear c7
                by_cases c8 : ((!(((rd_T31 l0 x13_1).f0.f0) == ((rd_T31 l1 x13_1).f0.f0)) || (!(((rd_T31 l0 x13_1).f0.f1) == ((rd_T31 l1 x13_1).f0.f1)))) || ((!(((rd_T31 l0 x13_1).f1.f0) == ((rd_T31 l1 x13_1).f1.f0)) || (!(((rd_T31 l0 x13_1).f1.f1) == ((rd_T31 l1 x13_1).f1.f1)))) || (!(((rd_T31 l0 x13_1).f2) == ((rd_T31 l1 x13_1).f2)) || (!(((rd_T31 l0 x13_1).f3) == ((rd_T31 l1 x13_1).f3)) || (!(((rd_T31 l0 x13_1).f4) == ((rd_T31 l1 x13_1).f4)) || (!(((rd_T31 l0 x13_1).f5) == ((rd_T31 l1 x13_1).f5)) || (!(((rd_T31 l0 x13_1).f6) == ((rd_T31 l1 x13_1).f6)) || (!(((rd_T31 l0 x13_1).f7) == ((rd_T31 l1 x13_1).f7)) || (!((((rd_T31 l0 x13_1).f8).toList) == (((rd_T31 l1 x13_1).f8).toList)) || (!((((rd_T31 l0 x13_1).f9).toList) == (((rd_T31 l1 x13_1).f9).toList)) || (!(((rd_T31 l0 x13_1).f10) == ((rd_T31 l1 x13_1).f10)) || (!(((rd_T31 l0 x13_1).f11) == ((rd_T31 l1 x13_1).f11)) || (!(((rd_T31 l0 x13_1).f12) == ((rd_T31 l1 x13_1).f12))))))))))))))) = true
                · rw [if_pos c8] at H
                  have c8b0 : ((!(((rd_T31 l0 x13_1).f0.f0) == ((rd_T31 l1 x13_1).f0.f0)) || (!(((rd_T31 l0 x13_1).f0.f1) == ((rd_T31 l1 x13_1).f0.f1)))) || ((!(((rd_T31 l0 x13_1).f1.f0) == ((rd_T31 l1 x13_1).f1.f0)) || (!(((rd_T31 l0 x13_1).f1.f1) == ((rd_T31 l1 x13_1).f1.f1)))) || (!(((rd_T31 l0 x13_1).f2) == ((rd_T31 l1 x13_1).f2)) || (!(((rd_T31 l0 x13_1).f3) == ((rd_T31 l1 x13_1).f3)) || (!(((rd_T31 l0 x13_1).f4) == ((rd_T31 l1 x13_1).f4)) || (!(((rd_T31 l0 x13_1).f5) == ((rd_T31 l1 x13_1).f5)) || (!(((rd_T31 l0 x13_1).f6) == ((rd_T31 l1 x13_1).f6)) || (!(((rd_T31 l0 x13_1).f7) == ((rd_T31 l1 x13_1).f7)) || (!((((rd_T31 l0 x13_1).f8).toList) == (((rd_T31 l1 x13_1).f8).toList)) || (!((((rd_T31 l0 x13_1).f9).toList) == (((rd_T31 l1 x13_1).f9).toList)) || (!(((rd_T31 l0 x13_1).f10) == ((rd_T31 l1 x13_1).f10)) || (!(((rd_T31 l0 x13_1).f11) == ((rd_T31 l1 x13_1).f11)) || (!(((rd_T31 l0 x13_1).f12) == ((rd_T31 l1 x13_1).f12))))))))))))))) = true := c8
                  clear c8
                  obtain rfl := Option.some.inj H
                  have p120 : 0 ≤ (x13_1 : Int) := of_decide_eq_true (by first | (with_reducible assumption) | assumption)
                  have q120 : x13_1 < (l0.length : Int) := of_decide_eq_true (by first | (with_reducible assumption) | assumption)
                  obtain ⟨ad120, e120, hx120_0, hx120_1, hx120_2, hx120_3, hx120_4, hx120_5, hx120_6, hx120_7, hx120_8, hx120_9, hx120_10, hx120_11, hx120_12, hx120_13, hx120_14⟩ := at_T31 HR0.out x13_1 p120 q120
                  cases e120
                  replace p120 := eq_true p120
                  replace q120 := eq_true q120
                  have p121 : 0 ≤ (x13_1 : Int) := of_decide_eq_true (by first | (with_reducible assumption) | assumption)
                  have q121 : x13_1 < (l1.length : Int) := of_decide_eq_true (by first | (with_reducible assumption) | assumption)
                  obtain ⟨ad121, e121, hx121_0, hx121_1, hx121_2, hx121_3, hx121_4, hx121_5, hx121_6, hx121_7, hx121_8, hx121_9, hx121_10, hx121_11, hx121_12, hx121_13, hx121_14⟩ := at_T31 HR1.out x13_1 p121 q121
                  cases e121
                  replace p121 := eq_true p121
                  replace q121 := eq_true q121
                  go_wp2
                  repeat (go_quiet (fail); try go_wp2)
                  go_ret
                  exact ⟨by first | rfl | (simp; done) | (simp [*]; done), by repeat (first | exact Drawn0.refl _ | apply Drawn0.step)⟩
                · rw [if_neg c8] at H
                  have c8b0 : ((!(((rd_T31 l0 x13_1).f0.f0) == ((rd_T31 l1 x13_1).f0.f0)) || (!(((rd_T31 l0 x13_1).f0.f1) == ((rd_T31 l1 x13_1).f0.f1)))) || ((!(((rd_T31 l0 x13_1).f1.f0) == ((rd_T31 l1 x13_1).f1.f0)) || (!(((rd_T31 l0 x13_1).f1.f1) == ((rd_T31 l1 x13_1).f1.f1)))) || (!(((rd_T31 l0 x13_1).f2) == ((rd_T31 l1 x13_1).f2)) || (!(((rd_T31 l0 x13_1).f3) == ((rd_T31 l1 x13_1).f3)) || (!(((rd_T31 l0 x13_1).f4) == ((rd_T31 l1 x13_1).f4)) || (!(((rd_T31 l0 x13_1).f5) == ((rd_T31 l1 x13_1).f5)) || (!(((rd_T31 l0 x13_1).f6) == ((rd_T31 l1 x13_1).f6)) || (!(((rd_T31 l0 x13_1).f7) == ((rd_T31 l1 x13_1).f7)) || (!((((rd_T31 l0 x13_1).f8).toList) == (((rd_T31 l1 x13_1).f8).toList)) || (!((((rd_T31 l0 x13_1).f9).toList) == (((rd_T31 l1 x13_1).f9).toList)) || (!(((rd_T31 l0 x13_1).f10) == ((rd_T31 l1 x13_1).f10)) || (!(((rd_T31 l0 x13_1).f11) == ((rd_T31 l1 x13_1).f11)) || (!(((rd_T31 l0 x13_1).f12) == ((rd_T31 l1 x13_1).f12))))))))))))))) = false := by simpa using c8
                  clear c8
                  have H' := Aside0.mk H
                  clear H
                  have p120 : 0 ≤ (x13_1 : Int) := of_decide_eq_true (by first | (with_reducible assumption) | assumption)
                  have q120 : x13_1 < (l0.length : Int) := of_decide_eq_true (by first | (with_reducible assumption) | assumption)
                  obtain ⟨ad120, e120, hx120_0, hx120_1, hx120_2, hx120_3, hx120_4, hx120_5, hx120_6, hx120_7, hx120_8, hx120_9, hx120_10, hx120_11, hx120_12, hx120_13, hx120_14⟩ := at_T31 HR0.out x13_1 p120 q120
                  cases e120
                  replace p120 := eq_true p120
                  replace q120 := eq_true q120
                  have p121 : 0 ≤ (x13_1 : Int) := of_decide_eq_true (by first | (with_reducible assumption) | assumption)
                  have q121 : x13_1 < (l1.length : Int) := of_decide_eq_true (by first | (with_reducible assumption) | assumption)
                  obtain ⟨ad121, e121, hx121_0, hx121_1, hx121_2, hx121_3, hx121_4, hx121_5, hx121_6, hx121_7, hx121_8, hx121_9, hx121_10, hx121_11, hx121_12, hx121_13, hx121_14⟩ := at_T31 HR1.out x13_1 p121 q121
                  cases e121
                  replace p121 := eq_true p121
                  replace q121 := eq_true q121
                  go_wp2
                  repeat (go_quiet (fail); try go_wp2)
                  go_roundg k1
                  case measure => have := HK1.out; omega
                  case rel => exact ⟨(wrap64 (x13_1 + 1)), (by first | rfl | (simp; done) | (simp [*]; done)), H', ⟨by have := HK1.out; omega⟩, by repeat (first | exact Drawn0.refl _ | apply Drawn0.step)⟩
              · rw [if_neg c7] at H
                exact absurd H (by simp)
            · rw [if_neg c6] at H
              exact absurd H (by simp)
          · rw [if_neg c5] at H
            exact absurd H (by simp)
        · rw [if_neg c4] at H
          have c4b0 : decide (x13_1 < (l0.length : Int)) = false := decide_eq_false c4
          clear c4
          obtain rfl := Option.some.inj H
          go_wp2
          repeat (go_quiet (fail); try go_wp2)
          go_ret
          exact ⟨by first | rfl | (simp; done) | (simp [*]; done), by repeat (first | exact Drawn0.refl _ | apply Drawn0.step)⟩
  · rw [if_neg c3] at H
    have c3b0 : ((l0.length : Int) == (l1.length : Int)) = false := beq_eq_false_iff_ne.mpr c3
    have c3b1 : ((l0.length : Int) != (l1.length : Int)) = true := bne_iff_ne.mpr c3
    have c3b2 : (l0.length == l1.length) = false := by first | simpa using c3 | (simp at c3 ⊢; omega)
    obtain rfl := Option.some.inj H
    go_enter Tryd.func8, Tryd.ntmps8
    go_wp2
    repeat (go_quiet (fail); try go_wp2)
    go_ret
    exact ⟨by first | rfl | (simp; done) | (simp [*]; done), by repeat (first | exact Drawn0.refl _ | apply Drawn0.step)⟩

/-! ### zztime_Unix: function 20 -/
def zztime_Unix.f (a0 : Int) (a1 : Int) : Option (Int × Int × Int) := if (Int.tmod a1 1000000000) < 0 then (some (wrap64 ((wrap64 ((wrap64 (a0 + (wrap64 (Int.tdiv a1 1000000000)))) - 1)) + 62135596800), wrap64 ((Int.tmod a1 1000000000) + 1000000000), 0)) else (some (wrap64 ((wrap64 (a0 + (wrap64 (Int.tdiv a1 1000000000)))) + 62135596800), Int.tmod a1 1000000000, 0))
set_option maxHeartbeats 8000000 in
set_option maxRecDepth 100000 in
theorem zztime_Unix.calls (a0 : Int) (a1 : Int) (r1 : Int) (r2 : Int) (r3 : Int) (w : World) (h : zztime_Unix.f a0 a1 = some (r1, r2, r3)) :
    Calls Tryd.prog 20 #[.int .i64 a0, .int .i64 a1] w fun e w' => e = .returned (.agg #[.int .i64 r1, .int .i64 r2, .int .i64 r3]) ∧ Below w.heap.size w w' := by
  have hu44 := Tryd.underlying44
  have HB := Aside0.mk (Below.refl w.heap.size w)
  have H : (if (Int.tmod a1 1000000000) < 0 then (some (wrap64 ((wrap64 ((wrap64 (a0 + (wrap64 (Int.tdiv a1 1000000000)))) - 1)) + 62135596800), wrap64 ((Int.tmod a1 1000000000) + 1000000000), 0)) else (some (wrap64 ((wrap64 (a0 + (wrap64 (Int.tdiv a1 1000000000)))) + 62135596800), Int.tmod a1 1000000000, 0))) = some (r1, r2, r3) := h
  clear h
  by_cases c3 : (Int.tmod a1 1000000000) < 0
  · rw [if_pos c3] at H
    have c3b0 : decide ((Int.tmod a1 1000000000) < 0) = true := decide_eq_true c3
    clear c3
    simp only [Option.some.injEq, Prod.mk.injEq] at H
    obtain ⟨rfl, rfl, rfl⟩ := H
    go_enter Tryd.func20, Tryd.ntmps20
    go_wp2_with (first | ((with_reducible refine gate_dst (N := 4) rfl ?_); refine box_event ?hg (N := 4) ?hd (cs := #[.int .i64 0, .int .i64 0, .int .i64 0]) (t := 44) ?hr ?_; (case hd => rfl); (case hg => rfl); (case hr => first | (go_simp; done) | (go_simp; rfl)); intro gb122 hg w4 hbox hb; have n0_ := Aside0.mk (below_step (by repeat (first | (with_reducible first | exact HB.out | apply below_alloc | apply pw_below_drewN | apply below_drew1) | exact HB.out)) hb); have n1_ := Aside0.mk (hbox); have n2_ := Aside0.mk ((by rw [hg]; exact (below_size (by repeat (first | (with_reducible first | exact HB.out | apply below_alloc | apply pw_below_drewN | apply below_drew1) | exact HB.out))) : w.heap.size ≤ gb122)); have n3_ := Aside0.mk ((by rw [hg]; exact (below_size (by repeat (first | (with_reducible first | exact HB.out | apply below_alloc | apply pw_below_drewN | apply below_drew1) | exact HB.out))) : w.heap.size ≤ gb122)); clear HB; have HB := n0_; have BK122 := n1_; have GW122 := n2_; have GE122 := n3_; clear n0_ n1_ n2_ n3_; clear hb hbox hg; have hcz5_0 : w4.cell? ⟨gb122, 0, none⟩ = some (.int .i64 0) := (blk_cell BK122.out 0).trans rfl; have hcz5_1 : w4.cell? ⟨gb122, 1, none⟩ = some (.int .i64 0) := (blk_cell BK122.out 1).trans rfl; have hcz5_2 : w4.cell? ⟨gb122, 2, none⟩ = some (.int .i64 0) := (blk_cell BK122.out 2).trans rfl; have hfz5_0 := blk_frozen BK122.out 0; have hfz5_1 := blk_frozen BK122.out 1; have hfz5_2 := blk_frozen BK122.out 2))
    refine bodyPost_ret (results_cell_row rfl _ _ gb122 44 #[.int .i64 (wrap64 ((wrap64 ((wrap64 (a0 + (wrap64 (Int.tdiv a1 1000000000)))) - 1)) + 62135596800)), .int .i64 (wrap64 ((Int.tmod a1 1000000000) + 1000000000)), .int .i64 0] (0, 0) _ rfl (by (with_reducible repeat (first | refine blk_drewN ?_ _ | refine blk_drew ?_ | refine blk_alloc ?_ _)); refine blk_put (cs := #[.int .i64 (wrap64 ((wrap64 ((wrap64 (a0 + (wrap64 (Int.tdiv a1 1000000000)))) - 1)) + 62135596800)), .int .i64 (wrap64 ((Int.tmod a1 1000000000) + 1000000000)), .int .i64 0]) ?_ 2 _ rfl; (with_reducible repeat (first | refine blk_drewN ?_ _ | refine blk_drew ?_ | refine blk_alloc ?_ _)); refine blk_put (cs := #[.int .i64 (wrap64 ((wrap64 ((wrap64 (a0 + (wrap64 (Int.tdiv a1 1000000000)))) - 1)) + 62135596800)), .int .i64 0, .int .i64 0]) ?_ 1 _ rfl; (with_reducible repeat (first | refine blk_drewN ?_ _ | refine blk_drew ?_ | refine blk_alloc ?_ _)); refine blk_put (cs := #[.int .i64 0, .int .i64 0, .int .i64 0]) ?_ 0 _ rfl; (with_reducible repeat (first | refine blk_drewN ?_ _ | refine blk_drew ?_ | refine blk_alloc ?_ _)); exact BK122.out) Tryd.underlying44 rfl (by kernel_rfl)) rfl ?_
    exact ⟨by first | rfl | (simp [errW_none, errW_some] <;> rfl) | (simp [*, errW_none, errW_some] <;> rfl), by repeat (first | (with_reducible first | exact HB.out | apply below_alloc | apply pw_below_drewN | apply below_drew1 | refine below_set ?_ GE122.out) | exact HB.out)⟩
  · rw [if_neg c3] at H
    have c3b0 : decide ((Int.tmod a1 1000000000) < 0) = false := decide_eq_false c3
    clear c3
    simp only [Option.some.injEq, Prod.mk.injEq] at H
    obtain ⟨rfl, rfl, rfl⟩ := H
    go_enter Tryd.func20, Tryd.ntmps20
    go_wp2_with (first | ((with_reducible refine gate_dst (N := 4) rfl ?_); refine box_event ?hg (N := 4) ?hd (cs := #[.int .i64 0, .int .i64 0, .int .i64 0]) (t := 44) ?hr ?_; (case hd => rfl); (case hg => rfl); (case hr => first | (go_simp; done) | (go_simp; rfl)); intro gb122 hg w6 hbox hb; have n0_ := Aside0.mk (below_step (by repeat (first | (with_reducible first | exact HB.out | apply below_alloc | apply pw_below_drewN | apply below_drew1) | exact HB.out)) hb); have n1_ := Aside0.mk (hbox); have n2_ := Aside0.mk ((by rw [hg]; exact (below_size (by repeat (first | (with_reducible first | exact HB.out | apply below_alloc | apply pw_below_drewN | apply below_drew1) | exact HB.out))) : w.heap.size ≤ gb122)); have n3_ := Aside0.mk ((by rw [hg]; exact (below_size (by repeat (first | (with_reducible first | exact HB.out | apply below_alloc | apply pw_below_drewN | apply below_drew1) | exact HB.out))) : w.heap.size ≤ gb122)); clear HB; have HB := n0_; have BK122 := n1_; have GW122 := n2_; have GE122 := n3_; clear n0_ n1_ n2_ n3_; clear hb hbox hg; have hcz7_0 : w6.cell? ⟨gb122, 0, none⟩ = some (.int .i64 0) := (blk_cell BK122.out 0).trans rfl; have hcz7_1 : w6.cell? ⟨gb122, 1, none⟩ = some (.int .i64 0) := (blk_cell BK122.out 1).trans rfl; have hcz7_2 : w6.cell? ⟨gb122, 2, none⟩ = some (.int .i64 0) := (blk_cell BK122.out 2).trans rfl; have hfz7_0 := blk_frozen BK122.out 0; have hfz7_1 := blk_frozen BK122.out 1; have hfz7_2 := blk_frozen BK122.out 2))
    refine bodyPost_ret (results_cell_row rfl _ _ gb122 44 #[.int .i64 (wrap64 ((wrap64 (a0 + (wrap64 (Int.tdiv a1 1000000000)))) + 62135596800)), .int .i64 (Int.tmod a1 1000000000), .int .i64 0] (0, 0) _ rfl (by (with_reducible repeat (first | refine blk_drewN ?_ _ | refine blk_drew ?_ | refine blk_alloc ?_ _)); refine blk_put (cs := #[.int .i64 (wrap64 ((wrap64 (a0 + (wrap64 (Int.tdiv a1 1000000000)))) + 62135596800)), .int .i64 (Int.tmod a1 1000000000), .int .i64 0]) ?_ 2 _ rfl; (with_reducible repeat (first | refine blk_drewN ?_ _ | refine blk_drew ?_ | refine blk_alloc ?_ _)); refine blk_put (cs := #[.int .i64 (wrap64 ((wrap64 (a0 + (wrap64 (Int.tdiv a1 1000000000)))) + 62135596800)), .int .i64 0, .int .i64 0]) ?_ 1 _ rfl; (with_reducible repeat (first | refine blk_drewN ?_ _ | refine blk_drew ?_ | refine blk_alloc ?_ _)); refine blk_put (cs := #[.int .i64 0, .int .i64 0, .int .i64 0]) ?_ 0 _ rfl; (with_reducible repeat (first | refine blk_drewN ?_ _ | refine blk_drew ?_ | refine blk_alloc ?_ _)); exact BK122.out) Tryd.underlying44 rfl (by kernel_rfl)) rfl ?_
    exact ⟨by first | rfl | (simp [errW_none, errW_some] <;> rfl) | (simp [*, errW_none, errW_some] <;> rfl), by repeat (first | (with_reducible first | exact HB.out | apply below_alloc | apply pw_below_drewN | apply below_drew1 | refine below_set ?_ GE122.out) | exact HB.out)⟩

/-! ### impl_timeOf: function 16 -/
def impl_timeOf.f (a0_0 : Int) (a0_1 : Int) : Option (Int × Int × Int) := if a0_0 = 0 then (if a0_1 = 0 then (some (0, 0, 0)) else ((zztime_Unix.f a0_0 a0_1).bind fun bt125 => (some (bt125.1, bt125.2.1, bt125.2.2)))) else ((zztime_Unix.f a0_0 a0_1).bind fun bt128 => (some (bt128.1, bt128.2.1, bt128.2.2)))
set_option maxHeartbeats 8000000 in
set_option maxRecDepth 100000 in
theorem impl_timeOf.calls (a0_0 : Int) (a0_1 : Int) (r1 : Int) (r2 : Int) (r3 : Int) (w : World) (h : impl_timeOf.f a0_0 a0_1 = some (r1, r2, r3)) :
    Calls Tryd.prog 16 #[.agg #[.int .i64 a0_0, .int .i64 a0_1]] w fun e w' => e = .returned (.agg #[.int .i64 r1, .int .i64 r2, .int .i64 r3]) ∧ Below w.heap.size w w' := by
  have hu28 := Tryd.underlying28
  have hu44 := Tryd.underlying44
  have HB := Aside0.mk (Below.refl w.heap.size w)
  have H : (if a0_0 = 0 then (if a0_1 = 0 then (some (0, 0, 0)) else ((zztime_Unix.f a0_0 a0_1).bind fun bt125 => (some (bt125.1, bt125.2.1, bt125.2.2)))) else ((zztime_Unix.f a0_0 a0_1).bind fun bt128 => (some (bt128.1, bt128.2.1, bt128.2.2)))) = some (r1, r2, r3) := h
  clear h
  by_cases c2 : a0_0 = 0
  · rw [if_pos c2] at H
    have c2b0 : (a0_0 == 0) = true := beq_iff_eq.mpr c2
    have c2b1 : (a0_0 != 0) = false := bne_eq_false_iff_eq.mpr c2
    clear c2
    by_cases c3 : a0_1 = 0
    · rw [if_pos c3] at H
      have c3b0 : (a0_1 == 0) = true := beq_iff_eq.mpr c3
      have c3b1 : (a0_1 != 0) = false := bne_eq_false_iff_eq.mpr c3
      clear c3
      simp only [Option.some.injEq, Prod.mk.injEq] at H
      obtain ⟨rfl, rfl, rfl⟩ := H
      go_enter Tryd.func16, Tryd.ntmps16
      go_wp2_with (first | ((with_reducible refine gate_dst (N := 1) rfl ?_); refine box_event ?hg (N := 1) ?hd (cs := #[.int .i64 a0_0, .int .i64 a0_1]) (t := 28) ?hr ?_; (case hd => rfl); (case hg => rfl); (case hr => first | (go_simp; done) | (go_simp; rfl)); intro gb123 hg w4 hbox hb; have n0_ := Aside0.mk (below_step (by repeat (first | (with_reducible first | exact HB.out | apply below_alloc | apply pw_below_drewN | apply below_drew1) | exact HB.out)) hb); have n1_ := Aside0.mk (hbox); have n2_ := Aside0.mk ((by rw [hg]; exact (below_size (by repeat (first | (with_reducible first | exact HB.out | apply below_alloc | apply pw_below_drewN | apply below_drew1) | exact HB.out))) : w.heap.size ≤ gb123)); have n3_ := Aside0.mk ((by rw [hg]; exact (below_size (by repeat (first | (with_reducible first | exact HB.out | apply below_alloc | apply pw_below_drewN | apply below_drew1) | exact HB.out))) : w.heap.size ≤ gb123)); clear HB; have HB := n0_; have BK123 := n1_; have GW123 := n2_; have GE123 := n3_; clear n0_ n1_ n2_ n3_; clear hb hbox hg) | ((with_reducible refine gate_dst (N := 2) rfl ?_); refine box_event ?hg (N := 2) ?hd (cs := #[.int .i64 0, .int .i64 0, .int .i64 0]) (t := 44) ?hr ?_; (case hd => rfl); (case hg => rfl); (case hr => first | (go_simp; done) | (go_simp; rfl)); intro gb124 hg w5 hbox hb; have n0_ := Aside0.mk (blk_below (g := gb123) (o := .cells #[.int .i64 a0_0, .int .i64 a0_1] 28 (0, 0)) (by (with_reducible repeat (first | refine blk_drewN ?_ _ | refine blk_drew ?_ | refine blk_alloc ?_ _)); exact BK123.out) hb); have n1_ := Aside0.mk (below_step (by repeat (first | (with_reducible first | exact HB.out | apply below_alloc | apply pw_below_drewN | apply below_drew1 | refine below_set ?_ GE123.out) | exact HB.out)) hb); have n2_ := Aside0.mk (hbox); have n3_ := Aside0.mk ((by rw [hg]; exact (below_size (by repeat (first | (with_reducible first | exact HB.out | apply below_alloc | apply pw_below_drewN | apply below_drew1 | refine below_set ?_ GE123.out) | exact HB.out))) : w.heap.size ≤ gb124)); have n4_ := Aside0.mk ((by rw [hg]; exact (below_size (by repeat (first | (with_reducible first | exact HB.out | apply below_alloc | apply pw_below_drewN | apply below_drew1 | refine below_set ?_ GE123.out) | exact HB.out))) : w.heap.size ≤ gb124)); have n5_ := Aside0.mk ((by rw [hg]; exact Nat.ne_of_lt (blk_lt (g := gb123) (o := .cells #[.int .i64 a0_0, .int .i64 a0_1] 28 (0, 0)) (by (with_reducible repeat (first | refine blk_drewN ?_ _ | refine blk_drew ?_ | refine blk_alloc ?_ _)); exact BK123.out)) : gb123 ≠ gb124)); have n6_ := Aside0.mk ((by rw [hg]; exact Nat.ne_of_gt (blk_lt (g := gb123) (o := .cells #[.int .i64 a0_0, .int .i64 a0_1] 28 (0, 0)) (by (with_reducible repeat (first | refine blk_drewN ?_ _ | refine blk_drew ?_ | refine blk_alloc ?_ _)); exact BK123.out)) : gb124 ≠ gb123)); clear BK123; clear HB; have BK123 := n0_; have HB := n1_; have BK124 := n2_; have GW124 := n3_; have GE124 := n4_; have NB123_124 := n5_; have NB124_123 := n6_; clear n0_ n1_ n2_ n3_ n4_ n5_ n6_; clear hb hbox hg; have hnb6 := NB123_124.out; have hnc6 := NB124_123.out; have hcz7_0 : w5.cell? ⟨gb123, 0, none⟩ = some (.int .i64 a0_0) := (blk_cell BK123.out 0).trans rfl; have hcz7_1 : w5.cell? ⟨gb123, 1, none⟩ = some (.int .i64 a0_1) := (blk_cell BK123.out 1).trans rfl; have hfz7_0 := blk_frozen BK123.out 0; have hfz7_1 := blk_frozen BK123.out 1; have hcz8_0 : w5.cell? ⟨gb124, 0, none⟩ = some (.int .i64 0) := (blk_cell BK124.out 0).trans rfl; have hcz8_1 : w5.cell? ⟨gb124, 1, none⟩ = some (.int .i64 0) := (blk_cell BK124.out 1).trans rfl; have hcz8_2 : w5.cell? ⟨gb124, 2, none⟩ = some (.int .i64 0) := (blk_cell BK124.out 2).trans rfl; have hfz8_0 := blk_frozen BK124.out 0; have hfz8_1 := blk_frozen BK124.out 1; have hfz8_2 := blk_frozen BK124.out 2))
      refine bodyPost_ret (results_cell_row rfl _ _ gb124 44 #[.int .i64 0, .int .i64 0, .int .i64 0] (0, 0) _ rfl (by (with_reducible repeat (first | refine blk_drewN ?_ _ | refine blk_drew ?_ | refine blk_alloc ?_ _)); refine blk_put (cs := #[.int .i64 0, .int .i64 0, .int .i64 0]) ?_ 2 _ rfl; (with_reducible repeat (first | refine blk_drewN ?_ _ | refine blk_drew ?_ | refine blk_alloc ?_ _)); refine blk_put (cs := #[.int .i64 0, .int .i64 0, .int .i64 0]) ?_ 1 _ rfl; (with_reducible repeat (first | refine blk_drewN ?_ _ | refine blk_drew ?_ | refine blk_alloc ?_ _)); refine blk_put (cs := #[.int .i64 0, .int .i64 0, .int .i64 0]) ?_ 0 _ rfl; (with_reducible repeat (first | refine blk_drewN ?_ _ | refine blk_drew ?_ | refine blk_alloc ?_ _)); exact BK124.out) Tryd.underlying44 rfl (by kernel_rfl)) rfl ?_
      exact ⟨by first | rfl | (simp [errW_none, errW_some] <;> rfl) | (simp [*, errW_none, errW_some] <;> rfl), by repeat (first | (with_reducible first | exact HB.out | apply below_alloc | apply pw_below_drewN | apply below_drew1 | refine below_set ?_ GE123.out | refine below_set ?_ GE124.out) | exact HB.out)⟩
    · rw [if_neg c3] at H
      have c3b0 : (a0_1 == 0) = false := beq_eq_false_iff_ne.mpr c3
      have c3b1 : (a0_1 != 0) = true := bne_iff_ne.mpr c3
      replace H := Option.bind_eq_some_iff.mp H
      obtain ⟨⟨t125, t126, t127⟩, A90, H⟩ := H
      replace H : (some (t125, t126, t127)) = some (r1, r2, r3) := H
      have A9 := Aside0.mk A90
      clear A90
      simp only [Option.some.injEq, Prod.mk.injEq] at H
      obtain ⟨rfl, rfl, rfl⟩ := H
      go_enter Tryd.func16, Tryd.ntmps16
      go_wp2_with (first | ((with_reducible refine gate_dst (N := 1) rfl ?_); refine box_event ?hg (N := 1) ?hd (cs := #[.int .i64 a0_0, .int .i64 a0_1]) (t := 28) ?hr ?_; (case hd => rfl); (case hg => rfl); (case hr => first | (go_simp; done) | (go_simp; rfl)); intro gb123 hg w10 hbox hb; have n0_ := Aside0.mk (below_step (by repeat (first | (with_reducible first | exact HB.out | apply below_alloc | apply pw_below_drewN | apply below_drew1) | exact HB.out)) hb); have n1_ := Aside0.mk (hbox); have n2_ := Aside0.mk ((by rw [hg]; exact (below_size (by repeat (first | (with_reducible first | exact HB.out | apply below_alloc | apply pw_below_drewN | apply below_drew1) | exact HB.out))) : w.heap.size ≤ gb123)); have n3_ := Aside0.mk ((by rw [hg]; exact (below_size (by repeat (first | (with_reducible first | exact HB.out | apply below_alloc | apply pw_below_drewN | apply below_drew1) | exact HB.out))) : w.heap.size ≤ gb123)); clear HB; have HB := n0_; have BK123 := n1_; have GW123 := n2_; have GE123 := n3_; clear n0_ n1_ n2_ n3_; clear hb hbox hg) | ((with_reducible refine gate_dst (N := 2) rfl ?_); refine box_event ?hg (N := 2) ?hd (cs := #[.int .i64 0, .int .i64 0, .int .i64 0]) (t := 44) ?hr ?_; (case hd => rfl); (case hg => rfl); (case hr => first | (go_simp; done) | (go_simp; rfl)); intro gb124 hg w11 hbox hb; have n0_ := Aside0.mk (blk_below (g := gb123) (o := .cells #[.int .i64 a0_0, .int .i64 a0_1] 28 (0, 0)) (by (with_reducible repeat (first | refine blk_drewN ?_ _ | refine blk_drew ?_ | refine blk_alloc ?_ _)); exact BK123.out) hb); have n1_ := Aside0.mk (below_step (by repeat (first | (with_reducible first | exact HB.out | apply below_alloc | apply pw_below_drewN | apply below_drew1 | refine below_set ?_ GE123.out) | exact HB.out)) hb); have n2_ := Aside0.mk (hbox); have n3_ := Aside0.mk ((by rw [hg]; exact (below_size (by repeat (first | (with_reducible first | exact HB.out | apply below_alloc | apply pw_below_drewN | apply below_drew1 | refine below_set ?_ GE123.out) | exact HB.out))) : w.heap.size ≤ gb124)); have n4_ := Aside0.mk ((by rw [hg]; exact (below_size (by repeat (first | (with_reducible first | exact HB.out | apply below_alloc | apply pw_below_drewN | apply below_drew1 | refine below_set ?_ GE123.out) | exact HB.out))) : w.heap.size ≤ gb124)); have n5_ := Aside0.mk ((by rw [hg]; exact Nat.ne_of_lt (blk_lt (g := gb123) (o := .cells #[.int .i64 a0_0, .int .i64 a0_1] 28 (0, 0)) (by (with_reducible repeat (first | refine blk_drewN ?_ _ | refine blk_drew ?_ | refine blk_alloc ?_ _)); exact BK123.out)) : gb123 ≠ gb124)); have n6_ := Aside0.mk ((by rw [hg]; exact Nat.ne_of_gt (blk_lt (g := gb123) (o := .cells #[.int .i64 a0_0, .int .i64 a0_1] 28 (0, 0)) (by (with_reducible repeat (first | refine blk_drewN ?_ _ | refine blk_drew ?_ | refine blk_alloc ?_ _)); exact BK123.out)) : gb124 ≠ gb123)); clear BK123; clear HB; have BK123 := n0_; have HB := n1_; have BK124 := n2_; have GW124 := n3_; have GE124 := n4_; have NB123_124 := n5_; have NB124_123 := n6_; clear n0_ n1_ n2_ n3_ n4_ n5_ n6_; clear hb hbox hg; have hnb12 := NB123_124.out; have hnc12 := NB124_123.out; have hcz13_0 : w11.cell? ⟨gb123, 0, none⟩ = some (.int .i64 a0_0) := (blk_cell BK123.out 0).trans rfl; have hcz13_1 : w11.cell? ⟨gb123, 1, none⟩ = some (.int .i64 a0_1) := (blk_cell BK123.out 1).trans rfl; have hfz13_0 := blk_frozen BK123.out 0; have hfz13_1 := blk_frozen BK123.out 1) | ((with_reducible refine gate_callee (f := 20) rfl ?_); refine goesL_ (some 16) rfl rfl Tryd.func20 (by kernel_rfl) rfl #[.int .i64 a0_0, .int .i64 a0_1] rfl (by (try simp only [List.map_toArray, List.map_cons, List.map_nil]); first | done | rfl | (simp only [List.length_drop, List.length_take]; rfl)) ?_; (with_reducible refine (zztime_Unix.calls a0_0 a0_1 t125 t126 t127 _ A9.out).mono ?_); rintro e w14 ⟨rfl, hb⟩; refine ⟨_, rfl, ?_⟩; have n0_ := Aside0.mk (blk_below (g := gb123) (o := .cells #[.int .i64 a0_0, .int .i64 a0_1] 28 (0, 0)) (by (with_reducible repeat (first | refine blk_drewN ?_ _ | refine blk_drew ?_ | refine blk_alloc ?_ _)); exact BK123.out) hb); have n1_ := Aside0.mk (blk_below (g := gb124) (o := .cells #[.int .i64 0, .int .i64 0, .int .i64 0] 44 (0, 0)) (by (with_reducible repeat (first | refine blk_drewN ?_ _ | refine blk_drew ?_ | refine blk_alloc ?_ _)); exact BK124.out) hb); have n2_ := Aside0.mk (below_step (by repeat (first | (with_reducible first | exact HB.out | apply below_alloc | apply pw_below_drewN | apply below_drew1 | refine below_set ?_ GE123.out | refine below_set ?_ GE124.out) | exact HB.out)) hb); clear BK123; clear BK124; clear HB; have BK123 := n0_; have BK124 := n1_; have HB := n2_; clear n0_ n1_ n2_; (try clear hb); (try clear hb2); (try clear hk); (try clear hi); have hcz15_0 : w14.cell? ⟨gb124, 0, none⟩ = some (.int .i64 0) := (blk_cell BK124.out 0).trans rfl; have hcz15_1 : w14.cell? ⟨gb124, 1, none⟩ = some (.int .i64 0) := (blk_cell BK124.out 1).trans rfl; have hcz15_2 : w14.cell? ⟨gb124, 2, none⟩ = some (.int .i64 0) := (blk_cell BK124.out 2).trans rfl; have hfz15_0 := blk_frozen BK124.out 0; have hfz15_1 := blk_frozen BK124.out 1; have hfz15_2 := blk_frozen BK124.out 2))
      refine bodyPost_ret (results_cell_row rfl _ _ gb124 44 #[.int .i64 t125, .int .i64 t126, .int .i64 t127] (0, 0) _ rfl (by (with_reducible repeat (first | refine blk_drewN ?_ _ | refine blk_drew ?_ | refine blk_alloc ?_ _)); refine blk_put (cs := #[.int .i64 t125, .int .i64 t126, .int .i64 0]) ?_ 2 _ rfl; (with_reducible repeat (first | refine blk_drewN ?_ _ | refine blk_drew ?_ | refine blk_alloc ?_ _)); refine blk_put (cs := #[.int .i64 t125, .int .i64 0, .int .i64 0]) ?_ 1 _ rfl; (with_reducible repeat (first | refine blk_drewN ?_ _ | refine blk_drew ?_ | refine blk_alloc ?_ _)); refine blk_put (cs := #[.int .i64 0, .int .i64 0, .int .i64 0]) ?_ 0 _ rfl; (with_reducible repeat (first | refine blk_drewN ?_ _ | refine blk_drew ?_ | refine blk_alloc ?_ _)); exact BK124.out) Tryd.underlying44 rfl (by kernel_rfl)) rfl ?_
      exact ⟨by first | rfl | (simp [errW_none, errW_some] <;> rfl) | (simp [*, errW_none, errW_some] <;> rfl), by repeat (first | (with_reducible first | exact HB.out | apply below_alloc | apply pw_below_drewN | apply below_drew1 | refine below_set ?_ GE123.out | refine below_set ?_ GE124.out) | exact HB.out)⟩
  · rw [if_neg c2] at H
    have c2b0 : (a0_0 == 0) = false := beq_eq_false_iff_ne.mpr c2
    have c2b1 : (a0_0 != 0) = true := bne_iff_ne.mpr c2
    replace H := Option.bind_eq_some_iff.mp H
    obtain ⟨⟨t128, t129, t130⟩, A160, H⟩ := H
    replace H : (some (t128, t129, t130)) = some (r1, r2, r3) := H
    have A16 := Aside0.mk A160
    clear A160
    simp only [Option.some.injEq, Prod.mk.injEq] at H
    obtain ⟨rfl, rfl, rfl⟩ := H
    go_enter Tryd.func16, Tryd.ntmps16
    go_wp2_with (first | ((with_reducible refine gate_dst (N := 1) rfl ?_); refine box_event ?hg (N := 1) ?hd (cs := #[.int .i64 a0_0, .int .i64 a0_1]) (t := 28) ?hr ?_; (case hd => rfl); (case hg => rfl); (case hr => first | (go_simp; done) | (go_simp; rfl)); intro gb123 hg w17 hbox hb; have n0_ := Aside0.mk (below_step (by repeat (first | (with_reducible first | exact HB.out | apply below_alloc | apply pw_below_drewN | apply below_drew1) | exact HB.out)) hb); have n1_ := Aside0.mk (hbox); have n2_ := Aside0.mk ((by rw [hg]; exact (below_size (by repeat (first | (with_reducible first | exact HB.out | apply below_alloc | apply pw_below_drewN | apply below_drew1) | exact HB.out))) : w.heap.size ≤ gb123)); have n3_ := Aside0.mk ((by rw [hg]; exact (below_size (by repeat (first | (with_reducible first | exact HB.out | apply below_alloc | apply pw_below_drewN | apply below_drew1) | exact HB.out))) : w.heap.size ≤ gb123)); clear HB; have HB := n0_; have BK123 := n1_; have GW123 := n2_; have GE123 := n3_; clear n0_ n1_ n2_ n3_; clear hb hbox hg) | ((with_reducible refine gate_dst (N := 2) rfl ?_); refine box_event ?hg (N := 2) ?hd (cs := #[.int .i64 0, .int .i64 0, .int .i64 0]) (t := 44) ?hr ?_; (case hd => rfl); (case hg => rfl); (case hr => first | (go_simp; done) | (go_simp; rfl)); intro gb124 hg w18 hbox hb; have n0_ := Aside0.mk (blk_below (g := gb123) (o := .cells #[.int .i64 a0_0, .int .i64 a0_1] 28 (0, 0)) (by (with_reducible repeat (first | refine blk_drewN ?_ _ | refine blk_drew ?_ | refine blk_alloc ?_ _)); exact BK123.out) hb); have n1_ := Aside0.mk (below_step (by repeat (first | (with_reducible first | exact HB.out | apply below_alloc | apply pw_below_drewN | apply below_drew1 | refine below_set ?_ GE123.out) | exact HB.out)) hb); have n2_ := Aside0.mk (hbox); have n3_ := Aside0.mk ((by rw [hg]; exact (below_size (by repeat (first | (with_reducible first | exact HB.out | apply below_alloc | apply pw_below_drewN | apply below_drew1 | refine below_set ?_ GE123.out) | exact HB.out))) : w.heap.size ≤ gb124)); have n4_ := Aside0.mk ((by rw [hg]; exact (below_size (by repeat (first | (with_reducible first | exact HB.out | apply below_alloc | apply pw_below_drewN | apply below_drew1 | refine below_set ?_ GE123.out) | exact HB.out))) : w.heap.size ≤ gb124)); have n5_ := Aside0.mk ((by rw [hg]; exact Nat.ne_of_lt (blk_lt (g := gb123) (o := .cells #[.int .i64 a0_0, .int .i64 a0_1] 28 (0, 0)) (by (with_reducible repeat (first | refine blk_drewN ?_ _ | refine blk_drew ?_ | refine blk_alloc ?_ _)); exact BK123.out)) : gb123 ≠ gb124)); have n6_ := Aside0.mk ((by rw [hg]; exact Nat.ne_of_gt (blk_lt (g := gb123) (o := .cells #[.int .i64 a0_0, .int .i64 a0_1] 28 (0, 0)) (by (with_reducible repeat (first | refine blk_drewN ?_ _ | refine blk_drew ?_ | refine blk_alloc ?_ _)); exact BK123.out)) : gb124 ≠ gb123)); clear BK123; clear HB; have BK123 := n0_; have HB := n1_; have BK124 := n2_; have GW124 := n3_; have GE124 := n4_; have NB123_124 := n5_; have NB124_123 := n6_; clear n0_ n1_ n2_ n3_ n4_ n5_ n6_; clear hb hbox hg; have hnb19 := NB123_124.out; have hnc19 := NB124_123.out; have hcz20_0 : w18.cell? ⟨gb123, 0, none⟩ = some (.int .i64 a0_0) := (blk_cell BK123.out 0).trans rfl; have hcz20_1 : w18.cell? ⟨gb123, 1, none⟩ = some (.int .i64 a0_1) := (blk_cell BK123.out 1).trans rfl; have hfz20_0 := blk_frozen BK123.out 0; have hfz20_1 := blk_frozen BK123.out 1) | ((with_reducible refine gate_callee (f := 20) rfl ?_); refine goesL_ (some 16) rfl rfl Tryd.func20 (by kernel_rfl) rfl #[.int .i64 a0_0, .int .i64 a0_1] rfl (by (try simp only [List.map_toArray, List.map_cons, List.map_nil]); first | done | rfl | (simp only [List.length_drop, List.length_take]; rfl)) ?_; (with_reducible refine (zztime_Unix.calls a0_0 a0_1 t128 t129 t130 _ A16.out).mono ?_); rintro e w21 ⟨rfl, hb⟩; refine ⟨_, rfl, ?_⟩; have n0_ := Aside0.mk (blk_below (g := gb123) (o := .cells #[.int .i64 a0_0, .int .i64 a0_1] 28 (0, 0)) (by (with_reducible repeat (first | refine blk_drewN ?_ _ | refine blk_drew ?_ | refine blk_alloc ?_ _)); exact BK123.out) hb); have n1_ := Aside0.mk (blk_below (g := gb124) (o := .cells #[.int .i64 0, .int .i64 0, .int .i64 0] 44 (0, 0)) (by (with_reducible repeat (first | refine blk_drewN ?_ _ | refine blk_drew ?_ | refine blk_alloc ?_ _)); exact BK124.out) hb); have n2_ := Aside0.mk (below_step (by repeat (first | (with_reducible first | exact HB.out | apply below_alloc | apply pw_below_drewN | apply below_drew1 | refine below_set ?_ GE123.out | refine below_set ?_ GE124.out) | exact HB.out)) hb); clear BK123; clear BK124; clear HB; have BK123 := n0_; have BK124 := n1_; have HB := n2_; clear n0_ n1_ n2_; (try clear hb); (try clear hb2); (try clear hk); (try clear hi); have hcz22_0 : w21.cell? ⟨gb124, 0, none⟩ = some (.int .i64 0) := (blk_cell BK124.out 0).trans rfl; have hcz22_1 : w21.cell? ⟨gb124, 1, none⟩ = some (.int .i64 0) := (blk_cell BK124.out 1).trans rfl; have hcz22_2 : w21.cell? ⟨gb124, 2, none⟩ = some (.int .i64 0) := (blk_cell BK124.out 2).trans rfl; have hfz22_0 := blk_frozen BK124.out 0; have hfz22_1 := blk_frozen BK124.out 1; have hfz22_2 := blk_frozen BK124.out 2))
    refine bodyPost_ret (results_cell_row rfl _ _ gb124 44 #[.int .i64 t128, .int .i64 t129, .int .i64 t130] (0, 0) _ rfl (by (with_reducible repeat (first | refine blk_drewN ?_ _ | refine blk_drew ?_ | refine blk_alloc ?_ _)); refine blk_put (cs := #[.int .i64 t128, .int .i64 t129, .int .i64 0]) ?_ 2 _ rfl; (with_reducible repeat (first | refine blk_drewN ?_ _ | refine blk_drew ?_ | refine blk_alloc ?_ _)); refine blk_put (cs := #[.int .i64 t128, .int .i64 0, .int .i64 0]) ?_ 1 _ rfl; (with_reducible repeat (first | refine blk_drewN ?_ _ | refine blk_drew ?_ | refine blk_alloc ?_ _)); refine blk_put (cs := #[.int .i64 0, .int .i64 0, .int .i64 0]) ?_ 0 _ rfl; (with_reducible repeat (first | refine blk_drewN ?_ _ | refine blk_drew ?_ | refine blk_alloc ?_ _)); exact BK124.out) Tryd.underlying44 rfl (by kernel_rfl)) rfl ?_
    exact ⟨by first | rfl | (simp [errW_none, errW_some] <;> rfl) | (simp [*, errW_none, errW_some] <;> rfl), by repeat (first | (with_reducible first | exact HB.out | apply below_alloc | apply pw_below_drewN | apply below_drew1 | refine below_set ?_ GE123.out | refine below_set ?_ GE124.out) | exact HB.out)⟩

/-! ### zztime_Time_IsZero: function 26 -/
def zztime_Time_IsZero.f (a0_0 : Int) (a0_1 : Int) (a0_2 : Int) : Option (Bool) := if a0_0 = 0 then (some (a0_1 == 0)) else (some false)
set_option maxHeartbeats 8000000 in
set_option maxRecDepth 100000 in
theorem zztime_Time_IsZero.calls (a0_0 : Int) (a0_1 : Int) (a0_2 : Int) (r : Bool) (w : World) (h : zztime_Time_IsZero.f a0_0 a0_1 a0_2 = some r) :
    Calls Tryd.prog 26 #[.agg #[.int .i64 a0_0, .int .i64 a0_1, .int .i64 a0_2]] w fun e w' => e = .returned (.bool r) ∧ Below w.heap.size w w' := by
  have hu44 := Tryd.underlying44
  have HB := Aside0.mk (Below.refl w.heap.size w)
  have H : (if a0_0 = 0 then (some (a0_1 == 0)) else (some false)) = some r := h
  clear h
  by_cases c2 : a0_0 = 0
  · rw [if_pos c2] at H
    have c2b0 : (a0_0 == 0) = true := beq_iff_eq.mpr c2
    have c2b1 : (a0_0 != 0) = false := bne_eq_false_iff_eq.mpr c2
    clear c2
    obtain rfl := Option.some.inj H
    go_enter Tryd.func26, Tryd.ntmps26
    go_wp2_with (first | ((with_reducible refine gate_dst (N := 1) rfl ?_); refine box_event ?hg (N := 1) ?hd (cs := #[.int .i64 a0_0, .int .i64 a0_1, .int .i64 a0_2]) (t := 44) ?hr ?_; (case hd => rfl); (case hg => rfl); (case hr => first | (go_simp; done) | (go_simp; rfl)); intro gb131 hg w3 hbox hb; have n0_ := Aside0.mk (below_step (by repeat (first | (with_reducible first | exact HB.out | apply below_alloc | apply pw_below_drewN | apply below_drew1) | exact HB.out)) hb); have n1_ := Aside0.mk (hbox); have n2_ := Aside0.mk ((by rw [hg]; exact (below_size (by repeat (first | (with_reducible first | exact HB.out | apply below_alloc | apply pw_below_drewN | apply below_drew1) | exact HB.out))) : w.heap.size ≤ gb131)); have n3_ := Aside0.mk ((by rw [hg]; exact (below_size (by repeat (first | (with_reducible first | exact HB.out | apply below_alloc | apply pw_below_drewN | apply below_drew1) | exact HB.out))) : w.heap.size ≤ gb131)); clear HB; have HB := n0_; have BK131 := n1_; have GW131 := n2_; have GE131 := n3_; clear n0_ n1_ n2_ n3_; clear hb hbox hg; have hcz4_0 : w3.cell? ⟨gb131, 0, none⟩ = some (.int .i64 a0_0) := (blk_cell BK131.out 0).trans rfl; have hcz4_1 : w3.cell? ⟨gb131, 1, none⟩ = some (.int .i64 a0_1) := (blk_cell BK131.out 1).trans rfl; have hcz4_2 : w3.cell? ⟨gb131, 2, none⟩ = some (.int .i64 a0_2) := (blk_cell BK131.out 2).trans rfl; have hfz4_0 := blk_frozen BK131.out 0; have hfz4_1 := blk_frozen BK131.out 1; have hfz4_2 := blk_frozen BK131.out 2))
    go_ret
    exact ⟨by first | rfl | (simp [errW_none, errW_some] <;> rfl) | (simp [*, errW_none, errW_some] <;> rfl), by repeat (first | (with_reducible first | exact HB.out | apply below_alloc | apply pw_below_drewN | apply below_drew1 | refine below_set ?_ GE131.out) | exact HB.out)⟩
  · rw [if_neg c2] at H
    have c2b0 : (a0_0 == 0) = false := beq_eq_false_iff_ne.mpr c2
    have c2b1 : (a0_0 != 0) = true := bne_iff_ne.mpr c2
    obtain rfl := Option.some.inj H
    go_enter Tryd.func26, Tryd.ntmps26
    go_wp2_with (first | ((with_reducible refine gate_dst (N := 1) rfl ?_); refine box_event ?hg (N := 1) ?hd (cs := #[.int .i64 a0_0, .int .i64 a0_1, .int .i64 a0_2]) (t := 44) ?hr ?_; (case hd => rfl); (case hg => rfl); (case hr => first | (go_simp; done) | (go_simp; rfl)); intro gb131 hg w5 hbox hb; have n0_ := Aside0.mk (below_step (by repeat (first | (with_reducible first | exact HB.out | apply below_alloc | apply pw_below_drewN | apply below_drew1) | exact HB.out)) hb); have n1_ := Aside0.mk (hbox); have n2_ := Aside0.mk ((by rw [hg]; exact (below_size (by repeat (first | (with_reducible first | exact HB.out | apply below_alloc | apply pw_below_drewN | apply below_drew1) | exact HB.out))) : w.heap.size ≤ gb131)); have n3_ := Aside0.mk ((by rw [hg]; exact (below_size (by repeat (first | (with_reducible first | exact HB.out | apply below_alloc | apply pw_below_drewN | apply below_drew1) | exact HB.out))) : w.heap.size ≤ gb131)); clear HB; have HB := n0_; have BK131 := n1_; have GW131 := n2_; have GE131 := n3_; clear n0_ n1_ n2_ n3_; clear hb hbox hg; have hcz6_0 : w5.cell? ⟨gb131, 0, none⟩ = some (.int .i64 a0_0) := (blk_cell BK131.out 0).trans rfl; have hcz6_1 : w5.cell? ⟨gb131, 1, none⟩ = some (.int .i64 a0_1) := (blk_cell BK131.out 1).trans rfl; have hcz6_2 : w5.cell? ⟨gb131, 2, none⟩ = some (.int .i64 a0_2) := (blk_cell BK131.out 2).trans rfl; have hfz6_0 := blk_frozen BK131.out 0; have hfz6_1 := blk_frozen BK131.out 1; have hfz6_2 := blk_frozen BK131.out 2))
    go_ret
    exact ⟨by first | rfl | (simp [errW_none, errW_some] <;> rfl) | (simp [*, errW_none, errW_some] <;> rfl), by repeat (first | (with_reducible first | exact HB.out | apply below_alloc | apply pw_below_drewN | apply below_drew1 | refine below_set ?_ GE131.out) | exact HB.out)⟩

/-! ### zztime_Time_Unix: function 27 -/
def zztime_Time_Unix.f (a0_0 : Int) (a0_1 : Int) (a0_2 : Int) : Option (Int) := some (wrap64 (a0_0 - 62135596800))
set_option maxHeartbeats 8000000 in
set_option maxRecDepth 100000 in
theorem zztime_Time_Unix.calls (a0_0 : Int) (a0_1 : Int) (a0_2 : Int) (r : Int) (w : World) (h : zztime_Time_Unix.f a0_0 a0_1 a0_2 = some r) :
    Calls Tryd.prog 27 #[.agg #[.int .i64 a0_0, .int .i64 a0_1, .int .i64 a0_2]] w fun e w' => e = .returned (.int .i64 r) ∧ Below w.heap.size w w' := by
  have hu44 := Tryd.underlying44
  have HB := Aside0.mk (Below.refl w.heap.size w)
  have H : (some (wrap64 (a0_0 - 62135596800))) = some r := h
  clear h
  obtain rfl := Option.some.inj H
  go_enter Tryd.func27, Tryd.ntmps27
  go_wp2_with (first | ((with_reducible refine gate_dst (N := 1) rfl ?_); refine box_event ?hg (N := 1) ?hd (cs := #[.int .i64 a0_0, .int .i64 a0_1, .int .i64 a0_2]) (t := 44) ?hr ?_; (case hd => rfl); (case hg => rfl); (case hr => first | (go_simp; done) | (go_simp; rfl)); intro gb132 hg w2 hbox hb; have n0_ := Aside0.mk (below_step (by repeat (first | (with_reducible first | exact HB.out | apply below_alloc | apply pw_below_drewN | apply below_drew1) | exact HB.out)) hb); have n1_ := Aside0.mk (hbox); have n2_ := Aside0.mk ((by rw [hg]; exact (below_size (by repeat (first | (with_reducible first | exact HB.out | apply below_alloc | apply pw_below_drewN | apply below_drew1) | exact HB.out))) : w.heap.size ≤ gb132)); have n3_ := Aside0.mk ((by rw [hg]; exact (below_size (by repeat (first | (with_reducible first | exact HB.out | apply below_alloc | apply pw_below_drewN | apply below_drew1) | exact HB.out))) : w.heap.size ≤ gb132)); clear HB; have HB := n0_; have BK132 := n1_; have GW132 := n2_; have GE132 := n3_; clear n0_ n1_ n2_ n3_; clear hb hbox hg; have hcz3_0 : w2.cell? ⟨gb132, 0, none⟩ = some (.int .i64 a0_0) := (blk_cell BK132.out 0).trans rfl; have hcz3_1 : w2.cell? ⟨gb132, 1, none⟩ = some (.int .i64 a0_1) := (blk_cell BK132.out 1).trans rfl; have hcz3_2 : w2.cell? ⟨gb132, 2, none⟩ = some (.int .i64 a0_2) := (blk_cell BK132.out 2).trans rfl; have hfz3_0 := blk_frozen BK132.out 0; have hfz3_1 := blk_frozen BK132.out 1; have hfz3_2 := blk_frozen BK132.out 2))
  go_ret
  exact ⟨by first | rfl | (simp [errW_none, errW_some] <;> rfl) | (simp [*, errW_none, errW_some] <;> rfl), by repeat (first | (with_reducible first | exact HB.out | apply below_alloc | apply pw_below_drewN | apply below_drew1 | refine below_set ?_ GE132.out) | exact HB.out)⟩

/-! ### zztime_Time_Nanosecond: function 28 -/
def zztime_Time_Nanosecond.f (a0_0 : Int) (a0_1 : Int) (a0_2 : Int) : Option (Int) := some a0_1
set_option maxHeartbeats 8000000 in
set_option maxRecDepth 100000 in
theorem zztime_Time_Nanosecond.calls (a0_0 : Int) (a0_1 : Int) (a0_2 : Int) (r : Int) (w : World) (h : zztime_Time_Nanosecond.f a0_0 a0_1 a0_2 = some r) :
    Calls Tryd.prog 28 #[.agg #[.int .i64 a0_0, .int .i64 a0_1, .int .i64 a0_2]] w fun e w' => e = .returned (.int .i64 r) ∧ Below w.heap.size w w' := by
  have hu44 := Tryd.underlying44
  have HB := Aside0.mk (Below.refl w.heap.size w)
  have H : (some a0_1) = some r := h
  clear h
  obtain rfl := Option.some.inj H
  go_enter Tryd.func28, Tryd.ntmps28
  go_wp2_with (first | ((with_reducible refine gate_dst (N := 1) rfl ?_); refine box_event ?hg (N := 1) ?hd (cs := #[.int .i64 a0_0, .int .i64 a0_1, .int .i64 a0_2]) (t := 44) ?hr ?_; (case hd => rfl); (case hg => rfl); (case hr => first | (go_simp; done) | (go_simp; rfl)); intro gb133 hg w2 hbox hb; have n0_ := Aside0.mk (below_step (by repeat (first | (with_reducible first | exact HB.out | apply below_alloc | apply pw_below_drewN | apply below_drew1) | exact HB.out)) hb); have n1_ := Aside0.mk (hbox); have n2_ := Aside0.mk ((by rw [hg]; exact (below_size (by repeat (first | (with_reducible first | exact HB.out | apply below_alloc | apply pw_below_drewN | apply below_drew1) | exact HB.out))) : w.heap.size ≤ gb133)); have n3_ := Aside0.mk ((by rw [hg]; exact (below_size (by repeat (first | (with_reducible first | exact HB.out | apply below_alloc | apply pw_below_drewN | apply below_drew1) | exact HB.out))) : w.heap.size ≤ gb133)); clear HB; have HB := n0_; have BK133 := n1_; have GW133 := n2_; have GE133 := n3_; clear n0_ n1_ n2_ n3_; clear hb hbox hg; have hcz3_0 : w2.cell? ⟨gb133, 0, none⟩ = some (.int .i64 a0_0) := (blk_cell BK133.out 0).trans rfl; have hcz3_1 : w2.cell? ⟨gb133, 1, none⟩ = some (.int .i64 a0_1) := (blk_cell BK133.out 1).trans rfl; have hcz3_2 : w2.cell? ⟨gb133, 2, none⟩ = some (.int .i64 a0_2) := (blk_cell BK133.out 2).trans rfl; have hfz3_0 := blk_frozen BK133.out 0; have hfz3_1 := blk_frozen BK133.out 1; have hfz3_2 := blk_frozen BK133.out 2))
  go_ret
  exact ⟨by first | rfl | (simp [errW_none, errW_some] <;> rfl) | (simp [*, errW_none, errW_some] <;> rfl), by repeat (first | (with_reducible first | exact HB.out | apply below_alloc | apply pw_below_drewN | apply below_drew1 | refine below_set ?_ GE133.out) | exact HB.out)⟩

/-! ### impl_stampOf: function 22 -/
def impl_stampOf.f (a0_0 : Int) (a0_1 : Int) (a0_2 : Int) : Option (Int × Int) := (zztime_Time_IsZero.f a0_0 a0_1 a0_2).bind fun t136 => (if t136 = true then (some (0, 0)) else ((zztime_Time_Unix.f a0_0 a0_1 a0_2).bind fun t137 => ((zztime_Time_Nanosecond.f a0_0 a0_1 a0_2).bind fun t138 => (some (t137, t138)))))
set_option maxHeartbeats 8000000 in
set_option maxRecDepth 100000 in
theorem impl_stampOf.calls (a0_0 : Int) (a0_1 : Int) (a0_2 : Int) (r1 : Int) (r2 : Int) (w : World) (h : impl_stampOf.f a0_0 a0_1 a0_2 = some (r1, r2)) :
    Calls Tryd.prog 22 #[.agg #[.int .i64 a0_0, .int .i64 a0_1, .int .i64 a0_2]] w fun e w' => e = .returned (.agg #[.int .i64 r1, .int .i64 r2]) ∧ Below w.heap.size w w' := by
  have hu44 := Tryd.underlying44
  have hu28 := Tryd.underlying28
  have HB := Aside0.mk (Below.refl w.heap.size w)
  have H : ((zztime_Time_IsZero.f a0_0 a0_1 a0_2).bind fun t136 => (if t136 = true then (some (0, 0)) else ((zztime_Time_Unix.f a0_0 a0_1 a0_2).bind fun t137 => ((zztime_Time_Nanosecond.f a0_0 a0_1 a0_2).bind fun t138 => (some (t137, t138)))))) = some (r1, r2) := h
  clear h
  replace H := Option.bind_eq_some_iff.mp H
  obtain ⟨t136, A20, H⟩ := H
  replace H : (if t136 = true then (some (0, 0)) else ((zztime_Time_Unix.f a0_0 a0_1 a0_2).bind fun t137 => ((zztime_Time_Nanosecond.f a0_0 a0_1 a0_2).bind fun t138 => (some (t137, t138))))) = some (r1, r2) := H
  have A2 := Aside0.mk A20
  clear A20
  by_cases c3 : t136 = true
  · subst c3
    have H1 : (some (0, 0)) = some (r1, r2) := by rw [if_pos rfl] at H; exact H
    clear H
    have H := H1
    clear H1
    simp only [Option.some.injEq, Prod.mk.injEq] at H
    obtain ⟨rfl, rfl⟩ := H
    go_enter Tryd.func22, Tryd.ntmps22
    go_wp2_with (first | ((with_reducible refine gate_dst (N := 1) rfl ?_); refine box_event ?hg (N := 1) ?hd (cs := #[.int .i64 a0_0, .int .i64 a0_1, .int .i64 a0_2]) (t := 44) ?hr ?_; (case hd => rfl); (case hg => rfl); (case hr => first | (go_simp; done) | (go_simp; rfl)); intro gb134 hg w4 hbox hb; have n0_ := Aside0.mk (below_step (by repeat (first | (with_reducible first | exact HB.out | apply below_alloc | apply pw_below_drewN | apply below_drew1) | exact HB.out)) hb); have n1_ := Aside0.mk (hbox); have n2_ := Aside0.mk ((by rw [hg]; exact (below_size (by repeat (first | (with_reducible first | exact HB.out | apply below_alloc | apply pw_below_drewN | apply below_drew1) | exact HB.out))) : w.heap.size ≤ gb134)); have n3_ := Aside0.mk ((by rw [hg]; exact (below_size (by repeat (first | (with_reducible first | exact HB.out | apply below_alloc | apply pw_below_drewN | apply below_drew1) | exact HB.out))) : w.heap.size ≤ gb134)); clear HB; have HB := n0_; have BK134 := n1_; have GW134 := n2_; have GE134 := n3_; clear n0_ n1_ n2_ n3_; clear hb hbox hg) | ((with_reducible refine gate_dst (N := 2) rfl ?_); refine box_event ?hg (N := 2) ?hd (cs := #[.int .i64 0, .int .i64 0]) (t := 28) ?hr ?_; (case hd => rfl); (case hg => rfl); (case hr => first | (go_simp; done) | (go_simp; rfl)); intro gb135 hg w5 hbox hb; have n0_ := Aside0.mk (blk_below (g := gb134) (o := .cells #[.int .i64 a0_0, .int .i64 a0_1, .int .i64 a0_2] 44 (0, 0)) (by (with_reducible repeat (first | refine blk_drewN ?_ _ | refine blk_drew ?_ | refine blk_alloc ?_ _)); exact BK134.out) hb); have n1_ := Aside0.mk (below_step (by repeat (first | (with_reducible first | exact HB.out | apply below_alloc | apply pw_below_drewN | apply below_drew1 | refine below_set ?_ GE134.out) | exact HB.out)) hb); have n2_ := Aside0.mk (hbox); have n3_ := Aside0.mk ((by rw [hg]; exact (below_size (by repeat (first | (with_reducible first | exact HB.out | apply below_alloc | apply pw_below_drewN | apply below_drew1 | refine below_set ?_ GE134.out) | exact HB.out))) : w.heap.size ≤ gb135)); have n4_ := Aside0.mk ((by rw [hg]; exact (below_size (by repeat (first | (with_reducible first | exact HB.out | apply below_alloc | apply pw_below_drewN | apply below_drew1 | refine below_set ?_ GE134.out) | exact HB.out))) : w.heap.size ≤ gb135)); have n5_ := Aside0.mk ((by rw [hg]; exact Nat.ne_of_lt (blk_lt (g := gb134) (o := .cells #[.int .i64 a0_0, .int .i64 a0_1, .int .i64 a0_2] 44 (0, 0)) (by (with_reducible repeat (first | refine blk_drewN ?_ _ | refine blk_drew ?_ | refine blk_alloc ?_ _)); exact BK134.out)) : gb134 ≠ gb135)); have n6_ := Aside0.mk ((by rw [hg]; exact Nat.ne_of_gt (blk_lt (g := gb134) (o := .cells #[.int .i64 a0_0, .int .i64 a0_1, .int .i64 a0_2] 44 (0, 0)) (by (with_reducible repeat (first | refine blk_drewN ?_ _ | refine blk_drew ?_ | refine blk_alloc ?_ _)); exact BK134.out)) : gb135 ≠ gb134)); clear BK134; clear HB; have BK134 := n0_; have HB := n1_; have BK135 := n2_; have GW135 := n3_; have GE135 := n4_; have NB134_135 := n5_; have NB135_134 := n6_; clear n0_ n1_ n2_ n3_ n4_ n5_ n6_; clear hb hbox hg; have hnb6 := NB134_135.out; have hnc6 := NB135_134.out; have hcz7_0 : w5.cell? ⟨gb134, 0, none⟩ = some (.int .i64 a0_0) := (blk_cell BK134.out 0).trans rfl; have hcz7_1 : w5.cell? ⟨gb134, 1, none⟩ = some (.int .i64 a0_1) := (blk_cell BK134.out 1).trans rfl; have hcz7_2 : w5.cell? ⟨gb134, 2, none⟩ = some (.int .i64 a0_2) := (blk_cell BK134.out 2).trans rfl; have hfz7_0 := blk_frozen BK134.out 0; have hfz7_1 := blk_frozen BK134.out 1; have hfz7_2 := blk_frozen BK134.out 2) | ((with_reducible refine gate_callee (f := 26) rfl ?_); refine goesL_ (some 4) rfl rfl Tryd.func26 (by kernel_rfl) rfl #[.agg #[.int .i64 a0_0, .int .i64 a0_1, .int .i64 a0_2]] rfl (by (try simp only [List.map_toArray, List.map_cons, List.map_nil]); first | done | rfl | (simp only [List.length_drop, List.length_take]; rfl)) ?_; (with_reducible refine (zztime_Time_IsZero.calls a0_0 a0_1 a0_2 true _ A2.out).mono ?_); rintro e w8 ⟨rfl, hb⟩; refine ⟨_, rfl, ?_⟩; have n0_ := Aside0.mk (blk_below (g := gb134) (o := .cells #[.int .i64 a0_0, .int .i64 a0_1, .int .i64 a0_2] 44 (0, 0)) (by (with_reducible repeat (first | refine blk_drewN ?_ _ | refine blk_drew ?_ | refine blk_alloc ?_ _)); exact BK134.out) hb); have n1_ := Aside0.mk (blk_below (g := gb135) (o := .cells #[.int .i64 0, .int .i64 0] 28 (0, 0)) (by (with_reducible repeat (first | refine blk_drewN ?_ _ | refine blk_drew ?_ | refine blk_alloc ?_ _)); exact BK135.out) hb); have n2_ := Aside0.mk (below_step (by repeat (first | (with_reducible first | exact HB.out | apply below_alloc | apply pw_below_drewN | apply below_drew1 | refine below_set ?_ GE134.out | refine below_set ?_ GE135.out) | exact HB.out)) hb); clear BK134; clear BK135; clear HB; have BK134 := n0_; have BK135 := n1_; have HB := n2_; clear n0_ n1_ n2_; (try clear hb); (try clear hb2); (try clear hk); (try clear hi); have hcz9_0 : w8.cell? ⟨gb135, 0, none⟩ = some (.int .i64 0) := (blk_cell BK135.out 0).trans rfl; have hcz9_1 : w8.cell? ⟨gb135, 1, none⟩ = some (.int .i64 0) := (blk_cell BK135.out 1).trans rfl; have hfz9_0 := blk_frozen BK135.out 0; have hfz9_1 := blk_frozen BK135.out 1))
    refine bodyPost_ret (results_cell_row rfl _ _ gb135 28 #[.int .i64 0, .int .i64 0] (0, 0) _ rfl (by (with_reducible repeat (first | refine blk_drewN ?_ _ | refine blk_drew ?_ | refine blk_alloc ?_ _)); refine blk_put (cs := #[.int .i64 0, .int .i64 0]) ?_ 1 _ rfl; (with_reducible repeat (first | refine blk_drewN ?_ _ | refine blk_drew ?_ | refine blk_alloc ?_ _)); refine blk_put (cs := #[.int .i64 0, .int .i64 0]) ?_ 0 _ rfl; (with_reducible repeat (first | refine blk_drewN ?_ _ | refine blk_drew ?_ | refine blk_alloc ?_ _)); exact BK135.out) Tryd.underlying28 rfl (by kernel_rfl)) rfl ?_
    exact ⟨by first | rfl | (simp [errW_none, errW_some] <;> rfl) | (simp [*, errW_none, errW_some] <;> rfl), by repeat (first | (with_reducible first | exact HB.out | apply below_alloc | apply pw_below_drewN | apply below_drew1 | refine below_set ?_ GE134.out | refine below_set ?_ GE135.out) | exact HB.out)⟩
  · replace c3 := Bool.eq_false_iff.mpr c3
    subst c3
    have H1 : ((zztime_Time_Unix.f a0_0 a0_1 a0_2).bind fun t137 => ((zztime_Time_Nanosecond.f a0_0 a0_1 a0_2).bind fun t138 => (some (t137, t138)))) = some (r1, r2) := by rw [if_neg (show ¬ (false = true) by decide)] at H; exact H
    clear H
    have H := H1
    clear H1
    replace H := Option.bind_eq_some_iff.mp H
    obtain ⟨t137, A100, H⟩ := H
    replace H : ((zztime_Time_Nanosecond.f a0_0 a0_1 a0_2).bind fun t138 => (some (t137, t138))) = some (r1, r2) := H
    have A10 := Aside0.mk A100
    clear A100
    replace H := Option.bind_eq_some_iff.mp H
    obtain ⟨t138, A110, H⟩ := H
    replace H : (some (t137, t138)) = some (r1, r2) := H
    have A11 := Aside0.mk A110
    clear A110
    simp only [Option.some.injEq, Prod.mk.injEq] at H
    obtain ⟨rfl, rfl⟩ := H
    go_enter Tryd.func22, Tryd.ntmps22
    try go_wp2_with (first | ((with_reducible refine gate_dst (N := 1) rfl ?_); refine box_event ?hg (N := 1) ?hd (cs := #[.int .i64 a0_0, .int .i64 a0_1, .int .i64 a0_2]) (t := 44) ?hr ?_; (case hd => rfl); (case hg => rfl); (case hr => first | (go_simp; done) | (go_simp; rfl)); intro gb134 hg w12 hbox hb; have n0_ := Aside0.mk (below_step (by repeat (first | (with_reducible first | exact HB.out | apply below_alloc | apply pw_below_drewN | apply below_drew1) | exact HB.out)) hb); have n1_ := Aside0.mk (hbox); have n2_ := Aside0.mk ((by rw [hg]; exact (below_size (by repeat (first | (with_reducible first | exact HB.out | apply below_alloc | apply pw_below_drewN | apply below_drew1) | exact HB.out))) : w.heap.size ≤ gb134)); have n3_ := Aside0.mk ((by rw [hg]; exact (below_size (by repeat (first | (with_reducible first | exact HB.out | apply below_alloc | apply pw_below_drewN | apply below_drew1) | exact HB.out))) : w.heap.size ≤ gb134)); clear HB; have HB := n0_; have BK134 := n1_; have GW134 := n2_; have GE134 := n3_; clear n0_ n1_ n2_ n3_; clear hb hbox hg) | ((with_reducible refine gate_dst (N := 2) rfl ?_); refine box_event ?hg (N := 2) ?hd (cs := #[.int .i64 0, .int .i64 0]) (t := 28) ?hr ?_; (case hd => rfl); (case hg => rfl); (case hr => first | (go_simp; done) | (go_simp; rfl)); intro gb135 hg w13 hbox hb; have n0_ := Aside0.mk (blk_below (g := gb134) (o := .cells #[.int .i64 a0_0, .int .i64 a0_1, .int .i64 a0_2] 44 (0, 0)) (by (with_reducible repeat (first | refine blk_drewN ?_ _ | refine blk_drew ?_ | refine blk_alloc ?_ _)); exact BK134.out) hb); have n1_ := Aside0.mk (below_step (by repeat (first | (with_reducible first | exact HB.out | apply below_alloc | apply pw_below_drewN | apply below_drew1 | refine below_set ?_ GE134.out) | exact HB.out)) hb); have n2_ := Aside0.mk (hbox); have n3_ := Aside0.mk ((by rw [hg]; exact (below_size (by repeat (first | (with_reducible first | exact HB.out | apply below_alloc | apply pw_below_drewN | apply below_drew1 | refine below_set ?_ GE134.out) | exact HB.out))) : w.heap.size ≤ gb135)); have n4_ := Aside0.mk ((by rw [hg]; exact (below_size (by repeat (first | (with_reducible first | exact HB.out | apply below_alloc | apply pw_below_drewN | apply below_drew1 | refine below_set ?_ GE134.out) | exact HB.out))) : w.heap.size ≤ gb135)); have n5_ := Aside0.mk ((by rw [hg]; exact Nat.ne_of_lt (blk_lt (g := gb134) (o := .cells #[.int .i64 a0_0, .int .i64 a0_1, .int .i64 a0_2] 44 (0, 0)) (by (with_reducible repeat (first | refine blk_drewN ?_ _ | refine blk_drew ?_ | refine blk_alloc ?_ _)); exact BK134.out)) : gb134 ≠ gb135)); have n6_ := Aside0.mk ((by rw [hg]; exact Nat.ne_of_gt (blk_lt (g := gb134) (o := .cells #[.int .i64 a0_0, .int .i64 a0_1, .int .i64 a0_2] 44 (0, 0)) (by (with_reducible repeat (first | refine blk_drewN ?_ _ | refine blk_drew ?_ | refine blk_alloc ?_ _)); exact BK134.out)) : gb135 ≠ gb134)); clear BK134; clear HB; have BK134 := n0_; have HB := n1_; have BK135 := n2_; have GW135 := n3_; have GE135 := n4_; have NB134_135 := n5_; have NB135_134 := n6_; clear n0_ n1_ n2_ n3_ n4_ n5_ n6_; clear hb hbox hg; have hnb14 := NB134_135.out; have hnc14 := NB135_134.out; have hcz15_0 : w13.cell? ⟨gb134, 0, none⟩ = some (.int .i64 a0_0) := (blk_cell BK134.out 0).trans rfl; have hcz15_1 : w13.cell? ⟨gb134, 1, none⟩ = some (.int .i64 a0_1) := (blk_cell BK134.out 1).trans rfl; have hcz15_2 : w13.cell? ⟨gb134, 2, none⟩ = some (.int .i64 a0_2) := (blk_cell BK134.out 2).trans rfl; have hfz15_0 := blk_frozen BK134.out 0; have hfz15_1 := blk_frozen BK134.out 1; have hfz15_2 := blk_frozen BK134.out 2) | ((with_reducible refine gate_callee (f := 26) rfl ?_); refine goesL_ (some 4) rfl rfl Tryd.func26 (by kernel_rfl) rfl #[.agg #[.int .i64 a0_0, .int .i64 a0_1, .int .i64 a0_2]] rfl (by (try simp only [List.map_toArray, List.map_cons, List.map_nil]); first | done | rfl | (simp only [List.length_drop, List.length_take]; rfl)) ?_; (with_reducible refine (zztime_Time_IsZero.calls a0_0 a0_1 a0_2 false _ A2.out).mono ?_); rintro e w16 ⟨rfl, hb⟩; refine ⟨_, rfl, ?_⟩; have n0_ := Aside0.mk (blk_below (g := gb134) (o := .cells #[.int .i64 a0_0, .int .i64 a0_1, .int .i64 a0_2] 44 (0, 0)) (by (with_reducible repeat (first | refine blk_drewN ?_ _ | refine blk_drew ?_ | refine blk_alloc ?_ _)); exact BK134.out) hb); have n1_ := Aside0.mk (blk_below (g := gb135) (o := .cells #[.int .i64 0, .int .i64 0] 28 (0, 0)) (by (with_reducible repeat (first | refine blk_drewN ?_ _ | refine blk_drew ?_ | refine blk_alloc ?_ _)); exact BK135.out) hb); have n2_ := Aside0.mk (below_step (by repeat (first | (with_reducible first | exact HB.out | apply below_alloc | apply pw_below_drewN | apply below_drew1 | refine below_set ?_ GE134.out | refine below_set ?_ GE135.out) | exact HB.out)) hb); clear BK134; clear BK135; clear HB; have BK134 := n0_; have BK135 := n1_; have HB := n2_; clear n0_ n1_ n2_; (try clear hb); (try clear hb2); (try clear hk); (try clear hi)))
    have n0_ := Aside0.mk (blk_drew BK134.out)
    have n1_ := Aside0.mk (blk_drew BK135.out)
    have n2_ := Aside0.mk (below_drew1 HB.out)
    clear BK134
    clear BK135
    clear HB
    have BK134 := n0_
    have BK135 := n1_
    have HB := n2_
    clear n0_ n1_ n2_
    refine start_ (n := 6) (S := fun w' => w'.cell? ⟨gb134, 0, none⟩ = some (.int .i64 a0_0) ∧ w'.cell? ⟨gb134, 1, none⟩ = some (.int .i64 a0_1) ∧ w'.cell? ⟨gb134, 2, none⟩ = some (.int .i64 a0_2)) (ds := []) #[false, false, false, false, false, false] (by kernel_rfl) rfl rfl ⟨(blk_cell BK134.out 0).trans rfl, (blk_cell BK134.out 1).trans rfl, (blk_cell BK134.out 2).trans rfl⟩ (fun hHeld => ?_)
    generalize w16.drew = w17 at BK134 BK135 HB hHeld ⊢
    refine take_ (i := 0) (N := some 6) (v := ?_) (a' := ?_) #[true, false, false, false, false, false] rfl rfl (by kernel_rfl) (fun _ _ _ h => h) (Or.inl ⟨by rfl, ?_⟩) hHeld ?_ ?_
    rotate_left
    · rintro w' ⟨s0, s1, s2⟩
      go_simp
      with_reducible rfl
    rotate_left
    · simp only [Act.put, List.setIfInBounds_toArray, List.set_cons_zero, List.set_cons_succ, i64_w, i32_w]
      rfl
    refine take_ (i := 2) (N := some 8) (v := ?_) (a' := ?_) #[true, false, true, false, false, false] rfl rfl (by kernel_rfl) (fun _ _ _ h => h) (Or.inl ⟨by rfl, ?_⟩) hHeld ?_ ?_
    rotate_left
    · rintro w' ⟨s0, s1, s2⟩
      go_simp
      with_reducible rfl
    rotate_left
    · simp only [Act.put, List.setIfInBounds_toArray, List.set_cons_zero, List.set_cons_succ, i64_w, i32_w]
      rfl
    refine one_ (i := 1) (N := some 7) #[true, true, true, false, false, false] rfl rfl (by kernel_rfl) (by decide) (fun K hK => ?_)
    refine goes_ Tryd.func27 (by kernel_rfl) rfl #[.agg #[.int .i64 a0_0, .int .i64 a0_1, .int .i64 a0_2]] (by rfl) rfl rfl (by (try simp only [List.map_toArray, List.map_cons, List.map_nil]); first | done | rfl | (simp only [List.length_drop, List.length_take]; rfl)) ?_
    with_reducible refine (zztime_Time_Unix.calls a0_0 a0_1 a0_2 t137 _ A10.out).mono ?_
    rintro e w18 ⟨rfl, hb⟩
    refine ⟨_, rfl, ?_⟩
    have n0_ := Aside0.mk (blk_below (g := gb134) (o := .cells #[.int .i64 a0_0, .int .i64 a0_1, .int .i64 a0_2] 44 (0, 0)) (by (with_reducible repeat (first | refine blk_drewN ?_ _ | refine blk_drew ?_ | refine blk_alloc ?_ _)); exact BK134.out) hb)
    have n1_ := Aside0.mk (blk_below (g := gb135) (o := .cells #[.int .i64 0, .int .i64 0] 28 (0, 0)) (by (with_reducible repeat (first | refine blk_drewN ?_ _ | refine blk_drew ?_ | refine blk_alloc ?_ _)); exact BK135.out) hb)
    have n2_ := Aside0.mk (below_step (by repeat (first | (with_reducible first | exact HB.out | apply below_alloc | apply pw_below_drewN | apply below_drew1 | refine below_set ?_ GE134.out | refine below_set ?_ GE135.out) | exact HB.out)) hb)
    clear BK134
    clear BK135
    clear HB
    have BK134 := n0_
    have BK135 := n1_
    have HB := n2_
    clear n0_ n1_ n2_
    (try clear hb)
    (try clear hb2)
    (try clear hk)
    (try clear hi)
    refine hK.out _ _ ⟨(blk_cell BK134.out 0).trans rfl, (blk_cell BK134.out 1).trans rfl, (blk_cell BK134.out 2).trans rfl⟩ (fun hHeld => ?_)
    clear hK K
    refine norm_ (a' := ?_) ?_ ?_
    rotate_left
    · show Act.put _ (some 7) _ = _
      simp only [Act.put, List.setIfInBounds_toArray, List.set_cons_zero, List.set_cons_succ, i64_w, i32_w]
      rfl
    refine one_ (i := 3) (N := some 9) #[true, true, true, true, false, false] rfl rfl (by kernel_rfl) (by decide) (fun K hK => ?_)
    refine goes_ Tryd.func28 (by kernel_rfl) rfl #[.agg #[.int .i64 a0_0, .int .i64 a0_1, .int .i64 a0_2]] (by rfl) rfl rfl (by (try simp only [List.map_toArray, List.map_cons, List.map_nil]); first | done | rfl | (simp only [List.length_drop, List.length_take]; rfl)) ?_
    with_reducible refine (zztime_Time_Nanosecond.calls a0_0 a0_1 a0_2 t138 _ A11.out).mono ?_
    rintro e w19 ⟨rfl, hb⟩
    refine ⟨_, rfl, ?_⟩
    have n0_ := Aside0.mk (blk_below (g := gb134) (o := .cells #[.int .i64 a0_0, .int .i64 a0_1, .int .i64 a0_2] 44 (0, 0)) (by (with_reducible repeat (first | refine blk_drewN ?_ _ | refine blk_drew ?_ | refine blk_alloc ?_ _)); exact BK134.out) hb)
    have n1_ := Aside0.mk (blk_below (g := gb135) (o := .cells #[.int .i64 0, .int .i64 0] 28 (0, 0)) (by (with_reducible repeat (first | refine blk_drewN ?_ _ | refine blk_drew ?_ | refine blk_alloc ?_ _)); exact BK135.out) hb)
    have n2_ := Aside0.mk (below_step (by repeat (first | (with_reducible first | exact HB.out | apply below_alloc | apply pw_below_drewN | apply below_drew1 | refine below_set ?_ GE134.out | refine below_set ?_ GE135.out) | exact HB.out)) hb)
    clear BK134
    clear BK135
    clear HB
    have BK134 := n0_
    have BK135 := n1_
    have HB := n2_
    clear n0_ n1_ n2_
    (try clear hb)
    (try clear hb2)
    (try clear hk)
    (try clear hi)
    refine hK.out _ _ ⟨(blk_cell BK134.out 0).trans rfl, (blk_cell BK134.out 1).trans rfl, (blk_cell BK134.out 2).trans rfl⟩ (fun hHeld => ?_)
    clear hK K
    refine norm_ (a' := ?_) ?_ ?_
    rotate_left
    · show Act.put _ (some 9) _ = _
      simp only [Act.put, List.setIfInBounds_toArray, List.set_cons_zero, List.set_cons_succ, i64_w, i32_w]
      rfl
    refine pure_ (i := 4) (N := some 10) (v := ?_) (a' := ?_) #[true, true, true, true, true, false] rfl rfl (by kernel_rfl) (fun _ _ _ h => h) (Or.inl ⟨by rfl, ?_⟩) ?_ ?_
    rotate_left
    · intro w'
      go_simp
      with_reducible rfl
    rotate_left
    · simp only [Act.put, List.setIfInBounds_toArray, List.set_cons_zero, List.set_cons_succ, i64_w, i32_w]
      rfl
    refine one_ (i := 5) (N := none) #[true, true, true, true, true, true] rfl rfl (by kernel_rfl) (by decide) (fun K hK => ?_)
    have hs20 : w19.cell? ⟨gb135, 0, none⟩ = some (.int .i64 0) := (blk_cell BK135.out 0).trans rfl
    have hfs20 := blk_frozen BK135.out 0
    have hns20_0 := NB134_135.out
    have hms20_0 := NB135_134.out
    have hs21 : w19.cell? ⟨gb135, 1, none⟩ = some (.int .i64 0) := (blk_cell BK135.out 1).trans rfl
    have hfs21 := blk_frozen BK135.out 1
    have hns21_0 := NB134_135.out
    have hms21_0 := NB135_134.out
    refine skip_ (w1 := ?_) (by rfl) rfl ?_ ?_
    rotate_left
    · go_simp
      rfl
    refine hK.out _ _ ⟨((cell_far (p := ⟨gb135, _, none⟩) NB134_135.out _).trans (((cell_far (p := ⟨gb135, _, none⟩) NB134_135.out _).trans (hHeld.1)))), ((cell_far (p := ⟨gb135, _, none⟩) NB134_135.out _).trans (((cell_far (p := ⟨gb135, _, none⟩) NB134_135.out _).trans (hHeld.2.1)))), ((cell_far (p := ⟨gb135, _, none⟩) NB134_135.out _).trans (((cell_far (p := ⟨gb135, _, none⟩) NB134_135.out _).trans (hHeld.2.2))))⟩ (fun hHeld => ?_)
    clear hK K
    refine done_ (by kernel_rfl) ?_
    try go_wp2
    refine bodyPost_ret (results_cell_row rfl _ _ gb135 28 #[.int .i64 t137, .int .i64 t138] (0, 0) _ rfl (by (with_reducible repeat (first | refine blk_drewN ?_ _ | refine blk_drew ?_ | refine blk_alloc ?_ _)); refine blk_put (cs := #[.int .i64 t137, .int .i64 0]) ?_ 1 _ rfl; (with_reducible repeat (first | refine blk_drewN ?_ _ | refine blk_drew ?_ | refine blk_alloc ?_ _)); refine blk_put (cs := #[.int .i64 0, .int .i64 0]) ?_ 0 _ rfl; (with_reducible repeat (first | refine blk_drewN ?_ _ | refine blk_drew ?_ | refine blk_alloc ?_ _)); exact BK135.out) Tryd.underlying28 rfl (by kernel_rfl)) rfl ?_
    exact ⟨by first | rfl | (simp [errW_none, errW_some] <;> rfl) | (simp [*, errW_none, errW_some] <;> rfl), by repeat (first | (with_reducible first | exact HB.out | apply below_alloc | apply pw_below_drewN | apply below_drew1 | refine below_set ?_ GE134.out | refine below_set ?_ GE135.out) | exact HB.out)⟩

end Go.Proofs.YtcokggnbgakonaaDoor.QAll
