-- WRITTEN BY A PROGRAM OF THIS SESSION, out of the loaded program, with words of the kit
import Derived.Test.YtlboochpbplhlaaDoorQAllx0
namespace Go.Proofs.YtlboochpbplhlaaDoor.QAll
open Go.RowKit Go.Proofs.YtlboochpbplhlaaDoorW.PrintWords Go.Proofs.YtlboochpbplhlaaDoorW.PrintLast Go.Proofs.YtlboochpbplhlaaDoorW.PrintMore
attribute [local go_sem] max2_int min2_int max_two min_two max_three min_three max_four min_four   -- for this text's walks alone
set_option linter.unusedVariables false
set_option linter.unusedSimpArgs false

/-! ### laws_zzFits8: function 17 -/
def laws_zzFits8.f (a0_0 : Bool) (a0_1 : Int) (a0_2 : Int) (l0_3 : List Int) (a0_4 : Int) : Option (Bool) := if (l0_3.length : Int) > 2147483647 then (some false) else (some true)
set_option maxHeartbeats 8000000 in
set_option maxRecDepth 100000 in
theorem laws_zzFits8.calls (a0_0 : Bool) (a0_1 : Int) (a0_2 : Int) (A0_3 : Option Addr) (c0_3 : Nat) (l0_3 : List Int) (a0_4 : Int) (r : Bool) (w : World) (hr0_3 : Kd.C (Kd.int .u8) w A0_3 l0_3.length l0_3) (hc0_3 : l0_3.length ≤ c0_3) (h : laws_zzFits8.f a0_0 a0_1 a0_2 l0_3 a0_4 = some r) :
    Calls Tryd.prog 17 #[.agg #[.bool a0_0, .int .i64 a0_1, .int .i64 a0_2, .slice A0_3 l0_3.length c0_3, .int .i64 a0_4]] w fun e w' => e = .returned (.bool r) ∧ Below w.heap.size w w' := by
  have hu38 := Tryd.underlying38
  have HR0_3 := Aside0.mk hr0_3
  have HC0_3 := Aside0.mk hc0_3
  clear hr0_3 hc0_3
  have HB := Aside0.mk (Below.refl w.heap.size w)
  have H : (if (l0_3.length : Int) > 2147483647 then (some false) else (some true)) = some r := h
  clear h
  by_cases c2 : (l0_3.length : Int) > 2147483647
  · rw [if_pos c2] at H
    have c2b0 : decide (2147483647 < (l0_3.length : Int)) = true := decide_eq_true c2
    have c2b1 : decide (2147483647 < l0_3.length) = true := decide_eq_true (by omega)
    clear c2
    obtain rfl := Option.some.inj H
    go_enter Tryd.func17, Tryd.ntmps17
    go_wp2_with (first | ((with_reducible refine gate_dst (N := 1) rfl ?_); refine box_event ?hg (N := 1) ?hd (cs := #[.bool a0_0, .int .i64 a0_1, .int .i64 a0_2, .slice A0_3 l0_3.length c0_3, .int .i64 a0_4]) (t := 38) ?hr ?_; (case hd => rfl); (case hg => rfl); (case hr => first | (go_simp; done) | (go_simp; rfl)); intro gb101 hg w3 hbox hb; have n0_ := Aside0.mk (below_step (by repeat (first | (with_reducible first | exact HB.out | apply below_alloc | apply pw_below_drewN | apply below_drew1) | exact HB.out)) hb); have n1_ := Aside0.mk (hbox); have n2_ := Aside0.mk ((by rw [hg]; exact (below_size (by repeat (first | (with_reducible first | exact HB.out | apply below_alloc | apply pw_below_drewN | apply below_drew1) | exact HB.out))) : w.heap.size ≤ gb101)); have n3_ := Aside0.mk ((by rw [hg]; exact (below_size (by repeat (first | (with_reducible first | exact HB.out | apply below_alloc | apply pw_below_drewN | apply below_drew1) | exact HB.out))) : w.heap.size ≤ gb101)); clear HB; have HB := n0_; have BK101 := n1_; have GW101 := n2_; have GE101 := n3_; clear n0_ n1_ n2_ n3_; clear hb hbox hg; have hcz4_0 : w3.cell? ⟨gb101, 0, none⟩ = some (.bool a0_0) := (blk_cell BK101.out 0).trans rfl; have hcz4_1 : w3.cell? ⟨gb101, 1, none⟩ = some (.int .i64 a0_1) := (blk_cell BK101.out 1).trans rfl; have hcz4_2 : w3.cell? ⟨gb101, 2, none⟩ = some (.int .i64 a0_2) := (blk_cell BK101.out 2).trans rfl; have hcz4_3 : w3.cell? ⟨gb101, 3, none⟩ = some (.slice A0_3 l0_3.length c0_3) := (blk_cell BK101.out 3).trans rfl; have hcz4_4 : w3.cell? ⟨gb101, 4, none⟩ = some (.int .i64 a0_4) := (blk_cell BK101.out 4).trans rfl; have hfz4_0 := blk_frozen BK101.out 0; have hfz4_1 := blk_frozen BK101.out 1; have hfz4_2 := blk_frozen BK101.out 2; have hfz4_3 := blk_frozen BK101.out 3; have hfz4_4 := blk_frozen BK101.out 4))
    go_ret
    exact ⟨by first | rfl | (simp [errW_none, errW_some] <;> rfl) | (simp [*, errW_none, errW_some] <;> rfl), by repeat (first | (with_reducible first | exact HB.out | apply below_alloc | apply pw_below_drewN | apply below_drew1 | refine below_set ?_ GE101.out) | exact HB.out)⟩
  · rw [if_neg c2] at H
    have c2b0 : decide (2147483647 < (l0_3.length : Int)) = false := decide_eq_false c2
    have c2b1 : decide (2147483647 < l0_3.length) = false := decide_eq_false (by omega)
    clear c2
    obtain rfl := Option.some.inj H
    go_enter Tryd.func17, Tryd.ntmps17
    go_wp2_with (first | ((with_reducible refine gate_dst (N := 1) rfl ?_); refine box_event ?hg (N := 1) ?hd (cs := #[.bool a0_0, .int .i64 a0_1, .int .i64 a0_2, .slice A0_3 l0_3.length c0_3, .int .i64 a0_4]) (t := 38) ?hr ?_; (case hd => rfl); (case hg => rfl); (case hr => first | (go_simp; done) | (go_simp; rfl)); intro gb101 hg w5 hbox hb; have n0_ := Aside0.mk (below_step (by repeat (first | (with_reducible first | exact HB.out | apply below_alloc | apply pw_below_drewN | apply below_drew1) | exact HB.out)) hb); have n1_ := Aside0.mk (hbox); have n2_ := Aside0.mk ((by rw [hg]; exact (below_size (by repeat (first | (with_reducible first | exact HB.out | apply below_alloc | apply pw_below_drewN | apply below_drew1) | exact HB.out))) : w.heap.size ≤ gb101)); have n3_ := Aside0.mk ((by rw [hg]; exact (below_size (by repeat (first | (with_reducible first | exact HB.out | apply below_alloc | apply pw_below_drewN | apply below_drew1) | exact HB.out))) : w.heap.size ≤ gb101)); clear HB; have HB := n0_; have BK101 := n1_; have GW101 := n2_; have GE101 := n3_; clear n0_ n1_ n2_ n3_; clear hb hbox hg; have hcz6_0 : w5.cell? ⟨gb101, 0, none⟩ = some (.bool a0_0) := (blk_cell BK101.out 0).trans rfl; have hcz6_1 : w5.cell? ⟨gb101, 1, none⟩ = some (.int .i64 a0_1) := (blk_cell BK101.out 1).trans rfl; have hcz6_2 : w5.cell? ⟨gb101, 2, none⟩ = some (.int .i64 a0_2) := (blk_cell BK101.out 2).trans rfl; have hcz6_3 : w5.cell? ⟨gb101, 3, none⟩ = some (.slice A0_3 l0_3.length c0_3) := (blk_cell BK101.out 3).trans rfl; have hcz6_4 : w5.cell? ⟨gb101, 4, none⟩ = some (.int .i64 a0_4) := (blk_cell BK101.out 4).trans rfl; have hfz6_0 := blk_frozen BK101.out 0; have hfz6_1 := blk_frozen BK101.out 1; have hfz6_2 := blk_frozen BK101.out 2; have hfz6_3 := blk_frozen BK101.out 3; have hfz6_4 := blk_frozen BK101.out 4))
    go_ret
    exact ⟨by first | rfl | (simp [errW_none, errW_some] <;> rfl) | (simp [*, errW_none, errW_some] <;> rfl), by repeat (first | (with_reducible first | exact HB.out | apply below_alloc | apply pw_below_drewN | apply below_drew1 | refine below_set ?_ GE101.out) | exact HB.out)⟩

/-! ### laws_zzFits7: function 8 -/
def laws_zzFits7.l0 : Nat → List (S38) → Int → Int → Option (Bool)
  | 0, _, _, _ => none
  | k + 1, x8, x9, x10 => if x10 < x9 then (if 0 ≤ x10 then (if x10 < (x8.length : Int) then ((laws_zzFits8.f ((rd_T38 x8 x10).f0) ((rd_T38 x8 x10).f1) ((rd_T38 x8 x10).f2) ((rd_T38 x8 x10).f3) ((rd_T38 x8 x10).f4)).bind fun t104 => (if t104 = true then (laws_zzFits7.l0 k x8 x9 (wrap64 (x10 + 1))) else (some false))) else (none)) else (none)) else (some true)
def laws_zzFits7.f (k : Nat) (l0 : List (S38)) : Option (Bool) := if (l0.length : Int) > 2147483647 then (some false) else (laws_zzFits7.l0 k l0 (l0.length : Int) 0)
theorem laws_zzFits7.mono_l : ∀ k, (∀ y0 y1 y2, LeO (laws_zzFits7.l0 k y0 y1 y2) (laws_zzFits7.l0 (k + 1) y0 y1 y2))
  | 0 => fun _ _ _ r h => by simp [laws_zzFits7.l0] at h
  | k + 1 => by
    have ih0 := laws_zzFits7.mono_l k
    · intro y0 y1 y2
      unfold laws_zzFits7.l0
      repeat' first
      | (with_reducible exact ih0 _ _ _)
      | (with_reducible exact LeO.refl _)
      | (with_reducible exact LeO.none _)
      | (with_reducible refine LeO.ite ?_ ?_)
      | (with_reducible refine LeO.bind ?_ (fun _ => ?_))
      | exact ih0 _ _ _
      | exact LeO.none _
      | refine LeO.ite ?_ ?_
      | refine LeO.bind ?_ (fun _ => ?_)
theorem laws_zzFits7.mono : ∀ a0 k, LeO (laws_zzFits7.f k a0) (laws_zzFits7.f (k + 1) a0) := by
  intro a0 k
  have ih0 := laws_zzFits7.mono_l k
  unfold laws_zzFits7.f
  repeat' first
      | (with_reducible exact ih0 _ _ _)
      | (with_reducible exact LeO.refl _)
      | (with_reducible exact LeO.none _)
      | (with_reducible refine LeO.ite ?_ ?_)
      | (with_reducible refine LeO.bind ?_ (fun _ => ?_))
      | exact ih0 _ _ _
      | exact LeO.none _
      | refine LeO.ite ?_ ?_
      | refine LeO.bind ?_ (fun _ => ?_)
set_option maxHeartbeats 8000000 in
set_option maxRecDepth 100000 in
theorem laws_zzFits7.calls (k : Nat) (A0 : Option Addr) (c0 : Nat) (l0 : List (S38)) (r : Bool) (w : World) (hr0 : Kd.C k38 w A0 l0.length l0) (hc0 : l0.length ≤ c0) (h : laws_zzFits7.f k l0 = some r) :
    Calls Tryd.prog 8 #[.slice A0 l0.length c0] w fun e w' => e = .returned (.bool r) ∧ Below w.heap.size w w' := by
  have hu38 := Tryd.underlying38
  have HR0 := Aside0.mk hr0
  have HC0 := Aside0.mk hc0
  clear hr0 hc0
  have HB := Aside0.mk (Below.refl w.heap.size w)
  have H : (if (l0.length : Int) > 2147483647 then (some false) else (laws_zzFits7.l0 k l0 (l0.length : Int) 0)) = some r := h
  clear h
  by_cases c2 : (l0.length : Int) > 2147483647
  · rw [if_pos c2] at H
    have c2b0 : decide (2147483647 < (l0.length : Int)) = true := decide_eq_true c2
    have c2b1 : decide (2147483647 < l0.length) = true := decide_eq_true (by omega)
    clear c2
    obtain rfl := Option.some.inj H
    go_enter Tryd.func8, Tryd.ntmps8
    go_wp2
    go_ret
    exact ⟨by first | rfl | (simp [errW_none, errW_some] <;> rfl) | (simp [*, errW_none, errW_some] <;> rfl), by repeat (first | (with_reducible first | exact HB.out | apply below_alloc | apply pw_below_drewN | apply below_drew1) | exact HB.out)⟩
  · rw [if_neg c2] at H
    have c2b0 : decide (2147483647 < (l0.length : Int)) = false := decide_eq_false c2
    have c2b1 : decide (2147483647 < l0.length) = false := decide_eq_false (by omega)
    clear c2
    have H' := Aside0.mk H
    clear H
    go_enter Tryd.func8, Tryd.ntmps8
    go_wp2
    go_loopg [10] k (fun kq v10 w' => ∃ (x10_1 : Int), v10 = .int .i64 x10_1 ∧ Aside0 (laws_zzFits7.l0 kq l0 (l0.length : Int) x10_1 = some r) ∧ Aside0 (kq ≤ k) ∧ Aside0 (Below w.heap.size w w'))
    case atStart => exact ⟨(0), (by first | rfl | (simp; done) | (simp [*]; done)), H', ⟨Nat.le_refl _⟩, ⟨by repeat (first | (with_reducible first | exact HB.out | apply below_alloc | apply pw_below_drewN | apply below_drew1) | exact HB.out)⟩⟩
    case round =>
      clear H'
      try clear c2
      try clear c2b0
      try clear c2b1
      try clear p2
      obtain ⟨x10_1, rfl, HA, HK1, HB⟩ := hrel
      cases gk with
      | zero => exact absurd HA.out (by simp [laws_zzFits7.l0])
      | succ k1 =>
        have H := HA.out
        clear HA
        simp only [laws_zzFits7.l0] at H
        by_cases c3 : x10_1 < (l0.length : Int)
        · rw [if_pos c3] at H
          have c3b0 : decide (x10_1 < (l0.length : Int)) = true := decide_eq_true c3
          clear c3
          by_cases c4 : 0 ≤ x10_1
          · rw [if_pos c4] at H
            have c4b0 : decide (0 ≤ x10_1) = true := decide_eq_true c4
            clear c4
            by_cases c5 : x10_1 < (l0.length : Int)
            · rw [if_pos c5] at H
              have c5b0 : decide (x10_1 < (l0.length : Int)) = true := decide_eq_true c5
              clear c5
              replace H := Option.bind_eq_some_iff.mp H
              obtain ⟨t104, A60, H⟩ := H
              replace H : (if t104 = true then (laws_zzFits7.l0 k1 l0 (l0.length : Int) (wrap64 (x10_1 + 1))) else (some false)) = some r := H
              have A6 := Aside0.mk A60
              clear A60
              by_cases c7 : t104 = true
              · subst c7
                have H1 : (laws_zzFits7.l0 k1 l0 (l0.length : Int) (wrap64 (x10_1 + 1))) = some r := by rw [if_pos rfl] at H; exact H
                clear H
                have H := H1
                clear H1
                have H' := Aside0.mk H
                clear H
                have p102 : 0 ≤ (x10_1 : Int) := of_decide_eq_true (by first | (with_reducible assumption) | assumption)
                have q102 : x10_1 < (l0.length : Int) := of_decide_eq_true (by first | (with_reducible assumption) | assumption)
                obtain ⟨ad102, A102_3, c102_3, e102, hx102_0, hx102_1, hx102_2, hx102_3, hx102_4, hl102_3, hi102_3⟩ := at_T38 HR0.out x10_1 p102 q102
                cases e102
                replace hx102_0 := (HB.out.cell (World.block_lt_of_cell? w _ hx102_0)).trans hx102_0
                replace hx102_1 := (HB.out.cell (World.block_lt_of_cell? w _ hx102_1)).trans hx102_1
                replace hx102_2 := (HB.out.cell (World.block_lt_of_cell? w _ hx102_2)).trans hx102_2
                replace hx102_3 := (HB.out.cell (World.block_lt_of_cell? w _ hx102_3)).trans hx102_3
                replace hx102_4 := (HB.out.cell (World.block_lt_of_cell? w _ hx102_4)).trans hx102_4
                have HR102_3 := Aside0.mk hi102_3
                have HC102_3 := Aside0.mk hl102_3
                clear hi102_3 hl102_3
                replace p102 := eq_true p102
                replace q102 := eq_true q102
                go_wp2_with (first | ((with_reducible refine gate_dst (N := 4) rfl ?_); refine box_event ?hg (N := 4) ?hd (cs := #[.bool false, .int .i64 0, .int .i64 0, .slice none 0 0, .int .i64 0]) (t := 38) ?hr ?_; (case hd => rfl); (case hg => rfl); (case hr => first | (go_simp; done) | (go_simp; rfl)); intro gb103 hg w8 hbox hb; have n0_ := Aside0.mk (below_step (by repeat (first | (with_reducible first | exact HB.out | apply below_alloc | apply pw_below_drewN | apply below_drew1) | exact HB.out)) hb); have n1_ := Aside0.mk (hbox); have n2_ := Aside0.mk ((by rw [hg]; exact (below_size (by repeat (first | (with_reducible first | exact HB.out | apply below_alloc | apply pw_below_drewN | apply below_drew1) | exact HB.out))) : w.heap.size ≤ gb103)); have n3_ := Aside0.mk ((by rw [hg]; exact (below_size (by repeat (first | (with_reducible first | exact HB.out | apply below_alloc | apply pw_below_drewN | apply below_drew1) | exact HB.out))) : w.heap.size ≤ gb103)); clear HB; have HB := n0_; have BK103 := n1_; have GW103 := n2_; have GE103 := n3_; clear n0_ n1_ n2_ n3_; clear hb hbox hg; have hcz9_0 : w8.cell? ⟨gb103, 0, none⟩ = some (.bool false) := (blk_cell BK103.out 0).trans rfl; have hcz9_1 : w8.cell? ⟨gb103, 1, none⟩ = some (.int .i64 0) := (blk_cell BK103.out 1).trans rfl; have hcz9_2 : w8.cell? ⟨gb103, 2, none⟩ = some (.int .i64 0) := (blk_cell BK103.out 2).trans rfl; have hcz9_3 : w8.cell? ⟨gb103, 3, none⟩ = some (.slice none 0 0) := (blk_cell BK103.out 3).trans rfl; have hcz9_4 : w8.cell? ⟨gb103, 4, none⟩ = some (.int .i64 0) := (blk_cell BK103.out 4).trans rfl; have hfz9_0 := blk_frozen BK103.out 0; have hfz9_1 := blk_frozen BK103.out 1; have hfz9_2 := blk_frozen BK103.out 2; have hfz9_3 := blk_frozen BK103.out 3; have hfz9_4 := blk_frozen BK103.out 4) | ((with_reducible refine gate_callee (f := 17) rfl ?_); refine goesL_ (some 15) rfl rfl Tryd.func17 (by kernel_rfl) rfl #[.agg #[.bool ((rd_T38 l0 x10_1).f0), .int .i64 ((rd_T38 l0 x10_1).f1), .int .i64 ((rd_T38 l0 x10_1).f2), .slice A102_3 ((rd_T38 l0 x10_1).f3).length c102_3, .int .i64 ((rd_T38 l0 x10_1).f4)]] rfl (by (try simp only [List.map_toArray, List.map_cons, List.map_nil]); first | done | rfl | (simp only [List.length_drop, List.length_take]; rfl)) ?_; (with_reducible refine (laws_zzFits8.calls ((rd_T38 l0 x10_1).f0) ((rd_T38 l0 x10_1).f1) ((rd_T38 l0 x10_1).f2) _ _ ((rd_T38 l0 x10_1).f3) ((rd_T38 l0 x10_1).f4) true _ ?side1 ?side2 A6.out).mono ?_); (case side1 => exact Kd.C_below HR102_3.out (by repeat (first | (with_reducible first | exact HB.out | apply below_alloc | apply pw_below_drewN | apply below_drew1 | refine below_set ?_ GE103.out) | exact HB.out))); (case side2 => exact HC102_3.out); rintro e w10 ⟨rfl, hb⟩; refine ⟨_, rfl, ?_⟩; have n0_ := Aside0.mk (blk_below (g := gb103) (o := .cells #[.bool ((rd_T38 l0 x10_1).f0), .int .i64 ((rd_T38 l0 x10_1).f1), .int .i64 ((rd_T38 l0 x10_1).f2), .slice A102_3 ((rd_T38 l0 x10_1).f3).length c102_3, .int .i64 ((rd_T38 l0 x10_1).f4)] 38 (0, 0)) (by (with_reducible repeat (first | refine blk_drewN ?_ _ | refine blk_drew ?_ | refine blk_alloc ?_ _)); refine blk_put (cs := #[.bool ((rd_T38 l0 x10_1).f0), .int .i64 ((rd_T38 l0 x10_1).f1), .int .i64 ((rd_T38 l0 x10_1).f2), .slice A102_3 ((rd_T38 l0 x10_1).f3).length c102_3, .int .i64 0]) ?_ 4 _ rfl; (with_reducible repeat (first | refine blk_drewN ?_ _ | refine blk_drew ?_ | refine blk_alloc ?_ _)); refine blk_put (cs := #[.bool ((rd_T38 l0 x10_1).f0), .int .i64 ((rd_T38 l0 x10_1).f1), .int .i64 ((rd_T38 l0 x10_1).f2), .slice none 0 0, .int .i64 0]) ?_ 3 _ rfl; (with_reducible repeat (first | refine blk_drewN ?_ _ | refine blk_drew ?_ | refine blk_alloc ?_ _)); refine blk_put (cs := #[.bool ((rd_T38 l0 x10_1).f0), .int .i64 ((rd_T38 l0 x10_1).f1), .int .i64 0, .slice none 0 0, .int .i64 0]) ?_ 2 _ rfl; (with_reducible repeat (first | refine blk_drewN ?_ _ | refine blk_drew ?_ | refine blk_alloc ?_ _)); refine blk_put (cs := #[.bool ((rd_T38 l0 x10_1).f0), .int .i64 0, .int .i64 0, .slice none 0 0, .int .i64 0]) ?_ 1 _ rfl; (with_reducible repeat (first | refine blk_drewN ?_ _ | refine blk_drew ?_ | refine blk_alloc ?_ _)); refine blk_put (cs := #[.bool false, .int .i64 0, .int .i64 0, .slice none 0 0, .int .i64 0]) ?_ 0 _ rfl; (with_reducible repeat (first | refine blk_drewN ?_ _ | refine blk_drew ?_ | refine blk_alloc ?_ _)); exact BK103.out) hb); have n1_ := Aside0.mk (below_step (by repeat (first | (with_reducible first | exact HB.out | apply below_alloc | apply pw_below_drewN | apply below_drew1 | refine below_set ?_ GE103.out) | exact HB.out)) hb); clear BK103; clear HB; have BK103 := n0_; have HB := n1_; clear n0_ n1_; (try clear hb); (try clear hb2); (try clear hk); (try clear hi)))
                go_roundg k1
                case measure => have := HK1.out; omega
                case rel => exact ⟨(wrap64 (x10_1 + 1)), (by first | rfl | (simp; done) | (simp [*]; done)), H', ⟨by have := HK1.out; omega⟩, ⟨by repeat (first | (with_reducible first | exact HB.out | apply below_alloc | apply pw_below_drewN | apply below_drew1 | refine below_set ?_ GE103.out) | exact HB.out)⟩⟩
              · replace c7 := Bool.eq_false_iff.mpr c7
                subst c7
                have H1 : (some false) = some r := by rw [if_neg (show ¬ (false = true) by decide)] at H; exact H
                clear H
                have H := H1
                clear H1
                obtain rfl := Option.some.inj H
                have p102 : 0 ≤ (x10_1 : Int) := of_decide_eq_true (by first | (with_reducible assumption) | assumption)
                have q102 : x10_1 < (l0.length : Int) := of_decide_eq_true (by first | (with_reducible assumption) | assumption)
                obtain ⟨ad102, A102_3, c102_3, e102, hx102_0, hx102_1, hx102_2, hx102_3, hx102_4, hl102_3, hi102_3⟩ := at_T38 HR0.out x10_1 p102 q102
                cases e102
                replace hx102_0 := (HB.out.cell (World.block_lt_of_cell? w _ hx102_0)).trans hx102_0
                replace hx102_1 := (HB.out.cell (World.block_lt_of_cell? w _ hx102_1)).trans hx102_1
                replace hx102_2 := (HB.out.cell (World.block_lt_of_cell? w _ hx102_2)).trans hx102_2
                replace hx102_3 := (HB.out.cell (World.block_lt_of_cell? w _ hx102_3)).trans hx102_3
                replace hx102_4 := (HB.out.cell (World.block_lt_of_cell? w _ hx102_4)).trans hx102_4
                have HR102_3 := Aside0.mk hi102_3
                have HC102_3 := Aside0.mk hl102_3
                clear hi102_3 hl102_3
                replace p102 := eq_true p102
                replace q102 := eq_true q102
                go_wp2_with (first | ((with_reducible refine gate_dst (N := 4) rfl ?_); refine box_event ?hg (N := 4) ?hd (cs := #[.bool false, .int .i64 0, .int .i64 0, .slice none 0 0, .int .i64 0]) (t := 38) ?hr ?_; (case hd => rfl); (case hg => rfl); (case hr => first | (go_simp; done) | (go_simp; rfl)); intro gb103 hg w11 hbox hb; have n0_ := Aside0.mk (below_step (by repeat (first | (with_reducible first | exact HB.out | apply below_alloc | apply pw_below_drewN | apply below_drew1) | exact HB.out)) hb); have n1_ := Aside0.mk (hbox); have n2_ := Aside0.mk ((by rw [hg]; exact (below_size (by repeat (first | (with_reducible first | exact HB.out | apply below_alloc | apply pw_below_drewN | apply below_drew1) | exact HB.out))) : w.heap.size ≤ gb103)); have n3_ := Aside0.mk ((by rw [hg]; exact (below_size (by repeat (first | (with_reducible first | exact HB.out | apply below_alloc | apply pw_below_drewN | apply below_drew1) | exact HB.out))) : w.heap.size ≤ gb103)); clear HB; have HB := n0_; have BK103 := n1_; have GW103 := n2_; have GE103 := n3_; clear n0_ n1_ n2_ n3_; clear hb hbox hg; have hcz12_0 : w11.cell? ⟨gb103, 0, none⟩ = some (.bool false) := (blk_cell BK103.out 0).trans rfl; have hcz12_1 : w11.cell? ⟨gb103, 1, none⟩ = some (.int .i64 0) := (blk_cell BK103.out 1).trans rfl; have hcz12_2 : w11.cell? ⟨gb103, 2, none⟩ = some (.int .i64 0) := (blk_cell BK103.out 2).trans rfl; have hcz12_3 : w11.cell? ⟨gb103, 3, none⟩ = some (.slice none 0 0) := (blk_cell BK103.out 3).trans rfl; have hcz12_4 : w11.cell? ⟨gb103, 4, none⟩ = some (.int .i64 0) := (blk_cell BK103.out 4).trans rfl; have hfz12_0 := blk_frozen BK103.out 0; have hfz12_1 := blk_frozen BK103.out 1; have hfz12_2 := blk_frozen BK103.out 2; have hfz12_3 := blk_frozen BK103.out 3; have hfz12_4 := blk_frozen BK103.out 4) | ((with_reducible refine gate_callee (f := 17) rfl ?_); refine goesL_ (some 15) rfl rfl Tryd.func17 (by kernel_rfl) rfl #[.agg #[.bool ((rd_T38 l0 x10_1).f0), .int .i64 ((rd_T38 l0 x10_1).f1), .int .i64 ((rd_T38 l0 x10_1).f2), .slice A102_3 ((rd_T38 l0 x10_1).f3).length c102_3, .int .i64 ((rd_T38 l0 x10_1).f4)]] rfl (by (try simp only [List.map_toArray, List.map_cons, List.map_nil]); first | done | rfl | (simp only [List.length_drop, List.length_take]; rfl)) ?_; (with_reducible refine (laws_zzFits8.calls ((rd_T38 l0 x10_1).f0) ((rd_T38 l0 x10_1).f1) ((rd_T38 l0 x10_1).f2) _ _ ((rd_T38 l0 x10_1).f3) ((rd_T38 l0 x10_1).f4) false _ ?side1 ?side2 A6.out).mono ?_); (case side1 => exact Kd.C_below HR102_3.out (by repeat (first | (with_reducible first | exact HB.out | apply below_alloc | apply pw_below_drewN | apply below_drew1 | refine below_set ?_ GE103.out) | exact HB.out))); (case side2 => exact HC102_3.out); rintro e w13 ⟨rfl, hb⟩; refine ⟨_, rfl, ?_⟩; have n0_ := Aside0.mk (blk_below (g := gb103) (o := .cells #[.bool ((rd_T38 l0 x10_1).f0), .int .i64 ((rd_T38 l0 x10_1).f1), .int .i64 ((rd_T38 l0 x10_1).f2), .slice A102_3 ((rd_T38 l0 x10_1).f3).length c102_3, .int .i64 ((rd_T38 l0 x10_1).f4)] 38 (0, 0)) (by (with_reducible repeat (first | refine blk_drewN ?_ _ | refine blk_drew ?_ | refine blk_alloc ?_ _)); refine blk_put (cs := #[.bool ((rd_T38 l0 x10_1).f0), .int .i64 ((rd_T38 l0 x10_1).f1), .int .i64 ((rd_T38 l0 x10_1).f2), .slice A102_3 ((rd_T38 l0 x10_1).f3).length c102_3, .int .i64 0]) ?_ 4 _ rfl; (with_reducible repeat (first | refine blk_drewN ?_ _ | refine blk_drew ?_ | refine blk_alloc ?_ _)); refine blk_put (cs := #[.bool ((rd_T38 l0 x10_1).f0), .int .i64 ((rd_T38 l0 x10_1).f1), .int .i64 ((rd_T38 l0 x10_1).f2), .slice none 0 0, .int .i64 0]) ?_ 3 _ rfl; (with_reducible repeat (first | refine blk_drewN ?_ _ | refine blk_drew ?_ | refine blk_alloc ?_ _)); refine blk_put (cs := #[.bool ((rd_T38 l0 x10_1).f0), .int .i64 ((rd_T38 l0 x10_1).f1), .int .i64 0, .slice none 0 0, .int .i64 0]) ?_ 2 _ rfl; (with_reducible repeat (first | refine blk_drewN ?_ _ | refine blk_drew ?_ | refine blk_alloc ?_ _)); refine blk_put (cs := #[.bool ((rd_T38 l0 x10_1).f0), .int .i64 0, .int .i64 0, .slice none 0 0, .int .i64 0]) ?_ 1 _ rfl; (with_reducible repeat (first | refine blk_drewN ?_ _ | refine blk_drew ?_ | refine blk_alloc ?_ _)); refine blk_put (cs := #[.bool false, .int .i64 0, .int .i64 0, .slice none 0 0, .int .i64 0]) ?_ 0 _ rfl; (with_reducible repeat (first | refine blk_drewN ?_ _ | refine blk_drew ?_ | refine blk_alloc ?_ _)); exact BK103.out) hb); have n1_ := Aside0.mk (below_step (by repeat (first | (with_reducible first | exact HB.out | apply below_alloc | apply pw_below_drewN | apply below_drew1 | refine below_set ?_ GE103.out) | exact HB.out)) hb); clear BK103; clear HB; have BK103 := n0_; have HB := n1_; clear n0_ n1_; (try clear hb); (try clear hb2); (try clear hk); (try clear hi)))
                go_ret
                exact ⟨by first | rfl | (simp [errW_none, errW_some] <;> rfl) | (simp [*, errW_none, errW_some] <;> rfl), by repeat (first | (with_reducible first | exact HB.out | apply below_alloc | apply pw_below_drewN | apply below_drew1 | refine below_set ?_ GE103.out) | exact HB.out)⟩
            · rw [if_neg c5] at H
              exact absurd H (by simp)
          · rw [if_neg c4] at H
            exact absurd H (by simp)
        · rw [if_neg c3] at H
          have c3b0 : decide (x10_1 < (l0.length : Int)) = false := decide_eq_false c3
          clear c3
          obtain rfl := Option.some.inj H
          go_wp2
          go_ret
          exact ⟨by first | rfl | (simp [errW_none, errW_some] <;> rfl) | (simp [*, errW_none, errW_some] <;> rfl), by repeat (first | (with_reducible first | exact HB.out | apply below_alloc | apply pw_below_drewN | apply below_drew1) | exact HB.out)⟩

/-! ### spec_GoodStep: function 18 -/
def spec_GoodStep.f (a0_0 : Bool) (a0_1 : Int) (a0_2 : Int) (l0_3 : List Int) (a0_4 : Int) (l1 : List Int) : Option (Bool) := if a0_0 = true then (if a0_1 ≥ 0 then (if a0_2 ≥ 1 then (if a0_2 < 16777216 then (if a0_1 < (l1.length : Int) then (some (decide (a0_2 ≤ (wrap64 ((l1.length : Int) - a0_1))))) else (some false)) else (some false)) else (some false)) else (some false)) else (if (l0_3.length : Int) ≥ 1 then (some (decide ((l0_3.length : Int) ≤ 127))) else (some false))
set_option maxHeartbeats 8000000 in
set_option maxRecDepth 100000 in
theorem spec_GoodStep.calls (a0_0 : Bool) (a0_1 : Int) (a0_2 : Int) (A0_3 : Option Addr) (c0_3 : Nat) (l0_3 : List Int) (a0_4 : Int) (A1 : Option Addr) (c1 : Nat) (l1 : List Int) (r : Bool) (w : World) (hr0_3 : Kd.C (Kd.int .u8) w A0_3 l0_3.length l0_3) (hc0_3 : l0_3.length ≤ c0_3) (hr1 : Kd.C (Kd.int .u8) w A1 l1.length l1) (hc1 : l1.length ≤ c1) (h : spec_GoodStep.f a0_0 a0_1 a0_2 l0_3 a0_4 l1 = some r) :
    Calls Tryd.prog 18 #[.agg #[.bool a0_0, .int .i64 a0_1, .int .i64 a0_2, .slice A0_3 l0_3.length c0_3, .int .i64 a0_4], .slice A1 l1.length c1] w fun e w' => e = .returned (.bool r) ∧ Below w.heap.size w w' := by
  have hu38 := Tryd.underlying38
  have HR0_3 := Aside0.mk hr0_3
  have HC0_3 := Aside0.mk hc0_3
  clear hr0_3 hc0_3
  have HR1 := Aside0.mk hr1
  have HC1 := Aside0.mk hc1
  clear hr1 hc1
  have HB := Aside0.mk (Below.refl w.heap.size w)
  have H : (if a0_0 = true then (if a0_1 ≥ 0 then (if a0_2 ≥ 1 then (if a0_2 < 16777216 then (if a0_1 < (l1.length : Int) then (some (decide (a0_2 ≤ (wrap64 ((l1.length : Int) - a0_1))))) else (some false)) else (some false)) else (some false)) else (some false)) else (if (l0_3.length : Int) ≥ 1 then (some (decide ((l0_3.length : Int) ≤ 127))) else (some false))) = some r := h
  clear h
  by_cases c3 : a0_0 = true
  · subst c3
    have H1 : (if a0_1 ≥ 0 then (if a0_2 ≥ 1 then (if a0_2 < 16777216 then (if a0_1 < (l1.length : Int) then (some (decide (a0_2 ≤ (wrap64 ((l1.length : Int) - a0_1))))) else (some false)) else (some false)) else (some false)) else (some false)) = some r := by rw [if_pos rfl] at H; exact H
    clear H
    have H := H1
    clear H1
    by_cases c4 : a0_1 ≥ 0
    · rw [if_pos c4] at H
      have c4b0 : decide (0 ≤ a0_1) = true := decide_eq_true c4
      clear c4
      by_cases c5 : a0_2 ≥ 1
      · rw [if_pos c5] at H
        have c5b0 : decide (1 ≤ a0_2) = true := decide_eq_true c5
        clear c5
        by_cases c6 : a0_2 < 16777216
        · rw [if_pos c6] at H
          have c6b0 : decide (a0_2 < 16777216) = true := decide_eq_true c6
          clear c6
          by_cases c7 : a0_1 < (l1.length : Int)
          · rw [if_pos c7] at H
            have c7b0 : decide (a0_1 < (l1.length : Int)) = true := decide_eq_true c7
            clear c7
            obtain rfl := Option.some.inj H
            go_enter Tryd.func18, Tryd.ntmps18
            go_wp2_with (first | ((with_reducible refine gate_dst (N := 2) rfl ?_); (try (refine gate_guard (by rfl) ?_; dsimp only)); refine box_event ?hg (N := 2) ?hd (cs := #[.bool true, .int .i64 a0_1, .int .i64 a0_2, .slice A0_3 l0_3.length c0_3, .int .i64 a0_4]) (t := 38) ?hr ?_; (case hd => rfl); (case hg => rfl); (case hr => first | (go_simp; done) | (go_simp; rfl)); intro gb105 hg w8 hbox hb; have n0_ := Aside0.mk (below_step (by repeat (first | (with_reducible first | exact HB.out | apply below_alloc | apply pw_below_drewN | apply below_drew1) | exact HB.out)) hb); have n1_ := Aside0.mk (hbox); have n2_ := Aside0.mk ((by rw [hg]; exact (below_size (by repeat (first | (with_reducible first | exact HB.out | apply below_alloc | apply pw_below_drewN | apply below_drew1) | exact HB.out))) : w.heap.size ≤ gb105)); have n3_ := Aside0.mk ((by rw [hg]; exact (below_size (by repeat (first | (with_reducible first | exact HB.out | apply below_alloc | apply pw_below_drewN | apply below_drew1) | exact HB.out))) : w.heap.size ≤ gb105)); clear HB; have HB := n0_; have BK105 := n1_; have GW105 := n2_; have GE105 := n3_; clear n0_ n1_ n2_ n3_; clear hb hbox hg; have hcz9_0 : w8.cell? ⟨gb105, 0, none⟩ = some (.bool true) := (blk_cell BK105.out 0).trans rfl; have hcz9_1 : w8.cell? ⟨gb105, 1, none⟩ = some (.int .i64 a0_1) := (blk_cell BK105.out 1).trans rfl; have hcz9_2 : w8.cell? ⟨gb105, 2, none⟩ = some (.int .i64 a0_2) := (blk_cell BK105.out 2).trans rfl; have hcz9_3 : w8.cell? ⟨gb105, 3, none⟩ = some (.slice A0_3 l0_3.length c0_3) := (blk_cell BK105.out 3).trans rfl; have hcz9_4 : w8.cell? ⟨gb105, 4, none⟩ = some (.int .i64 a0_4) := (blk_cell BK105.out 4).trans rfl; have hfz9_0 := blk_frozen BK105.out 0; have hfz9_1 := blk_frozen BK105.out 1; have hfz9_2 := blk_frozen BK105.out 2; have hfz9_3 := blk_frozen BK105.out 3; have hfz9_4 := blk_frozen BK105.out 4))
            go_ret
            exact ⟨by first | rfl | (simp [errW_none, errW_some] <;> rfl) | (simp [*, errW_none, errW_some] <;> rfl), by repeat (first | (with_reducible first | exact HB.out | apply below_alloc | apply pw_below_drewN | apply below_drew1 | refine below_set ?_ GE105.out) | exact HB.out)⟩
          · rw [if_neg c7] at H
            have c7b0 : decide (a0_1 < (l1.length : Int)) = false := decide_eq_false c7
            clear c7
            obtain rfl := Option.some.inj H
            go_enter Tryd.func18, Tryd.ntmps18
            go_wp2_with (first | ((with_reducible refine gate_dst (N := 2) rfl ?_); (try (refine gate_guard (by rfl) ?_; dsimp only)); refine box_event ?hg (N := 2) ?hd (cs := #[.bool true, .int .i64 a0_1, .int .i64 a0_2, .slice A0_3 l0_3.length c0_3, .int .i64 a0_4]) (t := 38) ?hr ?_; (case hd => rfl); (case hg => rfl); (case hr => first | (go_simp; done) | (go_simp; rfl)); intro gb105 hg w10 hbox hb; have n0_ := Aside0.mk (below_step (by repeat (first | (with_reducible first | exact HB.out | apply below_alloc | apply pw_below_drewN | apply below_drew1) | exact HB.out)) hb); have n1_ := Aside0.mk (hbox); have n2_ := Aside0.mk ((by rw [hg]; exact (below_size (by repeat (first | (with_reducible first | exact HB.out | apply below_alloc | apply pw_below_drewN | apply below_drew1) | exact HB.out))) : w.heap.size ≤ gb105)); have n3_ := Aside0.mk ((by rw [hg]; exact (below_size (by repeat (first | (with_reducible first | exact HB.out | apply below_alloc | apply pw_below_drewN | apply below_drew1) | exact HB.out))) : w.heap.size ≤ gb105)); clear HB; have HB := n0_; have BK105 := n1_; have GW105 := n2_; have GE105 := n3_; clear n0_ n1_ n2_ n3_; clear hb hbox hg; have hcz11_0 : w10.cell? ⟨gb105, 0, none⟩ = some (.bool true) := (blk_cell BK105.out 0).trans rfl; have hcz11_1 : w10.cell? ⟨gb105, 1, none⟩ = some (.int .i64 a0_1) := (blk_cell BK105.out 1).trans rfl; have hcz11_2 : w10.cell? ⟨gb105, 2, none⟩ = some (.int .i64 a0_2) := (blk_cell BK105.out 2).trans rfl; have hcz11_3 : w10.cell? ⟨gb105, 3, none⟩ = some (.slice A0_3 l0_3.length c0_3) := (blk_cell BK105.out 3).trans rfl; have hcz11_4 : w10.cell? ⟨gb105, 4, none⟩ = some (.int .i64 a0_4) := (blk_cell BK105.out 4).trans rfl; have hfz11_0 := blk_frozen BK105.out 0; have hfz11_1 := blk_frozen BK105.out 1; have hfz11_2 := blk_frozen BK105.out 2; have hfz11_3 := blk_frozen BK105.out 3; have hfz11_4 := blk_frozen BK105.out 4))
            go_ret
            exact ⟨by first | rfl | (simp [errW_none, errW_some] <;> rfl) | (simp [*, errW_none, errW_some] <;> rfl), by repeat (first | (with_reducible first | exact HB.out | apply below_alloc | apply pw_below_drewN | apply below_drew1 | refine below_set ?_ GE105.out) | exact HB.out)⟩
        · rw [if_neg c6] at H
          have c6b0 : decide (a0_2 < 16777216) = false := decide_eq_false c6
          clear c6
          obtain rfl := Option.some.inj H
          go_enter Tryd.func18, Tryd.ntmps18
          go_wp2_with (first | ((with_reducible refine gate_dst (N := 2) rfl ?_); (try (refine gate_guard (by rfl) ?_; dsimp only)); refine box_event ?hg (N := 2) ?hd (cs := #[.bool true, .int .i64 a0_1, .int .i64 a0_2, .slice A0_3 l0_3.length c0_3, .int .i64 a0_4]) (t := 38) ?hr ?_; (case hd => rfl); (case hg => rfl); (case hr => first | (go_simp; done) | (go_simp; rfl)); intro gb105 hg w12 hbox hb; have n0_ := Aside0.mk (below_step (by repeat (first | (with_reducible first | exact HB.out | apply below_alloc | apply pw_below_drewN | apply below_drew1) | exact HB.out)) hb); have n1_ := Aside0.mk (hbox); have n2_ := Aside0.mk ((by rw [hg]; exact (below_size (by repeat (first | (with_reducible first | exact HB.out | apply below_alloc | apply pw_below_drewN | apply below_drew1) | exact HB.out))) : w.heap.size ≤ gb105)); have n3_ := Aside0.mk ((by rw [hg]; exact (below_size (by repeat (first | (with_reducible first | exact HB.out | apply below_alloc | apply pw_below_drewN | apply below_drew1) | exact HB.out))) : w.heap.size ≤ gb105)); clear HB; have HB := n0_; have BK105 := n1_; have GW105 := n2_; have GE105 := n3_; clear n0_ n1_ n2_ n3_; clear hb hbox hg; have hcz13_0 : w12.cell? ⟨gb105, 0, none⟩ = some (.bool true) := (blk_cell BK105.out 0).trans rfl; have hcz13_1 : w12.cell? ⟨gb105, 1, none⟩ = some (.int .i64 a0_1) := (blk_cell BK105.out 1).trans rfl; have hcz13_2 : w12.cell? ⟨gb105, 2, none⟩ = some (.int .i64 a0_2) := (blk_cell BK105.out 2).trans rfl; have hcz13_3 : w12.cell? ⟨gb105, 3, none⟩ = some (.slice A0_3 l0_3.length c0_3) := (blk_cell BK105.out 3).trans rfl; have hcz13_4 : w12.cell? ⟨gb105, 4, none⟩ = some (.int .i64 a0_4) := (blk_cell BK105.out 4).trans rfl; have hfz13_0 := blk_frozen BK105.out 0; have hfz13_1 := blk_frozen BK105.out 1; have hfz13_2 := blk_frozen BK105.out 2; have hfz13_3 := blk_frozen BK105.out 3; have hfz13_4 := blk_frozen BK105.out 4))
          go_ret
          exact ⟨by first | rfl | (simp [errW_none, errW_some] <;> rfl) | (simp [*, errW_none, errW_some] <;> rfl), by repeat (first | (with_reducible first | exact HB.out | apply below_alloc | apply pw_below_drewN | apply below_drew1 | refine below_set ?_ GE105.out) | exact HB.out)⟩
      · rw [if_neg c5] at H
        have c5b0 : decide (1 ≤ a0_2) = false := decide_eq_false c5
        clear c5
        obtain rfl := Option.some.inj H
        go_enter Tryd.func18, Tryd.ntmps18
        go_wp2_with (first | ((with_reducible refine gate_dst (N := 2) rfl ?_); (try (refine gate_guard (by rfl) ?_; dsimp only)); refine box_event ?hg (N := 2) ?hd (cs := #[.bool true, .int .i64 a0_1, .int .i64 a0_2, .slice A0_3 l0_3.length c0_3, .int .i64 a0_4]) (t := 38) ?hr ?_; (case hd => rfl); (case hg => rfl); (case hr => first | (go_simp; done) | (go_simp; rfl)); intro gb105 hg w14 hbox hb; have n0_ := Aside0.mk (below_step (by repeat (first | (with_reducible first | exact HB.out | apply below_alloc | apply pw_below_drewN | apply below_drew1) | exact HB.out)) hb); have n1_ := Aside0.mk (hbox); have n2_ := Aside0.mk ((by rw [hg]; exact (below_size (by repeat (first | (with_reducible first | exact HB.out | apply below_alloc | apply pw_below_drewN | apply below_drew1) | exact HB.out))) : w.heap.size ≤ gb105)); have n3_ := Aside0.mk ((by rw [hg]; exact (below_size (by repeat (first | (with_reducible first | exact HB.out | apply below_alloc | apply pw_below_drewN | apply below_drew1) | exact HB.out))) : w.heap.size ≤ gb105)); clear HB; have HB := n0_; have BK105 := n1_; have GW105 := n2_; have GE105 := n3_; clear n0_ n1_ n2_ n3_; clear hb hbox hg; have hcz15_0 : w14.cell? ⟨gb105, 0, none⟩ = some (.bool true) := (blk_cell BK105.out 0).trans rfl; have hcz15_1 : w14.cell? ⟨gb105, 1, none⟩ = some (.int .i64 a0_1) := (blk_cell BK105.out 1).trans rfl; have hcz15_2 : w14.cell? ⟨gb105, 2, none⟩ = some (.int .i64 a0_2) := (blk_cell BK105.out 2).trans rfl; have hcz15_3 : w14.cell? ⟨gb105, 3, none⟩ = some (.slice A0_3 l0_3.length c0_3) := (blk_cell BK105.out 3).trans rfl; have hcz15_4 : w14.cell? ⟨gb105, 4, none⟩ = some (.int .i64 a0_4) := (blk_cell BK105.out 4).trans rfl; have hfz15_0 := blk_frozen BK105.out 0; have hfz15_1 := blk_frozen BK105.out 1; have hfz15_2 := blk_frozen BK105.out 2; have hfz15_3 := blk_frozen BK105.out 3; have hfz15_4 := blk_frozen BK105.out 4))
        go_ret
        exact ⟨by first | rfl | (simp [errW_none, errW_some] <;> rfl) | (simp [*, errW_none, errW_some] <;> rfl), by repeat (first | (with_reducible first | exact HB.out | apply below_alloc | apply pw_below_drewN | apply below_drew1 | refine below_set ?_ GE105.out) | exact HB.out)⟩
    · rw [if_neg c4] at H
      have c4b0 : decide (0 ≤ a0_1) = false := decide_eq_false c4
      clear c4
      obtain rfl := Option.some.inj H
      go_enter Tryd.func18, Tryd.ntmps18
      go_wp2_with (first | ((with_reducible refine gate_dst (N := 2) rfl ?_); (try (refine gate_guard (by rfl) ?_; dsimp only)); refine box_event ?hg (N := 2) ?hd (cs := #[.bool true, .int .i64 a0_1, .int .i64 a0_2, .slice A0_3 l0_3.length c0_3, .int .i64 a0_4]) (t := 38) ?hr ?_; (case hd => rfl); (case hg => rfl); (case hr => first | (go_simp; done) | (go_simp; rfl)); intro gb105 hg w16 hbox hb; have n0_ := Aside0.mk (below_step (by repeat (first | (with_reducible first | exact HB.out | apply below_alloc | apply pw_below_drewN | apply below_drew1) | exact HB.out)) hb); have n1_ := Aside0.mk (hbox); have n2_ := Aside0.mk ((by rw [hg]; exact (below_size (by repeat (first | (with_reducible first | exact HB.out | apply below_alloc | apply pw_below_drewN | apply below_drew1) | exact HB.out))) : w.heap.size ≤ gb105)); have n3_ := Aside0.mk ((by rw [hg]; exact (below_size (by repeat (first | (with_reducible first | exact HB.out | apply below_alloc | apply pw_below_drewN | apply below_drew1) | exact HB.out))) : w.heap.size ≤ gb105)); clear HB; have HB := n0_; have BK105 := n1_; have GW105 := n2_; have GE105 := n3_; clear n0_ n1_ n2_ n3_; clear hb hbox hg; have hcz17_0 : w16.cell? ⟨gb105, 0, none⟩ = some (.bool true) := (blk_cell BK105.out 0).trans rfl; have hcz17_1 : w16.cell? ⟨gb105, 1, none⟩ = some (.int .i64 a0_1) := (blk_cell BK105.out 1).trans rfl; have hcz17_2 : w16.cell? ⟨gb105, 2, none⟩ = some (.int .i64 a0_2) := (blk_cell BK105.out 2).trans rfl; have hcz17_3 : w16.cell? ⟨gb105, 3, none⟩ = some (.slice A0_3 l0_3.length c0_3) := (blk_cell BK105.out 3).trans rfl; have hcz17_4 : w16.cell? ⟨gb105, 4, none⟩ = some (.int .i64 a0_4) := (blk_cell BK105.out 4).trans rfl; have hfz17_0 := blk_frozen BK105.out 0; have hfz17_1 := blk_frozen BK105.out 1; have hfz17_2 := blk_frozen BK105.out 2; have hfz17_3 := blk_frozen BK105.out 3; have hfz17_4 := blk_frozen BK105.out 4))
      go_ret
      exact ⟨by first | rfl | (simp [errW_none, errW_some] <;> rfl) | (simp [*, errW_none, errW_some] <;> rfl), by repeat (first | (with_reducible first | exact HB.out | apply below_alloc | apply pw_below_drewN | apply below_drew1 | refine below_set ?_ GE105.out) | exact HB.out)⟩
  · replace c3 := Bool.eq_false_iff.mpr c3
    subst c3
    have H1 : (if (l0_3.length : Int) ≥ 1 then (some (decide ((l0_3.length : Int) ≤ 127))) else (some false)) = some r := by rw [if_neg (show ¬ (false = true) by decide)] at H; exact H
    clear H
    have H := H1
    clear H1
    by_cases c18 : (l0_3.length : Int) ≥ 1
    · rw [if_pos c18] at H
      have c18b0 : decide (1 ≤ (l0_3.length : Int)) = true := decide_eq_true c18
      have c18b1 : decide (1 ≤ l0_3.length) = true := decide_eq_true (by omega)
      clear c18
      obtain rfl := Option.some.inj H
      go_enter Tryd.func18, Tryd.ntmps18
      go_wp2_with (first | ((with_reducible refine gate_dst (N := 2) rfl ?_); (try (refine gate_guard (by rfl) ?_; dsimp only)); refine box_event ?hg (N := 2) ?hd (cs := #[.bool false, .int .i64 a0_1, .int .i64 a0_2, .slice A0_3 l0_3.length c0_3, .int .i64 a0_4]) (t := 38) ?hr ?_; (case hd => rfl); (case hg => rfl); (case hr => first | (go_simp; done) | (go_simp; rfl)); intro gb105 hg w19 hbox hb; have n0_ := Aside0.mk (below_step (by repeat (first | (with_reducible first | exact HB.out | apply below_alloc | apply pw_below_drewN | apply below_drew1) | exact HB.out)) hb); have n1_ := Aside0.mk (hbox); have n2_ := Aside0.mk ((by rw [hg]; exact (below_size (by repeat (first | (with_reducible first | exact HB.out | apply below_alloc | apply pw_below_drewN | apply below_drew1) | exact HB.out))) : w.heap.size ≤ gb105)); have n3_ := Aside0.mk ((by rw [hg]; exact (below_size (by repeat (first | (with_reducible first | exact HB.out | apply below_alloc | apply pw_below_drewN | apply below_drew1) | exact HB.out))) : w.heap.size ≤ gb105)); clear HB; have HB := n0_; have BK105 := n1_; have GW105 := n2_; have GE105 := n3_; clear n0_ n1_ n2_ n3_; clear hb hbox hg; have hcz20_0 : w19.cell? ⟨gb105, 0, none⟩ = some (.bool false) := (blk_cell BK105.out 0).trans rfl; have hcz20_1 : w19.cell? ⟨gb105, 1, none⟩ = some (.int .i64 a0_1) := (blk_cell BK105.out 1).trans rfl; have hcz20_2 : w19.cell? ⟨gb105, 2, none⟩ = some (.int .i64 a0_2) := (blk_cell BK105.out 2).trans rfl; have hcz20_3 : w19.cell? ⟨gb105, 3, none⟩ = some (.slice A0_3 l0_3.length c0_3) := (blk_cell BK105.out 3).trans rfl; have hcz20_4 : w19.cell? ⟨gb105, 4, none⟩ = some (.int .i64 a0_4) := (blk_cell BK105.out 4).trans rfl; have hfz20_0 := blk_frozen BK105.out 0; have hfz20_1 := blk_frozen BK105.out 1; have hfz20_2 := blk_frozen BK105.out 2; have hfz20_3 := blk_frozen BK105.out 3; have hfz20_4 := blk_frozen BK105.out 4))
      go_ret
      exact ⟨by first | rfl | (simp [errW_none, errW_some] <;> rfl) | (simp [*, errW_none, errW_some] <;> rfl), by repeat (first | (with_reducible first | exact HB.out | apply below_alloc | apply pw_below_drewN | apply below_drew1 | refine below_set ?_ GE105.out) | exact HB.out)⟩
    · rw [if_neg c18] at H
      have c18b0 : decide (1 ≤ (l0_3.length : Int)) = false := decide_eq_false c18
      have c18b1 : decide (1 ≤ l0_3.length) = false := decide_eq_false (by omega)
      clear c18
      obtain rfl := Option.some.inj H
      go_enter Tryd.func18, Tryd.ntmps18
      go_wp2_with (first | ((with_reducible refine gate_dst (N := 2) rfl ?_); (try (refine gate_guard (by rfl) ?_; dsimp only)); refine box_event ?hg (N := 2) ?hd (cs := #[.bool false, .int .i64 a0_1, .int .i64 a0_2, .slice A0_3 l0_3.length c0_3, .int .i64 a0_4]) (t := 38) ?hr ?_; (case hd => rfl); (case hg => rfl); (case hr => first | (go_simp; done) | (go_simp; rfl)); intro gb105 hg w21 hbox hb; have n0_ := Aside0.mk (below_step (by repeat (first | (with_reducible first | exact HB.out | apply below_alloc | apply pw_below_drewN | apply below_drew1) | exact HB.out)) hb); have n1_ := Aside0.mk (hbox); have n2_ := Aside0.mk ((by rw [hg]; exact (below_size (by repeat (first | (with_reducible first | exact HB.out | apply below_alloc | apply pw_below_drewN | apply below_drew1) | exact HB.out))) : w.heap.size ≤ gb105)); have n3_ := Aside0.mk ((by rw [hg]; exact (below_size (by repeat (first | (with_reducible first | exact HB.out | apply below_alloc | apply pw_below_drewN | apply below_drew1) | exact HB.out))) : w.heap.size ≤ gb105)); clear HB; have HB := n0_; have BK105 := n1_; have GW105 := n2_; have GE105 := n3_; clear n0_ n1_ n2_ n3_; clear hb hbox hg; have hcz22_0 : w21.cell? ⟨gb105, 0, none⟩ = some (.bool false) := (blk_cell BK105.out 0).trans rfl; have hcz22_1 : w21.cell? ⟨gb105, 1, none⟩ = some (.int .i64 a0_1) := (blk_cell BK105.out 1).trans rfl; have hcz22_2 : w21.cell? ⟨gb105, 2, none⟩ = some (.int .i64 a0_2) := (blk_cell BK105.out 2).trans rfl; have hcz22_3 : w21.cell? ⟨gb105, 3, none⟩ = some (.slice A0_3 l0_3.length c0_3) := (blk_cell BK105.out 3).trans rfl; have hcz22_4 : w21.cell? ⟨gb105, 4, none⟩ = some (.int .i64 a0_4) := (blk_cell BK105.out 4).trans rfl; have hfz22_0 := blk_frozen BK105.out 0; have hfz22_1 := blk_frozen BK105.out 1; have hfz22_2 := blk_frozen BK105.out 2; have hfz22_3 := blk_frozen BK105.out 3; have hfz22_4 := blk_frozen BK105.out 4))
      go_ret
      exact ⟨by first | rfl | (simp [errW_none, errW_some] <;> rfl) | (simp [*, errW_none, errW_some] <;> rfl), by repeat (first | (with_reducible first | exact HB.out | apply below_alloc | apply pw_below_drewN | apply below_drew1 | refine below_set ?_ GE105.out) | exact HB.out)⟩

/-! ### spec_GoodSteps: function 9 -/
def spec_GoodSteps.l0 : Nat → List (S38) → List Int → List (S38) → Int → Int → Option (Bool)
  | 0, _, _, _, _, _ => none
  | k + 1, x0, x1, x7, x8, x9 => if x9 < x8 then (if 0 ≤ x9 then (if x9 < (x7.length : Int) then ((spec_GoodStep.f ((rd_T38 x7 x9).f0) ((rd_T38 x7 x9).f1) ((rd_T38 x7 x9).f2) ((rd_T38 x7 x9).f3) ((rd_T38 x7 x9).f4) x1).bind fun t108 => (if t108 = true then (spec_GoodSteps.l0 k x0 x1 x7 x8 (wrap64 (x9 + 1))) else (some false))) else (none)) else (none)) else (if (x0.length : Int) > 0 then (if (x0.length : Int) ≤ 500 then (some (decide ((x1.length : Int) ≤ 1000000))) else (some false)) else (some false))
def spec_GoodSteps.f (k : Nat) (l0 : List (S38)) (l1 : List Int) : Option (Bool) := spec_GoodSteps.l0 k l0 l1 l0 (l0.length : Int) 0
theorem spec_GoodSteps.mono_l : ∀ k, (∀ y0 y1 y2 y3 y4, LeO (spec_GoodSteps.l0 k y0 y1 y2 y3 y4) (spec_GoodSteps.l0 (k + 1) y0 y1 y2 y3 y4))
  | 0 => fun _ _ _ _ _ r h => by simp [spec_GoodSteps.l0] at h
  | k + 1 => by
    have ih0 := spec_GoodSteps.mono_l k
    · intro y0 y1 y2 y3 y4
      unfold spec_GoodSteps.l0
      repeat' first
      | (with_reducible exact ih0 _ _ _ _ _)
      | (with_reducible exact LeO.refl _)
      | (with_reducible exact LeO.none _)
      | (with_reducible refine LeO.ite ?_ ?_)
      | (with_reducible refine LeO.bind ?_ (fun _ => ?_))
      | exact ih0 _ _ _ _ _
      | exact LeO.none _
      | refine LeO.ite ?_ ?_
      | refine LeO.bind ?_ (fun _ => ?_)
theorem spec_GoodSteps.mono : ∀ a0 a1 k, LeO (spec_GoodSteps.f k a0 a1) (spec_GoodSteps.f (k + 1) a0 a1) := by
  intro a0 a1 k
  have ih0 := spec_GoodSteps.mono_l k
  unfold spec_GoodSteps.f
  repeat' first
      | (with_reducible exact ih0 _ _ _ _ _)
      | (with_reducible exact LeO.refl _)
      | (with_reducible exact LeO.none _)
      | (with_reducible refine LeO.ite ?_ ?_)
      | (with_reducible refine LeO.bind ?_ (fun _ => ?_))
      | exact ih0 _ _ _ _ _
      | exact LeO.none _
      | refine LeO.ite ?_ ?_
      | refine LeO.bind ?_ (fun _ => ?_)
set_option maxHeartbeats 8000000 in
set_option maxRecDepth 100000 in
theorem spec_GoodSteps.calls (k : Nat) (A0 : Option Addr) (c0 : Nat) (l0 : List (S38)) (A1 : Option Addr) (c1 : Nat) (l1 : List Int) (r : Bool) (w : World) (hr0 : Kd.C k38 w A0 l0.length l0) (hc0 : l0.length ≤ c0) (hr1 : Kd.C (Kd.int .u8) w A1 l1.length l1) (hc1 : l1.length ≤ c1) (h : spec_GoodSteps.f k l0 l1 = some r) :
    Calls Tryd.prog 9 #[.slice A0 l0.length c0, .slice A1 l1.length c1] w fun e w' => e = .returned (.bool r) ∧ Below w.heap.size w w' := by
  have hu38 := Tryd.underlying38
  have HR0 := Aside0.mk hr0
  have HC0 := Aside0.mk hc0
  clear hr0 hc0
  have HR1 := Aside0.mk hr1
  have HC1 := Aside0.mk hc1
  clear hr1 hc1
  have HB := Aside0.mk (Below.refl w.heap.size w)
  have H : (spec_GoodSteps.l0 k l0 l1 l0 (l0.length : Int) 0) = some r := h
  clear h
  have H' := Aside0.mk H
  clear H
  go_enter Tryd.func9, Tryd.ntmps9
  go_wp2
  go_loopg [9] k (fun kq v9 w' => ∃ (x9_1 : Int), v9 = .int .i64 x9_1 ∧ Aside0 (spec_GoodSteps.l0 kq l0 l1 l0 (l0.length : Int) x9_1 = some r) ∧ Aside0 (kq ≤ k) ∧ Aside0 (Below w.heap.size w w'))
  case atStart => exact ⟨(0), (by first | rfl | (simp; done) | (simp [*]; done)), H', ⟨Nat.le_refl _⟩, ⟨by repeat (first | (with_reducible first | exact HB.out | apply below_alloc | apply pw_below_drewN | apply below_drew1) | exact HB.out)⟩⟩
  case round =>
    clear H'
    try clear c1
    try clear p2
    obtain ⟨x9_1, rfl, HA, HK1, HB⟩ := hrel
    cases gk with
    | zero => exact absurd HA.out (by simp [spec_GoodSteps.l0])
    | succ k1 =>
      have H := HA.out
      clear HA
      simp only [spec_GoodSteps.l0] at H
      by_cases c3 : x9_1 < (l0.length : Int)
      · rw [if_pos c3] at H
        have c3b0 : decide (x9_1 < (l0.length : Int)) = true := decide_eq_true c3
        clear c3
        by_cases c4 : 0 ≤ x9_1
        · rw [if_pos c4] at H
          have c4b0 : decide (0 ≤ x9_1) = true := decide_eq_true c4
          clear c4
          by_cases c5 : x9_1 < (l0.length : Int)
          · rw [if_pos c5] at H
            have c5b0 : decide (x9_1 < (l0.length : Int)) = true := decide_eq_true c5
            clear c5
            replace H := Option.bind_eq_some_iff.mp H
            obtain ⟨t108, A60, H⟩ := H
            replace H : (if t108 = true then (spec_GoodSteps.l0 k1 l0 l1 l0 (l0.length : Int) (wrap64 (x9_1 + 1))) else (some false)) = some r := H
            have A6 := Aside0.mk A60
            clear A60
            by_cases c7 : t108 = true
            · subst c7
              have H1 : (spec_GoodSteps.l0 k1 l0 l1 l0 (l0.length : Int) (wrap64 (x9_1 + 1))) = some r := by rw [if_pos rfl] at H; exact H
              clear H
              have H := H1
              clear H1
              have H' := Aside0.mk H
              clear H
              have p106 : 0 ≤ (x9_1 : Int) := of_decide_eq_true (by first | (with_reducible assumption) | assumption)
              have q106 : x9_1 < (l0.length : Int) := of_decide_eq_true (by first | (with_reducible assumption) | assumption)
              obtain ⟨ad106, A106_3, c106_3, e106, hx106_0, hx106_1, hx106_2, hx106_3, hx106_4, hl106_3, hi106_3⟩ := at_T38 HR0.out x9_1 p106 q106
              cases e106
              replace hx106_0 := (HB.out.cell (World.block_lt_of_cell? w _ hx106_0)).trans hx106_0
              replace hx106_1 := (HB.out.cell (World.block_lt_of_cell? w _ hx106_1)).trans hx106_1
              replace hx106_2 := (HB.out.cell (World.block_lt_of_cell? w _ hx106_2)).trans hx106_2
              replace hx106_3 := (HB.out.cell (World.block_lt_of_cell? w _ hx106_3)).trans hx106_3
              replace hx106_4 := (HB.out.cell (World.block_lt_of_cell? w _ hx106_4)).trans hx106_4
              have HR106_3 := Aside0.mk hi106_3
              have HC106_3 := Aside0.mk hl106_3
              clear hi106_3 hl106_3
              replace p106 := eq_true p106
              replace q106 := eq_true q106
              go_wp2_with (first | ((with_reducible refine gate_dst (N := 6) rfl ?_); (try (refine gate_guard (by rfl) ?_; dsimp only)); refine box_event ?hg (N := 6) ?hd (cs := #[.bool false, .int .i64 0, .int .i64 0, .slice none 0 0, .int .i64 0]) (t := 38) ?hr ?_; (case hd => rfl); (case hg => rfl); (case hr => first | (go_simp; done) | (go_simp; rfl)); intro gb107 hg w8 hbox hb; have n0_ := Aside0.mk (below_step (by repeat (first | (with_reducible first | exact HB.out | apply below_alloc | apply pw_below_drewN | apply below_drew1) | exact HB.out)) hb); have n1_ := Aside0.mk (hbox); have n2_ := Aside0.mk ((by rw [hg]; exact (below_size (by repeat (first | (with_reducible first | exact HB.out | apply below_alloc | apply pw_below_drewN | apply below_drew1) | exact HB.out))) : w.heap.size ≤ gb107)); have n3_ := Aside0.mk ((by rw [hg]; exact (below_size (by repeat (first | (with_reducible first | exact HB.out | apply below_alloc | apply pw_below_drewN | apply below_drew1) | exact HB.out))) : w.heap.size ≤ gb107)); clear HB; have HB := n0_; have BK107 := n1_; have GW107 := n2_; have GE107 := n3_; clear n0_ n1_ n2_ n3_; clear hb hbox hg; have hcz9_0 : w8.cell? ⟨gb107, 0, none⟩ = some (.bool false) := (blk_cell BK107.out 0).trans rfl; have hcz9_1 : w8.cell? ⟨gb107, 1, none⟩ = some (.int .i64 0) := (blk_cell BK107.out 1).trans rfl; have hcz9_2 : w8.cell? ⟨gb107, 2, none⟩ = some (.int .i64 0) := (blk_cell BK107.out 2).trans rfl; have hcz9_3 : w8.cell? ⟨gb107, 3, none⟩ = some (.slice none 0 0) := (blk_cell BK107.out 3).trans rfl; have hcz9_4 : w8.cell? ⟨gb107, 4, none⟩ = some (.int .i64 0) := (blk_cell BK107.out 4).trans rfl; have hfz9_0 := blk_frozen BK107.out 0; have hfz9_1 := blk_frozen BK107.out 1; have hfz9_2 := blk_frozen BK107.out 2; have hfz9_3 := blk_frozen BK107.out 3; have hfz9_4 := blk_frozen BK107.out 4) | ((with_reducible refine gate_callee (f := 18) rfl ?_); refine goesL_ (some 15) rfl rfl Tryd.func18 (by kernel_rfl) rfl #[.agg #[.bool ((rd_T38 l0 x9_1).f0), .int .i64 ((rd_T38 l0 x9_1).f1), .int .i64 ((rd_T38 l0 x9_1).f2), .slice A106_3 ((rd_T38 l0 x9_1).f3).length c106_3, .int .i64 ((rd_T38 l0 x9_1).f4)], .slice A1 l1.length c1] rfl (by (try simp only [List.map_toArray, List.map_cons, List.map_nil]); first | done | rfl | (simp only [List.length_drop, List.length_take]; rfl)) ?_; (with_reducible refine (spec_GoodStep.calls ((rd_T38 l0 x9_1).f0) ((rd_T38 l0 x9_1).f1) ((rd_T38 l0 x9_1).f2) _ _ ((rd_T38 l0 x9_1).f3) ((rd_T38 l0 x9_1).f4) _ _ l1 true _ ?side1 ?side2 ?side3 ?side4 A6.out).mono ?_); (case side1 => exact Kd.C_below HR106_3.out (by repeat (first | (with_reducible first | exact HB.out | apply below_alloc | apply pw_below_drewN | apply below_drew1 | refine below_set ?_ GE107.out) | exact HB.out))); (case side2 => exact HC106_3.out); (case side3 => exact Kd.C_below HR1.out (by repeat (first | (with_reducible first | exact HB.out | apply below_alloc | apply pw_below_drewN | apply below_drew1 | refine below_set ?_ GE107.out) | exact HB.out))); (case side4 => exact HC1.out); rintro e w10 ⟨rfl, hb⟩; refine ⟨_, rfl, ?_⟩; have n0_ := Aside0.mk (blk_below (g := gb107) (o := .cells #[.bool ((rd_T38 l0 x9_1).f0), .int .i64 ((rd_T38 l0 x9_1).f1), .int .i64 ((rd_T38 l0 x9_1).f2), .slice A106_3 ((rd_T38 l0 x9_1).f3).length c106_3, .int .i64 ((rd_T38 l0 x9_1).f4)] 38 (0, 0)) (by (with_reducible repeat (first | refine blk_drewN ?_ _ | refine blk_drew ?_ | refine blk_alloc ?_ _)); refine blk_put (cs := #[.bool ((rd_T38 l0 x9_1).f0), .int .i64 ((rd_T38 l0 x9_1).f1), .int .i64 ((rd_T38 l0 x9_1).f2), .slice A106_3 ((rd_T38 l0 x9_1).f3).length c106_3, .int .i64 0]) ?_ 4 _ rfl; (with_reducible repeat (first | refine blk_drewN ?_ _ | refine blk_drew ?_ | refine blk_alloc ?_ _)); refine blk_put (cs := #[.bool ((rd_T38 l0 x9_1).f0), .int .i64 ((rd_T38 l0 x9_1).f1), .int .i64 ((rd_T38 l0 x9_1).f2), .slice none 0 0, .int .i64 0]) ?_ 3 _ rfl; (with_reducible repeat (first | refine blk_drewN ?_ _ | refine blk_drew ?_ | refine blk_alloc ?_ _)); refine blk_put (cs := #[.bool ((rd_T38 l0 x9_1).f0), .int .i64 ((rd_T38 l0 x9_1).f1), .int .i64 0, .slice none 0 0, .int .i64 0]) ?_ 2 _ rfl; (with_reducible repeat (first | refine blk_drewN ?_ _ | refine blk_drew ?_ | refine blk_alloc ?_ _)); refine blk_put (cs := #[.bool ((rd_T38 l0 x9_1).f0), .int .i64 0, .int .i64 0, .slice none 0 0, .int .i64 0]) ?_ 1 _ rfl; (with_reducible repeat (first | refine blk_drewN ?_ _ | refine blk_drew ?_ | refine blk_alloc ?_ _)); refine blk_put (cs := #[.bool false, .int .i64 0, .int .i64 0, .slice none 0 0, .int .i64 0]) ?_ 0 _ rfl; (with_reducible repeat (first | refine blk_drewN ?_ _ | refine blk_drew ?_ | refine blk_alloc ?_ _)); exact BK107.out) hb); have n1_ := Aside0.mk (below_step (by repeat (first | (with_reducible first | exact HB.out | apply below_alloc | apply pw_below_drewN | apply below_drew1 | refine below_set ?_ GE107.out) | exact HB.out)) hb); clear BK107; clear HB; have BK107 := n0_; have HB := n1_; clear n0_ n1_; (try clear hb); (try clear hb2); (try clear hk); (try clear hi)))
              go_roundg k1
              case measure => have := HK1.out; omega
              case rel => exact ⟨(wrap64 (x9_1 + 1)), (by first | rfl | (simp; done) | (simp [*]; done)), H', ⟨by have := HK1.out; omega⟩, ⟨by repeat (first | (with_reducible first | exact HB.out | apply below_alloc | apply pw_below_drewN | apply below_drew1 | refine below_set ?_ GE107.out) | exact HB.out)⟩⟩
            · replace c7 := Bool.eq_false_iff.mpr c7
              subst c7
              have H1 : (some false) = some r := by rw [if_neg (show ¬ (false = true) by decide)] at H; exact H
              clear H
              have H := H1
              clear H1
              obtain rfl := Option.some.inj H
              have p106 : 0 ≤ (x9_1 : Int) := of_decide_eq_true (by first | (with_reducible assumption) | assumption)
              have q106 : x9_1 < (l0.length : Int) := of_decide_eq_true (by first | (with_reducible assumption) | assumption)
              obtain ⟨ad106, A106_3, c106_3, e106, hx106_0, hx106_1, hx106_2, hx106_3, hx106_4, hl106_3, hi106_3⟩ := at_T38 HR0.out x9_1 p106 q106
              cases e106
              replace hx106_0 := (HB.out.cell (World.block_lt_of_cell? w _ hx106_0)).trans hx106_0
              replace hx106_1 := (HB.out.cell (World.block_lt_of_cell? w _ hx106_1)).trans hx106_1
              replace hx106_2 := (HB.out.cell (World.block_lt_of_cell? w _ hx106_2)).trans hx106_2
              replace hx106_3 := (HB.out.cell (World.block_lt_of_cell? w _ hx106_3)).trans hx106_3
              replace hx106_4 := (HB.out.cell (World.block_lt_of_cell? w _ hx106_4)).trans hx106_4
              have HR106_3 := Aside0.mk hi106_3
              have HC106_3 := Aside0.mk hl106_3
              clear hi106_3 hl106_3
              replace p106 := eq_true p106
              replace q106 := eq_true q106
              go_wp2_with (first | ((with_reducible refine gate_dst (N := 6) rfl ?_); (try (refine gate_guard (by rfl) ?_; dsimp only)); refine box_event ?hg (N := 6) ?hd (cs := #[.bool false, .int .i64 0, .int .i64 0, .slice none 0 0, .int .i64 0]) (t := 38) ?hr ?_; (case hd => rfl); (case hg => rfl); (case hr => first | (go_simp; done) | (go_simp; rfl)); intro gb107 hg w11 hbox hb; have n0_ := Aside0.mk (below_step (by repeat (first | (with_reducible first | exact HB.out | apply below_alloc | apply pw_below_drewN | apply below_drew1) | exact HB.out)) hb); have n1_ := Aside0.mk (hbox); have n2_ := Aside0.mk ((by rw [hg]; exact (below_size (by repeat (first | (with_reducible first | exact HB.out | apply below_alloc | apply pw_below_drewN | apply below_drew1) | exact HB.out))) : w.heap.size ≤ gb107)); have n3_ := Aside0.mk ((by rw [hg]; exact (below_size (by repeat (first | (with_reducible first | exact HB.out | apply below_alloc | apply pw_below_drewN | apply below_drew1) | exact HB.out))) : w.heap.size ≤ gb107)); clear HB; have HB := n0_; have BK107 := n1_; have GW107 := n2_; have GE107 := n3_; clear n0_ n1_ n2_ n3_; clear hb hbox hg; have hcz12_0 : w11.cell? ⟨gb107, 0, none⟩ = some (.bool false) := (blk_cell BK107.out 0).trans rfl; have hcz12_1 : w11.cell? ⟨gb107, 1, none⟩ = some (.int .i64 0) := (blk_cell BK107.out 1).trans rfl; have hcz12_2 : w11.cell? ⟨gb107, 2, none⟩ = some (.int .i64 0) := (blk_cell BK107.out 2).trans rfl; have hcz12_3 : w11.cell? ⟨gb107, 3, none⟩ = some (.slice none 0 0) := (blk_cell BK107.out 3).trans rfl; have hcz12_4 : w11.cell? ⟨gb107, 4, none⟩ = some (.int .i64 0) := (blk_cell BK107.out 4).trans rfl; have hfz12_0 := blk_frozen BK107.out 0; have hfz12_1 := blk_frozen BK107.out 1; have hfz12_2 := blk_frozen BK107.out 2; have hfz12_3 := blk_frozen BK107.out 3; have hfz12_4 := blk_frozen BK107.out 4) | ((with_reducible refine gate_callee (f := 18) rfl ?_); refine goesL_ (some 15) rfl rfl Tryd.func18 (by kernel_rfl) rfl #[.agg #[.bool ((rd_T38 l0 x9_1).f0), .int .i64 ((rd_T38 l0 x9_1).f1), .int .i64 ((rd_T38 l0 x9_1).f2), .slice A106_3 ((rd_T38 l0 x9_1).f3).length c106_3, .int .i64 ((rd_T38 l0 x9_1).f4)], .slice A1 l1.length c1] rfl (by (try simp only [List.map_toArray, List.map_cons, List.map_nil]); first | done | rfl | (simp only [List.length_drop, List.length_take]; rfl)) ?_; (with_reducible refine (spec_GoodStep.calls ((rd_T38 l0 x9_1).f0) ((rd_T38 l0 x9_1).f1) ((rd_T38 l0 x9_1).f2) _ _ ((rd_T38 l0 x9_1).f3) ((rd_T38 l0 x9_1).f4) _ _ l1 false _ ?side1 ?side2 ?side3 ?side4 A6.out).mono ?_); (case side1 => exact Kd.C_below HR106_3.out (by repeat (first | (with_reducible first | exact HB.out | apply below_alloc | apply pw_below_drewN | apply below_drew1 | refine below_set ?_ GE107.out) | exact HB.out))); (case side2 => exact HC106_3.out); (case side3 => exact Kd.C_below HR1.out (by repeat (first | (with_reducible first | exact HB.out | apply below_alloc | apply pw_below_drewN | apply below_drew1 | refine below_set ?_ GE107.out) | exact HB.out))); (case side4 => exact HC1.out); rintro e w13 ⟨rfl, hb⟩; refine ⟨_, rfl, ?_⟩; have n0_ := Aside0.mk (blk_below (g := gb107) (o := .cells #[.bool ((rd_T38 l0 x9_1).f0), .int .i64 ((rd_T38 l0 x9_1).f1), .int .i64 ((rd_T38 l0 x9_1).f2), .slice A106_3 ((rd_T38 l0 x9_1).f3).length c106_3, .int .i64 ((rd_T38 l0 x9_1).f4)] 38 (0, 0)) (by (with_reducible repeat (first | refine blk_drewN ?_ _ | refine blk_drew ?_ | refine blk_alloc ?_ _)); refine blk_put (cs := #[.bool ((rd_T38 l0 x9_1).f0), .int .i64 ((rd_T38 l0 x9_1).f1), .int .i64 ((rd_T38 l0 x9_1).f2), .slice A106_3 ((rd_T38 l0 x9_1).f3).length c106_3, .int .i64 0]) ?_ 4 _ rfl; (with_reducible repeat (first | refine blk_drewN ?_ _ | refine blk_drew ?_ | refine blk_alloc ?_ _)); refine blk_put (cs := #[.bool ((rd_T38 l0 x9_1).f0), .int .i64 ((rd_T38 l0 x9_1).f1), .int .i64 ((rd_T38 l0 x9_1).f2), .slice none 0 0, .int .i64 0]) ?_ 3 _ rfl; (with_reducible repeat (first | refine blk_drewN ?_ _ | refine blk_drew ?_ | refine blk_alloc ?_ _)); refine blk_put (cs := #[.bool ((rd_T38 l0 x9_1).f0), .int .i64 ((rd_T38 l0 x9_1).f1), .int .i64 0, .slice none 0 0, .int .i64 0]) ?_ 2 _ rfl; (with_reducible repeat (first | refine blk_drewN ?_ _ | refine blk_drew ?_ | refine blk_alloc ?_ _)); refine blk_put (cs := #[.bool ((rd_T38 l0 x9_1).f0), .int .i64 0, .int .i64 0, .slice none 0 0, .int .i64 0]) ?_ 1 _ rfl; (with_reducible repeat (first | refine blk_drewN ?_ _ | refine blk_drew ?_ | refine blk_alloc ?_ _)); refine blk_put (cs := #[.bool false, .int .i64 0, .int .i64 0, .slice none 0 0, .int .i64 0]) ?_ 0 _ rfl; (with_reducible repeat (first | refine blk_drewN ?_ _ | refine blk_drew ?_ | refine blk_alloc ?_ _)); exact BK107.out) hb); have n1_ := Aside0.mk (below_step (by repeat (first | (with_reducible first | exact HB.out | apply below_alloc | apply pw_below_drewN | apply below_drew1 | refine below_set ?_ GE107.out) | exact HB.out)) hb); clear BK107; clear HB; have BK107 := n0_; have HB := n1_; clear n0_ n1_; (try clear hb); (try clear hb2); (try clear hk); (try clear hi)))
              go_ret
              exact ⟨by first | rfl | (simp [errW_none, errW_some] <;> rfl) | (simp [*, errW_none, errW_some] <;> rfl), by repeat (first | (with_reducible first | exact HB.out | apply below_alloc | apply pw_below_drewN | apply below_drew1 | refine below_set ?_ GE107.out) | exact HB.out)⟩
          · rw [if_neg c5] at H
            exact absurd H (by simp)
        · rw [if_neg c4] at H
          exact absurd H (by simp)
      · rw [if_neg c3] at H
        have c3b0 : decide (x9_1 < (l0.length : Int)) = false := decide_eq_false c3
        clear c3
        by_cases c14 : (l0.length : Int) > 0
        · rw [if_pos c14] at H
          have c14b0 : decide (0 < (l0.length : Int)) = true := decide_eq_true c14
          have c14b1 : decide (0 < l0.length) = true := decide_eq_true (by omega)
          clear c14
          by_cases c15 : (l0.length : Int) ≤ 500
          · rw [if_pos c15] at H
            have c15b0 : decide ((l0.length : Int) ≤ 500) = true := decide_eq_true c15
            have c15b1 : decide (l0.length ≤ 500) = true := decide_eq_true (by omega)
            clear c15
            obtain rfl := Option.some.inj H
            go_wp2
            go_ret
            exact ⟨by first | rfl | (simp [errW_none, errW_some] <;> rfl) | (simp [*, errW_none, errW_some] <;> rfl), by repeat (first | (with_reducible first | exact HB.out | apply below_alloc | apply pw_below_drewN | apply below_drew1) | exact HB.out)⟩
          · rw [if_neg c15] at H
            have c15b0 : decide ((l0.length : Int) ≤ 500) = false := decide_eq_false c15
            have c15b1 : decide (l0.length ≤ 500) = false := decide_eq_false (by omega)
            clear c15
            obtain rfl := Option.some.inj H
            go_wp2
            go_ret
            exact ⟨by first | rfl | (simp [errW_none, errW_some] <;> rfl) | (simp [*, errW_none, errW_some] <;> rfl), by repeat (first | (with_reducible first | exact HB.out | apply below_alloc | apply pw_below_drewN | apply below_drew1) | exact HB.out)⟩
        · rw [if_neg c14] at H
          have c14b0 : decide (0 < (l0.length : Int)) = false := decide_eq_false c14
          have c14b1 : decide (0 < l0.length) = false := decide_eq_false (by omega)
          clear c14
          obtain rfl := Option.some.inj H
          go_wp2
          go_ret
          exact ⟨by first | rfl | (simp [errW_none, errW_some] <;> rfl) | (simp [*, errW_none, errW_some] <;> rfl), by repeat (first | (with_reducible first | exact HB.out | apply below_alloc | apply pw_below_drewN | apply below_drew1) | exact HB.out)⟩

/-! ### spec_Made: function 14 -/
def spec_Made.l0 : Nat → List Int → List Int → List (S38) → Int → Int → Option (List Int)
  | 0, _, _, _, _, _ => none
  | k + 1, x0, x5, x8, x9, x10 => if x10 < x9 then (if 0 ≤ x10 then (if x10 < (x8.length : Int) then (if (rd_T38 x8 x10).f0 = true then (if 0 ≤ ((rd_T38 x8 x10).f1) then (if ((rd_T38 x8 x10).f1) ≤ (wrap64 (((rd_T38 x8 x10).f1) + ((rd_T38 x8 x10).f2))) then (if (wrap64 (((rd_T38 x8 x10).f1) + ((rd_T38 x8 x10).f2))) ≤ (x0.length : Int) then (if x5.length + ((x0.take ((wrap64 (((rd_T38 x8 x10).f1) + ((rd_T38 x8 x10).f2))) : Int).toNat).drop (((rd_T38 x8 x10).f1) : Int).toNat).length < 140737488355328 then (spec_Made.l0 k x0 (x5 ++ ((x0.take ((wrap64 (((rd_T38 x8 x10).f1) + ((rd_T38 x8 x10).f2))) : Int).toNat).drop (((rd_T38 x8 x10).f1) : Int).toNat)) x8 x9 (wrap64 (x10 + 1))) else (none)) else (none)) else (none)) else (none)) else (if x5.length + ((rd_T38 x8 x10).f3).length < 140737488355328 then (spec_Made.l0 k x0 (x5 ++ ((rd_T38 x8 x10).f3)) x8 x9 (wrap64 (x10 + 1))) else (none))) else (none)) else (none)) else (some x5)
def spec_Made.f (k : Nat) (l0 : List Int) (l1 : List (S38)) : Option (List Int) := spec_Made.l0 k l0 ([] : List Int) l1 (l1.length : Int) 0
theorem spec_Made.mono_l : ∀ k, (∀ y0 y1 y2 y3 y4, LeO (spec_Made.l0 k y0 y1 y2 y3 y4) (spec_Made.l0 (k + 1) y0 y1 y2 y3 y4))
  | 0 => fun _ _ _ _ _ r h => by simp [spec_Made.l0] at h
  | k + 1 => by
    have ih0 := spec_Made.mono_l k
    · intro y0 y1 y2 y3 y4
      unfold spec_Made.l0
      repeat' first
      | (with_reducible exact ih0 _ _ _ _ _)
      | (with_reducible exact LeO.refl _)
      | (with_reducible exact LeO.none _)
      | (with_reducible refine LeO.ite ?_ ?_)
      | (with_reducible refine LeO.bind ?_ (fun _ => ?_))
      | exact ih0 _ _ _ _ _
      | exact LeO.none _
      | refine LeO.ite ?_ ?_
      | refine LeO.bind ?_ (fun _ => ?_)
theorem spec_Made.mono : ∀ a0 a1 k, LeO (spec_Made.f k a0 a1) (spec_Made.f (k + 1) a0 a1) := by
  intro a0 a1 k
  have ih0 := spec_Made.mono_l k
  unfold spec_Made.f
  repeat' first
      | (with_reducible exact ih0 _ _ _ _ _)
      | (with_reducible exact LeO.refl _)
      | (with_reducible exact LeO.none _)
      | (with_reducible refine LeO.ite ?_ ?_)
      | (with_reducible refine LeO.bind ?_ (fun _ => ?_))
      | exact ih0 _ _ _ _ _
      | exact LeO.none _
      | refine LeO.ite ?_ ?_
      | refine LeO.bind ?_ (fun _ => ?_)
set_option maxHeartbeats 8000000 in
set_option maxRecDepth 100000 in
theorem spec_Made.calls (k : Nat) (A0 : Option Addr) (c0 : Nat) (l0 : List Int) (A1 : Option Addr) (c1 : Nat) (l1 : List (S38)) (r : List Int) (w : World) (hr0 : Kd.C (Kd.int .u8) w A0 l0.length l0) (hc0 : l0.length ≤ c0) (hr1 : Kd.C k38 w A1 l1.length l1) (hc1 : l1.length ≤ c1) (h : spec_Made.f k l0 l1 = some r) :
    Calls Tryd.prog 14 #[.slice A0 l0.length c0, .slice A1 l1.length c1] w fun e w' => ∃ v0_ : Value, e = .returned (v0_) ∧ Kd.R (Kd.int .u8) 5 w' w.heap.size (fun _ => True) v0_ r ∧ Below w.heap.size w w' := by
  have hu38 := Tryd.underlying38
  have HR0 := Aside0.mk hr0
  have HC0 := Aside0.mk hc0
  clear hr0 hc0
  have HR1 := Aside0.mk hr1
  have HC1 := Aside0.mk hc1
  clear hr1 hc1
  have HB := Aside0.mk (Below.refl w.heap.size w)
  have H : (spec_Made.l0 k l0 ([] : List Int) l1 (l1.length : Int) 0) = some r := h
  clear h
  have H' := Aside0.mk H
  clear H
  go_enter Tryd.func14, Tryd.ntmps14
  go_wp2
  go_loopg [5, 10] k (fun kq v5 v10 w' => ∃ (x5_1 : List Int) (x10_1 : Int), v10 = .int .i64 x10_1 ∧ Aside0 (spec_Made.l0 kq l0 x5_1 l1 (l1.length : Int) x10_1 = some r) ∧ Aside0 (kq ≤ k) ∧ Aside0 (Kd.R (Kd.int .u8) 5 w' w.heap.size (fun _ => True) v5 x5_1) ∧ Aside0 (Below w.heap.size w w'))
  case atStart => exact ⟨(([] : List Int)), (0), (by first | rfl | (simp; done) | (simp [*]; done)), H', ⟨Nat.le_refl _⟩, ⟨by first | exact Kd.R_nil _ _ _ _ _ | exact Kd.N_nil _ _ _ _ _ | exact Kd.V_nil _ _ _ _ _ | exact Kd.Q_nil _ _ _ _ _ | exact Kd.S_nil _ _ _ _ _⟩, ⟨by repeat (first | (with_reducible first | exact HB.out | apply below_alloc | apply pw_below_drewN | apply below_drew1) | exact HB.out)⟩⟩
  case round =>
    clear H'
    try clear c1
    try clear p2
    obtain ⟨x5_1, x10_1, rfl, HA, HK1, HO_5, HB⟩ := hrel
    cases gk with
    | zero => exact absurd HA.out (by simp [spec_Made.l0])
    | succ k1 =>
      have H := HA.out
      clear HA
      simp only [spec_Made.l0] at H
      by_cases c3 : x10_1 < (l1.length : Int)
      · rw [if_pos c3] at H
        have c3b0 : decide (x10_1 < (l1.length : Int)) = true := decide_eq_true c3
        clear c3
        by_cases c4 : 0 ≤ x10_1
        · rw [if_pos c4] at H
          have c4b0 : decide (0 ≤ x10_1) = true := decide_eq_true c4
          clear c4
          by_cases c5 : x10_1 < (l1.length : Int)
          · rw [if_pos c5] at H
            have c5b0 : decide (x10_1 < (l1.length : Int)) = true := decide_eq_true c5
            clear c5
            obtain ⟨bq6, hbq6⟩ : ∃ b_ : Bool, b_ = ((rd_T38 l1 x10_1).f0) := ⟨_, rfl⟩
            replace H : (if bq6 = true then (if 0 ≤ ((rd_T38 l1 x10_1).f1) then (if ((rd_T38 l1 x10_1).f1) ≤ (wrap64 (((rd_T38 l1 x10_1).f1) + ((rd_T38 l1 x10_1).f2))) then (if (wrap64 (((rd_T38 l1 x10_1).f1) + ((rd_T38 l1 x10_1).f2))) ≤ (l0.length : Int) then (if x5_1.length + ((l0.take ((wrap64 (((rd_T38 l1 x10_1).f1) + ((rd_T38 l1 x10_1).f2))) : Int).toNat).drop (((rd_T38 l1 x10_1).f1) : Int).toNat).length < 140737488355328 then (spec_Made.l0 k1 l0 (x5_1 ++ ((l0.take ((wrap64 (((rd_T38 l1 x10_1).f1) + ((rd_T38 l1 x10_1).f2))) : Int).toNat).drop (((rd_T38 l1 x10_1).f1) : Int).toNat)) l1 (l1.length : Int) (wrap64 (x10_1 + 1))) else (none)) else (none)) else (none)) else (none)) else (if x5_1.length + ((rd_T38 l1 x10_1).f3).length < 140737488355328 then (spec_Made.l0 k1 l0 (x5_1 ++ ((rd_T38 l1 x10_1).f3)) l1 (l1.length : Int) (wrap64 (x10_1 + 1))) else (none))) = some r := by rw [← hbq6] at H; exact H
            have Nbq6 := Aside0.mk hbq6
            clear hbq6
            by_cases c7 : bq6 = true
            · subst c7
              have H1 : (if 0 ≤ ((rd_T38 l1 x10_1).f1) then (if ((rd_T38 l1 x10_1).f1) ≤ (wrap64 (((rd_T38 l1 x10_1).f1) + ((rd_T38 l1 x10_1).f2))) then (if (wrap64 (((rd_T38 l1 x10_1).f1) + ((rd_T38 l1 x10_1).f2))) ≤ (l0.length : Int) then (if x5_1.length + ((l0.take ((wrap64 (((rd_T38 l1 x10_1).f1) + ((rd_T38 l1 x10_1).f2))) : Int).toNat).drop (((rd_T38 l1 x10_1).f1) : Int).toNat).length < 140737488355328 then (spec_Made.l0 k1 l0 (x5_1 ++ ((l0.take ((wrap64 (((rd_T38 l1 x10_1).f1) + ((rd_T38 l1 x10_1).f2))) : Int).toNat).drop (((rd_T38 l1 x10_1).f1) : Int).toNat)) l1 (l1.length : Int) (wrap64 (x10_1 + 1))) else (none)) else (none)) else (none)) else (none)) = some r := by rw [if_pos rfl] at H; exact H
              clear H
              have H := H1
              clear H1
              by_cases c8 : 0 ≤ ((rd_T38 l1 x10_1).f1)
              · rw [if_pos c8] at H
                have c8b0 := eq_true c8
                have c8b1 : decide (0 ≤ ((rd_T38 l1 x10_1).f1)) = true := decide_eq_true c8
                clear c8
                by_cases c9 : ((rd_T38 l1 x10_1).f1) ≤ (wrap64 (((rd_T38 l1 x10_1).f1) + ((rd_T38 l1 x10_1).f2)))
                · rw [if_pos c9] at H
                  have c9b0 := eq_true c9
                  have c9b1 : decide (((rd_T38 l1 x10_1).f1) ≤ (wrap64 (((rd_T38 l1 x10_1).f1) + ((rd_T38 l1 x10_1).f2)))) = true := decide_eq_true c9
                  by_cases c10 : (wrap64 (((rd_T38 l1 x10_1).f1) + ((rd_T38 l1 x10_1).f2))) ≤ (l0.length : Int)
                  · rw [if_pos c10] at H
                    have c10b0 := eq_true c10
                    have c10b1 : decide ((wrap64 (((rd_T38 l1 x10_1).f1) + ((rd_T38 l1 x10_1).f2))) ≤ (l0.length : Int)) = true := decide_eq_true c10
                    by_cases c11 : x5_1.length + ((l0.take ((wrap64 (((rd_T38 l1 x10_1).f1) + ((rd_T38 l1 x10_1).f2))) : Int).toNat).drop (((rd_T38 l1 x10_1).f1) : Int).toNat).length < 140737488355328
                    · rw [if_pos c11] at H
                      have LMc11 := Aside0.mk c11
                      clear c11
                      obtain ⟨y112, hy112⟩ : ∃ y_ : List Int, y_ = (x5_1 ++ ((l0.take ((wrap64 (((rd_T38 l1 x10_1).f1) + ((rd_T38 l1 x10_1).f2))) : Int).toNat).drop (((rd_T38 l1 x10_1).f1) : Int).toNat)) := ⟨_, rfl⟩
                      replace H : (spec_Made.l0 k1 l0 y112 l1 (l1.length : Int) (wrap64 (x10_1 + 1))) = some r := by first | (rw [hy112]; with_reducible exact H) | (have H2_ := (Option.bind_some _ _).symm.trans H; rw [hy112]; with_reducible exact H2_) | (have H2_ := (Option.bind_some _ _).symm.trans H; with_reducible exact H2_) | with_reducible exact H | (rw [hy112]; exact H) | exact H
                      have Ny112 := Aside0.mk hy112
                      clear hy112
                      have H' := Aside0.mk H
                      clear H
                      have p109 : 0 ≤ (x10_1 : Int) := of_decide_eq_true (by first | (with_reducible assumption) | assumption)
                      have q109 : x10_1 < (l1.length : Int) := of_decide_eq_true (by first | (with_reducible assumption) | assumption)
                      obtain ⟨ad109, A109_3, c109_3, e109, hx109_0, hx109_1, hx109_2, hx109_3, hx109_4, hl109_3, hi109_3⟩ := at_T38 HR1.out x10_1 p109 q109
                      (try rw [← Nbq6.out] at hx109_0)
                      cases e109
                      replace hx109_0 := (HB.out.cell (World.block_lt_of_cell? w _ hx109_0)).trans hx109_0
                      replace hx109_1 := (HB.out.cell (World.block_lt_of_cell? w _ hx109_1)).trans hx109_1
                      replace hx109_2 := (HB.out.cell (World.block_lt_of_cell? w _ hx109_2)).trans hx109_2
                      replace hx109_3 := (HB.out.cell (World.block_lt_of_cell? w _ hx109_3)).trans hx109_3
                      replace hx109_4 := (HB.out.cell (World.block_lt_of_cell? w _ hx109_4)).trans hx109_4
                      have HR109_3 := Aside0.mk hi109_3
                      have HC109_3 := Aside0.mk hl109_3
                      clear hi109_3 hl109_3
                      replace p109 := eq_true p109
                      replace q109 := eq_true q109
                      go_wp2_with (first | ((with_reducible refine gate_dst (N := 7) rfl ?_); refine box_event ?hg (N := 7) ?hd (cs := #[.bool false, .int .i64 0, .int .i64 0, .slice none 0 0, .int .i64 0]) (t := 38) ?hr ?_; (case hd => rfl); (case hg => rfl); (case hr => first | (go_simp; done) | (go_simp; rfl)); intro gb110 hg w12 hbox hb; have n0_ := Aside0.mk (Kd.R_below (by (with_reducible repeat (first | apply Kd.R_alloc | apply Kd.R_drewN | apply Kd.R_drew)); exact HO_5.out) hb); have n1_ := Aside0.mk (below_step (by repeat (first | (with_reducible first | exact HB.out | apply below_alloc | apply pw_below_drewN | apply below_drew1) | exact HB.out)) hb); have n2_ := Aside0.mk (hbox); have n3_ := Aside0.mk ((by rw [hg]; exact (below_size (by repeat (first | (with_reducible first | exact HB.out | apply below_alloc | apply pw_below_drewN | apply below_drew1) | exact HB.out))) : w.heap.size ≤ gb110)); have n4_ := Aside0.mk ((by rw [hg]; exact (below_size (by repeat (first | (with_reducible first | exact HB.out | apply below_alloc | apply pw_below_drewN | apply below_drew1) | exact HB.out))) : w.heap.size ≤ gb110)); clear HO_5; clear HB; have HO_5 := n0_; have HB := n1_; have BK110 := n2_; have GW110 := n3_; have GE110 := n4_; clear n0_ n1_ n2_ n3_ n4_; clear hb hbox hg; have hcz13_0 : w12.cell? ⟨gb110, 0, none⟩ = some (.bool false) := (blk_cell BK110.out 0).trans rfl; have hcz13_1 : w12.cell? ⟨gb110, 1, none⟩ = some (.int .i64 0) := (blk_cell BK110.out 1).trans rfl; have hcz13_2 : w12.cell? ⟨gb110, 2, none⟩ = some (.int .i64 0) := (blk_cell BK110.out 2).trans rfl; have hcz13_3 : w12.cell? ⟨gb110, 3, none⟩ = some (.slice none 0 0) := (blk_cell BK110.out 3).trans rfl; have hcz13_4 : w12.cell? ⟨gb110, 4, none⟩ = some (.int .i64 0) := (blk_cell BK110.out 4).trans rfl; have hfz13_0 := blk_frozen BK110.out 0; have hfz13_1 := blk_frozen BK110.out 1; have hfz13_2 := blk_frozen BK110.out 2; have hfz13_3 := blk_frozen BK110.out 3; have hfz13_4 := blk_frozen BK110.out 4; obtain ⟨i014, hi014, _, hsz14, _⟩ := info_parts info5; obtain ⟨A14, hcut14, hA14, hC14⟩ := print_mid_of (P := Tryd.prog) (Value.int .u8) 0 22 5 .i64 .i64 Tryd.underlying22 hi014 hsz14 A0 c0 l0 ((rd_T38 l1 x10_1).f1) (wrap64 (((rd_T38 l1 x10_1).f1) + ((rd_T38 l1 x10_1).f2))) (of_decide_eq_true (by first | (with_reducible assumption) | assumption)) (by first | omega | exact of_decide_eq_true (by first | (with_reducible assumption) | assumption)) (of_decide_eq_true (by first | (with_reducible assumption) | assumption)) HC0.out; have HR111 := Aside0.mk (Kd.C_of_reads (h1 := fun _ => rfl) (hA14 _ (Kd.reads_of_C HR0.out))); have HC111 := Aside0.mk hC14; clear hA14 hC14 hi014 hsz14) | ((with_reducible refine gate_builtin (b := .append) (xs := #[.tmp 16, .tmp 25]) rfl ?_); at_builtin; refine Kd.R_append_rows (Kd.int .u8) (w0 := w) w.heap.size rfl (.tmp 16) (.tmp 25) 22 5 (.int .u8 0) 1 rfl Tryd.underlying22 info5 rfl (by decide) (by omega) u5 x5_1 ((l0.take ((wrap64 (((rd_T38 l1 x10_1).f1) + ((rd_T38 l1 x10_1).f2))) : Int).toNat).drop (((rd_T38 l1 x10_1).f1) : Int).toNat) _ _ _ (fun _ => True) (fun _ => False) rfl rfl ?aO ?aR (fun _ _ h => h) (fun _ h => h.elim) ?aF ?aB ?aS ?aL ?_; (case aR => first | (rw [← show ((l0.take ((wrap64 (((rd_T38 l1 x10_1).f1) + ((rd_T38 l1 x10_1).f2))) : Int).toNat).drop (((rd_T38 l1 x10_1).f1) : Int).toNat).length = ((wrap64 (((rd_T38 l1 x10_1).f1) + ((rd_T38 l1 x10_1).f2))).toNat - ((rd_T38 l1 x10_1).f1).toNat) from (by rw [List.length_drop, List.length_take]; have h_ : ((wrap64 (((rd_T38 l1 x10_1).f1) + ((rd_T38 l1 x10_1).f2))) : Int) ≤ (l0.length : Int) := of_decide_eq_true (by first | (with_reducible assumption) | assumption); omega)]; exact Kd.C_below HR111.out (by repeat (first | (with_reducible first | exact HB.out | apply below_alloc | apply pw_below_drewN | apply below_drew1 | refine below_set ?_ GE110.out) | exact HB.out))) | (exact Kd.C_below HR111.out (by repeat (first | (with_reducible first | exact HB.out | apply below_alloc | apply pw_below_drewN | apply below_drew1 | refine below_set ?_ GE110.out) | exact HB.out)))); (case aB => exact (by repeat (first | (with_reducible first | exact HB.out | apply below_alloc | apply pw_below_drewN | apply below_drew1 | refine below_set ?_ GE110.out) | exact HB.out))); (case aF => exact (fun _ _ => trivial)); (case aO => exact (by (with_reducible repeat (first | apply Kd.R_alloc | apply Kd.R_drewN | apply Kd.R_drew)); exact Kd.R_mono (Kd.R_far (p := ⟨gb110, 4, none⟩) (Kd.R_far (p := ⟨gb110, 3, none⟩) (Kd.R_far (p := ⟨gb110, 2, none⟩) (Kd.R_far (p := ⟨gb110, 1, none⟩) (Kd.R_far (p := ⟨gb110, 0, none⟩) (Kd.R_types HO_5.out BK110.out (by decide)) (fun _ hk => hk.2) (.bool true)) (fun _ hk => hk.2) (.int .i64 ((rd_T38 l1 x10_1).f1))) (fun _ hk => hk.2) (.int .i64 ((rd_T38 l1 x10_1).f2))) (fun _ hk => hk.2) (.slice A109_3 ((rd_T38 l1 x10_1).f3).length c109_3)) (fun _ hk => hk.2) (.int .i64 ((rd_T38 l1 x10_1).f4))) (fun _ hk => trivial))); (case aS => exact (below_size (by repeat (first | (with_reducible first | exact HB.out | apply below_alloc | apply pw_below_drewN | apply below_drew1 | refine below_set ?_ GE110.out) | exact HB.out)))); (case aL => have := LMc11.out; have hlx_ := (show ((l0.take ((wrap64 (((rd_T38 l1 x10_1).f1) + ((rd_T38 l1 x10_1).f2))) : Int).toNat).drop (((rd_T38 l1 x10_1).f1) : Int).toNat).length = ((wrap64 (((rd_T38 l1 x10_1).f1) + ((rd_T38 l1 x10_1).f2))).toNat - ((rd_T38 l1 x10_1).f1).toNat) from (by rw [List.length_drop, List.length_take]; have h_ : ((wrap64 (((rd_T38 l1 x10_1).f1) + ((rd_T38 l1 x10_1).f2))) : Int) ≤ (l0.length : Int) := of_decide_eq_true (by first | (with_reducible assumption) | assumption); omega)); omega); intro v113 w15 ho hb hg hat; rw [← Ny112.out] at ho; have n0_ := Aside0.mk (blk_grown (g := gb110) (o := .cells #[.bool true, .int .i64 ((rd_T38 l1 x10_1).f1), .int .i64 ((rd_T38 l1 x10_1).f2), .slice A109_3 ((rd_T38 l1 x10_1).f3).length c109_3, .int .i64 ((rd_T38 l1 x10_1).f4)] 38 (0, 0)) (by (with_reducible repeat (first | refine blk_drewN ?_ _ | refine blk_drew ?_ | refine blk_alloc ?_ _)); refine blk_put (cs := #[.bool true, .int .i64 ((rd_T38 l1 x10_1).f1), .int .i64 ((rd_T38 l1 x10_1).f2), .slice A109_3 ((rd_T38 l1 x10_1).f3).length c109_3, .int .i64 0]) ?_ 4 _ rfl; (with_reducible repeat (first | refine blk_drewN ?_ _ | refine blk_drew ?_ | refine blk_alloc ?_ _)); refine blk_put (cs := #[.bool true, .int .i64 ((rd_T38 l1 x10_1).f1), .int .i64 ((rd_T38 l1 x10_1).f2), .slice none 0 0, .int .i64 0]) ?_ 3 _ rfl; (with_reducible repeat (first | refine blk_drewN ?_ _ | refine blk_drew ?_ | refine blk_alloc ?_ _)); refine blk_put (cs := #[.bool true, .int .i64 ((rd_T38 l1 x10_1).f1), .int .i64 0, .slice none 0 0, .int .i64 0]) ?_ 2 _ rfl; (with_reducible repeat (first | refine blk_drewN ?_ _ | refine blk_drew ?_ | refine blk_alloc ?_ _)); refine blk_put (cs := #[.bool true, .int .i64 0, .int .i64 0, .slice none 0 0, .int .i64 0]) ?_ 1 _ rfl; (with_reducible repeat (first | refine blk_drewN ?_ _ | refine blk_drew ?_ | refine blk_alloc ?_ _)); refine blk_put (cs := #[.bool false, .int .i64 0, .int .i64 0, .slice none 0 0, .int .i64 0]) ?_ 0 _ rfl; (with_reducible repeat (first | refine blk_drewN ?_ _ | refine blk_drew ?_ | refine blk_alloc ?_ _)); exact BK110.out) hg (Kd.R_ne HO_5.out BK110.out (by decide))); have n1_ := Aside0.mk (hb); have n2_ := Aside0.mk (ho); clear BK110; clear HB; clear HO_5; have BK110 := n0_; have HB := n1_; have HO114 := n2_; clear n0_ n1_ n2_; clear ho hb hg hat))
                      go_roundg k1
                      case measure => have := HK1.out; omega
                      case rel => exact ⟨(y112), (wrap64 (x10_1 + 1)), (by first | rfl | (simp; done) | (simp [*]; done)), H', ⟨by have := HK1.out; omega⟩, ⟨by (with_reducible repeat (first | apply Kd.R_alloc | apply Kd.R_drewN | apply Kd.R_drew)); exact HO114.out⟩, ⟨by repeat (first | (with_reducible first | exact HB.out | apply below_alloc | apply pw_below_drewN | apply below_drew1 | refine below_set ?_ GE110.out) | exact HB.out)⟩⟩
                    · rw [if_neg c11] at H
                      exact absurd H (by simp)
                  · rw [if_neg c10] at H
                    exact absurd H (by simp)
                · rw [if_neg c9] at H
                  exact absurd H (by simp)
              · rw [if_neg c8] at H
                exact absurd H (by simp)
            · replace c7 := Bool.eq_false_iff.mpr c7
              subst c7
              have H1 : (if x5_1.length + ((rd_T38 l1 x10_1).f3).length < 140737488355328 then (spec_Made.l0 k1 l0 (x5_1 ++ ((rd_T38 l1 x10_1).f3)) l1 (l1.length : Int) (wrap64 (x10_1 + 1))) else (none)) = some r := by rw [if_neg (show ¬ (false = true) by decide)] at H; exact H
              clear H
              have H := H1
              clear H1
              by_cases c16 : x5_1.length + ((rd_T38 l1 x10_1).f3).length < 140737488355328
              · rw [if_pos c16] at H
                have LMc16 := Aside0.mk c16
                clear c16
                obtain ⟨y115, hy115⟩ : ∃ y_ : List Int, y_ = (x5_1 ++ ((rd_T38 l1 x10_1).f3)) := ⟨_, rfl⟩
                replace H : (spec_Made.l0 k1 l0 y115 l1 (l1.length : Int) (wrap64 (x10_1 + 1))) = some r := by first | (rw [hy115]; with_reducible exact H) | (have H2_ := (Option.bind_some _ _).symm.trans H; rw [hy115]; with_reducible exact H2_) | (have H2_ := (Option.bind_some _ _).symm.trans H; with_reducible exact H2_) | with_reducible exact H | (rw [hy115]; exact H) | exact H
                have Ny115 := Aside0.mk hy115
                clear hy115
                have H' := Aside0.mk H
                clear H
                have p109 : 0 ≤ (x10_1 : Int) := of_decide_eq_true (by first | (with_reducible assumption) | assumption)
                have q109 : x10_1 < (l1.length : Int) := of_decide_eq_true (by first | (with_reducible assumption) | assumption)
                obtain ⟨ad109, A109_3, c109_3, e109, hx109_0, hx109_1, hx109_2, hx109_3, hx109_4, hl109_3, hi109_3⟩ := at_T38 HR1.out x10_1 p109 q109
                (try rw [← Nbq6.out] at hx109_0)
                cases e109
                replace hx109_0 := (HB.out.cell (World.block_lt_of_cell? w _ hx109_0)).trans hx109_0
                replace hx109_1 := (HB.out.cell (World.block_lt_of_cell? w _ hx109_1)).trans hx109_1
                replace hx109_2 := (HB.out.cell (World.block_lt_of_cell? w _ hx109_2)).trans hx109_2
                replace hx109_3 := (HB.out.cell (World.block_lt_of_cell? w _ hx109_3)).trans hx109_3
                replace hx109_4 := (HB.out.cell (World.block_lt_of_cell? w _ hx109_4)).trans hx109_4
                have HR109_3 := Aside0.mk hi109_3
                have HC109_3 := Aside0.mk hl109_3
                clear hi109_3 hl109_3
                replace p109 := eq_true p109
                replace q109 := eq_true q109
                go_wp2_with (first | ((with_reducible refine gate_dst (N := 7) rfl ?_); refine box_event ?hg (N := 7) ?hd (cs := #[.bool false, .int .i64 0, .int .i64 0, .slice none 0 0, .int .i64 0]) (t := 38) ?hr ?_; (case hd => rfl); (case hg => rfl); (case hr => first | (go_simp; done) | (go_simp; rfl)); intro gb110 hg w17 hbox hb; have n0_ := Aside0.mk (Kd.R_below (by (with_reducible repeat (first | apply Kd.R_alloc | apply Kd.R_drewN | apply Kd.R_drew)); exact HO_5.out) hb); have n1_ := Aside0.mk (below_step (by repeat (first | (with_reducible first | exact HB.out | apply below_alloc | apply pw_below_drewN | apply below_drew1) | exact HB.out)) hb); have n2_ := Aside0.mk (hbox); have n3_ := Aside0.mk ((by rw [hg]; exact (below_size (by repeat (first | (with_reducible first | exact HB.out | apply below_alloc | apply pw_below_drewN | apply below_drew1) | exact HB.out))) : w.heap.size ≤ gb110)); have n4_ := Aside0.mk ((by rw [hg]; exact (below_size (by repeat (first | (with_reducible first | exact HB.out | apply below_alloc | apply pw_below_drewN | apply below_drew1) | exact HB.out))) : w.heap.size ≤ gb110)); clear HO_5; clear HB; have HO_5 := n0_; have HB := n1_; have BK110 := n2_; have GW110 := n3_; have GE110 := n4_; clear n0_ n1_ n2_ n3_ n4_; clear hb hbox hg; have hcz18_0 : w17.cell? ⟨gb110, 0, none⟩ = some (.bool false) := (blk_cell BK110.out 0).trans rfl; have hcz18_1 : w17.cell? ⟨gb110, 1, none⟩ = some (.int .i64 0) := (blk_cell BK110.out 1).trans rfl; have hcz18_2 : w17.cell? ⟨gb110, 2, none⟩ = some (.int .i64 0) := (blk_cell BK110.out 2).trans rfl; have hcz18_3 : w17.cell? ⟨gb110, 3, none⟩ = some (.slice none 0 0) := (blk_cell BK110.out 3).trans rfl; have hcz18_4 : w17.cell? ⟨gb110, 4, none⟩ = some (.int .i64 0) := (blk_cell BK110.out 4).trans rfl; have hfz18_0 := blk_frozen BK110.out 0; have hfz18_1 := blk_frozen BK110.out 1; have hfz18_2 := blk_frozen BK110.out 2; have hfz18_3 := blk_frozen BK110.out 3; have hfz18_4 := blk_frozen BK110.out 4) | ((with_reducible refine gate_builtin (b := .append) (xs := #[.tmp 27, .tmp 29]) rfl ?_); at_builtin; refine Kd.R_append_rows (Kd.int .u8) (w0 := w) w.heap.size rfl (.tmp 27) (.tmp 29) 22 5 (.int .u8 0) 1 rfl Tryd.underlying22 info5 rfl (by decide) (by omega) u5 x5_1 ((rd_T38 l1 x10_1).f3) _ _ _ (fun _ => True) (fun _ => False) rfl rfl ?aO ?aR (fun _ _ h => h) (fun _ h => h.elim) ?aF ?aB ?aS ?aL ?_; (case aR => exact Kd.C_below HR109_3.out (by repeat (first | (with_reducible first | exact HB.out | apply below_alloc | apply pw_below_drewN | apply below_drew1 | refine below_set ?_ GE110.out) | exact HB.out))); (case aB => exact (by repeat (first | (with_reducible first | exact HB.out | apply below_alloc | apply pw_below_drewN | apply below_drew1 | refine below_set ?_ GE110.out) | exact HB.out))); (case aF => exact (fun _ _ => trivial)); (case aO => exact (by (with_reducible repeat (first | apply Kd.R_alloc | apply Kd.R_drewN | apply Kd.R_drew)); exact Kd.R_mono (Kd.R_far (p := ⟨gb110, 4, none⟩) (Kd.R_far (p := ⟨gb110, 3, none⟩) (Kd.R_far (p := ⟨gb110, 2, none⟩) (Kd.R_far (p := ⟨gb110, 1, none⟩) (Kd.R_far (p := ⟨gb110, 0, none⟩) (Kd.R_types HO_5.out BK110.out (by decide)) (fun _ hk => hk.2) (.bool false)) (fun _ hk => hk.2) (.int .i64 ((rd_T38 l1 x10_1).f1))) (fun _ hk => hk.2) (.int .i64 ((rd_T38 l1 x10_1).f2))) (fun _ hk => hk.2) (.slice A109_3 ((rd_T38 l1 x10_1).f3).length c109_3)) (fun _ hk => hk.2) (.int .i64 ((rd_T38 l1 x10_1).f4))) (fun _ hk => trivial))); (case aS => exact (below_size (by repeat (first | (with_reducible first | exact HB.out | apply below_alloc | apply pw_below_drewN | apply below_drew1 | refine below_set ?_ GE110.out) | exact HB.out)))); (case aL => have := LMc16.out; omega); intro v116 w19 ho hb hg hat; rw [← Ny115.out] at ho; have n0_ := Aside0.mk (blk_grown (g := gb110) (o := .cells #[.bool false, .int .i64 ((rd_T38 l1 x10_1).f1), .int .i64 ((rd_T38 l1 x10_1).f2), .slice A109_3 ((rd_T38 l1 x10_1).f3).length c109_3, .int .i64 ((rd_T38 l1 x10_1).f4)] 38 (0, 0)) (by (with_reducible repeat (first | refine blk_drewN ?_ _ | refine blk_drew ?_ | refine blk_alloc ?_ _)); refine blk_put (cs := #[.bool false, .int .i64 ((rd_T38 l1 x10_1).f1), .int .i64 ((rd_T38 l1 x10_1).f2), .slice A109_3 ((rd_T38 l1 x10_1).f3).length c109_3, .int .i64 0]) ?_ 4 _ rfl; (with_reducible repeat (first | refine blk_drewN ?_ _ | refine blk_drew ?_ | refine blk_alloc ?_ _)); refine blk_put (cs := #[.bool false, .int .i64 ((rd_T38 l1 x10_1).f1), .int .i64 ((rd_T38 l1 x10_1).f2), .slice none 0 0, .int .i64 0]) ?_ 3 _ rfl; (with_reducible repeat (first | refine blk_drewN ?_ _ | refine blk_drew ?_ | refine blk_alloc ?_ _)); refine blk_put (cs := #[.bool false, .int .i64 ((rd_T38 l1 x10_1).f1), .int .i64 0, .slice none 0 0, .int .i64 0]) ?_ 2 _ rfl; (with_reducible repeat (first | refine blk_drewN ?_ _ | refine blk_drew ?_ | refine blk_alloc ?_ _)); refine blk_put (cs := #[.bool false, .int .i64 0, .int .i64 0, .slice none 0 0, .int .i64 0]) ?_ 1 _ rfl; (with_reducible repeat (first | refine blk_drewN ?_ _ | refine blk_drew ?_ | refine blk_alloc ?_ _)); refine blk_put (cs := #[.bool false, .int .i64 0, .int .i64 0, .slice none 0 0, .int .i64 0]) ?_ 0 _ rfl; (with_reducible repeat (first | refine blk_drewN ?_ _ | refine blk_drew ?_ | refine blk_alloc ?_ _)); exact BK110.out) hg (Kd.R_ne HO_5.out BK110.out (by decide))); have n1_ := Aside0.mk (hb); have n2_ := Aside0.mk (ho); clear BK110; clear HB; clear HO_5; have BK110 := n0_; have HB := n1_; have HO117 := n2_; clear n0_ n1_ n2_; clear ho hb hg hat))
                go_roundg k1
                case measure => have := HK1.out; omega
                case rel => exact ⟨(y115), (wrap64 (x10_1 + 1)), (by first | rfl | (simp; done) | (simp [*]; done)), H', ⟨by have := HK1.out; omega⟩, ⟨by (with_reducible repeat (first | apply Kd.R_alloc | apply Kd.R_drewN | apply Kd.R_drew)); exact HO117.out⟩, ⟨by repeat (first | (with_reducible first | exact HB.out | apply below_alloc | apply pw_below_drewN | apply below_drew1 | refine below_set ?_ GE110.out) | exact HB.out)⟩⟩
              · rw [if_neg c16] at H
                exact absurd H (by simp)
          · rw [if_neg c5] at H
            exact absurd H (by simp)
        · rw [if_neg c4] at H
          exact absurd H (by simp)
      · rw [if_neg c3] at H
        have c3b0 : decide (x10_1 < (l1.length : Int)) = false := decide_eq_false c3
        clear c3
        obtain rfl := Option.some.inj H
        go_wp2
        go_ret
        exact ⟨_, by first | rfl | (simp [errW_none, errW_some] <;> rfl) | (simp [*, errW_none, errW_some] <;> rfl), by (with_reducible repeat (first | apply Kd.R_alloc | apply Kd.R_drewN | apply Kd.R_drew)); exact HO_5.out, by repeat (first | (with_reducible first | exact HB.out | apply below_alloc | apply pw_below_drewN | apply below_drew1) | exact HB.out)⟩

/-! ### spec_Size7: function 20 -/
def spec_Size7.l0 : Nat → Int → List Int → Option (List Int)
  | 0, _, _ => none
  | k + 1, x0, x3 => if x0 ≥ 128 then (if x3.length < 140737488355328 then (spec_Size7.l0 k (wrap64 (Int.tdiv x0 128)) (x3 ++ [(wrap64 ((Int.tmod x0 128) + 128)) % 256])) else (none)) else (if x3.length < 140737488355328 then (some (x3 ++ [(x0) % 256])) else (none))
def spec_Size7.f (k : Nat) (a0 : Int) : Option (List Int) := spec_Size7.l0 k a0 ([] : List Int)
theorem spec_Size7.mono_l : ∀ k, (∀ y0 y1, LeO (spec_Size7.l0 k y0 y1) (spec_Size7.l0 (k + 1) y0 y1))
  | 0 => fun _ _ r h => by simp [spec_Size7.l0] at h
  | k + 1 => by
    have ih0 := spec_Size7.mono_l k
    · intro y0 y1
      unfold spec_Size7.l0
      repeat' first
      | (with_reducible exact ih0 _ _)
      | (with_reducible exact LeO.refl _)
      | (with_reducible exact LeO.none _)
      | (with_reducible refine LeO.ite ?_ ?_)
      | (with_reducible refine LeO.bind ?_ (fun _ => ?_))
      | exact ih0 _ _
      | exact LeO.none _
      | refine LeO.ite ?_ ?_
      | refine LeO.bind ?_ (fun _ => ?_)
theorem spec_Size7.mono : ∀ a0 k, LeO (spec_Size7.f k a0) (spec_Size7.f (k + 1) a0) := by
  intro a0 k
  have ih0 := spec_Size7.mono_l k
  unfold spec_Size7.f
  repeat' first
      | (with_reducible exact ih0 _ _)
      | (with_reducible exact LeO.refl _)
      | (with_reducible exact LeO.none _)
      | (with_reducible refine LeO.ite ?_ ?_)
      | (with_reducible refine LeO.bind ?_ (fun _ => ?_))
      | exact ih0 _ _
      | exact LeO.none _
      | refine LeO.ite ?_ ?_
      | refine LeO.bind ?_ (fun _ => ?_)
set_option maxHeartbeats 8000000 in
set_option maxRecDepth 100000 in
theorem spec_Size7.calls (k : Nat) (a0 : Int) (r : List Int) (w : World) (h : spec_Size7.f k a0 = some r) :
    Calls Tryd.prog 20 #[.int .i64 a0] w fun e w' => ∃ v0_ : Value, e = .returned (v0_) ∧ Kd.R (Kd.int .u8) 5 w' w.heap.size (fun _ => True) v0_ r ∧ Below w.heap.size w w' := by
  have HB := Aside0.mk (Below.refl w.heap.size w)
  have H : (spec_Size7.l0 k a0 ([] : List Int)) = some r := h
  clear h
  have H' := Aside0.mk H
  clear H
  go_enter Tryd.func20, Tryd.ntmps20
  go_wp2
  go_loopg [0, 3] k (fun kq v0 v3 w' => ∃ (x0_1 : Int) (x3_1 : List Int), v0 = .int .i64 x0_1 ∧ Aside0 (spec_Size7.l0 kq x0_1 x3_1 = some r) ∧ Aside0 (kq ≤ k) ∧ Aside0 (Kd.R (Kd.int .u8) 5 w' w.heap.size (fun _ => True) v3 x3_1) ∧ Aside0 (Below w.heap.size w w'))
  case atStart => exact ⟨(a0), (([] : List Int)), (by first | rfl | (simp; done) | (simp [*]; done)), H', ⟨Nat.le_refl _⟩, ⟨by first | exact Kd.R_nil _ _ _ _ _ | exact Kd.N_nil _ _ _ _ _ | exact Kd.V_nil _ _ _ _ _ | exact Kd.Q_nil _ _ _ _ _ | exact Kd.S_nil _ _ _ _ _⟩, ⟨by repeat (first | (with_reducible first | exact HB.out | apply below_alloc | apply pw_below_drewN | apply below_drew1) | exact HB.out)⟩⟩
  case round =>
    clear H'
    obtain ⟨x0_1, x3_1, rfl, HA, HK1, HO_3, HB⟩ := hrel
    cases gk with
    | zero => exact absurd HA.out (by simp [spec_Size7.l0])
    | succ k1 =>
      have H := HA.out
      clear HA
      simp only [spec_Size7.l0] at H
      by_cases c2 : x0_1 ≥ 128
      · rw [if_pos c2] at H
        have c2b0 : decide (128 ≤ x0_1) = true := decide_eq_true c2
        clear c2
        by_cases c3 : x3_1.length < 140737488355328
        · rw [if_pos c3] at H
          have LMc3 := Aside0.mk c3
          clear c3
          obtain ⟨y118, hy118⟩ : ∃ y_ : List Int, y_ = (x3_1 ++ [(wrap64 ((Int.tmod x0_1 128) + 128)) % 256]) := ⟨_, rfl⟩
          replace H : (spec_Size7.l0 k1 (wrap64 (Int.tdiv x0_1 128)) y118) = some r := by first | (rw [hy118]; with_reducible exact H) | (have H2_ := (Option.bind_some _ _).symm.trans H; rw [hy118]; with_reducible exact H2_) | (have H2_ := (Option.bind_some _ _).symm.trans H; with_reducible exact H2_) | with_reducible exact H | (rw [hy118]; exact H) | exact H
          have Ny118 := Aside0.mk hy118
          clear hy118
          have H' := Aside0.mk H
          clear H
          go_wp2_with (first | ((with_reducible refine gate_builtin (b := .append) (xs := #[.tmp 6, .tmp 11]) rfl ?_); at_builtin; refine Kd.R_append (Kd.int .u8) (w0 := w) w.heap.size rfl (.tmp 6) (.tmp 11) 22 5 (.int .u8 0) 1 rfl Tryd.underlying22 info5 rfl (by decide) (by omega) u3 x3_1 ((wrap64 ((Int.tmod x0_1 128) + 128)) % 256) [.int .u8 ((wrap64 ((Int.tmod x0_1 128) + 128)) % 256)] (fun _ => True) (fun _ => False) rfl rfl ?aP (fun _ hk => hk.elim) ?aF ?aO ?aB ?aS ?aL ?_; (case aP => exact rfl); (case aB => exact (by repeat (first | (with_reducible first | exact HB.out | apply below_alloc | apply pw_below_drewN | apply below_drew1) | exact HB.out))); (case aF => exact (fun _ _ => trivial)); (case aO => exact (by (with_reducible repeat (first | apply Kd.R_alloc | apply Kd.R_drewN | apply Kd.R_drew)); exact HO_3.out)); (case aS => exact (below_size (by repeat (first | (with_reducible first | exact HB.out | apply below_alloc | apply pw_below_drewN | apply below_drew1) | exact HB.out)))); (case aL => have := LMc3.out; omega); intro v119 w4 ho hb hg hat; rw [← Ny118.out] at ho; have n0_ := Aside0.mk (hb); have n1_ := Aside0.mk (ho); clear HB; clear HO_3; have HB := n0_; have HO120 := n1_; clear n0_ n1_; clear ho hb hg hat))
          go_roundg k1
          case measure => have := HK1.out; omega
          case rel => exact ⟨(wrap64 (Int.tdiv x0_1 128)), (y118), (by first | rfl | (simp; done) | (simp [*]; done)), H', ⟨by have := HK1.out; omega⟩, ⟨by (with_reducible repeat (first | apply Kd.R_alloc | apply Kd.R_drewN | apply Kd.R_drew)); exact HO120.out⟩, ⟨by repeat (first | (with_reducible first | exact HB.out | apply below_alloc | apply pw_below_drewN | apply below_drew1) | exact HB.out)⟩⟩
        · rw [if_neg c3] at H
          exact absurd H (by simp)
      · rw [if_neg c2] at H
        have c2b0 : decide (128 ≤ x0_1) = false := decide_eq_false c2
        clear c2
        by_cases c5 : x3_1.length < 140737488355328
        · rw [if_pos c5] at H
          have LMc5 := Aside0.mk c5
          clear c5
          obtain ⟨y121, hy121⟩ : ∃ y_ : List Int, y_ = (x3_1 ++ [(x0_1) % 256]) := ⟨_, rfl⟩
          replace H : (some y121) = some r := by first | (rw [hy121]; with_reducible exact H) | (have H2_ := (Option.bind_some _ _).symm.trans H; rw [hy121]; with_reducible exact H2_) | (have H2_ := (Option.bind_some _ _).symm.trans H; with_reducible exact H2_) | with_reducible exact H | (rw [hy121]; exact H) | exact H
          have Ny121 := Aside0.mk hy121
          clear hy121
          obtain rfl := Option.some.inj H
          go_wp2_with (first | ((with_reducible refine gate_builtin (b := .append) (xs := #[.tmp 15, .tmp 18]) rfl ?_); at_builtin; refine Kd.R_append (Kd.int .u8) (w0 := w) w.heap.size rfl (.tmp 15) (.tmp 18) 22 5 (.int .u8 0) 1 rfl Tryd.underlying22 info5 rfl (by decide) (by omega) u3 x3_1 ((x0_1) % 256) [.int .u8 ((x0_1) % 256)] (fun _ => True) (fun _ => False) rfl rfl ?aP (fun _ hk => hk.elim) ?aF ?aO ?aB ?aS ?aL ?_; (case aP => exact rfl); (case aB => exact (by repeat (first | (with_reducible first | exact HB.out | apply below_alloc | apply pw_below_drewN | apply below_drew1) | exact HB.out))); (case aF => exact (fun _ _ => trivial)); (case aO => exact (by (with_reducible repeat (first | apply Kd.R_alloc | apply Kd.R_drewN | apply Kd.R_drew)); exact HO_3.out)); (case aS => exact (below_size (by repeat (first | (with_reducible first | exact HB.out | apply below_alloc | apply pw_below_drewN | apply below_drew1) | exact HB.out)))); (case aL => have := LMc5.out; omega); intro v122 w6 ho hb hg hat; rw [← Ny121.out] at ho; have n0_ := Aside0.mk (hb); have n1_ := Aside0.mk (ho); clear HB; clear HO_3; have HB := n0_; have HO123 := n1_; clear n0_ n1_; clear ho hb hg hat))
          go_ret
          exact ⟨_, by first | rfl | (simp [errW_none, errW_some] <;> rfl) | (simp [*, errW_none, errW_some] <;> rfl), by (with_reducible repeat (first | apply Kd.R_alloc | apply Kd.R_drewN | apply Kd.R_drew)); exact HO123.out, by repeat (first | (with_reducible first | exact HB.out | apply below_alloc | apply pw_below_drewN | apply below_drew1) | exact HB.out)⟩
        · rw [if_neg c5] at H
          exact absurd H (by simp)

end Go.Proofs.YtlboochpbplhlaaDoor.QAll
