-- WRITTEN BY A PROGRAM OF THIS SESSION, out of the loaded program, with words of the kit
import Derived.Test.YtddnepddilbikaaDoorQAllx0
namespace Go.Proofs.YtddnepddilbikaaDoor.QAll
open Go.RowKit Go.Proofs.YtddnepddilbikaaDoorW.PrintWords Go.Proofs.YtddnepddilbikaaDoorW.PrintLast Go.Proofs.YtddnepddilbikaaDoorW.PrintMore
attribute [local go_sem] max2_int min2_int max_two min_two max_three min_three max_four min_four   -- for this text's walks alone
set_option linter.unusedVariables false
set_option linter.unusedSimpArgs false

/-! ### laws_obBytes: function 9 -/
def laws_obBytes.f (l0 : List Int) (l1 : List Int) : Option (Bool) := some ((strOfNums l0).toList == (strOfNums l1).toList)
set_option maxHeartbeats 8000000 in
set_option maxRecDepth 100000 in
theorem laws_obBytes.calls (A0 : Option Addr) (c0 : Nat) (l0 : List Int) (A1 : Option Addr) (c1 : Nat) (l1 : List Int) (r : Bool) (w : World) (hr0 : Kd.C (Kd.int .u8) w A0 l0.length l0) (hc0 : l0.length ≤ c0) (hr1 : Kd.C (Kd.int .u8) w A1 l1.length l1) (hc1 : l1.length ≤ c1) (h : laws_obBytes.f l0 l1 = some r) :
    Calls Tryd.prog 9 #[.slice A0 l0.length c0, .slice A1 l1.length c1] w fun e w' => e = .returned (.bool r) ∧ Drawn0 w w' := by
  have HR0 := Aside0.mk hr0
  have HC0 := Aside0.mk hc0
  clear hr0 hc0
  have HR1 := Aside0.mk hr1
  have HC1 := Aside0.mk hc1
  clear hr1 hc1
  have H : (some ((strOfNums l0).toList == (strOfNums l1).toList)) = some r := h
  clear h
  obtain rfl := Option.some.inj H
  have hcv3 := Kd.C_string (P := Tryd.prog) (A := A0) (c := c0) Tryd.underlying24 Tryd.underlying5 Tryd.underlying9 HR0.out
  have hcv4 := Kd.C_string (P := Tryd.prog) (A := A1) (c := c1) Tryd.underlying24 Tryd.underlying5 Tryd.underlying9 HR1.out
  go_enter Tryd.func9, Tryd.ntmps9
  go_wp2
  go_ret
  exact ⟨by first | rfl | (simp; done) | (simp [*]; done), by repeat (first | exact Drawn0.refl _ | apply Drawn0.step)⟩

/-- THE ONE PURE STATEMENT of laws_obBytes: yours. -/
def laws_obBytes.Pure : Prop := ∀ (l0 : List Int) (l1 : List Int), l0.length ≤ maxLen → l0.length * 1 ≤ 140737488351232 → (∀ x ∈ l0, (Lit.int .u8 x).wf = true) → l1.length ≤ maxLen → l1.length * 1 ≤ 140737488351232 → (∀ x ∈ l1, (Lit.int .u8 x).wf = true) → laws_obBytes.f l0 l1 = some true
theorem laws_obBytes.walk (P : laws_obBytes.Pure) (a0 : Option Addr) (len0 cap0 : Nat) (z0 : List Int) (a1 : Option Addr) (len1 cap1 : Nat) (z1 : List Int) (w : World) (w0 : (a0 = none ∧ len0 = 0 ∧ cap0 = 0 ∧ z0 = []) ∨ ∃ x, a0 = some x ∧ len0 ≤ cap0 ∧ cap0 ≤ maxLen ∧ z0.length = cap0 ∧ (∀ i, i < z0.length → w.cell? (x.add i) = some (.int .u8 (z0.getD i 0))) ∧ ∀ n ∈ z0, (Lit.int .u8 n).wf = true) (y0 : len0 * 1 ≤ 140737488351232) (w1 : (a1 = none ∧ len1 = 0 ∧ cap1 = 0 ∧ z1 = []) ∨ ∃ x, a1 = some x ∧ len1 ≤ cap1 ∧ cap1 ≤ maxLen ∧ z1.length = cap1 ∧ (∀ i, i < z1.length → w.cell? (x.add i) = some (.int .u8 (z1.getD i 0))) ∧ ∀ n ∈ z1, (Lit.int .u8 n).wf = true) (y1 : len1 * 1 ≤ 140737488351232) :
    Calls Tryd.prog 9 #[.slice a0 len0 cap0, .slice a1 len1 cap1] w fun e w' => e = .returned (.bool true) ∧ Below w.heap.size w w' := by
  obtain ⟨l0, rfl, hr0, hm0, hw0, hc0⟩ := ReadsInt.ofRowC w0
  obtain ⟨l1, rfl, hr1, hm1, hw1, hc1⟩ := ReadsInt.ofRowC w1
  have h := P l0 l1 hm0 y0 hw0 hm1 y1 hw1
  refine (laws_obBytes.calls _ _ l0 _ _ l1 true w (Kd.C_of_reads (d := (0 : Int)) (h1 := fun _ => rfl) hr0) hc0 (Kd.C_of_reads (d := (0 : Int)) (h1 := fun _ => rfl) hr1) hc1 h).mono ?_
  rintro e w' ⟨rfl, hd⟩
  exact ⟨rfl, hd.below⟩

/-! ### zztime_Unix: function 53 -/
def zztime_Unix.f (a0 : Int) (a1 : Int) : Option (Int × Int × Int) := if (Int.tmod a1 1000000000) < 0 then (some (wrap64 ((wrap64 ((wrap64 (a0 + (wrap64 (Int.tdiv a1 1000000000)))) - 1)) + 62135596800), wrap64 ((Int.tmod a1 1000000000) + 1000000000), 0)) else (some (wrap64 ((wrap64 (a0 + (wrap64 (Int.tdiv a1 1000000000)))) + 62135596800), Int.tmod a1 1000000000, 0))
set_option maxHeartbeats 8000000 in
set_option maxRecDepth 100000 in
theorem zztime_Unix.calls (a0 : Int) (a1 : Int) (r1 : Int) (r2 : Int) (r3 : Int) (w : World) (h : zztime_Unix.f a0 a1 = some (r1, r2, r3)) :
    Calls Tryd.prog 53 #[.int .i64 a0, .int .i64 a1] w fun e w' => e = .returned (.agg #[.int .i64 r1, .int .i64 r2, .int .i64 r3]) ∧ Below w.heap.size w w' := by
  have hu73 := Tryd.underlying73
  have HB := Aside0.mk (Below.refl w.heap.size w)
  have H : (if (Int.tmod a1 1000000000) < 0 then (some (wrap64 ((wrap64 ((wrap64 (a0 + (wrap64 (Int.tdiv a1 1000000000)))) - 1)) + 62135596800), wrap64 ((Int.tmod a1 1000000000) + 1000000000), 0)) else (some (wrap64 ((wrap64 (a0 + (wrap64 (Int.tdiv a1 1000000000)))) + 62135596800), Int.tmod a1 1000000000, 0))) = some (r1, r2, r3) := h
  clear h
  by_cases c3 : (Int.tmod a1 1000000000) < 0
  · rw [if_pos c3] at H
    have c3b0 : decide ((Int.tmod a1 1000000000) < 0) = true := decide_eq_true c3
    clear c3
    simp only [Option.some.injEq, Prod.mk.injEq] at H
    obtain ⟨rfl, rfl, rfl⟩ := H
    go_enter Tryd.func53, Tryd.ntmps53
    go_wp2_with (first | ((with_reducible refine gate_dst (N := 4) rfl ?_); refine box_event ?hg (N := 4) ?hd (cs := #[.int .i64 0, .int .i64 0, .int .i64 0]) (t := 73) ?hr ?_; (case hd => rfl); (case hg => rfl); (case hr => first | (go_simp; done) | (go_simp; rfl)); intro gb198 hg w4 hbox hb; have n0_ := Aside0.mk (below_step (by repeat (first | (with_reducible first | exact HB.out | apply below_alloc | apply pw_below_drewN | apply below_drew1) | exact HB.out)) hb); have n1_ := Aside0.mk (hbox); have n2_ := Aside0.mk ((by rw [hg]; exact (below_size (by repeat (first | (with_reducible first | exact HB.out | apply below_alloc | apply pw_below_drewN | apply below_drew1) | exact HB.out))) : w.heap.size ≤ gb198)); have n3_ := Aside0.mk ((by rw [hg]; exact (below_size (by repeat (first | (with_reducible first | exact HB.out | apply below_alloc | apply pw_below_drewN | apply below_drew1) | exact HB.out))) : w.heap.size ≤ gb198)); clear HB; have HB := n0_; have BK198 := n1_; have GW198 := n2_; have GE198 := n3_; clear n0_ n1_ n2_ n3_; clear hb hbox hg; have hcz5_0 : w4.cell? ⟨gb198, 0, none⟩ = some (.int .i64 0) := (blk_cell BK198.out 0).trans rfl; have hcz5_1 : w4.cell? ⟨gb198, 1, none⟩ = some (.int .i64 0) := (blk_cell BK198.out 1).trans rfl; have hcz5_2 : w4.cell? ⟨gb198, 2, none⟩ = some (.int .i64 0) := (blk_cell BK198.out 2).trans rfl; have hfz5_0 := blk_frozen BK198.out 0; have hfz5_1 := blk_frozen BK198.out 1; have hfz5_2 := blk_frozen BK198.out 2))
    refine bodyPost_ret (results_cell_row rfl _ _ gb198 73 #[.int .i64 (wrap64 ((wrap64 ((wrap64 (a0 + (wrap64 (Int.tdiv a1 1000000000)))) - 1)) + 62135596800)), .int .i64 (wrap64 ((Int.tmod a1 1000000000) + 1000000000)), .int .i64 0] (0, 0) _ rfl (by (with_reducible repeat (first | refine blk_drewN ?_ _ | refine blk_drew ?_ | refine blk_alloc ?_ _)); refine blk_put (cs := #[.int .i64 (wrap64 ((wrap64 ((wrap64 (a0 + (wrap64 (Int.tdiv a1 1000000000)))) - 1)) + 62135596800)), .int .i64 (wrap64 ((Int.tmod a1 1000000000) + 1000000000)), .int .i64 0]) ?_ 2 _ rfl; (with_reducible repeat (first | refine blk_drewN ?_ _ | refine blk_drew ?_ | refine blk_alloc ?_ _)); refine blk_put (cs := #[.int .i64 (wrap64 ((wrap64 ((wrap64 (a0 + (wrap64 (Int.tdiv a1 1000000000)))) - 1)) + 62135596800)), .int .i64 0, .int .i64 0]) ?_ 1 _ rfl; (with_reducible repeat (first | refine blk_drewN ?_ _ | refine blk_drew ?_ | refine blk_alloc ?_ _)); refine blk_put (cs := #[.int .i64 0, .int .i64 0, .int .i64 0]) ?_ 0 _ rfl; (with_reducible repeat (first | refine blk_drewN ?_ _ | refine blk_drew ?_ | refine blk_alloc ?_ _)); exact BK198.out) Tryd.underlying73 rfl (by kernel_rfl)) rfl ?_
    exact ⟨by first | rfl | (simp [errW_none, errW_some] <;> rfl) | (simp [*, errW_none, errW_some] <;> rfl), by repeat (first | (with_reducible first | exact HB.out | apply below_alloc | apply pw_below_drewN | apply below_drew1 | refine below_set ?_ GE198.out) | exact HB.out)⟩
  · rw [if_neg c3] at H
    have c3b0 : decide ((Int.tmod a1 1000000000) < 0) = false := decide_eq_false c3
    clear c3
    simp only [Option.some.injEq, Prod.mk.injEq] at H
    obtain ⟨rfl, rfl, rfl⟩ := H
    go_enter Tryd.func53, Tryd.ntmps53
    go_wp2_with (first | ((with_reducible refine gate_dst (N := 4) rfl ?_); refine box_event ?hg (N := 4) ?hd (cs := #[.int .i64 0, .int .i64 0, .int .i64 0]) (t := 73) ?hr ?_; (case hd => rfl); (case hg => rfl); (case hr => first | (go_simp; done) | (go_simp; rfl)); intro gb198 hg w6 hbox hb; have n0_ := Aside0.mk (below_step (by repeat (first | (with_reducible first | exact HB.out | apply below_alloc | apply pw_below_drewN | apply below_drew1) | exact HB.out)) hb); have n1_ := Aside0.mk (hbox); have n2_ := Aside0.mk ((by rw [hg]; exact (below_size (by repeat (first | (with_reducible first | exact HB.out | apply below_alloc | apply pw_below_drewN | apply below_drew1) | exact HB.out))) : w.heap.size ≤ gb198)); have n3_ := Aside0.mk ((by rw [hg]; exact (below_size (by repeat (first | (with_reducible first | exact HB.out | apply below_alloc | apply pw_below_drewN | apply below_drew1) | exact HB.out))) : w.heap.size ≤ gb198)); clear HB; have HB := n0_; have BK198 := n1_; have GW198 := n2_; have GE198 := n3_; clear n0_ n1_ n2_ n3_; clear hb hbox hg; have hcz7_0 : w6.cell? ⟨gb198, 0, none⟩ = some (.int .i64 0) := (blk_cell BK198.out 0).trans rfl; have hcz7_1 : w6.cell? ⟨gb198, 1, none⟩ = some (.int .i64 0) := (blk_cell BK198.out 1).trans rfl; have hcz7_2 : w6.cell? ⟨gb198, 2, none⟩ = some (.int .i64 0) := (blk_cell BK198.out 2).trans rfl; have hfz7_0 := blk_frozen BK198.out 0; have hfz7_1 := blk_frozen BK198.out 1; have hfz7_2 := blk_frozen BK198.out 2))
    refine bodyPost_ret (results_cell_row rfl _ _ gb198 73 #[.int .i64 (wrap64 ((wrap64 (a0 + (wrap64 (Int.tdiv a1 1000000000)))) + 62135596800)), .int .i64 (Int.tmod a1 1000000000), .int .i64 0] (0, 0) _ rfl (by (with_reducible repeat (first | refine blk_drewN ?_ _ | refine blk_drew ?_ | refine blk_alloc ?_ _)); refine blk_put (cs := #[.int .i64 (wrap64 ((wrap64 (a0 + (wrap64 (Int.tdiv a1 1000000000)))) + 62135596800)), .int .i64 (Int.tmod a1 1000000000), .int .i64 0]) ?_ 2 _ rfl; (with_reducible repeat (first | refine blk_drewN ?_ _ | refine blk_drew ?_ | refine blk_alloc ?_ _)); refine blk_put (cs := #[.int .i64 (wrap64 ((wrap64 (a0 + (wrap64 (Int.tdiv a1 1000000000)))) + 62135596800)), .int .i64 0, .int .i64 0]) ?_ 1 _ rfl; (with_reducible repeat (first | refine blk_drewN ?_ _ | refine blk_drew ?_ | refine blk_alloc ?_ _)); refine blk_put (cs := #[.int .i64 0, .int .i64 0, .int .i64 0]) ?_ 0 _ rfl; (with_reducible repeat (first | refine blk_drewN ?_ _ | refine blk_drew ?_ | refine blk_alloc ?_ _)); exact BK198.out) Tryd.underlying73 rfl (by kernel_rfl)) rfl ?_
    exact ⟨by first | rfl | (simp [errW_none, errW_some] <;> rfl) | (simp [*, errW_none, errW_some] <;> rfl), by repeat (first | (with_reducible first | exact HB.out | apply below_alloc | apply pw_below_drewN | apply below_drew1 | refine below_set ?_ GE198.out) | exact HB.out)⟩

/-! ### zztime_Time_In: function 54 -/
def zztime_Time_In.f (a0_0 : Int) (a0_1 : Int) (a0_2 : Int) (a1_0 : Int) : Option (Int × Int × Int) := some (a0_0, a0_1, a1_0)
set_option maxHeartbeats 8000000 in
set_option maxRecDepth 100000 in
theorem zztime_Time_In.calls (a0_0 : Int) (a0_1 : Int) (a0_2 : Int) (a1_0 : Int) (r1 : Int) (r2 : Int) (r3 : Int) (w : World) (h : zztime_Time_In.f a0_0 a0_1 a0_2 a1_0 = some (r1, r2, r3)) :
    Calls Tryd.prog 54 #[.agg #[.int .i64 a0_0, .int .i64 a0_1, .int .i64 a0_2], .agg #[.int .i64 a1_0]] w fun e w' => e = .returned (.agg #[.int .i64 r1, .int .i64 r2, .int .i64 r3]) ∧ Below w.heap.size w w' := by
  have hu73 := Tryd.underlying73
  have hu125 := Tryd.underlying125
  have HB := Aside0.mk (Below.refl w.heap.size w)
  have H : (some (a0_0, a0_1, a1_0)) = some (r1, r2, r3) := h
  clear h
  simp only [Option.some.injEq, Prod.mk.injEq] at H
  obtain ⟨rfl, rfl, rfl⟩ := H
  go_enter Tryd.func54, Tryd.ntmps54
  go_wp2_with (first | ((with_reducible refine gate_dst (N := 2) rfl ?_); refine box_event ?hg (N := 2) ?hd (cs := #[.int .i64 a0_0, .int .i64 a0_1, .int .i64 a0_2]) (t := 73) ?hr ?_; (case hd => rfl); (case hg => rfl); (case hr => first | (go_simp; done) | (go_simp; rfl)); intro gb199 hg w3 hbox hb; have n0_ := Aside0.mk (below_step (by repeat (first | (with_reducible first | exact HB.out | apply below_alloc | apply pw_below_drewN | apply below_drew1) | exact HB.out)) hb); have n1_ := Aside0.mk (hbox); have n2_ := Aside0.mk ((by rw [hg]; exact (below_size (by repeat (first | (with_reducible first | exact HB.out | apply below_alloc | apply pw_below_drewN | apply below_drew1) | exact HB.out))) : w.heap.size ≤ gb199)); have n3_ := Aside0.mk ((by rw [hg]; exact (below_size (by repeat (first | (with_reducible first | exact HB.out | apply below_alloc | apply pw_below_drewN | apply below_drew1) | exact HB.out))) : w.heap.size ≤ gb199)); clear HB; have HB := n0_; have BK199 := n1_; have GW199 := n2_; have GE199 := n3_; clear n0_ n1_ n2_ n3_; clear hb hbox hg) | ((with_reducible refine gate_dst (N := 3) rfl ?_); refine box_event ?hg (N := 3) ?hd (cs := #[.int .i64 a1_0]) (t := 125) ?hr ?_; (case hd => rfl); (case hg => rfl); (case hr => first | (go_simp; done) | (go_simp; rfl)); intro gb200 hg w4 hbox hb; have n0_ := Aside0.mk (blk_below (g := gb199) (o := .cells #[.int .i64 a0_0, .int .i64 a0_1, .int .i64 a0_2] 73 (0, 0)) (by (with_reducible repeat (first | refine blk_drewN ?_ _ | refine blk_drew ?_ | refine blk_alloc ?_ _)); exact BK199.out) hb); have n1_ := Aside0.mk (below_step (by repeat (first | (with_reducible first | exact HB.out | apply below_alloc | apply pw_below_drewN | apply below_drew1 | refine below_set ?_ GE199.out) | exact HB.out)) hb); have n2_ := Aside0.mk (hbox); have n3_ := Aside0.mk ((by rw [hg]; exact (below_size (by repeat (first | (with_reducible first | exact HB.out | apply below_alloc | apply pw_below_drewN | apply below_drew1 | refine below_set ?_ GE199.out) | exact HB.out))) : w.heap.size ≤ gb200)); have n4_ := Aside0.mk ((by rw [hg]; exact (below_size (by repeat (first | (with_reducible first | exact HB.out | apply below_alloc | apply pw_below_drewN | apply below_drew1 | refine below_set ?_ GE199.out) | exact HB.out))) : w.heap.size ≤ gb200)); have n5_ := Aside0.mk ((by rw [hg]; exact Nat.ne_of_lt (blk_lt (g := gb199) (o := .cells #[.int .i64 a0_0, .int .i64 a0_1, .int .i64 a0_2] 73 (0, 0)) (by (with_reducible repeat (first | refine blk_drewN ?_ _ | refine blk_drew ?_ | refine blk_alloc ?_ _)); exact BK199.out)) : gb199 ≠ gb200)); have n6_ := Aside0.mk ((by rw [hg]; exact Nat.ne_of_gt (blk_lt (g := gb199) (o := .cells #[.int .i64 a0_0, .int .i64 a0_1, .int .i64 a0_2] 73 (0, 0)) (by (with_reducible repeat (first | refine blk_drewN ?_ _ | refine blk_drew ?_ | refine blk_alloc ?_ _)); exact BK199.out)) : gb200 ≠ gb199)); clear BK199; clear HB; have BK199 := n0_; have HB := n1_; have BK200 := n2_; have GW200 := n3_; have GE200 := n4_; have NB199_200 := n5_; have NB200_199 := n6_; clear n0_ n1_ n2_ n3_ n4_ n5_ n6_; clear hb hbox hg) | ((with_reducible refine gate_dst (N := 4) rfl ?_); refine box_event ?hg (N := 4) ?hd (cs := #[.int .i64 0, .int .i64 0, .int .i64 0]) (t := 73) ?hr ?_; (case hd => rfl); (case hg => rfl); (case hr => first | (go_simp; done) | (go_simp; rfl)); intro gb201 hg w5 hbox hb; have n0_ := Aside0.mk (blk_below (g := gb199) (o := .cells #[.int .i64 a0_0, .int .i64 a0_1, .int .i64 a0_2] 73 (0, 0)) (by (with_reducible repeat (first | refine blk_drewN ?_ _ | refine blk_drew ?_ | refine blk_alloc ?_ _)); exact BK199.out) hb); have n1_ := Aside0.mk (blk_below (g := gb200) (o := .cells #[.int .i64 a1_0] 125 (0, 0)) (by (with_reducible repeat (first | refine blk_drewN ?_ _ | refine blk_drew ?_ | refine blk_alloc ?_ _)); exact BK200.out) hb); have n2_ := Aside0.mk (below_step (by repeat (first | (with_reducible first | exact HB.out | apply below_alloc | apply pw_below_drewN | apply below_drew1 | refine below_set ?_ GE199.out | refine below_set ?_ GE200.out) | exact HB.out)) hb); have n3_ := Aside0.mk (hbox); have n4_ := Aside0.mk ((by rw [hg]; exact (below_size (by repeat (first | (with_reducible first | exact HB.out | apply below_alloc | apply pw_below_drewN | apply below_drew1 | refine below_set ?_ GE199.out | refine below_set ?_ GE200.out) | exact HB.out))) : w.heap.size ≤ gb201)); have n5_ := Aside0.mk ((by rw [hg]; exact (below_size (by repeat (first | (with_reducible first | exact HB.out | apply below_alloc | apply pw_below_drewN | apply below_drew1 | refine below_set ?_ GE199.out | refine below_set ?_ GE200.out) | exact HB.out))) : w.heap.size ≤ gb201)); have n6_ := Aside0.mk ((by rw [hg]; exact Nat.ne_of_lt (blk_lt (g := gb199) (o := .cells #[.int .i64 a0_0, .int .i64 a0_1, .int .i64 a0_2] 73 (0, 0)) (by (with_reducible repeat (first | refine blk_drewN ?_ _ | refine blk_drew ?_ | refine blk_alloc ?_ _)); exact BK199.out)) : gb199 ≠ gb201)); have n7_ := Aside0.mk ((by rw [hg]; exact Nat.ne_of_gt (blk_lt (g := gb199) (o := .cells #[.int .i64 a0_0, .int .i64 a0_1, .int .i64 a0_2] 73 (0, 0)) (by (with_reducible repeat (first | refine blk_drewN ?_ _ | refine blk_drew ?_ | refine blk_alloc ?_ _)); exact BK199.out)) : gb201 ≠ gb199)); have n8_ := Aside0.mk ((by rw [hg]; exact Nat.ne_of_lt (blk_lt (g := gb200) (o := .cells #[.int .i64 a1_0] 125 (0, 0)) (by (with_reducible repeat (first | refine blk_drewN ?_ _ | refine blk_drew ?_ | refine blk_alloc ?_ _)); exact BK200.out)) : gb200 ≠ gb201)); have n9_ := Aside0.mk ((by rw [hg]; exact Nat.ne_of_gt (blk_lt (g := gb200) (o := .cells #[.int .i64 a1_0] 125 (0, 0)) (by (with_reducible repeat (first | refine blk_drewN ?_ _ | refine blk_drew ?_ | refine blk_alloc ?_ _)); exact BK200.out)) : gb201 ≠ gb200)); clear BK199; clear BK200; clear HB; have BK199 := n0_; have BK200 := n1_; have HB := n2_; have BK201 := n3_; have GW201 := n4_; have GE201 := n5_; have NB199_201 := n6_; have NB201_199 := n7_; have NB200_201 := n8_; have NB201_200 := n9_; clear n0_ n1_ n2_ n3_ n4_ n5_ n6_ n7_ n8_ n9_; clear hb hbox hg; have hnb6 := NB200_199.out; have hnc6 := NB199_200.out; have hnb7 := NB200_201.out; have hnc7 := NB201_200.out; have hcz8_0 : w5.cell? ⟨gb200, 0, none⟩ = some (.int .i64 a1_0) := (blk_cell BK200.out 0).trans rfl; have hfz8_0 := blk_frozen BK200.out 0; have hnb9 := NB199_201.out; have hnc9 := NB201_199.out; have hcz10_0 : w5.cell? ⟨gb199, 0, none⟩ = some (.int .i64 a0_0) := (blk_cell BK199.out 0).trans rfl; have hcz10_1 : w5.cell? ⟨gb199, 1, none⟩ = some (.int .i64 a0_1) := (blk_cell BK199.out 1).trans rfl; have hcz10_2 : w5.cell? ⟨gb199, 2, none⟩ = some (.int .i64 a0_2) := (blk_cell BK199.out 2).trans rfl; have hfz10_0 := blk_frozen BK199.out 0; have hfz10_1 := blk_frozen BK199.out 1; have hfz10_2 := blk_frozen BK199.out 2; have hcz11_0 : w5.cell? ⟨gb201, 0, none⟩ = some (.int .i64 0) := (blk_cell BK201.out 0).trans rfl; have hcz11_1 : w5.cell? ⟨gb201, 1, none⟩ = some (.int .i64 0) := (blk_cell BK201.out 1).trans rfl; have hcz11_2 : w5.cell? ⟨gb201, 2, none⟩ = some (.int .i64 0) := (blk_cell BK201.out 2).trans rfl; have hfz11_0 := blk_frozen BK201.out 0; have hfz11_1 := blk_frozen BK201.out 1; have hfz11_2 := blk_frozen BK201.out 2))
  refine bodyPost_ret (results_cell_row rfl _ _ gb201 73 #[.int .i64 a0_0, .int .i64 a0_1, .int .i64 a1_0] (0, 0) _ rfl (by (with_reducible repeat (first | refine blk_drewN ?_ _ | refine blk_drew ?_ | refine blk_alloc ?_ _)); refine blk_put (cs := #[.int .i64 a0_0, .int .i64 a0_1, .int .i64 0]) ?_ 2 _ rfl; (with_reducible repeat (first | refine blk_drewN ?_ _ | refine blk_drew ?_ | refine blk_alloc ?_ _)); refine blk_put (cs := #[.int .i64 a0_0, .int .i64 0, .int .i64 0]) ?_ 1 _ rfl; (with_reducible repeat (first | refine blk_drewN ?_ _ | refine blk_drew ?_ | refine blk_alloc ?_ _)); refine blk_put (cs := #[.int .i64 0, .int .i64 0, .int .i64 0]) ?_ 0 _ rfl; (with_reducible repeat (first | refine blk_drewN ?_ _ | refine blk_drew ?_ | refine blk_alloc ?_ _)); refine blk_far ?_ NB201_199.out _; (with_reducible repeat (first | refine blk_drewN ?_ _ | refine blk_drew ?_ | refine blk_alloc ?_ _)); exact BK201.out) Tryd.underlying73 rfl (by kernel_rfl)) rfl ?_
  exact ⟨by first | rfl | (simp [errW_none, errW_some] <;> rfl) | (simp [*, errW_none, errW_some] <;> rfl), by repeat (first | (with_reducible first | exact HB.out | apply below_alloc | apply pw_below_drewN | apply below_drew1 | refine below_set ?_ GE199.out | refine below_set ?_ GE200.out | refine below_set ?_ GE201.out) | exact HB.out)⟩

/-! ### zztime_FixedZone: function 55 -/
def zztime_FixedZone.f (a0 : ByteArray) (a1 : Int) : Option (Int) := some a1
set_option maxHeartbeats 8000000 in
set_option maxRecDepth 100000 in
theorem zztime_FixedZone.calls (a0 : ByteArray) (a1 : Int) (r : Int) (w : World) (h : zztime_FixedZone.f a0 a1 = some r) :
    Calls Tryd.prog 55 #[.string a0, .int .i64 a1] w fun e w' => e = .returned (.agg #[.int .i64 r]) ∧ Below w.heap.size w w' := by
  have hu125 := Tryd.underlying125
  have HB := Aside0.mk (Below.refl w.heap.size w)
  have H : (some a1) = some r := h
  clear h
  obtain rfl := Option.some.inj H
  go_enter Tryd.func55, Tryd.ntmps55
  go_wp2_with (first | ((with_reducible refine gate_dst (N := 4) rfl ?_); refine box_event ?hg (N := 4) ?hd (cs := #[.int .i64 0]) (t := 125) ?hr ?_; (case hd => rfl); (case hg => rfl); (case hr => first | (go_simp; done) | (go_simp; rfl)); intro gb202 hg w3 hbox hb; have n0_ := Aside0.mk (below_step (by repeat (first | (with_reducible first | exact HB.out | apply below_alloc | apply pw_below_drewN | apply below_drew1) | exact HB.out)) hb); have n1_ := Aside0.mk (hbox); have n2_ := Aside0.mk ((by rw [hg]; exact (below_size (by repeat (first | (with_reducible first | exact HB.out | apply below_alloc | apply pw_below_drewN | apply below_drew1) | exact HB.out))) : w.heap.size ≤ gb202)); have n3_ := Aside0.mk ((by rw [hg]; exact (below_size (by repeat (first | (with_reducible first | exact HB.out | apply below_alloc | apply pw_below_drewN | apply below_drew1) | exact HB.out))) : w.heap.size ≤ gb202)); clear HB; have HB := n0_; have BK202 := n1_; have GW202 := n2_; have GE202 := n3_; clear n0_ n1_ n2_ n3_; clear hb hbox hg; have hcz4_0 : w3.cell? ⟨gb202, 0, none⟩ = some (.int .i64 0) := (blk_cell BK202.out 0).trans rfl; have hfz4_0 := blk_frozen BK202.out 0))
  refine bodyPost_ret (results_cell_row rfl _ _ gb202 125 #[.int .i64 a1] (0, 0) _ rfl (by (with_reducible repeat (first | refine blk_drewN ?_ _ | refine blk_drew ?_ | refine blk_alloc ?_ _)); refine blk_put (cs := #[.int .i64 0]) ?_ 0 _ rfl; (with_reducible repeat (first | refine blk_drewN ?_ _ | refine blk_drew ?_ | refine blk_alloc ?_ _)); exact BK202.out) Tryd.underlying125 rfl (by kernel_rfl)) rfl ?_
  exact ⟨by first | rfl | (simp [errW_none, errW_some] <;> rfl) | (simp [*, errW_none, errW_some] <;> rfl), by repeat (first | (with_reducible first | exact HB.out | apply below_alloc | apply pw_below_drewN | apply below_drew1 | refine below_set ?_ GE202.out) | exact HB.out)⟩

/-! ### impl_signatureOf: function 33 -/
def impl_signatureOf.f (a0_0 : ByteArray) (a0_1 : ByteArray) (a0_2 : Int) (a0_3 : Int) : Option (ByteArray × ByteArray × Int × Int × Int) := (zztime_Unix.f a0_2 0).bind fun bt205 => ((zztime_FixedZone.f (⟨#[]⟩ : ByteArray) a0_3).bind fun t208 => ((zztime_Time_In.f bt205.1 bt205.2.1 bt205.2.2 t208).bind fun bt209 => (some (a0_0, a0_1, bt209.1, bt209.2.1, bt209.2.2))))
def impl_signatureOf.T1 : Bool × List (List Nat × List Nat) := (true, [([], []), ([0], [0]), ([], []), ([2], [2]), ([], []), ([4], [4]), ([5], [5]), ([], []), ([7], [7]), ([8, 6], [8]), ([6, 9, 9], [6, 9]), ([1, 3, 10], [1, 3, 10]), ([11, 10, 0, 1, 2, 3, 4, 5, 6, 7, 8, 9, 10, 11], [11])])
def impl_signatureOf.B1 : List Nat := [0, 1, 0, 4, 0, 16, 48, 0, 128, 496, 1008, 2047, 4095]
theorem impl_signatureOf.tab1 : rtab .any (opsOf Tryd.f33 1) = impl_signatureOf.T1 := by kernel_rfl
theorem impl_signatureOf.bits1 : waitsOk impl_signatureOf.T1.2 impl_signatureOf.B1 = true := by kernel_rfl
set_option maxHeartbeats 8000000 in
set_option maxRecDepth 100000 in
theorem impl_signatureOf.calls (a0_0 : ByteArray) (a0_1 : ByteArray) (a0_2 : Int) (a0_3 : Int) (r1 : ByteArray) (r2 : ByteArray) (r3 : Int) (r4 : Int) (r5 : Int) (w : World) (h : impl_signatureOf.f a0_0 a0_1 a0_2 a0_3 = some (r1, r2, r3, r4, r5)) :
    Calls Tryd.prog 33 #[.agg #[.string a0_0, .string a0_1, .int .i64 a0_2, .int .i64 a0_3]] w fun e w' => e = .returned (.agg #[.string r1, .string r2, .int .i64 r3, .int .i64 r4, .int .i64 r5]) ∧ Below w.heap.size w w' := by
  have hu30 := Tryd.underlying30
  have hu75 := Tryd.underlying75
  have HB := Aside0.mk (Below.refl w.heap.size w)
  have H : ((zztime_Unix.f a0_2 0).bind fun bt205 => ((zztime_FixedZone.f (⟨#[]⟩ : ByteArray) a0_3).bind fun t208 => ((zztime_Time_In.f bt205.1 bt205.2.1 bt205.2.2 t208).bind fun bt209 => (some (a0_0, a0_1, bt209.1, bt209.2.1, bt209.2.2))))) = some (r1, r2, r3, r4, r5) := h
  clear h
  replace H := Option.bind_eq_some_iff.mp H
  obtain ⟨⟨t205, t206, t207⟩, A20, H⟩ := H
  replace H : ((zztime_FixedZone.f (⟨#[]⟩ : ByteArray) a0_3).bind fun t208 => ((zztime_Time_In.f t205 t206 t207 t208).bind fun bt209 => (some (a0_0, a0_1, bt209.1, bt209.2.1, bt209.2.2)))) = some (r1, r2, r3, r4, r5) := H
  have A2 := Aside0.mk A20
  clear A20
  replace H := Option.bind_eq_some_iff.mp H
  obtain ⟨t208, A30, H⟩ := H
  replace H : ((zztime_Time_In.f t205 t206 t207 t208).bind fun bt209 => (some (a0_0, a0_1, bt209.1, bt209.2.1, bt209.2.2))) = some (r1, r2, r3, r4, r5) := H
  have A3 := Aside0.mk A30
  clear A30
  replace H := Option.bind_eq_some_iff.mp H
  obtain ⟨⟨t209, t210, t211⟩, A40, H⟩ := H
  replace H : (some (a0_0, a0_1, t209, t210, t211)) = some (r1, r2, r3, r4, r5) := H
  have A4 := Aside0.mk A40
  clear A40
  simp only [Option.some.injEq, Prod.mk.injEq] at H
  obtain ⟨rfl, rfl, rfl, rfl, rfl⟩ := H
  go_enter Tryd.func33, Tryd.ntmps33
  try go_wp2_with (first | ((with_reducible refine gate_dst (N := 1) rfl ?_); refine box_event ?hg (N := 1) ?hd (cs := #[.string a0_0, .string a0_1, .int .i64 a0_2, .int .i64 a0_3]) (t := 30) ?hr ?_; (case hd => rfl); (case hg => rfl); (case hr => first | (go_simp; done) | (go_simp; rfl)); intro gb203 hg w5 hbox hb; have n0_ := Aside0.mk (below_step (by repeat (first | (with_reducible first | exact HB.out | apply below_alloc | apply pw_below_drewN | apply below_drew1) | exact HB.out)) hb); have n1_ := Aside0.mk (hbox); have n2_ := Aside0.mk ((by rw [hg]; exact (below_size (by repeat (first | (with_reducible first | exact HB.out | apply below_alloc | apply pw_below_drewN | apply below_drew1) | exact HB.out))) : w.heap.size ≤ gb203)); have n3_ := Aside0.mk ((by rw [hg]; exact (below_size (by repeat (first | (with_reducible first | exact HB.out | apply below_alloc | apply pw_below_drewN | apply below_drew1) | exact HB.out))) : w.heap.size ≤ gb203)); clear HB; have HB := n0_; have BK203 := n1_; have GW203 := n2_; have GE203 := n3_; clear n0_ n1_ n2_ n3_; clear hb hbox hg) | ((with_reducible refine gate_dst (N := 2) rfl ?_); refine box_event ?hg (N := 2) ?hd (cs := #[.string (⟨#[]⟩ : ByteArray), .string (⟨#[]⟩ : ByteArray), .int .i64 0, .int .i64 0, .int .i64 0]) (t := 75) ?hr ?_; (case hd => rfl); (case hg => rfl); (case hr => first | (go_simp; done) | (go_simp; rfl)); intro gb204 hg w6 hbox hb; have n0_ := Aside0.mk (blk_below (g := gb203) (o := .cells #[.string a0_0, .string a0_1, .int .i64 a0_2, .int .i64 a0_3] 30 (0, 0)) (by (with_reducible repeat (first | refine blk_drewN ?_ _ | refine blk_drew ?_ | refine blk_alloc ?_ _)); exact BK203.out) hb); have n1_ := Aside0.mk (below_step (by repeat (first | (with_reducible first | exact HB.out | apply below_alloc | apply pw_below_drewN | apply below_drew1 | refine below_set ?_ GE203.out) | exact HB.out)) hb); have n2_ := Aside0.mk (hbox); have n3_ := Aside0.mk ((by rw [hg]; exact (below_size (by repeat (first | (with_reducible first | exact HB.out | apply below_alloc | apply pw_below_drewN | apply below_drew1 | refine below_set ?_ GE203.out) | exact HB.out))) : w.heap.size ≤ gb204)); have n4_ := Aside0.mk ((by rw [hg]; exact (below_size (by repeat (first | (with_reducible first | exact HB.out | apply below_alloc | apply pw_below_drewN | apply below_drew1 | refine below_set ?_ GE203.out) | exact HB.out))) : w.heap.size ≤ gb204)); have n5_ := Aside0.mk ((by rw [hg]; exact Nat.ne_of_lt (blk_lt (g := gb203) (o := .cells #[.string a0_0, .string a0_1, .int .i64 a0_2, .int .i64 a0_3] 30 (0, 0)) (by (with_reducible repeat (first | refine blk_drewN ?_ _ | refine blk_drew ?_ | refine blk_alloc ?_ _)); exact BK203.out)) : gb203 ≠ gb204)); have n6_ := Aside0.mk ((by rw [hg]; exact Nat.ne_of_gt (blk_lt (g := gb203) (o := .cells #[.string a0_0, .string a0_1, .int .i64 a0_2, .int .i64 a0_3] 30 (0, 0)) (by (with_reducible repeat (first | refine blk_drewN ?_ _ | refine blk_drew ?_ | refine blk_alloc ?_ _)); exact BK203.out)) : gb204 ≠ gb203)); clear BK203; clear HB; have BK203 := n0_; have HB := n1_; have BK204 := n2_; have GW204 := n3_; have GE204 := n4_; have NB203_204 := n5_; have NB204_203 := n6_; clear n0_ n1_ n2_ n3_ n4_ n5_ n6_; clear hb hbox hg))
  have n0_ := Aside0.mk (blk_drew BK203.out)
  have n1_ := Aside0.mk (blk_drew BK204.out)
  have n2_ := Aside0.mk (below_drew1 HB.out)
  clear BK203
  clear BK204
  clear HB
  have BK203 := n0_
  have BK204 := n1_
  have HB := n2_
  clear n0_ n1_ n2_
  refine start_ (n := 13) (S := fun w' => w'.cell? ⟨gb203, 0, none⟩ = some (.string a0_0) ∧ w'.cell? ⟨gb203, 1, none⟩ = some (.string a0_1) ∧ w'.cell? ⟨gb203, 2, none⟩ = some (.int .i64 a0_2) ∧ w'.cell? ⟨gb203, 3, none⟩ = some (.int .i64 a0_3)) (ds := []) #[false, false, false, false, false, false, false, false, false, false, false, false, false] (by kernel_rfl) rfl rfl ⟨(blk_cell BK203.out 0).trans rfl, (blk_cell BK203.out 1).trans rfl, (blk_cell BK203.out 2).trans rfl, (blk_cell BK203.out 3).trans rfl⟩ (fun hHeld => ?_); refine with_tabW impl_signatureOf.tab1 impl_signatureOf.bits1 (fun HT_ HW_ => ?_)
  generalize w6.drew = w7 at BK203 BK204 HB hHeld ⊢
  refine pure_ (i := 0) (N := some 3) (v := ?_) (a' := ?_) #[true, false, false, false, false, false, false, false, false, false, false, false, false] rfl rfl (any_of HT_.out (by kernel_rfl)) (fun _ _ _ h => h) (Or.inl ⟨by rfl, ?_⟩) ?_ ?_
  rotate_left
  · intro w'
    go_simp
    with_reducible rfl
  rotate_left
  · simp only [Act.put, List.setIfInBounds_toArray, List.set_cons_zero, List.set_cons_succ, i64_w, i32_w]
    rfl
  refine pure_ (i := 2) (N := some 5) (v := ?_) (a' := ?_) #[true, false, true, false, false, false, false, false, false, false, false, false, false] rfl rfl (any_of HT_.out (by kernel_rfl)) (fun _ _ _ h => h) (Or.inl ⟨by rfl, ?_⟩) ?_ ?_
  rotate_left
  · intro w'
    go_simp
    with_reducible rfl
  rotate_left
  · simp only [Act.put, List.setIfInBounds_toArray, List.set_cons_zero, List.set_cons_succ, i64_w, i32_w]
    rfl
  refine pure_ (i := 4) (N := some 7) (v := ?_) (a' := ?_) #[true, false, true, false, true, false, false, false, false, false, false, false, false] rfl rfl (any_of HT_.out (by kernel_rfl)) (fun _ _ _ h => h) (Or.inl ⟨by rfl, ?_⟩) ?_ ?_
  rotate_left
  · intro w'
    go_simp
    with_reducible rfl
  rotate_left
  · simp only [Act.put, List.setIfInBounds_toArray, List.set_cons_zero, List.set_cons_succ, i64_w, i32_w]
    rfl
  refine pure_ (i := 7) (N := some 10) (v := ?_) (a' := ?_) #[true, false, true, false, true, false, false, true, false, false, false, false, false] rfl rfl (any_of HT_.out (by kernel_rfl)) (fun _ _ _ h => h) (Or.inl ⟨by rfl, ?_⟩) ?_ ?_
  rotate_left
  · intro w'
    go_simp
    with_reducible rfl
  rotate_left
  · simp only [Act.put, List.setIfInBounds_toArray, List.set_cons_zero, List.set_cons_succ, i64_w, i32_w]
    rfl
  refine take_ (i := 1) (N := some 4) (v := ?_) (a' := ?_) #[true, true, true, false, true, false, false, true, false, false, false, false, false] rfl rfl (take_ofW HT_.out HW_.out (by kernel_rfl)) (fun _ _ _ h => h) (Or.inl ⟨by rfl, ?_⟩) hHeld ?_ ?_
  rotate_left
  · rintro w' ⟨s0, s1, s2, s3⟩
    go_simp
    with_reducible rfl
  rotate_left
  · simp only [Act.put, List.setIfInBounds_toArray, List.set_cons_zero, List.set_cons_succ, i64_w, i32_w]
    rfl
  refine take_ (i := 3) (N := some 6) (v := ?_) (a' := ?_) #[true, true, true, true, true, false, false, true, false, false, false, false, false] rfl rfl (take_ofW HT_.out HW_.out (by kernel_rfl)) (fun _ _ _ h => h) (Or.inl ⟨by rfl, ?_⟩) hHeld ?_ ?_
  rotate_left
  · rintro w' ⟨s0, s1, s2, s3⟩
    go_simp
    with_reducible rfl
  rotate_left
  · simp only [Act.put, List.setIfInBounds_toArray, List.set_cons_zero, List.set_cons_succ, i64_w, i32_w]
    rfl
  refine take_ (i := 5) (N := some 8) (v := ?_) (a' := ?_) #[true, true, true, true, true, true, false, true, false, false, false, false, false] rfl rfl (take_ofW HT_.out HW_.out (by kernel_rfl)) (fun _ _ _ h => h) (Or.inl ⟨by rfl, ?_⟩) hHeld ?_ ?_
  rotate_left
  · rintro w' ⟨s0, s1, s2, s3⟩
    go_simp
    with_reducible rfl
  rotate_left
  · simp only [Act.put, List.setIfInBounds_toArray, List.set_cons_zero, List.set_cons_succ, i64_w, i32_w]
    rfl
  refine take_ (i := 8) (N := some 11) (v := ?_) (a' := ?_) #[true, true, true, true, true, true, false, true, true, false, false, false, false] rfl rfl (take_ofW HT_.out HW_.out (by kernel_rfl)) (fun _ _ _ h => h) (Or.inl ⟨by rfl, ?_⟩) hHeld ?_ ?_
  rotate_left
  · rintro w' ⟨s0, s1, s2, s3⟩
    go_simp
    with_reducible rfl
  rotate_left
  · simp only [Act.put, List.setIfInBounds_toArray, List.set_cons_zero, List.set_cons_succ, i64_w, i32_w]
    rfl
  refine one_ (i := 6) (N := some 9) #[true, true, true, true, true, true, true, true, true, false, false, false, false] rfl rfl (one_of HT_.out (by kernel_rfl)) (by decide) (fun K hK => ?_)
  refine goes_ Tryd.func53 (by kernel_rfl) rfl #[.int .i64 a0_2, .int .i64 0] (by rfl) rfl rfl (by (try simp only [List.map_toArray, List.map_cons, List.map_nil]); first | done | rfl | (simp only [List.length_drop, List.length_take]; rfl)) ?_
  with_reducible refine (zztime_Unix.calls a0_2 0 t205 t206 t207 _ A2.out).mono ?_
  rintro e w8 ⟨rfl, hb⟩
  refine ⟨_, rfl, ?_⟩
  have n0_ := Aside0.mk (blk_below (g := gb203) (o := .cells #[.string a0_0, .string a0_1, .int .i64 a0_2, .int .i64 a0_3] 30 (0, 0)) (by (with_reducible repeat (first | refine blk_drewN ?_ _ | refine blk_drew ?_ | refine blk_alloc ?_ _)); exact BK203.out) hb)
  have n1_ := Aside0.mk (blk_below (g := gb204) (o := .cells #[.string (⟨#[]⟩ : ByteArray), .string (⟨#[]⟩ : ByteArray), .int .i64 0, .int .i64 0, .int .i64 0] 75 (0, 0)) (by (with_reducible repeat (first | refine blk_drewN ?_ _ | refine blk_drew ?_ | refine blk_alloc ?_ _)); exact BK204.out) hb)
  have n2_ := Aside0.mk (below_step (by repeat (first | (with_reducible first | exact HB.out | apply below_alloc | apply pw_below_drewN | apply below_drew1 | refine below_set ?_ GE203.out | refine below_set ?_ GE204.out) | exact HB.out)) hb)
  clear BK203
  clear BK204
  clear HB
  have BK203 := n0_
  have BK204 := n1_
  have HB := n2_
  clear n0_ n1_ n2_
  (try clear hb)
  (try clear hb2)
  (try clear hk)
  (try clear hi)
  refine hK.out _ _ ⟨(blk_cell BK203.out 0).trans rfl, (blk_cell BK203.out 1).trans rfl, (blk_cell BK203.out 2).trans rfl, (blk_cell BK203.out 3).trans rfl⟩ (fun hHeld => ?_)
  clear hK K
  refine norm_ (a' := ?_) ?_ ?_
  rotate_left
  · show Act.put _ (some 9) _ = _
    simp only [Act.put, List.setIfInBounds_toArray, List.set_cons_zero, List.set_cons_succ, i64_w, i32_w]
    rfl
  refine one_ (i := 9) (N := some 12) #[true, true, true, true, true, true, true, true, true, true, false, false, false] rfl rfl (one_of HT_.out (by kernel_rfl)) (by decide) (fun K hK => ?_)
  refine goes_ Tryd.func55 (by kernel_rfl) rfl #[.string (⟨#[]⟩ : ByteArray), .int .i64 a0_3] (by rfl) rfl rfl (by (try simp only [List.map_toArray, List.map_cons, List.map_nil]); first | done | rfl | (simp only [List.length_drop, List.length_take]; rfl)) ?_
  with_reducible refine (zztime_FixedZone.calls (⟨#[]⟩ : ByteArray) a0_3 t208 _ A3.out).mono ?_
  rintro e w9 ⟨rfl, hb⟩
  refine ⟨_, rfl, ?_⟩
  have n0_ := Aside0.mk (blk_below (g := gb203) (o := .cells #[.string a0_0, .string a0_1, .int .i64 a0_2, .int .i64 a0_3] 30 (0, 0)) (by (with_reducible repeat (first | refine blk_drewN ?_ _ | refine blk_drew ?_ | refine blk_alloc ?_ _)); exact BK203.out) hb)
  have n1_ := Aside0.mk (blk_below (g := gb204) (o := .cells #[.string (⟨#[]⟩ : ByteArray), .string (⟨#[]⟩ : ByteArray), .int .i64 0, .int .i64 0, .int .i64 0] 75 (0, 0)) (by (with_reducible repeat (first | refine blk_drewN ?_ _ | refine blk_drew ?_ | refine blk_alloc ?_ _)); exact BK204.out) hb)
  have n2_ := Aside0.mk (below_step (by repeat (first | (with_reducible first | exact HB.out | apply below_alloc | apply pw_below_drewN | apply below_drew1 | refine below_set ?_ GE203.out | refine below_set ?_ GE204.out) | exact HB.out)) hb)
  clear BK203
  clear BK204
  clear HB
  have BK203 := n0_
  have BK204 := n1_
  have HB := n2_
  clear n0_ n1_ n2_
  (try clear hb)
  (try clear hb2)
  (try clear hk)
  (try clear hi)
  refine hK.out _ _ ⟨(blk_cell BK203.out 0).trans rfl, (blk_cell BK203.out 1).trans rfl, (blk_cell BK203.out 2).trans rfl, (blk_cell BK203.out 3).trans rfl⟩ (fun hHeld => ?_)
  clear hK K
  refine norm_ (a' := ?_) ?_ ?_
  rotate_left
  · show Act.put _ (some 12) _ = _
    simp only [Act.put, List.setIfInBounds_toArray, List.set_cons_zero, List.set_cons_succ, i64_w, i32_w]
    rfl
  refine one_ (i := 10) (N := some 13) #[true, true, true, true, true, true, true, true, true, true, true, false, false] rfl rfl (one_of HT_.out (by kernel_rfl)) (by decide) (fun K hK => ?_)
  refine goes_ Tryd.func54 (by kernel_rfl) rfl #[.agg #[.int .i64 t205, .int .i64 t206, .int .i64 t207], .agg #[.int .i64 t208]] (by rfl) rfl rfl (by (try simp only [List.map_toArray, List.map_cons, List.map_nil]); first | done | rfl | (simp only [List.length_drop, List.length_take]; rfl)) ?_
  with_reducible refine (zztime_Time_In.calls t205 t206 t207 t208 t209 t210 t211 _ A4.out).mono ?_
  rintro e w10 ⟨rfl, hb⟩
  refine ⟨_, rfl, ?_⟩
  have n0_ := Aside0.mk (blk_below (g := gb203) (o := .cells #[.string a0_0, .string a0_1, .int .i64 a0_2, .int .i64 a0_3] 30 (0, 0)) (by (with_reducible repeat (first | refine blk_drewN ?_ _ | refine blk_drew ?_ | refine blk_alloc ?_ _)); exact BK203.out) hb)
  have n1_ := Aside0.mk (blk_below (g := gb204) (o := .cells #[.string (⟨#[]⟩ : ByteArray), .string (⟨#[]⟩ : ByteArray), .int .i64 0, .int .i64 0, .int .i64 0] 75 (0, 0)) (by (with_reducible repeat (first | refine blk_drewN ?_ _ | refine blk_drew ?_ | refine blk_alloc ?_ _)); exact BK204.out) hb)
  have n2_ := Aside0.mk (below_step (by repeat (first | (with_reducible first | exact HB.out | apply below_alloc | apply pw_below_drewN | apply below_drew1 | refine below_set ?_ GE203.out | refine below_set ?_ GE204.out) | exact HB.out)) hb)
  clear BK203
  clear BK204
  clear HB
  have BK203 := n0_
  have BK204 := n1_
  have HB := n2_
  clear n0_ n1_ n2_
  (try clear hb)
  (try clear hb2)
  (try clear hk)
  (try clear hi)
  refine hK.out _ _ ⟨(blk_cell BK203.out 0).trans rfl, (blk_cell BK203.out 1).trans rfl, (blk_cell BK203.out 2).trans rfl, (blk_cell BK203.out 3).trans rfl⟩ (fun hHeld => ?_)
  clear hK K
  refine norm_ (a' := ?_) ?_ ?_
  rotate_left
  · show Act.put _ (some 13) _ = _
    simp only [Act.put, List.setIfInBounds_toArray, List.set_cons_zero, List.set_cons_succ, i64_w, i32_w]
    rfl
  refine pure_ (i := 11) (N := some 14) (v := ?_) (a' := ?_) #[true, true, true, true, true, true, true, true, true, true, true, true, false] rfl rfl (any_of HT_.out (by kernel_rfl)) (fun _ _ _ h => h) (Or.inl ⟨by rfl, ?_⟩) ?_ ?_
  rotate_left
  · intro w'
    go_simp
    with_reducible rfl
  rotate_left
  · simp only [Act.put, List.setIfInBounds_toArray, List.set_cons_zero, List.set_cons_succ, i64_w, i32_w]
    rfl
  refine one_ (i := 12) (N := none) #[true, true, true, true, true, true, true, true, true, true, true, true, true] rfl rfl (one_of HT_.out (by kernel_rfl)) (by decide) (fun K hK => ?_)
  have hs11 : w10.cell? ⟨gb204, 0, none⟩ = some (.string (⟨#[]⟩ : ByteArray)) := (blk_cell BK204.out 0).trans rfl
  have hfs11 := blk_frozen BK204.out 0
  have hns11_0 := NB203_204.out
  have hms11_0 := NB204_203.out
  have hs12 : w10.cell? ⟨gb204, 1, none⟩ = some (.string (⟨#[]⟩ : ByteArray)) := (blk_cell BK204.out 1).trans rfl
  have hfs12 := blk_frozen BK204.out 1
  have hns12_0 := NB203_204.out
  have hms12_0 := NB204_203.out
  have hs13 : w10.cell? ⟨gb204, 2, none⟩ = some (.int .i64 0) := (blk_cell BK204.out 2).trans rfl
  have hfs13 := blk_frozen BK204.out 2
  have hns13_0 := NB203_204.out
  have hms13_0 := NB204_203.out
  have hs14 : w10.cell? ⟨gb204, 3, none⟩ = some (.int .i64 0) := (blk_cell BK204.out 3).trans rfl
  have hfs14 := blk_frozen BK204.out 3
  have hns14_0 := NB203_204.out
  have hms14_0 := NB204_203.out
  have hs15 : w10.cell? ⟨gb204, 4, none⟩ = some (.int .i64 0) := (blk_cell BK204.out 4).trans rfl
  have hfs15 := blk_frozen BK204.out 4
  have hns15_0 := NB203_204.out
  have hms15_0 := NB204_203.out
  refine skip_ (w1 := ?_) (by rfl) rfl ?_ ?_
  rotate_left
  · go_simp
    rfl
  refine hK.out _ _ ⟨((cell_far (p := ⟨gb204, _, none⟩) NB203_204.out _).trans (((cell_far (p := ⟨gb204, _, none⟩) NB203_204.out _).trans (((cell_far (p := ⟨gb204, _, none⟩) NB203_204.out _).trans (((cell_far (p := ⟨gb204, _, none⟩) NB203_204.out _).trans (((cell_far (p := ⟨gb204, _, none⟩) NB203_204.out _).trans (hHeld.1)))))))))), ((cell_far (p := ⟨gb204, _, none⟩) NB203_204.out _).trans (((cell_far (p := ⟨gb204, _, none⟩) NB203_204.out _).trans (((cell_far (p := ⟨gb204, _, none⟩) NB203_204.out _).trans (((cell_far (p := ⟨gb204, _, none⟩) NB203_204.out _).trans (((cell_far (p := ⟨gb204, _, none⟩) NB203_204.out _).trans (hHeld.2.1)))))))))), ((cell_far (p := ⟨gb204, _, none⟩) NB203_204.out _).trans (((cell_far (p := ⟨gb204, _, none⟩) NB203_204.out _).trans (((cell_far (p := ⟨gb204, _, none⟩) NB203_204.out _).trans (((cell_far (p := ⟨gb204, _, none⟩) NB203_204.out _).trans (((cell_far (p := ⟨gb204, _, none⟩) NB203_204.out _).trans (hHeld.2.2.1)))))))))), ((cell_far (p := ⟨gb204, _, none⟩) NB203_204.out _).trans (((cell_far (p := ⟨gb204, _, none⟩) NB203_204.out _).trans (((cell_far (p := ⟨gb204, _, none⟩) NB203_204.out _).trans (((cell_far (p := ⟨gb204, _, none⟩) NB203_204.out _).trans (((cell_far (p := ⟨gb204, _, none⟩) NB203_204.out _).trans (hHeld.2.2.2))))))))))⟩ (fun hHeld => ?_)
  clear hK K
  refine done_ (done_of HT_.out (by kernel_rfl)) ?_
  try go_wp2
  refine bodyPost_ret (results_cell_row rfl _ _ gb204 75 #[.string a0_0, .string a0_1, .int .i64 t209, .int .i64 t210, .int .i64 t211] (0, 0) _ rfl (by (with_reducible repeat (first | refine blk_drewN ?_ _ | refine blk_drew ?_ | refine blk_alloc ?_ _)); refine blk_put (cs := #[.string a0_0, .string a0_1, .int .i64 t209, .int .i64 t210, .int .i64 0]) ?_ 4 _ rfl; (with_reducible repeat (first | refine blk_drewN ?_ _ | refine blk_drew ?_ | refine blk_alloc ?_ _)); refine blk_put (cs := #[.string a0_0, .string a0_1, .int .i64 t209, .int .i64 0, .int .i64 0]) ?_ 3 _ rfl; (with_reducible repeat (first | refine blk_drewN ?_ _ | refine blk_drew ?_ | refine blk_alloc ?_ _)); refine blk_put (cs := #[.string a0_0, .string a0_1, .int .i64 0, .int .i64 0, .int .i64 0]) ?_ 2 _ rfl; (with_reducible repeat (first | refine blk_drewN ?_ _ | refine blk_drew ?_ | refine blk_alloc ?_ _)); refine blk_put (cs := #[.string a0_0, .string (⟨#[]⟩ : ByteArray), .int .i64 0, .int .i64 0, .int .i64 0]) ?_ 1 _ rfl; (with_reducible repeat (first | refine blk_drewN ?_ _ | refine blk_drew ?_ | refine blk_alloc ?_ _)); refine blk_put (cs := #[.string (⟨#[]⟩ : ByteArray), .string (⟨#[]⟩ : ByteArray), .int .i64 0, .int .i64 0, .int .i64 0]) ?_ 0 _ rfl; (with_reducible repeat (first | refine blk_drewN ?_ _ | refine blk_drew ?_ | refine blk_alloc ?_ _)); exact BK204.out) Tryd.underlying75 rfl (by kernel_rfl)) rfl ?_
  exact ⟨by first | rfl | (simp [errW_none, errW_some] <;> rfl) | (simp [*, errW_none, errW_some] <;> rfl), by repeat (first | (with_reducible first | exact HB.out | apply below_alloc | apply pw_below_drewN | apply below_drew1 | refine below_set ?_ GE203.out | refine below_set ?_ GE204.out) | exact HB.out)⟩

/-! ### zztime_Time_IsZero: function 80 -/
def zztime_Time_IsZero.f (a0_0 : Int) (a0_1 : Int) (a0_2 : Int) : Option (Bool) := if a0_0 = 0 then (some (a0_1 == 0)) else (some false)
set_option maxHeartbeats 8000000 in
set_option maxRecDepth 100000 in
theorem zztime_Time_IsZero.calls (a0_0 : Int) (a0_1 : Int) (a0_2 : Int) (r : Bool) (w : World) (h : zztime_Time_IsZero.f a0_0 a0_1 a0_2 = some r) :
    Calls Tryd.prog 80 #[.agg #[.int .i64 a0_0, .int .i64 a0_1, .int .i64 a0_2]] w fun e w' => e = .returned (.bool r) ∧ Below w.heap.size w w' := by
  have hu73 := Tryd.underlying73
  have HB := Aside0.mk (Below.refl w.heap.size w)
  have H : (if a0_0 = 0 then (some (a0_1 == 0)) else (some false)) = some r := h
  clear h
  by_cases c2 : a0_0 = 0
  · rw [if_pos c2] at H
    have c2b0 : (a0_0 == 0) = true := beq_iff_eq.mpr c2
    have c2b1 : (a0_0 != 0) = false := bne_eq_false_iff_eq.mpr c2
    clear c2
    obtain rfl := Option.some.inj H
    go_enter Tryd.func80, Tryd.ntmps80
    go_wp2_with (first | ((with_reducible refine gate_dst (N := 1) rfl ?_); refine box_event ?hg (N := 1) ?hd (cs := #[.int .i64 a0_0, .int .i64 a0_1, .int .i64 a0_2]) (t := 73) ?hr ?_; (case hd => rfl); (case hg => rfl); (case hr => first | (go_simp; done) | (go_simp; rfl)); intro gb212 hg w3 hbox hb; have n0_ := Aside0.mk (below_step (by repeat (first | (with_reducible first | exact HB.out | apply below_alloc | apply pw_below_drewN | apply below_drew1) | exact HB.out)) hb); have n1_ := Aside0.mk (hbox); have n2_ := Aside0.mk ((by rw [hg]; exact (below_size (by repeat (first | (with_reducible first | exact HB.out | apply below_alloc | apply pw_below_drewN | apply below_drew1) | exact HB.out))) : w.heap.size ≤ gb212)); have n3_ := Aside0.mk ((by rw [hg]; exact (below_size (by repeat (first | (with_reducible first | exact HB.out | apply below_alloc | apply pw_below_drewN | apply below_drew1) | exact HB.out))) : w.heap.size ≤ gb212)); clear HB; have HB := n0_; have BK212 := n1_; have GW212 := n2_; have GE212 := n3_; clear n0_ n1_ n2_ n3_; clear hb hbox hg; have hcz4_0 : w3.cell? ⟨gb212, 0, none⟩ = some (.int .i64 a0_0) := (blk_cell BK212.out 0).trans rfl; have hcz4_1 : w3.cell? ⟨gb212, 1, none⟩ = some (.int .i64 a0_1) := (blk_cell BK212.out 1).trans rfl; have hcz4_2 : w3.cell? ⟨gb212, 2, none⟩ = some (.int .i64 a0_2) := (blk_cell BK212.out 2).trans rfl; have hfz4_0 := blk_frozen BK212.out 0; have hfz4_1 := blk_frozen BK212.out 1; have hfz4_2 := blk_frozen BK212.out 2))
    go_ret
    exact ⟨by first | rfl | (simp [errW_none, errW_some] <;> rfl) | (simp [*, errW_none, errW_some] <;> rfl), by repeat (first | (with_reducible first | exact HB.out | apply below_alloc | apply pw_below_drewN | apply below_drew1 | refine below_set ?_ GE212.out) | exact HB.out)⟩
  · rw [if_neg c2] at H
    have c2b0 : (a0_0 == 0) = false := beq_eq_false_iff_ne.mpr c2
    have c2b1 : (a0_0 != 0) = true := bne_iff_ne.mpr c2
    obtain rfl := Option.some.inj H
    go_enter Tryd.func80, Tryd.ntmps80
    go_wp2_with (first | ((with_reducible refine gate_dst (N := 1) rfl ?_); refine box_event ?hg (N := 1) ?hd (cs := #[.int .i64 a0_0, .int .i64 a0_1, .int .i64 a0_2]) (t := 73) ?hr ?_; (case hd => rfl); (case hg => rfl); (case hr => first | (go_simp; done) | (go_simp; rfl)); intro gb212 hg w5 hbox hb; have n0_ := Aside0.mk (below_step (by repeat (first | (with_reducible first | exact HB.out | apply below_alloc | apply pw_below_drewN | apply below_drew1) | exact HB.out)) hb); have n1_ := Aside0.mk (hbox); have n2_ := Aside0.mk ((by rw [hg]; exact (below_size (by repeat (first | (with_reducible first | exact HB.out | apply below_alloc | apply pw_below_drewN | apply below_drew1) | exact HB.out))) : w.heap.size ≤ gb212)); have n3_ := Aside0.mk ((by rw [hg]; exact (below_size (by repeat (first | (with_reducible first | exact HB.out | apply below_alloc | apply pw_below_drewN | apply below_drew1) | exact HB.out))) : w.heap.size ≤ gb212)); clear HB; have HB := n0_; have BK212 := n1_; have GW212 := n2_; have GE212 := n3_; clear n0_ n1_ n2_ n3_; clear hb hbox hg; have hcz6_0 : w5.cell? ⟨gb212, 0, none⟩ = some (.int .i64 a0_0) := (blk_cell BK212.out 0).trans rfl; have hcz6_1 : w5.cell? ⟨gb212, 1, none⟩ = some (.int .i64 a0_1) := (blk_cell BK212.out 1).trans rfl; have hcz6_2 : w5.cell? ⟨gb212, 2, none⟩ = some (.int .i64 a0_2) := (blk_cell BK212.out 2).trans rfl; have hfz6_0 := blk_frozen BK212.out 0; have hfz6_1 := blk_frozen BK212.out 1; have hfz6_2 := blk_frozen BK212.out 2))
    go_ret
    exact ⟨by first | rfl | (simp [errW_none, errW_some] <;> rfl) | (simp [*, errW_none, errW_some] <;> rfl), by repeat (first | (with_reducible first | exact HB.out | apply below_alloc | apply pw_below_drewN | apply below_drew1 | refine below_set ?_ GE212.out) | exact HB.out)⟩

/-! ### object_isZeroSignature: function 66 -/
def object_isZeroSignature.f (a0_0 : ByteArray) (a0_1 : ByteArray) (a0_2 : Int) (a0_3 : Int) (a0_4 : Int) : Option (Bool) := if a0_0.toList = ([] : List UInt8) then (if a0_1.toList = ([] : List UInt8) then ((zztime_Time_IsZero.f a0_2 a0_3 a0_4).bind fun t214 => (some t214)) else (some false)) else (some false)
set_option maxHeartbeats 8000000 in
set_option maxRecDepth 100000 in
theorem object_isZeroSignature.calls (a0_0 : ByteArray) (a0_1 : ByteArray) (a0_2 : Int) (a0_3 : Int) (a0_4 : Int) (r : Bool) (w : World) (h : object_isZeroSignature.f a0_0 a0_1 a0_2 a0_3 a0_4 = some r) :
    Calls Tryd.prog 66 #[.agg #[.string a0_0, .string a0_1, .int .i64 a0_2, .int .i64 a0_3, .int .i64 a0_4]] w fun e w' => e = .returned (.bool r) ∧ Below w.heap.size w w' := by
  have hu75 := Tryd.underlying75
  have hu73 := Tryd.underlying73
  have HB := Aside0.mk (Below.refl w.heap.size w)
  have H : (if a0_0.toList = ([] : List UInt8) then (if a0_1.toList = ([] : List UInt8) then ((zztime_Time_IsZero.f a0_2 a0_3 a0_4).bind fun t214 => (some t214)) else (some false)) else (some false)) = some r := h
  clear h
  by_cases c2 : a0_0.toList = ([] : List UInt8)
  · rw [if_pos c2] at H
    have c2b0 : (a0_0.toList == ([] : List UInt8)) = true := beq_iff_eq.mpr c2
    have c2b1 : (a0_0.toList != ([] : List UInt8)) = false := bne_eq_false_iff_eq.mpr c2
    clear c2
    by_cases c3 : a0_1.toList = ([] : List UInt8)
    · rw [if_pos c3] at H
      have c3b0 : (a0_1.toList == ([] : List UInt8)) = true := beq_iff_eq.mpr c3
      have c3b1 : (a0_1.toList != ([] : List UInt8)) = false := bne_eq_false_iff_eq.mpr c3
      clear c3
      replace H := Option.bind_eq_some_iff.mp H
      obtain ⟨t214, A40, H⟩ := H
      replace H : (some t214) = some r := H
      have A4 := Aside0.mk A40
      clear A40
      obtain rfl := Option.some.inj H
      go_enter Tryd.func66, Tryd.ntmps66
      go_wp2_with (first | ((with_reducible refine gate_dst (N := 1) rfl ?_); refine box_event ?hg (N := 1) ?hd (cs := #[.string a0_0, .string a0_1, .int .i64 a0_2, .int .i64 a0_3, .int .i64 a0_4]) (t := 75) ?hr ?_; (case hd => rfl); (case hg => rfl); (case hr => first | (go_simp; done) | (go_simp; rfl)); intro gb213 hg w5 hbox hb; have n0_ := Aside0.mk (below_step (by repeat (first | (with_reducible first | exact HB.out | apply below_alloc | apply pw_below_drewN | apply below_drew1) | exact HB.out)) hb); have n1_ := Aside0.mk (hbox); have n2_ := Aside0.mk ((by rw [hg]; exact (below_size (by repeat (first | (with_reducible first | exact HB.out | apply below_alloc | apply pw_below_drewN | apply below_drew1) | exact HB.out))) : w.heap.size ≤ gb213)); have n3_ := Aside0.mk ((by rw [hg]; exact (below_size (by repeat (first | (with_reducible first | exact HB.out | apply below_alloc | apply pw_below_drewN | apply below_drew1) | exact HB.out))) : w.heap.size ≤ gb213)); clear HB; have HB := n0_; have BK213 := n1_; have GW213 := n2_; have GE213 := n3_; clear n0_ n1_ n2_ n3_; clear hb hbox hg; have hcz6_0 : w5.cell? ⟨gb213, 0, none⟩ = some (.string a0_0) := (blk_cell BK213.out 0).trans rfl; have hcz6_1 : w5.cell? ⟨gb213, 1, none⟩ = some (.string a0_1) := (blk_cell BK213.out 1).trans rfl; have hcz6_2 : w5.cell? ⟨gb213, 2, none⟩ = some (.int .i64 a0_2) := (blk_cell BK213.out 2).trans rfl; have hcz6_3 : w5.cell? ⟨gb213, 3, none⟩ = some (.int .i64 a0_3) := (blk_cell BK213.out 3).trans rfl; have hcz6_4 : w5.cell? ⟨gb213, 4, none⟩ = some (.int .i64 a0_4) := (blk_cell BK213.out 4).trans rfl; have hfz6_0 := blk_frozen BK213.out 0; have hfz6_1 := blk_frozen BK213.out 1; have hfz6_2 := blk_frozen BK213.out 2; have hfz6_3 := blk_frozen BK213.out 3; have hfz6_4 := blk_frozen BK213.out 4) | (go_at_call 80; (with_reducible refine (zztime_Time_IsZero.calls a0_2 a0_3 a0_4 t214 _ A4.out).mono ?_); rintro e w7 ⟨rfl, hb⟩; have n0_ := Aside0.mk (blk_below (g := gb213) (o := .cells #[.string a0_0, .string a0_1, .int .i64 a0_2, .int .i64 a0_3, .int .i64 a0_4] 75 (0, 0)) (by (with_reducible repeat (first | refine blk_drewN ?_ _ | refine blk_drew ?_ | refine blk_alloc ?_ _)); exact BK213.out) hb); have n1_ := Aside0.mk (below_step (by repeat (first | (with_reducible first | exact HB.out | apply below_alloc | apply pw_below_drewN | apply below_drew1 | refine below_set ?_ GE213.out) | exact HB.out)) hb); clear BK213; clear HB; have BK213 := n0_; have HB := n1_; clear n0_ n1_; (try clear hb); (try clear hb2); (try clear hk); (try clear hi)))
      go_ret
      exact ⟨by first | rfl | (simp [errW_none, errW_some] <;> rfl) | (simp [*, errW_none, errW_some] <;> rfl), by repeat (first | (with_reducible first | exact HB.out | apply below_alloc | apply pw_below_drewN | apply below_drew1 | refine below_set ?_ GE213.out) | exact HB.out)⟩
    · rw [if_neg c3] at H
      have c3b0 : (a0_1.toList == ([] : List UInt8)) = false := beq_eq_false_iff_ne.mpr c3
      have c3b1 : (a0_1.toList != ([] : List UInt8)) = true := bne_iff_ne.mpr c3
      obtain rfl := Option.some.inj H
      go_enter Tryd.func66, Tryd.ntmps66
      go_wp2_with (first | ((with_reducible refine gate_dst (N := 1) rfl ?_); refine box_event ?hg (N := 1) ?hd (cs := #[.string a0_0, .string a0_1, .int .i64 a0_2, .int .i64 a0_3, .int .i64 a0_4]) (t := 75) ?hr ?_; (case hd => rfl); (case hg => rfl); (case hr => first | (go_simp; done) | (go_simp; rfl)); intro gb213 hg w8 hbox hb; have n0_ := Aside0.mk (below_step (by repeat (first | (with_reducible first | exact HB.out | apply below_alloc | apply pw_below_drewN | apply below_drew1) | exact HB.out)) hb); have n1_ := Aside0.mk (hbox); have n2_ := Aside0.mk ((by rw [hg]; exact (below_size (by repeat (first | (with_reducible first | exact HB.out | apply below_alloc | apply pw_below_drewN | apply below_drew1) | exact HB.out))) : w.heap.size ≤ gb213)); have n3_ := Aside0.mk ((by rw [hg]; exact (below_size (by repeat (first | (with_reducible first | exact HB.out | apply below_alloc | apply pw_below_drewN | apply below_drew1) | exact HB.out))) : w.heap.size ≤ gb213)); clear HB; have HB := n0_; have BK213 := n1_; have GW213 := n2_; have GE213 := n3_; clear n0_ n1_ n2_ n3_; clear hb hbox hg; have hcz9_0 : w8.cell? ⟨gb213, 0, none⟩ = some (.string a0_0) := (blk_cell BK213.out 0).trans rfl; have hcz9_1 : w8.cell? ⟨gb213, 1, none⟩ = some (.string a0_1) := (blk_cell BK213.out 1).trans rfl; have hcz9_2 : w8.cell? ⟨gb213, 2, none⟩ = some (.int .i64 a0_2) := (blk_cell BK213.out 2).trans rfl; have hcz9_3 : w8.cell? ⟨gb213, 3, none⟩ = some (.int .i64 a0_3) := (blk_cell BK213.out 3).trans rfl; have hcz9_4 : w8.cell? ⟨gb213, 4, none⟩ = some (.int .i64 a0_4) := (blk_cell BK213.out 4).trans rfl; have hfz9_0 := blk_frozen BK213.out 0; have hfz9_1 := blk_frozen BK213.out 1; have hfz9_2 := blk_frozen BK213.out 2; have hfz9_3 := blk_frozen BK213.out 3; have hfz9_4 := blk_frozen BK213.out 4))
      go_ret
      exact ⟨by first | rfl | (simp [errW_none, errW_some] <;> rfl) | (simp [*, errW_none, errW_some] <;> rfl), by repeat (first | (with_reducible first | exact HB.out | apply below_alloc | apply pw_below_drewN | apply below_drew1 | refine below_set ?_ GE213.out) | exact HB.out)⟩
  · rw [if_neg c2] at H
    have c2b0 : (a0_0.toList == ([] : List UInt8)) = false := beq_eq_false_iff_ne.mpr c2
    have c2b1 : (a0_0.toList != ([] : List UInt8)) = true := bne_iff_ne.mpr c2
    obtain rfl := Option.some.inj H
    go_enter Tryd.func66, Tryd.ntmps66
    go_wp2_with (first | ((with_reducible refine gate_dst (N := 1) rfl ?_); refine box_event ?hg (N := 1) ?hd (cs := #[.string a0_0, .string a0_1, .int .i64 a0_2, .int .i64 a0_3, .int .i64 a0_4]) (t := 75) ?hr ?_; (case hd => rfl); (case hg => rfl); (case hr => first | (go_simp; done) | (go_simp; rfl)); intro gb213 hg w10 hbox hb; have n0_ := Aside0.mk (below_step (by repeat (first | (with_reducible first | exact HB.out | apply below_alloc | apply pw_below_drewN | apply below_drew1) | exact HB.out)) hb); have n1_ := Aside0.mk (hbox); have n2_ := Aside0.mk ((by rw [hg]; exact (below_size (by repeat (first | (with_reducible first | exact HB.out | apply below_alloc | apply pw_below_drewN | apply below_drew1) | exact HB.out))) : w.heap.size ≤ gb213)); have n3_ := Aside0.mk ((by rw [hg]; exact (below_size (by repeat (first | (with_reducible first | exact HB.out | apply below_alloc | apply pw_below_drewN | apply below_drew1) | exact HB.out))) : w.heap.size ≤ gb213)); clear HB; have HB := n0_; have BK213 := n1_; have GW213 := n2_; have GE213 := n3_; clear n0_ n1_ n2_ n3_; clear hb hbox hg; have hcz11_0 : w10.cell? ⟨gb213, 0, none⟩ = some (.string a0_0) := (blk_cell BK213.out 0).trans rfl; have hcz11_1 : w10.cell? ⟨gb213, 1, none⟩ = some (.string a0_1) := (blk_cell BK213.out 1).trans rfl; have hcz11_2 : w10.cell? ⟨gb213, 2, none⟩ = some (.int .i64 a0_2) := (blk_cell BK213.out 2).trans rfl; have hcz11_3 : w10.cell? ⟨gb213, 3, none⟩ = some (.int .i64 a0_3) := (blk_cell BK213.out 3).trans rfl; have hcz11_4 : w10.cell? ⟨gb213, 4, none⟩ = some (.int .i64 a0_4) := (blk_cell BK213.out 4).trans rfl; have hfz11_0 := blk_frozen BK213.out 0; have hfz11_1 := blk_frozen BK213.out 1; have hfz11_2 := blk_frozen BK213.out 2; have hfz11_3 := blk_frozen BK213.out 3; have hfz11_4 := blk_frozen BK213.out 4))
    go_ret
    exact ⟨by first | rfl | (simp [errW_none, errW_some] <;> rfl) | (simp [*, errW_none, errW_some] <;> rfl), by repeat (first | (with_reducible first | exact HB.out | apply below_alloc | apply pw_below_drewN | apply below_drew1 | refine below_set ?_ GE213.out) | exact HB.out)⟩

end Go.Proofs.YtddnepddilbikaaDoor.QAll
