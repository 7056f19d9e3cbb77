-- WRITTEN BY A PROGRAM OF THIS SESSION, out of the loaded program, with words of the kit
import Derived.Test.YtddnepddilbikaaDoorQAllx0
import Derived.Test.YtddnepddilbikaaDoorQAllx1
import Derived.Test.YtddnepddilbikaaDoorQAllx4
namespace Go.Proofs.YtddnepddilbikaaDoor.QAll
open Go.RowKit Go.Proofs.YtddnepddilbikaaDoorW.PrintWords Go.Proofs.YtddnepddilbikaaDoorW.PrintLast Go.Proofs.YtddnepddilbikaaDoorW.PrintMore
attribute [local go_sem] max2_int min2_int max_two min_two max_three min_three max_four min_four   -- for this text's walks alone
set_option linter.unusedVariables false
set_option linter.unusedSimpArgs false

/-! ### spec_IsTag: function 12 -/
def spec_IsTag.l0 : Nat → Int → Int → ByteArray → Int → ByteArray → ByteArray → ByteArray → Int → Int → ByteArray → ByteArray → Option (Bool)
  | 0, _, _, _, _, _, _, _, _, _, _, _ => none
  | k + 1, x10, x11, x153000, x153001, x153002, x153003, x153004, x153005, x153006, x153007, x153008 => if x11 < x10 then (if 0 ≤ x11 then (if x11 < (x153007.size : Int) then (if (bt x153007 x11) = 45 then (some false) else (spec_IsTag.l0 k x10 (wrap64 (x11 + 1)) x153000 x153001 x153002 x153003 x153004 x153005 x153006 x153007 x153008)) else (none)) else (none)) else ((spec_IsName40.f k x153000).bind fun t153 => (if t153 = true then ((spec_ObName.f x153001).bind fun t154 => (if t154.toList = ([] : List UInt8) then (some false) else (if x153002.toList = ([] : List UInt8) then (some false) else ((spec_IsPlain.f k x153002).bind fun t155 => (if t155 = true then ((spec_IsWho.f k x153003 x153004 x153005 x153006).bind fun t156 => (if t156 = true then (some (x153008.toList.isEmpty)) else (some false))) else (some false)))))) else (some false)))
def spec_IsTag.f (k : Nat) (a0_0 : ByteArray) (a0_1 : Int) (a0_2 : ByteArray) (a0_3 : ByteArray) (a0_4 : ByteArray) (a0_5 : Int) (a0_6 : Int) (a0_7 : ByteArray) (a0_8 : ByteArray) : Option (Bool) := if (a0_7.size : Int) > 1000000 then (some false) else (spec_IsTag.l0 k (a0_7.size : Int) 0 a0_0 a0_1 a0_2 a0_3 a0_4 a0_5 a0_6 a0_7 a0_8)
theorem spec_IsTag.mono_l : ∀ k, (∀ y0 y1 y2 y3 y4 y5 y6 y7 y8 y9 y10, LeO (spec_IsTag.l0 k y0 y1 y2 y3 y4 y5 y6 y7 y8 y9 y10) (spec_IsTag.l0 (k + 1) y0 y1 y2 y3 y4 y5 y6 y7 y8 y9 y10))
  | 0 => fun _ _ _ _ _ _ _ _ _ _ _ r h => by simp [spec_IsTag.l0] at h
  | k + 1 => by
    have ih0 := spec_IsTag.mono_l k
    · intro y0 y1 y2 y3 y4 y5 y6 y7 y8 y9 y10
      unfold spec_IsTag.l0
      repeat' first
      | (with_reducible exact ih0 _ _ _ _ _ _ _ _ _ _ _)
      | (with_reducible exact spec_IsName40.mono _ _)
      | (with_reducible exact spec_IsPlain.mono _ _)
      | (with_reducible exact spec_IsWho.mono _ _ _ _ _)
      | (with_reducible exact LeO.refl _)
      | (with_reducible exact LeO.none _)
      | (with_reducible refine LeO.ite ?_ ?_)
      | (with_reducible refine LeO.bind ?_ (fun _ => ?_))
      | exact ih0 _ _ _ _ _ _ _ _ _ _ _
      | exact spec_IsName40.mono _ _
      | exact spec_IsPlain.mono _ _
      | exact spec_IsWho.mono _ _ _ _ _
      | exact LeO.none _
      | refine LeO.ite ?_ ?_
      | refine LeO.bind ?_ (fun _ => ?_)
theorem spec_IsTag.mono : ∀ a0 a1 a2 a3 a4 a5 a6 a7 a8 k, LeO (spec_IsTag.f k a0 a1 a2 a3 a4 a5 a6 a7 a8) (spec_IsTag.f (k + 1) a0 a1 a2 a3 a4 a5 a6 a7 a8) := by
  intro a0 a1 a2 a3 a4 a5 a6 a7 a8 k
  have ih0 := spec_IsTag.mono_l k
  unfold spec_IsTag.f
  repeat' first
      | (with_reducible exact ih0 _ _ _ _ _ _ _ _ _ _ _)
      | (with_reducible exact spec_IsName40.mono _ _)
      | (with_reducible exact spec_IsPlain.mono _ _)
      | (with_reducible exact spec_IsWho.mono _ _ _ _ _)
      | (with_reducible exact LeO.refl _)
      | (with_reducible exact LeO.none _)
      | (with_reducible refine LeO.ite ?_ ?_)
      | (with_reducible refine LeO.bind ?_ (fun _ => ?_))
      | exact ih0 _ _ _ _ _ _ _ _ _ _ _
      | exact spec_IsName40.mono _ _
      | exact spec_IsPlain.mono _ _
      | exact spec_IsWho.mono _ _ _ _ _
      | exact LeO.none _
      | refine LeO.ite ?_ ?_
      | refine LeO.bind ?_ (fun _ => ?_)
set_option maxHeartbeats 8000000 in
set_option maxRecDepth 100000 in
theorem spec_IsTag.calls (k : Nat) (a0_0 : ByteArray) (a0_1 : Int) (a0_2 : ByteArray) (a0_3 : ByteArray) (a0_4 : ByteArray) (a0_5 : Int) (a0_6 : Int) (a0_7 : ByteArray) (a0_8 : ByteArray) (r : Bool) (w : World) (h : spec_IsTag.f k a0_0 a0_1 a0_2 a0_3 a0_4 a0_5 a0_6 a0_7 a0_8 = some r) :
    Calls Tryd.prog 12 #[.agg #[.string a0_0, .int .i64 a0_1, .string a0_2, .string a0_3, .string a0_4, .int .i64 a0_5, .int .i64 a0_6, .string a0_7, .string a0_8]] w fun e w' => e = .returned (.bool r) ∧ Below w.heap.size w w' := by
  have hu32 := Tryd.underlying32
  have hu30 := Tryd.underlying30
  have HB := Aside0.mk (Below.refl w.heap.size w)
  have H : (if (a0_7.size : Int) > 1000000 then (some false) else (spec_IsTag.l0 k (a0_7.size : Int) 0 a0_0 a0_1 a0_2 a0_3 a0_4 a0_5 a0_6 a0_7 a0_8)) = some r := h
  clear h
  by_cases c2 : (a0_7.size : Int) > 1000000
  · rw [if_pos c2] at H
    have c2b0 : decide (1000000 < (a0_7.size : Int)) = true := decide_eq_true c2
    have c2b1 : decide (1000000 < a0_7.size) = true := decide_eq_true (by omega)
    clear c2
    obtain rfl := Option.some.inj H
    go_enter Tryd.func12, Tryd.ntmps12
    go_wp2_with (first | ((with_reducible refine gate_dst (N := 1) rfl ?_); refine box_event ?hg (N := 1) ?hd (cs := #[.string a0_0, .int .i64 a0_1, .string a0_2, .string a0_3, .string a0_4, .int .i64 a0_5, .int .i64 a0_6, .string a0_7, .string a0_8]) (t := 32) ?hr ?_; (case hd => rfl); (case hg => rfl); (case hr => first | (go_simp; done) | (go_simp; rfl)); intro gb152 hg w3 hbox hb; have n0_ := Aside0.mk (below_step (by repeat (first | (with_reducible first | exact HB.out | apply below_alloc | apply pw_below_drewN | apply below_drew1) | exact HB.out)) hb); have n1_ := Aside0.mk (hbox); have n2_ := Aside0.mk ((by rw [hg]; exact (below_size (by repeat (first | (with_reducible first | exact HB.out | apply below_alloc | apply pw_below_drewN | apply below_drew1) | exact HB.out))) : w.heap.size ≤ gb152)); have n3_ := Aside0.mk ((by rw [hg]; exact (below_size (by repeat (first | (with_reducible first | exact HB.out | apply below_alloc | apply pw_below_drewN | apply below_drew1) | exact HB.out))) : w.heap.size ≤ gb152)); clear HB; have HB := n0_; have BK152 := n1_; have GW152 := n2_; have GE152 := n3_; clear n0_ n1_ n2_ n3_; clear hb hbox hg; have hcz4_0 : w3.cell? ⟨gb152, 0, none⟩ = some (.string a0_0) := (blk_cell BK152.out 0).trans rfl; have hcz4_1 : w3.cell? ⟨gb152, 1, none⟩ = some (.int .i64 a0_1) := (blk_cell BK152.out 1).trans rfl; have hcz4_2 : w3.cell? ⟨gb152, 2, none⟩ = some (.string a0_2) := (blk_cell BK152.out 2).trans rfl; have hcz4_3 : w3.cell? ⟨gb152, 3, none⟩ = some (.string a0_3) := (blk_cell BK152.out 3).trans rfl; have hcz4_4 : w3.cell? ⟨gb152, 4, none⟩ = some (.string a0_4) := (blk_cell BK152.out 4).trans rfl; have hcz4_5 : w3.cell? ⟨gb152, 5, none⟩ = some (.int .i64 a0_5) := (blk_cell BK152.out 5).trans rfl; have hcz4_6 : w3.cell? ⟨gb152, 6, none⟩ = some (.int .i64 a0_6) := (blk_cell BK152.out 6).trans rfl; have hcz4_7 : w3.cell? ⟨gb152, 7, none⟩ = some (.string a0_7) := (blk_cell BK152.out 7).trans rfl; have hcz4_8 : w3.cell? ⟨gb152, 8, none⟩ = some (.string a0_8) := (blk_cell BK152.out 8).trans rfl; have hfz4_0 := blk_frozen BK152.out 0; have hfz4_1 := blk_frozen BK152.out 1; have hfz4_2 := blk_frozen BK152.out 2; have hfz4_3 := blk_frozen BK152.out 3; have hfz4_4 := blk_frozen BK152.out 4; have hfz4_5 := blk_frozen BK152.out 5; have hfz4_6 := blk_frozen BK152.out 6; have hfz4_7 := blk_frozen BK152.out 7; have hfz4_8 := blk_frozen BK152.out 8))
    go_ret
    exact ⟨by first | rfl | (simp [errW_none, errW_some] <;> rfl) | (simp [*, errW_none, errW_some] <;> rfl), by repeat (first | (with_reducible first | exact HB.out | apply below_alloc | apply pw_below_drewN | apply below_drew1 | refine below_set ?_ GE152.out) | exact HB.out)⟩
  · rw [if_neg c2] at H
    have c2b0 : decide (1000000 < (a0_7.size : Int)) = false := decide_eq_false c2
    have c2b1 : decide (1000000 < a0_7.size) = false := decide_eq_false (by omega)
    clear c2
    have H' := Aside0.mk H
    clear H
    go_enter Tryd.func12, Tryd.ntmps12
    go_wp2_with (first | ((with_reducible refine gate_dst (N := 1) rfl ?_); refine box_event ?hg (N := 1) ?hd (cs := #[.string a0_0, .int .i64 a0_1, .string a0_2, .string a0_3, .string a0_4, .int .i64 a0_5, .int .i64 a0_6, .string a0_7, .string a0_8]) (t := 32) ?hr ?_; (case hd => rfl); (case hg => rfl); (case hr => first | (go_simp; done) | (go_simp; rfl)); intro gb152 hg w5 hbox hb; have n0_ := Aside0.mk (below_step (by repeat (first | (with_reducible first | exact HB.out | apply below_alloc | apply pw_below_drewN | apply below_drew1) | exact HB.out)) hb); have n1_ := Aside0.mk (hbox); have n2_ := Aside0.mk ((by rw [hg]; exact (below_size (by repeat (first | (with_reducible first | exact HB.out | apply below_alloc | apply pw_below_drewN | apply below_drew1) | exact HB.out))) : w.heap.size ≤ gb152)); have n3_ := Aside0.mk ((by rw [hg]; exact (below_size (by repeat (first | (with_reducible first | exact HB.out | apply below_alloc | apply pw_below_drewN | apply below_drew1) | exact HB.out))) : w.heap.size ≤ gb152)); clear HB; have HB := n0_; have BK152 := n1_; have GW152 := n2_; have GE152 := n3_; clear n0_ n1_ n2_ n3_; clear hb hbox hg; have hcz6_0 : w5.cell? ⟨gb152, 0, none⟩ = some (.string a0_0) := (blk_cell BK152.out 0).trans rfl; have hcz6_1 : w5.cell? ⟨gb152, 1, none⟩ = some (.int .i64 a0_1) := (blk_cell BK152.out 1).trans rfl; have hcz6_2 : w5.cell? ⟨gb152, 2, none⟩ = some (.string a0_2) := (blk_cell BK152.out 2).trans rfl; have hcz6_3 : w5.cell? ⟨gb152, 3, none⟩ = some (.string a0_3) := (blk_cell BK152.out 3).trans rfl; have hcz6_4 : w5.cell? ⟨gb152, 4, none⟩ = some (.string a0_4) := (blk_cell BK152.out 4).trans rfl; have hcz6_5 : w5.cell? ⟨gb152, 5, none⟩ = some (.int .i64 a0_5) := (blk_cell BK152.out 5).trans rfl; have hcz6_6 : w5.cell? ⟨gb152, 6, none⟩ = some (.int .i64 a0_6) := (blk_cell BK152.out 6).trans rfl; have hcz6_7 : w5.cell? ⟨gb152, 7, none⟩ = some (.string a0_7) := (blk_cell BK152.out 7).trans rfl; have hcz6_8 : w5.cell? ⟨gb152, 8, none⟩ = some (.string a0_8) := (blk_cell BK152.out 8).trans rfl; have hfz6_0 := blk_frozen BK152.out 0; have hfz6_1 := blk_frozen BK152.out 1; have hfz6_2 := blk_frozen BK152.out 2; have hfz6_3 := blk_frozen BK152.out 3; have hfz6_4 := blk_frozen BK152.out 4; have hfz6_5 := blk_frozen BK152.out 5; have hfz6_6 := blk_frozen BK152.out 6; have hfz6_7 := blk_frozen BK152.out 7; have hfz6_8 := blk_frozen BK152.out 8))
    go_loopg [11] k (fun kq v11 w' => ∃ (x11_1 : Int), v11 = .int .i64 x11_1 ∧ Aside0 (spec_IsTag.l0 kq (a0_7.size : Int) x11_1 a0_0 a0_1 a0_2 a0_3 a0_4 a0_5 a0_6 a0_7 a0_8 = some r) ∧ Aside0 (kq ≤ k) ∧ Aside0 (w'.heap[gb152]? = some (.cells #[.string a0_0, .int .i64 a0_1, .string a0_2, .string a0_3, .string a0_4, .int .i64 a0_5, .int .i64 a0_6, .string a0_7, .string a0_8] 32 (0, 0))) ∧ Aside0 (Below w.heap.size w w'))
    case atStart => exact ⟨(0), (by first | rfl | (simp; done) | (simp [*]; done)), H', ⟨Nat.le_refl _⟩, ⟨by (with_reducible repeat (first | refine blk_drewN ?_ _ | refine blk_drew ?_ | refine blk_alloc ?_ _)); exact BK152.out⟩, ⟨by repeat (first | (with_reducible first | exact HB.out | apply below_alloc | apply pw_below_drewN | apply below_drew1 | refine below_set ?_ GE152.out) | exact HB.out)⟩⟩
    case round =>
      clear H'
      try clear c1
      try clear c2
      try clear c2b0
      try clear c2b1
      try clear p2
      try clear hcz4_0
      try clear hcz4_1
      try clear hcz4_2
      try clear hcz4_3
      try clear hcz4_4
      try clear hcz4_5
      try clear hcz4_6
      try clear hcz4_7
      try clear hcz4_8
      try clear hcz6_0
      try clear hcz6_1
      try clear hcz6_2
      try clear hcz6_3
      try clear hcz6_4
      try clear hcz6_5
      try clear hcz6_6
      try clear hcz6_7
      try clear hcz6_8
      try clear hfz4_0
      try clear hfz4_1
      try clear hfz4_2
      try clear hfz4_3
      try clear hfz4_4
      try clear hfz4_5
      try clear hfz4_6
      try clear hfz4_7
      try clear hfz4_8
      try clear hfz6_0
      try clear hfz6_1
      try clear hfz6_2
      try clear hfz6_3
      try clear hfz6_4
      try clear hfz6_5
      try clear hfz6_6
      try clear hfz6_7
      try clear hfz6_8
      obtain ⟨x11_1, rfl, HA, HK1, BK152, HB⟩ := hrel
      cases gk with
      | zero => exact absurd HA.out (by simp [spec_IsTag.l0])
      | succ k1 =>
        have H := HA.out
        clear HA
        simp only [spec_IsTag.l0] at H
        by_cases c7 : x11_1 < (a0_7.size : Int)
        · rw [if_pos c7] at H
          have c7b0 : decide (x11_1 < (a0_7.size : Int)) = true := decide_eq_true c7
          clear c7
          by_cases c8 : 0 ≤ x11_1
          · rw [if_pos c8] at H
            have c8b0 : decide (0 ≤ x11_1) = true := decide_eq_true c8
            clear c8
            by_cases c9 : x11_1 < (a0_7.size : Int)
            · rw [if_pos c9] at H
              have c9b0 : decide (x11_1 < (a0_7.size : Int)) = true := decide_eq_true c9
              clear c9
              by_cases c11 : (bt a0_7 x11_1) = 45
              · rw [if_pos c11] at H
                have c11b0 : ((bt a0_7 x11_1) == 45) = true := beq_iff_eq.mpr c11
                have c11b1 : ((bt a0_7 x11_1) != 45) = false := bne_eq_false_iff_eq.mpr c11
                clear c11
                obtain rfl := Option.some.inj H
                have hcz12_0 : wr.cell? ⟨gb152, 0, none⟩ = some (.string a0_0) := (blk_cell BK152.out 0).trans rfl
                have hcz12_1 : wr.cell? ⟨gb152, 1, none⟩ = some (.int .i64 a0_1) := (blk_cell BK152.out 1).trans rfl
                have hcz12_2 : wr.cell? ⟨gb152, 2, none⟩ = some (.string a0_2) := (blk_cell BK152.out 2).trans rfl
                have hcz12_3 : wr.cell? ⟨gb152, 3, none⟩ = some (.string a0_3) := (blk_cell BK152.out 3).trans rfl
                have hcz12_4 : wr.cell? ⟨gb152, 4, none⟩ = some (.string a0_4) := (blk_cell BK152.out 4).trans rfl
                have hcz12_5 : wr.cell? ⟨gb152, 5, none⟩ = some (.int .i64 a0_5) := (blk_cell BK152.out 5).trans rfl
                have hcz12_6 : wr.cell? ⟨gb152, 6, none⟩ = some (.int .i64 a0_6) := (blk_cell BK152.out 6).trans rfl
                have hcz12_7 : wr.cell? ⟨gb152, 7, none⟩ = some (.string a0_7) := (blk_cell BK152.out 7).trans rfl
                have hcz12_8 : wr.cell? ⟨gb152, 8, none⟩ = some (.string a0_8) := (blk_cell BK152.out 8).trans rfl
                have hfz12_0 := blk_frozen BK152.out 0
                have hfz12_1 := blk_frozen BK152.out 1
                have hfz12_2 := blk_frozen BK152.out 2
                have hfz12_3 := blk_frozen BK152.out 3
                have hfz12_4 := blk_frozen BK152.out 4
                have hfz12_5 := blk_frozen BK152.out 5
                have hfz12_6 := blk_frozen BK152.out 6
                have hfz12_7 := blk_frozen BK152.out 7
                have hfz12_8 := blk_frozen BK152.out 8
                have p10 : 0 ≤ (x11_1 : Int) := of_decide_eq_true (by first | (with_reducible assumption) | assumption)
                have q10 : x11_1 < (a0_7.size : Int) := of_decide_eq_true (by first | (with_reducible assumption) | assumption)
                have hx10 := bt_at a0_7 x11_1
                replace p10 := eq_true p10
                replace q10 := eq_true q10
                go_wp2
                go_ret
                exact ⟨by first | rfl | (simp [errW_none, errW_some] <;> rfl) | (simp [*, errW_none, errW_some] <;> rfl), by repeat (first | (with_reducible first | exact HB.out | apply below_alloc | apply pw_below_drewN | apply below_drew1 | refine below_set ?_ GE152.out) | exact HB.out)⟩
              · rw [if_neg c11] at H
                have c11b0 : ((bt a0_7 x11_1) == 45) = false := beq_eq_false_iff_ne.mpr c11
                have c11b1 : ((bt a0_7 x11_1) != 45) = true := bne_iff_ne.mpr c11
                have H' := Aside0.mk H
                clear H
                have hcz13_0 : wr.cell? ⟨gb152, 0, none⟩ = some (.string a0_0) := (blk_cell BK152.out 0).trans rfl
                have hcz13_1 : wr.cell? ⟨gb152, 1, none⟩ = some (.int .i64 a0_1) := (blk_cell BK152.out 1).trans rfl
                have hcz13_2 : wr.cell? ⟨gb152, 2, none⟩ = some (.string a0_2) := (blk_cell BK152.out 2).trans rfl
                have hcz13_3 : wr.cell? ⟨gb152, 3, none⟩ = some (.string a0_3) := (blk_cell BK152.out 3).trans rfl
                have hcz13_4 : wr.cell? ⟨gb152, 4, none⟩ = some (.string a0_4) := (blk_cell BK152.out 4).trans rfl
                have hcz13_5 : wr.cell? ⟨gb152, 5, none⟩ = some (.int .i64 a0_5) := (blk_cell BK152.out 5).trans rfl
                have hcz13_6 : wr.cell? ⟨gb152, 6, none⟩ = some (.int .i64 a0_6) := (blk_cell BK152.out 6).trans rfl
                have hcz13_7 : wr.cell? ⟨gb152, 7, none⟩ = some (.string a0_7) := (blk_cell BK152.out 7).trans rfl
                have hcz13_8 : wr.cell? ⟨gb152, 8, none⟩ = some (.string a0_8) := (blk_cell BK152.out 8).trans rfl
                have hfz13_0 := blk_frozen BK152.out 0
                have hfz13_1 := blk_frozen BK152.out 1
                have hfz13_2 := blk_frozen BK152.out 2
                have hfz13_3 := blk_frozen BK152.out 3
                have hfz13_4 := blk_frozen BK152.out 4
                have hfz13_5 := blk_frozen BK152.out 5
                have hfz13_6 := blk_frozen BK152.out 6
                have hfz13_7 := blk_frozen BK152.out 7
                have hfz13_8 := blk_frozen BK152.out 8
                have p10 : 0 ≤ (x11_1 : Int) := of_decide_eq_true (by first | (with_reducible assumption) | assumption)
                have q10 : x11_1 < (a0_7.size : Int) := of_decide_eq_true (by first | (with_reducible assumption) | assumption)
                have hx10 := bt_at a0_7 x11_1
                replace p10 := eq_true p10
                replace q10 := eq_true q10
                go_wp2
                go_roundg k1
                case measure => have := HK1.out; omega
                case rel => exact ⟨(wrap64 (x11_1 + 1)), (by first | rfl | (simp; done) | (simp [*]; done)), H', ⟨by have := HK1.out; omega⟩, ⟨by (with_reducible repeat (first | refine blk_drewN ?_ _ | refine blk_drew ?_ | refine blk_alloc ?_ _)); exact BK152.out⟩, ⟨by repeat (first | (with_reducible first | exact HB.out | apply below_alloc | apply pw_below_drewN | apply below_drew1 | refine below_set ?_ GE152.out) | exact HB.out)⟩⟩
            · rw [if_neg c9] at H
              exact absurd H (by simp)
          · rw [if_neg c8] at H
            exact absurd H (by simp)
        · rw [if_neg c7] at H
          have c7b0 : decide (x11_1 < (a0_7.size : Int)) = false := decide_eq_false c7
          clear c7
          replace H := Option.bind_eq_some_iff.mp H
          obtain ⟨t153, A140, H⟩ := H
          replace H : (if t153 = true then ((spec_ObName.f a0_1).bind fun t154 => (if t154.toList = ([] : List UInt8) then (some false) else (if a0_2.toList = ([] : List UInt8) then (some false) else ((spec_IsPlain.f k1 a0_2).bind fun t155 => (if t155 = true then ((spec_IsWho.f k1 a0_3 a0_4 a0_5 a0_6).bind fun t156 => (if t156 = true then (some (a0_8.toList.isEmpty)) else (some false))) else (some false)))))) else (some false)) = some r := H
          have A14 := Aside0.mk A140
          clear A140
          by_cases c15 : t153 = true
          · subst c15
            have H1 : ((spec_ObName.f a0_1).bind fun t154 => (if t154.toList = ([] : List UInt8) then (some false) else (if a0_2.toList = ([] : List UInt8) then (some false) else ((spec_IsPlain.f k1 a0_2).bind fun t155 => (if t155 = true then ((spec_IsWho.f k1 a0_3 a0_4 a0_5 a0_6).bind fun t156 => (if t156 = true then (some (a0_8.toList.isEmpty)) else (some false))) else (some false)))))) = some r := by rw [if_pos rfl] at H; exact H
            clear H
            have H := H1
            clear H1
            replace H := Option.bind_eq_some_iff.mp H
            obtain ⟨t154, A160, H⟩ := H
            replace H : (if t154.toList = ([] : List UInt8) then (some false) else (if a0_2.toList = ([] : List UInt8) then (some false) else ((spec_IsPlain.f k1 a0_2).bind fun t155 => (if t155 = true then ((spec_IsWho.f k1 a0_3 a0_4 a0_5 a0_6).bind fun t156 => (if t156 = true then (some (a0_8.toList.isEmpty)) else (some false))) else (some false))))) = some r := H
            have A16 := Aside0.mk A160
            clear A160
            by_cases c17 : t154.toList = ([] : List UInt8)
            · rw [if_pos c17] at H
              have c17b0 : (t154.toList == ([] : List UInt8)) = true := beq_iff_eq.mpr c17
              have c17b1 : (t154.toList != ([] : List UInt8)) = false := bne_eq_false_iff_eq.mpr c17
              clear c17
              obtain rfl := Option.some.inj H
              have hcz18_0 : wr.cell? ⟨gb152, 0, none⟩ = some (.string a0_0) := (blk_cell BK152.out 0).trans rfl
              have hcz18_1 : wr.cell? ⟨gb152, 1, none⟩ = some (.int .i64 a0_1) := (blk_cell BK152.out 1).trans rfl
              have hcz18_2 : wr.cell? ⟨gb152, 2, none⟩ = some (.string a0_2) := (blk_cell BK152.out 2).trans rfl
              have hcz18_3 : wr.cell? ⟨gb152, 3, none⟩ = some (.string a0_3) := (blk_cell BK152.out 3).trans rfl
              have hcz18_4 : wr.cell? ⟨gb152, 4, none⟩ = some (.string a0_4) := (blk_cell BK152.out 4).trans rfl
              have hcz18_5 : wr.cell? ⟨gb152, 5, none⟩ = some (.int .i64 a0_5) := (blk_cell BK152.out 5).trans rfl
              have hcz18_6 : wr.cell? ⟨gb152, 6, none⟩ = some (.int .i64 a0_6) := (blk_cell BK152.out 6).trans rfl
              have hcz18_7 : wr.cell? ⟨gb152, 7, none⟩ = some (.string a0_7) := (blk_cell BK152.out 7).trans rfl
              have hcz18_8 : wr.cell? ⟨gb152, 8, none⟩ = some (.string a0_8) := (blk_cell BK152.out 8).trans rfl
              have hfz18_0 := blk_frozen BK152.out 0
              have hfz18_1 := blk_frozen BK152.out 1
              have hfz18_2 := blk_frozen BK152.out 2
              have hfz18_3 := blk_frozen BK152.out 3
              have hfz18_4 := blk_frozen BK152.out 4
              have hfz18_5 := blk_frozen BK152.out 5
              have hfz18_6 := blk_frozen BK152.out 6
              have hfz18_7 := blk_frozen BK152.out 7
              have hfz18_8 := blk_frozen BK152.out 8
              go_wp2_with (first | ((with_reducible refine gate_callee (f := 28) rfl ?_); refine goesL_ (some 22) rfl rfl Tryd.func28 (by kernel_rfl) rfl #[.string a0_0] rfl (by (try simp only [List.map_toArray, List.map_cons, List.map_nil]); first | done | rfl | (simp only [List.length_drop, List.length_take]; rfl)) ?_; (with_reducible refine (spec_IsName40.calls k1 a0_0 true _ A14.out).mono ?_); rintro e w' ⟨rfl, ⟨nd, rfl⟩⟩; refine ⟨_, rfl, ?_⟩) | (go_at_call 29; (with_reducible refine (spec_ObName.calls a0_1 t154 _ A16.out).mono ?_); rintro e w' ⟨rfl, ⟨nd, rfl⟩⟩))
              go_ret
              exact ⟨by first | rfl | (simp [errW_none, errW_some] <;> rfl) | (simp [*, errW_none, errW_some] <;> rfl), by repeat (first | (with_reducible first | exact HB.out | apply below_alloc | apply pw_below_drewN | apply below_drew1 | refine below_set ?_ GE152.out) | exact HB.out)⟩
            · rw [if_neg c17] at H
              have c17b0 : (t154.toList == ([] : List UInt8)) = false := beq_eq_false_iff_ne.mpr c17
              have c17b1 : (t154.toList != ([] : List UInt8)) = true := bne_iff_ne.mpr c17
              by_cases c19 : a0_2.toList = ([] : List UInt8)
              · rw [if_pos c19] at H
                have c19b0 : (a0_2.toList == ([] : List UInt8)) = true := beq_iff_eq.mpr c19
                have c19b1 : (a0_2.toList != ([] : List UInt8)) = false := bne_eq_false_iff_eq.mpr c19
                clear c19
                obtain rfl := Option.some.inj H
                have hcz20_0 : wr.cell? ⟨gb152, 0, none⟩ = some (.string a0_0) := (blk_cell BK152.out 0).trans rfl
                have hcz20_1 : wr.cell? ⟨gb152, 1, none⟩ = some (.int .i64 a0_1) := (blk_cell BK152.out 1).trans rfl
                have hcz20_2 : wr.cell? ⟨gb152, 2, none⟩ = some (.string a0_2) := (blk_cell BK152.out 2).trans rfl
                have hcz20_3 : wr.cell? ⟨gb152, 3, none⟩ = some (.string a0_3) := (blk_cell BK152.out 3).trans rfl
                have hcz20_4 : wr.cell? ⟨gb152, 4, none⟩ = some (.string a0_4) := (blk_cell BK152.out 4).trans rfl
                have hcz20_5 : wr.cell? ⟨gb152, 5, none⟩ = some (.int .i64 a0_5) := (blk_cell BK152.out 5).trans rfl
                have hcz20_6 : wr.cell? ⟨gb152, 6, none⟩ = some (.int .i64 a0_6) := (blk_cell BK152.out 6).trans rfl
                have hcz20_7 : wr.cell? ⟨gb152, 7, none⟩ = some (.string a0_7) := (blk_cell BK152.out 7).trans rfl
                have hcz20_8 : wr.cell? ⟨gb152, 8, none⟩ = some (.string a0_8) := (blk_cell BK152.out 8).trans rfl
                have hfz20_0 := blk_frozen BK152.out 0
                have hfz20_1 := blk_frozen BK152.out 1
                have hfz20_2 := blk_frozen BK152.out 2
                have hfz20_3 := blk_frozen BK152.out 3
                have hfz20_4 := blk_frozen BK152.out 4
                have hfz20_5 := blk_frozen BK152.out 5
                have hfz20_6 := blk_frozen BK152.out 6
                have hfz20_7 := blk_frozen BK152.out 7
                have hfz20_8 := blk_frozen BK152.out 8
                go_wp2_with (first | ((with_reducible refine gate_callee (f := 28) rfl ?_); refine goesL_ (some 22) rfl rfl Tryd.func28 (by kernel_rfl) rfl #[.string a0_0] rfl (by (try simp only [List.map_toArray, List.map_cons, List.map_nil]); first | done | rfl | (simp only [List.length_drop, List.length_take]; rfl)) ?_; (with_reducible refine (spec_IsName40.calls k1 a0_0 true _ A14.out).mono ?_); rintro e w' ⟨rfl, ⟨nd, rfl⟩⟩; refine ⟨_, rfl, ?_⟩) | (go_at_call 29; (with_reducible refine (spec_ObName.calls a0_1 t154 _ A16.out).mono ?_); rintro e w' ⟨rfl, ⟨nd, rfl⟩⟩))
                go_ret
                exact ⟨by first | rfl | (simp [errW_none, errW_some] <;> rfl) | (simp [*, errW_none, errW_some] <;> rfl), by repeat (first | (with_reducible first | exact HB.out | apply below_alloc | apply pw_below_drewN | apply below_drew1 | refine below_set ?_ GE152.out) | exact HB.out)⟩
              · rw [if_neg c19] at H
                have c19b0 : (a0_2.toList == ([] : List UInt8)) = false := beq_eq_false_iff_ne.mpr c19
                have c19b1 : (a0_2.toList != ([] : List UInt8)) = true := bne_iff_ne.mpr c19
                replace H := Option.bind_eq_some_iff.mp H
                obtain ⟨t155, A210, H⟩ := H
                replace H : (if t155 = true then ((spec_IsWho.f k1 a0_3 a0_4 a0_5 a0_6).bind fun t156 => (if t156 = true then (some (a0_8.toList.isEmpty)) else (some false))) else (some false)) = some r := H
                have A21 := Aside0.mk A210
                clear A210
                by_cases c22 : t155 = true
                · subst c22
                  have H1 : ((spec_IsWho.f k1 a0_3 a0_4 a0_5 a0_6).bind fun t156 => (if t156 = true then (some (a0_8.toList.isEmpty)) else (some false))) = some r := by rw [if_pos rfl] at H; exact H
                  clear H
                  have H := H1
                  clear H1
                  replace H := Option.bind_eq_some_iff.mp H
                  obtain ⟨t156, A230, H⟩ := H
                  replace H : (if t156 = true then (some (a0_8.toList.isEmpty)) else (some false)) = some r := H
                  have A23 := Aside0.mk A230
                  clear A230
                  by_cases c24 : t156 = true
                  · subst c24
                    have H1 : (some (a0_8.toList.isEmpty)) = some r := by rw [if_pos rfl] at H; exact H
                    clear H
                    have H := H1
                    clear H1
                    obtain rfl := Option.some.inj H
                    have hcz25_0 : wr.cell? ⟨gb152, 0, none⟩ = some (.string a0_0) := (blk_cell BK152.out 0).trans rfl
                    have hcz25_1 : wr.cell? ⟨gb152, 1, none⟩ = some (.int .i64 a0_1) := (blk_cell BK152.out 1).trans rfl
                    have hcz25_2 : wr.cell? ⟨gb152, 2, none⟩ = some (.string a0_2) := (blk_cell BK152.out 2).trans rfl
                    have hcz25_3 : wr.cell? ⟨gb152, 3, none⟩ = some (.string a0_3) := (blk_cell BK152.out 3).trans rfl
                    have hcz25_4 : wr.cell? ⟨gb152, 4, none⟩ = some (.string a0_4) := (blk_cell BK152.out 4).trans rfl
                    have hcz25_5 : wr.cell? ⟨gb152, 5, none⟩ = some (.int .i64 a0_5) := (blk_cell BK152.out 5).trans rfl
                    have hcz25_6 : wr.cell? ⟨gb152, 6, none⟩ = some (.int .i64 a0_6) := (blk_cell BK152.out 6).trans rfl
                    have hcz25_7 : wr.cell? ⟨gb152, 7, none⟩ = some (.string a0_7) := (blk_cell BK152.out 7).trans rfl
                    have hcz25_8 : wr.cell? ⟨gb152, 8, none⟩ = some (.string a0_8) := (blk_cell BK152.out 8).trans rfl
                    have hfz25_0 := blk_frozen BK152.out 0
                    have hfz25_1 := blk_frozen BK152.out 1
                    have hfz25_2 := blk_frozen BK152.out 2
                    have hfz25_3 := blk_frozen BK152.out 3
                    have hfz25_4 := blk_frozen BK152.out 4
                    have hfz25_5 := blk_frozen BK152.out 5
                    have hfz25_6 := blk_frozen BK152.out 6
                    have hfz25_7 := blk_frozen BK152.out 7
                    have hfz25_8 := blk_frozen BK152.out 8
                    go_wp2_with (first | ((with_reducible refine gate_callee (f := 28) rfl ?_); refine goesL_ (some 22) rfl rfl Tryd.func28 (by kernel_rfl) rfl #[.string a0_0] rfl (by (try simp only [List.map_toArray, List.map_cons, List.map_nil]); first | done | rfl | (simp only [List.length_drop, List.length_take]; rfl)) ?_; (with_reducible refine (spec_IsName40.calls k1 a0_0 true _ A14.out).mono ?_); rintro e w' ⟨rfl, ⟨nd, rfl⟩⟩; refine ⟨_, rfl, ?_⟩) | (go_at_call 29; (with_reducible refine (spec_ObName.calls a0_1 t154 _ A16.out).mono ?_); rintro e w' ⟨rfl, ⟨nd, rfl⟩⟩) | (go_at_call 30; (with_reducible refine (spec_IsPlain.calls k1 a0_2 true _ A21.out).mono ?_); rintro e w' ⟨rfl, ⟨nd, rfl⟩⟩) | (go_at_call 31; (with_reducible refine (spec_IsWho.calls k1 a0_3 a0_4 a0_5 a0_6 true _ A23.out).mono ?_); rintro e w26 ⟨rfl, hb⟩; have n0_ := Aside0.mk (blk_below (g := gb152) (o := .cells #[.string a0_0, .int .i64 a0_1, .string a0_2, .string a0_3, .string a0_4, .int .i64 a0_5, .int .i64 a0_6, .string a0_7, .string a0_8] 32 (0, 0)) (by (with_reducible repeat (first | refine blk_drewN ?_ _ | refine blk_drew ?_ | refine blk_alloc ?_ _)); exact BK152.out) hb); have n1_ := Aside0.mk (below_step (by repeat (first | (with_reducible first | exact HB.out | apply below_alloc | apply pw_below_drewN | apply below_drew1 | refine below_set ?_ GE152.out) | exact HB.out)) hb); clear BK152; clear HB; have BK152 := n0_; have HB := n1_; clear n0_ n1_; (try clear hb); (try clear hb2); (try clear hk); (try clear hi); have hcz27_0 : w26.cell? ⟨gb152, 0, none⟩ = some (.string a0_0) := (blk_cell BK152.out 0).trans rfl; have hcz27_1 : w26.cell? ⟨gb152, 1, none⟩ = some (.int .i64 a0_1) := (blk_cell BK152.out 1).trans rfl; have hcz27_2 : w26.cell? ⟨gb152, 2, none⟩ = some (.string a0_2) := (blk_cell BK152.out 2).trans rfl; have hcz27_3 : w26.cell? ⟨gb152, 3, none⟩ = some (.string a0_3) := (blk_cell BK152.out 3).trans rfl; have hcz27_4 : w26.cell? ⟨gb152, 4, none⟩ = some (.string a0_4) := (blk_cell BK152.out 4).trans rfl; have hcz27_5 : w26.cell? ⟨gb152, 5, none⟩ = some (.int .i64 a0_5) := (blk_cell BK152.out 5).trans rfl; have hcz27_6 : w26.cell? ⟨gb152, 6, none⟩ = some (.int .i64 a0_6) := (blk_cell BK152.out 6).trans rfl; have hcz27_7 : w26.cell? ⟨gb152, 7, none⟩ = some (.string a0_7) := (blk_cell BK152.out 7).trans rfl; have hcz27_8 : w26.cell? ⟨gb152, 8, none⟩ = some (.string a0_8) := (blk_cell BK152.out 8).trans rfl; have hfz27_0 := blk_frozen BK152.out 0; have hfz27_1 := blk_frozen BK152.out 1; have hfz27_2 := blk_frozen BK152.out 2; have hfz27_3 := blk_frozen BK152.out 3; have hfz27_4 := blk_frozen BK152.out 4; have hfz27_5 := blk_frozen BK152.out 5; have hfz27_6 := blk_frozen BK152.out 6; have hfz27_7 := blk_frozen BK152.out 7; have hfz27_8 := blk_frozen BK152.out 8))
                    go_ret
                    exact ⟨by first | rfl | (simp [errW_none, errW_some] <;> rfl) | (simp [*, errW_none, errW_some] <;> rfl), by repeat (first | (with_reducible first | exact HB.out | apply below_alloc | apply pw_below_drewN | apply below_drew1 | refine below_set ?_ GE152.out) | exact HB.out)⟩
                  · replace c24 := Bool.eq_false_iff.mpr c24
                    subst c24
                    have H1 : (some false) = some r := by rw [if_neg (show ¬ (false = true) by decide)] at H; exact H
                    clear H
                    have H := H1
                    clear H1
                    obtain rfl := Option.some.inj H
                    have hcz28_0 : wr.cell? ⟨gb152, 0, none⟩ = some (.string a0_0) := (blk_cell BK152.out 0).trans rfl
                    have hcz28_1 : wr.cell? ⟨gb152, 1, none⟩ = some (.int .i64 a0_1) := (blk_cell BK152.out 1).trans rfl
                    have hcz28_2 : wr.cell? ⟨gb152, 2, none⟩ = some (.string a0_2) := (blk_cell BK152.out 2).trans rfl
                    have hcz28_3 : wr.cell? ⟨gb152, 3, none⟩ = some (.string a0_3) := (blk_cell BK152.out 3).trans rfl
                    have hcz28_4 : wr.cell? ⟨gb152, 4, none⟩ = some (.string a0_4) := (blk_cell BK152.out 4).trans rfl
                    have hcz28_5 : wr.cell? ⟨gb152, 5, none⟩ = some (.int .i64 a0_5) := (blk_cell BK152.out 5).trans rfl
                    have hcz28_6 : wr.cell? ⟨gb152, 6, none⟩ = some (.int .i64 a0_6) := (blk_cell BK152.out 6).trans rfl
                    have hcz28_7 : wr.cell? ⟨gb152, 7, none⟩ = some (.string a0_7) := (blk_cell BK152.out 7).trans rfl
                    have hcz28_8 : wr.cell? ⟨gb152, 8, none⟩ = some (.string a0_8) := (blk_cell BK152.out 8).trans rfl
                    have hfz28_0 := blk_frozen BK152.out 0
                    have hfz28_1 := blk_frozen BK152.out 1
                    have hfz28_2 := blk_frozen BK152.out 2
                    have hfz28_3 := blk_frozen BK152.out 3
                    have hfz28_4 := blk_frozen BK152.out 4
                    have hfz28_5 := blk_frozen BK152.out 5
                    have hfz28_6 := blk_frozen BK152.out 6
                    have hfz28_7 := blk_frozen BK152.out 7
                    have hfz28_8 := blk_frozen BK152.out 8
                    go_wp2_with (first | ((with_reducible refine gate_callee (f := 28) rfl ?_); refine goesL_ (some 22) rfl rfl Tryd.func28 (by kernel_rfl) rfl #[.string a0_0] rfl (by (try simp only [List.map_toArray, List.map_cons, List.map_nil]); first | done | rfl | (simp only [List.length_drop, List.length_take]; rfl)) ?_; (with_reducible refine (spec_IsName40.calls k1 a0_0 true _ A14.out).mono ?_); rintro e w' ⟨rfl, ⟨nd, rfl⟩⟩; refine ⟨_, rfl, ?_⟩) | (go_at_call 29; (with_reducible refine (spec_ObName.calls a0_1 t154 _ A16.out).mono ?_); rintro e w' ⟨rfl, ⟨nd, rfl⟩⟩) | (go_at_call 30; (with_reducible refine (spec_IsPlain.calls k1 a0_2 true _ A21.out).mono ?_); rintro e w' ⟨rfl, ⟨nd, rfl⟩⟩) | (go_at_call 31; (with_reducible refine (spec_IsWho.calls k1 a0_3 a0_4 a0_5 a0_6 false _ A23.out).mono ?_); rintro e w29 ⟨rfl, hb⟩; have n0_ := Aside0.mk (blk_below (g := gb152) (o := .cells #[.string a0_0, .int .i64 a0_1, .string a0_2, .string a0_3, .string a0_4, .int .i64 a0_5, .int .i64 a0_6, .string a0_7, .string a0_8] 32 (0, 0)) (by (with_reducible repeat (first | refine blk_drewN ?_ _ | refine blk_drew ?_ | refine blk_alloc ?_ _)); exact BK152.out) hb); have n1_ := Aside0.mk (below_step (by repeat (first | (with_reducible first | exact HB.out | apply below_alloc | apply pw_below_drewN | apply below_drew1 | refine below_set ?_ GE152.out) | exact HB.out)) hb); clear BK152; clear HB; have BK152 := n0_; have HB := n1_; clear n0_ n1_; (try clear hb); (try clear hb2); (try clear hk); (try clear hi)))
                    go_ret
                    exact ⟨by first | rfl | (simp [errW_none, errW_some] <;> rfl) | (simp [*, errW_none, errW_some] <;> rfl), by repeat (first | (with_reducible first | exact HB.out | apply below_alloc | apply pw_below_drewN | apply below_drew1 | refine below_set ?_ GE152.out) | exact HB.out)⟩
                · replace c22 := Bool.eq_false_iff.mpr c22
                  subst c22
                  have H1 : (some false) = some r := by rw [if_neg (show ¬ (false = true) by decide)] at H; exact H
                  clear H
                  have H := H1
                  clear H1
                  obtain rfl := Option.some.inj H
                  have hcz30_0 : wr.cell? ⟨gb152, 0, none⟩ = some (.string a0_0) := (blk_cell BK152.out 0).trans rfl
                  have hcz30_1 : wr.cell? ⟨gb152, 1, none⟩ = some (.int .i64 a0_1) := (blk_cell BK152.out 1).trans rfl
                  have hcz30_2 : wr.cell? ⟨gb152, 2, none⟩ = some (.string a0_2) := (blk_cell BK152.out 2).trans rfl
                  have hcz30_3 : wr.cell? ⟨gb152, 3, none⟩ = some (.string a0_3) := (blk_cell BK152.out 3).trans rfl
                  have hcz30_4 : wr.cell? ⟨gb152, 4, none⟩ = some (.string a0_4) := (blk_cell BK152.out 4).trans rfl
                  have hcz30_5 : wr.cell? ⟨gb152, 5, none⟩ = some (.int .i64 a0_5) := (blk_cell BK152.out 5).trans rfl
                  have hcz30_6 : wr.cell? ⟨gb152, 6, none⟩ = some (.int .i64 a0_6) := (blk_cell BK152.out 6).trans rfl
                  have hcz30_7 : wr.cell? ⟨gb152, 7, none⟩ = some (.string a0_7) := (blk_cell BK152.out 7).trans rfl
                  have hcz30_8 : wr.cell? ⟨gb152, 8, none⟩ = some (.string a0_8) := (blk_cell BK152.out 8).trans rfl
                  have hfz30_0 := blk_frozen BK152.out 0
                  have hfz30_1 := blk_frozen BK152.out 1
                  have hfz30_2 := blk_frozen BK152.out 2
                  have hfz30_3 := blk_frozen BK152.out 3
                  have hfz30_4 := blk_frozen BK152.out 4
                  have hfz30_5 := blk_frozen BK152.out 5
                  have hfz30_6 := blk_frozen BK152.out 6
                  have hfz30_7 := blk_frozen BK152.out 7
                  have hfz30_8 := blk_frozen BK152.out 8
                  go_wp2_with (first | ((with_reducible refine gate_callee (f := 28) rfl ?_); refine goesL_ (some 22) rfl rfl Tryd.func28 (by kernel_rfl) rfl #[.string a0_0] rfl (by (try simp only [List.map_toArray, List.map_cons, List.map_nil]); first | done | rfl | (simp only [List.length_drop, List.length_take]; rfl)) ?_; (with_reducible refine (spec_IsName40.calls k1 a0_0 true _ A14.out).mono ?_); rintro e w' ⟨rfl, ⟨nd, rfl⟩⟩; refine ⟨_, rfl, ?_⟩) | (go_at_call 29; (with_reducible refine (spec_ObName.calls a0_1 t154 _ A16.out).mono ?_); rintro e w' ⟨rfl, ⟨nd, rfl⟩⟩) | (go_at_call 30; (with_reducible refine (spec_IsPlain.calls k1 a0_2 false _ A21.out).mono ?_); rintro e w' ⟨rfl, ⟨nd, rfl⟩⟩))
                  go_ret
                  exact ⟨by first | rfl | (simp [errW_none, errW_some] <;> rfl) | (simp [*, errW_none, errW_some] <;> rfl), by repeat (first | (with_reducible first | exact HB.out | apply below_alloc | apply pw_below_drewN | apply below_drew1 | refine below_set ?_ GE152.out) | exact HB.out)⟩
          · replace c15 := Bool.eq_false_iff.mpr c15
            subst c15
            have H1 : (some false) = some r := by rw [if_neg (show ¬ (false = true) by decide)] at H; exact H
            clear H
            have H := H1
            clear H1
            obtain rfl := Option.some.inj H
            have hcz31_0 : wr.cell? ⟨gb152, 0, none⟩ = some (.string a0_0) := (blk_cell BK152.out 0).trans rfl
            have hcz31_1 : wr.cell? ⟨gb152, 1, none⟩ = some (.int .i64 a0_1) := (blk_cell BK152.out 1).trans rfl
            have hcz31_2 : wr.cell? ⟨gb152, 2, none⟩ = some (.string a0_2) := (blk_cell BK152.out 2).trans rfl
            have hcz31_3 : wr.cell? ⟨gb152, 3, none⟩ = some (.string a0_3) := (blk_cell BK152.out 3).trans rfl
            have hcz31_4 : wr.cell? ⟨gb152, 4, none⟩ = some (.string a0_4) := (blk_cell BK152.out 4).trans rfl
            have hcz31_5 : wr.cell? ⟨gb152, 5, none⟩ = some (.int .i64 a0_5) := (blk_cell BK152.out 5).trans rfl
            have hcz31_6 : wr.cell? ⟨gb152, 6, none⟩ = some (.int .i64 a0_6) := (blk_cell BK152.out 6).trans rfl
            have hcz31_7 : wr.cell? ⟨gb152, 7, none⟩ = some (.string a0_7) := (blk_cell BK152.out 7).trans rfl
            have hcz31_8 : wr.cell? ⟨gb152, 8, none⟩ = some (.string a0_8) := (blk_cell BK152.out 8).trans rfl
            have hfz31_0 := blk_frozen BK152.out 0
            have hfz31_1 := blk_frozen BK152.out 1
            have hfz31_2 := blk_frozen BK152.out 2
            have hfz31_3 := blk_frozen BK152.out 3
            have hfz31_4 := blk_frozen BK152.out 4
            have hfz31_5 := blk_frozen BK152.out 5
            have hfz31_6 := blk_frozen BK152.out 6
            have hfz31_7 := blk_frozen BK152.out 7
            have hfz31_8 := blk_frozen BK152.out 8
            go_wp2_with (first | ((with_reducible refine gate_callee (f := 28) rfl ?_); refine goesL_ (some 22) rfl rfl Tryd.func28 (by kernel_rfl) rfl #[.string a0_0] rfl (by (try simp only [List.map_toArray, List.map_cons, List.map_nil]); first | done | rfl | (simp only [List.length_drop, List.length_take]; rfl)) ?_; (with_reducible refine (spec_IsName40.calls k1 a0_0 false _ A14.out).mono ?_); rintro e w' ⟨rfl, ⟨nd, rfl⟩⟩; refine ⟨_, rfl, ?_⟩))
            go_ret
            exact ⟨by first | rfl | (simp [errW_none, errW_some] <;> rfl) | (simp [*, errW_none, errW_some] <;> rfl), by repeat (first | (with_reducible first | exact HB.out | apply below_alloc | apply pw_below_drewN | apply below_drew1 | refine below_set ?_ GE152.out) | exact HB.out)⟩

/-! ### spec_two: function 68 -/
def spec_two.f (a0 : Int) : Option (ByteArray) := some (strOfNums (([(wrap64 (48 + (Int.tmod (wrap64 (Int.tdiv a0 10)) 10))) % 256, (wrap64 (48 + (Int.tmod a0 10))) % 256] : List Int)))
set_option maxHeartbeats 8000000 in
set_option maxRecDepth 100000 in
theorem spec_two.calls (a0 : Int) (r : ByteArray) (w : World) (h : spec_two.f a0 = some r) :
    Calls Tryd.prog 68 #[.int .i64 a0] w fun e w' => e = .returned (.string r) ∧ Below w.heap.size w w' := by
  have HB := Aside0.mk (Below.refl w.heap.size w)
  have H : (some (strOfNums (([(wrap64 (48 + (Int.tmod (wrap64 (Int.tdiv a0 10)) 10))) % 256, (wrap64 (48 + (Int.tmod a0 10))) % 256] : List Int)))) = some r := h
  clear h
  obtain ⟨y157, hy157⟩ : ∃ y_ : List Int, y_ = (([(wrap64 (48 + (Int.tmod (wrap64 (Int.tdiv a0 10)) 10))) % 256, (wrap64 (48 + (Int.tmod a0 10))) % 256] : List Int)) := ⟨_, rfl⟩
  replace H : (some (strOfNums y157)) = some r := by first | (rw [hy157]; with_reducible exact H) | (have H2_ := (Option.bind_some _ _).symm.trans H; rw [hy157]; with_reducible exact H2_) | (have H2_ := (Option.bind_some _ _).symm.trans H; with_reducible exact H2_) | with_reducible exact H | (rw [hy157]; exact H) | exact H
  have Ny157 := Aside0.mk hy157
  clear hy157
  obtain rfl := Option.some.inj H
  go_enter Tryd.func68, Tryd.ntmps68
  go_wp2_with (first | ((with_reducible refine gate_dst (N := 12) rfl ?_); refine Kd.R_lit (Kd.int .u8) _ 5 ?hg (N := 12) ?hd (xs := ([(wrap64 (48 + (Int.tmod (wrap64 (Int.tdiv a0 10)) 10))) % 256, (wrap64 (48 + (Int.tmod a0 10))) % 256] : List Int)) (inner := [.int .u8 ((wrap64 (48 + (Int.tmod (wrap64 (Int.tdiv a0 10)) 10))) % 256), .int .u8 ((wrap64 (48 + (Int.tmod a0 10))) % 256)]) (ok := fun _ => True) (okp := fun _ => True) ?hr ?hp (fun _ hk => hk) trivial (Below.refl _ _) (Nat.le_refl _) (by simp) ?_; (case hd => rfl); (case hg => rfl); (case hr => first | (go_simp; done) | (go_simp; rfl)); (case hp => exact (Reps.one (show Kd.M (Kd.int .u8) _ _ _ ((wrap64 (48 + (Int.tmod (wrap64 (Int.tdiv a0 10)) 10))) % 256) [.int .u8 ((wrap64 (48 + (Int.tmod (wrap64 (Int.tdiv a0 10)) 10))) % 256)] from rfl) (Reps.one (show Kd.M (Kd.int .u8) _ _ _ ((wrap64 (48 + (Int.tmod a0 10))) % 256) [.int .u8 ((wrap64 (48 + (Int.tmod a0 10))) % 256)] from rfl) (Reps.none _ _)))); intro v158 w2 ho3 hb hg_ hnew_; clear hg_ hnew_; (first | rw [← Ny157.out] at ho3 | (simp only [Int.reduceToNat] at ho3; rw [← Ny157.out] at ho3)); have n0_ := Aside0.mk (Kd.R_lower ho3 (below_size (by repeat (first | (with_reducible first | exact HB.out | apply below_alloc | apply pw_below_drewN | apply below_drew1) | exact HB.out)))); have n1_ := Aside0.mk (below_step (by repeat (first | (with_reducible first | exact HB.out | apply below_alloc | apply pw_below_drewN | apply below_drew1) | exact HB.out)) hb); clear HB; have HO159 := n0_; have HB := n1_; clear n0_ n1_; clear hb ho3; have hcv4 := own_string (P := Tryd.prog) Tryd.underlying24 Tryd.underlying5 Tryd.underlying9 (Kd.own_of_R HO159.out)))
  go_ret
  exact ⟨by first | rfl | (simp [errW_none, errW_some] <;> rfl) | (simp [*, errW_none, errW_some] <;> rfl), by repeat (first | (with_reducible first | exact HB.out | apply below_alloc | apply pw_below_drewN | apply below_drew1) | exact HB.out)⟩

/-! ### spec_ZoneText: function 58 -/
def spec_ZoneText.f (a0 : Int) : Option (ByteArray) := if a0 < 0 then ((spec_two.f (wrap64 (Int.tdiv (wrap64 (-a0)) 3600))).bind fun t160 => (if 1 + t160.size ≤ 9223372036854775807 then ((spec_two.f (Int.tmod (wrap64 (Int.tdiv (wrap64 (-a0)) 60)) 60)).bind fun t161 => (if ((⟨#[45]⟩ : ByteArray) ++ t160).size + t161.size ≤ 9223372036854775807 then (some (((⟨#[45]⟩ : ByteArray) ++ t160) ++ t161)) else (none))) else (none))) else ((spec_two.f (wrap64 (Int.tdiv a0 3600))).bind fun t162 => (if 1 + t162.size ≤ 9223372036854775807 then ((spec_two.f (Int.tmod (wrap64 (Int.tdiv a0 60)) 60)).bind fun t163 => (if ((⟨#[43]⟩ : ByteArray) ++ t162).size + t163.size ≤ 9223372036854775807 then (some (((⟨#[43]⟩ : ByteArray) ++ t162) ++ t163)) else (none))) else (none)))
set_option maxHeartbeats 8000000 in
set_option maxRecDepth 100000 in
theorem spec_ZoneText.calls (a0 : Int) (r : ByteArray) (w : World) (h : spec_ZoneText.f a0 = some r) :
    Calls Tryd.prog 58 #[.int .i64 a0] w fun e w' => e = .returned (.string r) ∧ Below w.heap.size w w' := by
  have HB := Aside0.mk (Below.refl w.heap.size w)
  have H : (if a0 < 0 then ((spec_two.f (wrap64 (Int.tdiv (wrap64 (-a0)) 3600))).bind fun t160 => (if 1 + t160.size ≤ 9223372036854775807 then ((spec_two.f (Int.tmod (wrap64 (Int.tdiv (wrap64 (-a0)) 60)) 60)).bind fun t161 => (if ((⟨#[45]⟩ : ByteArray) ++ t160).size + t161.size ≤ 9223372036854775807 then (some (((⟨#[45]⟩ : ByteArray) ++ t160) ++ t161)) else (none))) else (none))) else ((spec_two.f (wrap64 (Int.tdiv a0 3600))).bind fun t162 => (if 1 + t162.size ≤ 9223372036854775807 then ((spec_two.f (Int.tmod (wrap64 (Int.tdiv a0 60)) 60)).bind fun t163 => (if ((⟨#[43]⟩ : ByteArray) ++ t162).size + t163.size ≤ 9223372036854775807 then (some (((⟨#[43]⟩ : ByteArray) ++ t162) ++ t163)) else (none))) else (none)))) = some r := h
  clear h
  by_cases c2 : a0 < 0
  · rw [if_pos c2] at H
    have c2b0 : decide (a0 < 0) = true := decide_eq_true c2
    clear c2
    replace H := Option.bind_eq_some_iff.mp H
    obtain ⟨t160, A30, H⟩ := H
    replace H : (if 1 + t160.size ≤ 9223372036854775807 then ((spec_two.f (Int.tmod (wrap64 (Int.tdiv (wrap64 (-a0)) 60)) 60)).bind fun t161 => (if ((⟨#[45]⟩ : ByteArray) ++ t160).size + t161.size ≤ 9223372036854775807 then (some (((⟨#[45]⟩ : ByteArray) ++ t160) ++ t161)) else (none))) else (none)) = some r := H
    have A3 := Aside0.mk A30
    clear A30
    by_cases c4 : 1 + t160.size ≤ 9223372036854775807
    · rw [if_pos c4] at H
      have c4b0 := eq_true c4
      have c4b1 : decide (1 + t160.size ≤ 9223372036854775807) = true := decide_eq_true c4
      try have c4b2 : (9223372036854775807 < 1 + t160.size) = False := eq_false (Nat.not_lt.2 c4)
      replace H := Option.bind_eq_some_iff.mp H
      obtain ⟨t161, A50, H⟩ := H
      replace H : (if ((⟨#[45]⟩ : ByteArray) ++ t160).size + t161.size ≤ 9223372036854775807 then (some (((⟨#[45]⟩ : ByteArray) ++ t160) ++ t161)) else (none)) = some r := H
      have A5 := Aside0.mk A50
      clear A50
      by_cases c6 : ((⟨#[45]⟩ : ByteArray) ++ t160).size + t161.size ≤ 9223372036854775807
      · rw [if_pos c6] at H
        have c6b0 := eq_true c6
        try have c6b9 : (9223372036854775807 < 1 + t160.size + t161.size) = False := eq_false (by have h_ := c6; simp only [ByteArray.size_append] at h_; have e0_ : (⟨#[45]⟩ : ByteArray).size = 1 := rfl; omega)
        have c6b1 : decide (((⟨#[45]⟩ : ByteArray) ++ t160).size + t161.size ≤ 9223372036854775807) = true := decide_eq_true c6
        try have c6b2 : (9223372036854775807 < ((⟨#[45]⟩ : ByteArray) ++ t160).size + t161.size) = False := eq_false (Nat.not_lt.2 c6)
        obtain rfl := Option.some.inj H
        go_enter Tryd.func58, Tryd.ntmps58
        go_wp2_with (first | ((with_reducible refine gate_callee (f := 68) rfl ?_); refine goesL_ (some 11) rfl rfl Tryd.func68 (by kernel_rfl) rfl #[.int .i64 (wrap64 (Int.tdiv (wrap64 (-a0)) 3600))] rfl (by (try simp only [List.map_toArray, List.map_cons, List.map_nil]); first | done | rfl | (simp only [List.length_drop, List.length_take]; rfl)) ?_; (with_reducible refine (spec_two.calls (wrap64 (Int.tdiv (wrap64 (-a0)) 3600)) t160 _ A3.out).mono ?_); rintro e w7 ⟨rfl, hb⟩; refine ⟨_, rfl, ?_⟩; have n0_ := Aside0.mk (below_step (by repeat (first | (with_reducible first | exact HB.out | apply below_alloc | apply pw_below_drewN | apply below_drew1) | exact HB.out)) hb); clear HB; have HB := n0_; clear n0_; (try clear hb); (try clear hb2); (try clear hk); (try clear hi)) | ((with_reducible refine gate_callee (f := 68) rfl ?_); refine goesL_ (some 16) rfl rfl Tryd.func68 (by kernel_rfl) rfl #[.int .i64 (Int.tmod (wrap64 (Int.tdiv (wrap64 (-a0)) 60)) 60)] rfl (by (try simp only [List.map_toArray, List.map_cons, List.map_nil]); first | done | rfl | (simp only [List.length_drop, List.length_take]; rfl)) ?_; (with_reducible refine (spec_two.calls (Int.tmod (wrap64 (Int.tdiv (wrap64 (-a0)) 60)) 60) t161 _ A5.out).mono ?_); rintro e w8 ⟨rfl, hb⟩; refine ⟨_, rfl, ?_⟩; have n0_ := Aside0.mk (below_step (by repeat (first | (with_reducible first | exact HB.out | apply below_alloc | apply pw_below_drewN | apply below_drew1) | exact HB.out)) hb); clear HB; have HB := n0_; clear n0_; (try clear hb); (try clear hb2); (try clear hk); (try clear hi)))
        go_ret
        exact ⟨by first | rfl | (simp [errW_none, errW_some] <;> rfl) | (simp [*, errW_none, errW_some] <;> rfl), by repeat (first | (with_reducible first | exact HB.out | apply below_alloc | apply pw_below_drewN | apply below_drew1) | exact HB.out)⟩
      · rw [if_neg c6] at H
        exact absurd H (by simp)
    · rw [if_neg c4] at H
      exact absurd H (by simp)
  · rw [if_neg c2] at H
    have c2b0 : decide (a0 < 0) = false := decide_eq_false c2
    clear c2
    replace H := Option.bind_eq_some_iff.mp H
    obtain ⟨t162, A90, H⟩ := H
    replace H : (if 1 + t162.size ≤ 9223372036854775807 then ((spec_two.f (Int.tmod (wrap64 (Int.tdiv a0 60)) 60)).bind fun t163 => (if ((⟨#[43]⟩ : ByteArray) ++ t162).size + t163.size ≤ 9223372036854775807 then (some (((⟨#[43]⟩ : ByteArray) ++ t162) ++ t163)) else (none))) else (none)) = some r := H
    have A9 := Aside0.mk A90
    clear A90
    by_cases c10 : 1 + t162.size ≤ 9223372036854775807
    · rw [if_pos c10] at H
      have c10b0 := eq_true c10
      have c10b1 : decide (1 + t162.size ≤ 9223372036854775807) = true := decide_eq_true c10
      try have c10b2 : (9223372036854775807 < 1 + t162.size) = False := eq_false (Nat.not_lt.2 c10)
      replace H := Option.bind_eq_some_iff.mp H
      obtain ⟨t163, A110, H⟩ := H
      replace H : (if ((⟨#[43]⟩ : ByteArray) ++ t162).size + t163.size ≤ 9223372036854775807 then (some (((⟨#[43]⟩ : ByteArray) ++ t162) ++ t163)) else (none)) = some r := H
      have A11 := Aside0.mk A110
      clear A110
      by_cases c12 : ((⟨#[43]⟩ : ByteArray) ++ t162).size + t163.size ≤ 9223372036854775807
      · rw [if_pos c12] at H
        have c12b0 := eq_true c12
        try have c12b9 : (9223372036854775807 < 1 + t162.size + t163.size) = False := eq_false (by have h_ := c12; simp only [ByteArray.size_append] at h_; have e0_ : (⟨#[43]⟩ : ByteArray).size = 1 := rfl; omega)
        have c12b1 : decide (((⟨#[43]⟩ : ByteArray) ++ t162).size + t163.size ≤ 9223372036854775807) = true := decide_eq_true c12
        try have c12b2 : (9223372036854775807 < ((⟨#[43]⟩ : ByteArray) ++ t162).size + t163.size) = False := eq_false (Nat.not_lt.2 c12)
        obtain rfl := Option.some.inj H
        go_enter Tryd.func58, Tryd.ntmps58
        go_wp2_with (first | ((with_reducible refine gate_callee (f := 68) rfl ?_); refine goesL_ (some 11) rfl rfl Tryd.func68 (by kernel_rfl) rfl #[.int .i64 (wrap64 (Int.tdiv a0 3600))] rfl (by (try simp only [List.map_toArray, List.map_cons, List.map_nil]); first | done | rfl | (simp only [List.length_drop, List.length_take]; rfl)) ?_; (with_reducible refine (spec_two.calls (wrap64 (Int.tdiv a0 3600)) t162 _ A9.out).mono ?_); rintro e w13 ⟨rfl, hb⟩; refine ⟨_, rfl, ?_⟩; have n0_ := Aside0.mk (below_step (by repeat (first | (with_reducible first | exact HB.out | apply below_alloc | apply pw_below_drewN | apply below_drew1) | exact HB.out)) hb); clear HB; have HB := n0_; clear n0_; (try clear hb); (try clear hb2); (try clear hk); (try clear hi)) | ((with_reducible refine gate_callee (f := 68) rfl ?_); refine goesL_ (some 16) rfl rfl Tryd.func68 (by kernel_rfl) rfl #[.int .i64 (Int.tmod (wrap64 (Int.tdiv a0 60)) 60)] rfl (by (try simp only [List.map_toArray, List.map_cons, List.map_nil]); first | done | rfl | (simp only [List.length_drop, List.length_take]; rfl)) ?_; (with_reducible refine (spec_two.calls (Int.tmod (wrap64 (Int.tdiv a0 60)) 60) t163 _ A11.out).mono ?_); rintro e w14 ⟨rfl, hb⟩; refine ⟨_, rfl, ?_⟩; have n0_ := Aside0.mk (below_step (by repeat (first | (with_reducible first | exact HB.out | apply below_alloc | apply pw_below_drewN | apply below_drew1) | exact HB.out)) hb); clear HB; have HB := n0_; clear n0_; (try clear hb); (try clear hb2); (try clear hk); (try clear hi)))
        go_ret
        exact ⟨by first | rfl | (simp [errW_none, errW_some] <;> rfl) | (simp [*, errW_none, errW_some] <;> rfl), by repeat (first | (with_reducible first | exact HB.out | apply below_alloc | apply pw_below_drewN | apply below_drew1) | exact HB.out)⟩
      · rw [if_neg c12] at H
        exact absurd H (by simp)
    · rw [if_neg c10] at H
      exact absurd H (by simp)

end Go.Proofs.YtddnepddilbikaaDoor.QAll
