-- WRITTEN BY A PROGRAM OF THIS SESSION, out of the loaded program, with words of the kit
import Derived.Test.YtddnepddilbikaaDoorQAllx0
import Derived.Test.YtddnepddilbikaaDoorQAllx2
namespace Go.Proofs.YtddnepddilbikaaDoor.QAll
open Go.RowKit Go.Proofs.YtddnepddilbikaaDoorW.PrintWords Go.Proofs.YtddnepddilbikaaDoorW.PrintLast Go.Proofs.YtddnepddilbikaaDoorW.PrintMore
attribute [local go_sem] max2_int min2_int max_two min_two max_three min_three max_four min_four   -- for this text's walks alone
set_option linter.unusedVariables false
set_option linter.unusedSimpArgs false

/-! ### spec_plainEncoding: function 37 -/
def spec_plainEncoding.f (a0_0 : ByteArray) (l0_1 : List ByteArray) (a0_2 : ByteArray) (a0_3 : ByteArray) (a0_4 : Int) (a0_5 : Int) (a0_6 : ByteArray) (a0_7 : ByteArray) (a0_8 : Int) (a0_9 : Int) (a0_10 : ByteArray) (a0_11 : ByteArray) (a0_12 : ByteArray) (a0_13 : ByteArray) : Option (Bool) := if a0_12.toList = ([] : List UInt8) then (some true) else (some (a0_12.toList == ([85, 84, 70, 45, 56] : List UInt8)))
set_option maxHeartbeats 8000000 in
set_option maxRecDepth 100000 in
theorem spec_plainEncoding.calls (a0_0 : ByteArray) (A0_1 : Option Addr) (c0_1 : Nat) (l0_1 : List ByteArray) (a0_2 : ByteArray) (a0_3 : ByteArray) (a0_4 : Int) (a0_5 : Int) (a0_6 : ByteArray) (a0_7 : ByteArray) (a0_8 : Int) (a0_9 : Int) (a0_10 : ByteArray) (a0_11 : ByteArray) (a0_12 : ByteArray) (a0_13 : ByteArray) (r : Bool) (w : World) (hr0_1 : Kd.C Kd.string w A0_1 l0_1.length l0_1) (hc0_1 : l0_1.length ≤ c0_1) (h : spec_plainEncoding.f a0_0 l0_1 a0_2 a0_3 a0_4 a0_5 a0_6 a0_7 a0_8 a0_9 a0_10 a0_11 a0_12 a0_13 = some r) :
    Calls Tryd.prog 37 #[.agg #[.string a0_0, .slice A0_1 l0_1.length c0_1, .string a0_2, .string a0_3, .int .i64 a0_4, .int .i64 a0_5, .string a0_6, .string a0_7, .int .i64 a0_8, .int .i64 a0_9, .string a0_10, .string a0_11, .string a0_12, .string a0_13]] w fun e w' => e = .returned (.bool r) ∧ Below w.heap.size w w' := by
  have hu38 := Tryd.underlying38
  have HR0_1 := Aside0.mk hr0_1
  have HC0_1 := Aside0.mk hc0_1
  clear hr0_1 hc0_1
  have HB := Aside0.mk (Below.refl w.heap.size w)
  have H : (if a0_12.toList = ([] : List UInt8) then (some true) else (some (a0_12.toList == ([85, 84, 70, 45, 56] : List UInt8)))) = some r := h
  clear h
  by_cases c2 : a0_12.toList = ([] : List UInt8)
  · rw [if_pos c2] at H
    have c2b0 : (a0_12.toList == ([] : List UInt8)) = true := beq_iff_eq.mpr c2
    have c2b1 : (a0_12.toList != ([] : List UInt8)) = false := bne_eq_false_iff_eq.mpr c2
    clear c2
    obtain rfl := Option.some.inj H
    go_enter Tryd.func37, Tryd.ntmps37
    go_wp2_with (first | ((with_reducible refine gate_dst (N := 1) rfl ?_); refine box_event ?hg (N := 1) ?hd (cs := #[.string a0_0, .slice A0_1 l0_1.length c0_1, .string a0_2, .string a0_3, .int .i64 a0_4, .int .i64 a0_5, .string a0_6, .string a0_7, .int .i64 a0_8, .int .i64 a0_9, .string a0_10, .string a0_11, .string a0_12, .string a0_13]) (t := 38) ?hr ?_; (case hd => rfl); (case hg => rfl); (case hr => first | (go_simp; done) | (go_simp; rfl)); intro gb170 hg w3 hbox hb; have n0_ := Aside0.mk (below_step (by repeat (first | (with_reducible first | exact HB.out | apply below_alloc | apply pw_below_drewN | apply below_drew1) | exact HB.out)) hb); have n1_ := Aside0.mk (hbox); have n2_ := Aside0.mk ((by rw [hg]; exact (below_size (by repeat (first | (with_reducible first | exact HB.out | apply below_alloc | apply pw_below_drewN | apply below_drew1) | exact HB.out))) : w.heap.size ≤ gb170)); have n3_ := Aside0.mk ((by rw [hg]; exact (below_size (by repeat (first | (with_reducible first | exact HB.out | apply below_alloc | apply pw_below_drewN | apply below_drew1) | exact HB.out))) : w.heap.size ≤ gb170)); clear HB; have HB := n0_; have BK170 := n1_; have GW170 := n2_; have GE170 := n3_; clear n0_ n1_ n2_ n3_; clear hb hbox hg; have hcz4_0 : w3.cell? ⟨gb170, 0, none⟩ = some (.string a0_0) := (blk_cell BK170.out 0).trans rfl; have hcz4_1 : w3.cell? ⟨gb170, 1, none⟩ = some (.slice A0_1 l0_1.length c0_1) := (blk_cell BK170.out 1).trans rfl; have hcz4_2 : w3.cell? ⟨gb170, 2, none⟩ = some (.string a0_2) := (blk_cell BK170.out 2).trans rfl; have hcz4_3 : w3.cell? ⟨gb170, 3, none⟩ = some (.string a0_3) := (blk_cell BK170.out 3).trans rfl; have hcz4_4 : w3.cell? ⟨gb170, 4, none⟩ = some (.int .i64 a0_4) := (blk_cell BK170.out 4).trans rfl; have hcz4_5 : w3.cell? ⟨gb170, 5, none⟩ = some (.int .i64 a0_5) := (blk_cell BK170.out 5).trans rfl; have hcz4_6 : w3.cell? ⟨gb170, 6, none⟩ = some (.string a0_6) := (blk_cell BK170.out 6).trans rfl; have hcz4_7 : w3.cell? ⟨gb170, 7, none⟩ = some (.string a0_7) := (blk_cell BK170.out 7).trans rfl; have hcz4_8 : w3.cell? ⟨gb170, 8, none⟩ = some (.int .i64 a0_8) := (blk_cell BK170.out 8).trans rfl; have hcz4_9 : w3.cell? ⟨gb170, 9, none⟩ = some (.int .i64 a0_9) := (blk_cell BK170.out 9).trans rfl; have hcz4_10 : w3.cell? ⟨gb170, 10, none⟩ = some (.string a0_10) := (blk_cell BK170.out 10).trans rfl; have hcz4_11 : w3.cell? ⟨gb170, 11, none⟩ = some (.string a0_11) := (blk_cell BK170.out 11).trans rfl; have hcz4_12 : w3.cell? ⟨gb170, 12, none⟩ = some (.string a0_12) := (blk_cell BK170.out 12).trans rfl; have hcz4_13 : w3.cell? ⟨gb170, 13, none⟩ = some (.string a0_13) := (blk_cell BK170.out 13).trans rfl; have hfz4_0 := blk_frozen BK170.out 0; have hfz4_1 := blk_frozen BK170.out 1; have hfz4_2 := blk_frozen BK170.out 2; have hfz4_3 := blk_frozen BK170.out 3; have hfz4_4 := blk_frozen BK170.out 4; have hfz4_5 := blk_frozen BK170.out 5; have hfz4_6 := blk_frozen BK170.out 6; have hfz4_7 := blk_frozen BK170.out 7; have hfz4_8 := blk_frozen BK170.out 8; have hfz4_9 := blk_frozen BK170.out 9; have hfz4_10 := blk_frozen BK170.out 10; have hfz4_11 := blk_frozen BK170.out 11; have hfz4_12 := blk_frozen BK170.out 12; have hfz4_13 := blk_frozen BK170.out 13))
    go_ret
    exact ⟨by first | rfl | (simp [errW_none, errW_some] <;> rfl) | (simp [*, errW_none, errW_some] <;> rfl), by repeat (first | (with_reducible first | exact HB.out | apply below_alloc | apply pw_below_drewN | apply below_drew1 | refine below_set ?_ GE170.out) | exact HB.out)⟩
  · rw [if_neg c2] at H
    have c2b0 : (a0_12.toList == ([] : List UInt8)) = false := beq_eq_false_iff_ne.mpr c2
    have c2b1 : (a0_12.toList != ([] : List UInt8)) = true := bne_iff_ne.mpr c2
    obtain rfl := Option.some.inj H
    go_enter Tryd.func37, Tryd.ntmps37
    go_wp2_with (first | ((with_reducible refine gate_dst (N := 1) rfl ?_); refine box_event ?hg (N := 1) ?hd (cs := #[.string a0_0, .slice A0_1 l0_1.length c0_1, .string a0_2, .string a0_3, .int .i64 a0_4, .int .i64 a0_5, .string a0_6, .string a0_7, .int .i64 a0_8, .int .i64 a0_9, .string a0_10, .string a0_11, .string a0_12, .string a0_13]) (t := 38) ?hr ?_; (case hd => rfl); (case hg => rfl); (case hr => first | (go_simp; done) | (go_simp; rfl)); intro gb170 hg w5 hbox hb; have n0_ := Aside0.mk (below_step (by repeat (first | (with_reducible first | exact HB.out | apply below_alloc | apply pw_below_drewN | apply below_drew1) | exact HB.out)) hb); have n1_ := Aside0.mk (hbox); have n2_ := Aside0.mk ((by rw [hg]; exact (below_size (by repeat (first | (with_reducible first | exact HB.out | apply below_alloc | apply pw_below_drewN | apply below_drew1) | exact HB.out))) : w.heap.size ≤ gb170)); have n3_ := Aside0.mk ((by rw [hg]; exact (below_size (by repeat (first | (with_reducible first | exact HB.out | apply below_alloc | apply pw_below_drewN | apply below_drew1) | exact HB.out))) : w.heap.size ≤ gb170)); clear HB; have HB := n0_; have BK170 := n1_; have GW170 := n2_; have GE170 := n3_; clear n0_ n1_ n2_ n3_; clear hb hbox hg; have hcz6_0 : w5.cell? ⟨gb170, 0, none⟩ = some (.string a0_0) := (blk_cell BK170.out 0).trans rfl; have hcz6_1 : w5.cell? ⟨gb170, 1, none⟩ = some (.slice A0_1 l0_1.length c0_1) := (blk_cell BK170.out 1).trans rfl; have hcz6_2 : w5.cell? ⟨gb170, 2, none⟩ = some (.string a0_2) := (blk_cell BK170.out 2).trans rfl; have hcz6_3 : w5.cell? ⟨gb170, 3, none⟩ = some (.string a0_3) := (blk_cell BK170.out 3).trans rfl; have hcz6_4 : w5.cell? ⟨gb170, 4, none⟩ = some (.int .i64 a0_4) := (blk_cell BK170.out 4).trans rfl; have hcz6_5 : w5.cell? ⟨gb170, 5, none⟩ = some (.int .i64 a0_5) := (blk_cell BK170.out 5).trans rfl; have hcz6_6 : w5.cell? ⟨gb170, 6, none⟩ = some (.string a0_6) := (blk_cell BK170.out 6).trans rfl; have hcz6_7 : w5.cell? ⟨gb170, 7, none⟩ = some (.string a0_7) := (blk_cell BK170.out 7).trans rfl; have hcz6_8 : w5.cell? ⟨gb170, 8, none⟩ = some (.int .i64 a0_8) := (blk_cell BK170.out 8).trans rfl; have hcz6_9 : w5.cell? ⟨gb170, 9, none⟩ = some (.int .i64 a0_9) := (blk_cell BK170.out 9).trans rfl; have hcz6_10 : w5.cell? ⟨gb170, 10, none⟩ = some (.string a0_10) := (blk_cell BK170.out 10).trans rfl; have hcz6_11 : w5.cell? ⟨gb170, 11, none⟩ = some (.string a0_11) := (blk_cell BK170.out 11).trans rfl; have hcz6_12 : w5.cell? ⟨gb170, 12, none⟩ = some (.string a0_12) := (blk_cell BK170.out 12).trans rfl; have hcz6_13 : w5.cell? ⟨gb170, 13, none⟩ = some (.string a0_13) := (blk_cell BK170.out 13).trans rfl; have hfz6_0 := blk_frozen BK170.out 0; have hfz6_1 := blk_frozen BK170.out 1; have hfz6_2 := blk_frozen BK170.out 2; have hfz6_3 := blk_frozen BK170.out 3; have hfz6_4 := blk_frozen BK170.out 4; have hfz6_5 := blk_frozen BK170.out 5; have hfz6_6 := blk_frozen BK170.out 6; have hfz6_7 := blk_frozen BK170.out 7; have hfz6_8 := blk_frozen BK170.out 8; have hfz6_9 := blk_frozen BK170.out 9; have hfz6_10 := blk_frozen BK170.out 10; have hfz6_11 := blk_frozen BK170.out 11; have hfz6_12 := blk_frozen BK170.out 12; have hfz6_13 := blk_frozen BK170.out 13))
    go_ret
    exact ⟨by first | rfl | (simp [errW_none, errW_some] <;> rfl) | (simp [*, errW_none, errW_some] <;> rfl), by repeat (first | (with_reducible first | exact HB.out | apply below_alloc | apply pw_below_drewN | apply below_drew1 | refine below_set ?_ GE170.out) | exact HB.out)⟩

/-! ### spec_Lines: function 41 -/
def spec_Lines.l0 : Nat → ByteArray → List ByteArray → Int → Int → Int → Option (List ByteArray)
  | 0, _, _, _, _, _ => none
  | k + 1, x0, x3, x4, x7, x8 => if x8 < x7 then (if 0 ≤ x8 then (if x8 < (x0.size : Int) then (if (bt x0 x8) = 10 then (if 0 ≤ x4 then (if x4 ≤ x8 then (if x8 ≤ (x0.size : Int) then (if x3.length < 8796093022208 then (spec_Lines.l0 k x0 (x3 ++ [x0.extract (x4 : Int).toNat (x8 : Int).toNat]) (wrap64 (x8 + 1)) x7 (wrap64 (x8 + 1))) else (none)) else (none)) else (none)) else (none)) else (spec_Lines.l0 k x0 x3 x4 x7 (wrap64 (x8 + 1)))) else (none)) else (none)) else (some x3)
def spec_Lines.f (k : Nat) (a0 : ByteArray) : Option (List ByteArray) := spec_Lines.l0 k a0 ([] : List ByteArray) 0 (a0.size : Int) 0
theorem spec_Lines.mono_l : ∀ k, (∀ y0 y1 y2 y3 y4, LeO (spec_Lines.l0 k y0 y1 y2 y3 y4) (spec_Lines.l0 (k + 1) y0 y1 y2 y3 y4))
  | 0 => fun _ _ _ _ _ r h => by simp [spec_Lines.l0] at h
  | k + 1 => by
    have ih0 := spec_Lines.mono_l k
    · intro y0 y1 y2 y3 y4
      unfold spec_Lines.l0
      repeat' first
      | (with_reducible exact ih0 _ _ _ _ _)
      | (with_reducible exact LeO.refl _)
      | (with_reducible exact LeO.none _)
      | (with_reducible refine LeO.ite ?_ ?_)
      | (with_reducible refine LeO.bind ?_ (fun _ => ?_))
      | exact ih0 _ _ _ _ _
      | exact LeO.none _
      | refine LeO.ite ?_ ?_
      | refine LeO.bind ?_ (fun _ => ?_)
theorem spec_Lines.mono : ∀ a0 k, LeO (spec_Lines.f k a0) (spec_Lines.f (k + 1) a0) := by
  intro a0 k
  have ih0 := spec_Lines.mono_l k
  unfold spec_Lines.f
  repeat' first
      | (with_reducible exact ih0 _ _ _ _ _)
      | (with_reducible exact LeO.refl _)
      | (with_reducible exact LeO.none _)
      | (with_reducible refine LeO.ite ?_ ?_)
      | (with_reducible refine LeO.bind ?_ (fun _ => ?_))
      | exact ih0 _ _ _ _ _
      | exact LeO.none _
      | refine LeO.ite ?_ ?_
      | refine LeO.bind ?_ (fun _ => ?_)
set_option maxHeartbeats 8000000 in
set_option maxRecDepth 100000 in
theorem spec_Lines.calls (k : Nat) (a0 : ByteArray) (r : List ByteArray) (w : World) (h : spec_Lines.f k a0 = some r) :
    Calls Tryd.prog 41 #[.string a0] w fun e w' => ∃ v0_ : Value, e = .returned (v0_) ∧ Kd.R Kd.string 9 w' w.heap.size (fun _ => True) v0_ r ∧ Below w.heap.size w w' := by
  have HB := Aside0.mk (Below.refl w.heap.size w)
  have H : (spec_Lines.l0 k a0 ([] : List ByteArray) 0 (a0.size : Int) 0) = some r := h
  clear h
  have H' := Aside0.mk H
  clear H
  go_enter Tryd.func41, Tryd.ntmps41
  go_wp2
  go_loopg [3, 4, 8] k (fun kq v3 v4 v8 w' => ∃ (x3_1 : List ByteArray) (x4_1 : Int) (x8_1 : Int), v4 = .int .i64 x4_1 ∧ v8 = .int .i64 x8_1 ∧ Aside0 (spec_Lines.l0 kq a0 x3_1 x4_1 (a0.size : Int) x8_1 = some r) ∧ Aside0 (kq ≤ k) ∧ Aside0 (Kd.R Kd.string 9 w' w.heap.size (fun _ => True) v3 x3_1) ∧ Aside0 (Below w.heap.size w w'))
  case atStart => exact ⟨(([] : List ByteArray)), (0), (0), (by first | rfl | (simp; done) | (simp [*]; done)), (by first | rfl | (simp; done) | (simp [*]; done)), H', ⟨Nat.le_refl _⟩, ⟨by first | exact Kd.R_nil _ _ _ _ _ | exact Kd.N_nil _ _ _ _ _ | exact Kd.V_nil _ _ _ _ _ | exact Kd.Q_nil _ _ _ _ _ | exact Kd.S_nil _ _ _ _ _⟩, ⟨by repeat (first | (with_reducible first | exact HB.out | apply below_alloc | apply pw_below_drewN | apply below_drew1) | exact HB.out)⟩⟩
  case round =>
    clear H'
    obtain ⟨x3_1, x4_1, x8_1, rfl, rfl, HA, HK1, HO_3, HB⟩ := hrel
    cases gk with
    | zero => exact absurd HA.out (by simp [spec_Lines.l0])
    | succ k1 =>
      have H := HA.out
      clear HA
      simp only [spec_Lines.l0] at H
      by_cases c2 : x8_1 < (a0.size : Int)
      · rw [if_pos c2] at H
        have c2b0 : decide (x8_1 < (a0.size : Int)) = true := decide_eq_true c2
        clear c2
        by_cases c3 : 0 ≤ x8_1
        · rw [if_pos c3] at H
          have c3b0 : decide (0 ≤ x8_1) = true := decide_eq_true c3
          clear c3
          by_cases c4 : x8_1 < (a0.size : Int)
          · rw [if_pos c4] at H
            have c4b0 : decide (x8_1 < (a0.size : Int)) = true := decide_eq_true c4
            clear c4
            by_cases c6 : (bt a0 x8_1) = 10
            · rw [if_pos c6] at H
              have c6b0 : ((bt a0 x8_1) == 10) = true := beq_iff_eq.mpr c6
              have c6b1 : ((bt a0 x8_1) != 10) = false := bne_eq_false_iff_eq.mpr c6
              clear c6
              by_cases c7 : 0 ≤ x4_1
              · rw [if_pos c7] at H
                have c7b0 := eq_true c7
                have c7b1 : decide (0 ≤ x4_1) = true := decide_eq_true c7
                clear c7
                by_cases c8 : x4_1 ≤ x8_1
                · rw [if_pos c8] at H
                  have c8b0 := eq_true c8
                  have c8b1 : decide (x4_1 ≤ x8_1) = true := decide_eq_true c8
                  clear c8
                  by_cases c9 : x8_1 ≤ (a0.size : Int)
                  · rw [if_pos c9] at H
                    have c9b0 := eq_true c9
                    have c9b1 : decide (x8_1 ≤ (a0.size : Int)) = true := decide_eq_true c9
                    clear c9
                    by_cases c10 : x3_1.length < 8796093022208
                    · rw [if_pos c10] at H
                      have LMc10 := Aside0.mk c10
                      clear c10
                      obtain ⟨y171, hy171⟩ : ∃ y_ : List ByteArray, y_ = (x3_1 ++ [a0.extract (x4_1 : Int).toNat (x8_1 : Int).toNat]) := ⟨_, rfl⟩
                      replace H : (spec_Lines.l0 k1 a0 y171 (wrap64 (x8_1 + 1)) (a0.size : Int) (wrap64 (x8_1 + 1))) = some r := by first | (rw [hy171]; with_reducible exact H) | (have H2_ := (Option.bind_some _ _).symm.trans H; rw [hy171]; with_reducible exact H2_) | (have H2_ := (Option.bind_some _ _).symm.trans H; with_reducible exact H2_) | with_reducible exact H | (rw [hy171]; exact H) | exact H
                      have Ny171 := Aside0.mk hy171
                      clear hy171
                      have H' := Aside0.mk H
                      clear H
                      have p5 : 0 ≤ (x8_1 : Int) := of_decide_eq_true (by first | (with_reducible assumption) | assumption)
                      have q5 : x8_1 < (a0.size : Int) := of_decide_eq_true (by first | (with_reducible assumption) | assumption)
                      have hx5 := bt_at a0 x8_1
                      replace p5 := eq_true p5
                      replace q5 := eq_true q5
                      go_wp2_with (first | ((with_reducible refine gate_builtin (b := .append) (xs := #[.tmp 15, .tmp 20]) rfl ?_); at_builtin; refine Kd.R_append Kd.string (w0 := w) w.heap.size rfl (.tmp 15) (.tmp 20) 36 9 (.string ⟨#[]⟩) 16 rfl Tryd.underlying36 info9 rfl (by decide) (by omega) u3 x3_1 (a0.extract (x4_1 : Int).toNat (x8_1 : Int).toNat) [.string (a0.extract (x4_1 : Int).toNat (x8_1 : Int).toNat)] (fun _ => True) (fun _ => False) rfl rfl ?aP (fun _ hk => hk.elim) ?aF ?aO ?aB ?aS ?aL ?_; (case aP => exact rfl); (case aB => exact (by repeat (first | (with_reducible first | exact HB.out | apply below_alloc | apply pw_below_drewN | apply below_drew1) | exact HB.out))); (case aF => exact (fun _ _ => trivial)); (case aO => exact (by (with_reducible repeat (first | apply Kd.R_alloc | apply Kd.R_drewN | apply Kd.R_drew)); exact HO_3.out)); (case aS => exact (below_size (by repeat (first | (with_reducible first | exact HB.out | apply below_alloc | apply pw_below_drewN | apply below_drew1) | exact HB.out)))); (case aL => have := LMc10.out; omega); intro v172 w11 ho hb hg hat; rw [← Ny171.out] at ho; have n0_ := Aside0.mk (hb); have n1_ := Aside0.mk (ho); clear HB; clear HO_3; have HB := n0_; have HO173 := n1_; clear n0_ n1_; clear ho hb hg hat))
                      go_roundg k1
                      case measure => have := HK1.out; omega
                      case rel => exact ⟨(y171), (wrap64 (x8_1 + 1)), (wrap64 (x8_1 + 1)), (by first | rfl | (simp; done) | (simp [*]; done)), (by first | rfl | (simp; done) | (simp [*]; done)), H', ⟨by have := HK1.out; omega⟩, ⟨by (with_reducible repeat (first | apply Kd.R_alloc | apply Kd.R_drewN | apply Kd.R_drew)); exact HO173.out⟩, ⟨by repeat (first | (with_reducible first | exact HB.out | apply below_alloc | apply pw_below_drewN | apply below_drew1) | exact HB.out)⟩⟩
                    · rw [if_neg c10] at H
                      exact absurd H (by simp)
                  · rw [if_neg c9] at H
                    exact absurd H (by simp)
                · rw [if_neg c8] at H
                  exact absurd H (by simp)
              · rw [if_neg c7] at H
                exact absurd H (by simp)
            · rw [if_neg c6] at H
              have c6b0 : ((bt a0 x8_1) == 10) = false := beq_eq_false_iff_ne.mpr c6
              have c6b1 : ((bt a0 x8_1) != 10) = true := bne_iff_ne.mpr c6
              have H' := Aside0.mk H
              clear H
              have p5 : 0 ≤ (x8_1 : Int) := of_decide_eq_true (by first | (with_reducible assumption) | assumption)
              have q5 : x8_1 < (a0.size : Int) := of_decide_eq_true (by first | (with_reducible assumption) | assumption)
              have hx5 := bt_at a0 x8_1
              replace p5 := eq_true p5
              replace q5 := eq_true q5
              go_wp2
              go_roundg k1
              case measure => have := HK1.out; omega
              case rel => exact ⟨(x3_1), (x4_1), (wrap64 (x8_1 + 1)), (by first | rfl | (simp; done) | (simp [*]; done)), (by first | rfl | (simp; done) | (simp [*]; done)), H', ⟨by have := HK1.out; omega⟩, ⟨by (with_reducible repeat (first | apply Kd.R_alloc | apply Kd.R_drewN | apply Kd.R_drew)); exact HO_3.out⟩, ⟨by repeat (first | (with_reducible first | exact HB.out | apply below_alloc | apply pw_below_drewN | apply below_drew1) | exact HB.out)⟩⟩
          · rw [if_neg c4] at H
            exact absurd H (by simp)
        · rw [if_neg c3] at H
          exact absurd H (by simp)
      · rw [if_neg c2] at H
        have c2b0 : decide (x8_1 < (a0.size : Int)) = false := decide_eq_false c2
        clear c2
        obtain rfl := Option.some.inj H
        go_wp2
        go_ret
        exact ⟨_, by first | rfl | (simp [errW_none, errW_some] <;> rfl) | (simp [*, errW_none, errW_some] <;> rfl), by (with_reducible repeat (first | apply Kd.R_alloc | apply Kd.R_drewN | apply Kd.R_drew)); exact HO_3.out, by repeat (first | (with_reducible first | exact HB.out | apply below_alloc | apply pw_below_drewN | apply below_drew1) | exact HB.out)⟩

/-! ### spec_IsSign: function 38 -/
def spec_IsSign.l0 : Nat → ByteArray → List ByteArray → Int → Int → Option (Bool)
  | 0, _, _, _, _ => none
  | k + 1, x0, x11, x12, x13 => if x13 < x12 then (if 0 ≤ x13 then (if x13 < (x11.length : Int) then (if (rdOf ByteArray.empty x11 x13).toList = ([] : List UInt8) then (if x13 = 0 then (some false) else ((spec_Has.f k (rdOf ByteArray.empty x11 x13) 0).bind fun t178 => (if t178 = true then (some false) else ((spec_Has.f k (rdOf ByteArray.empty x11 x13) 13).bind fun t179 => (if t179 = true then (some false) else (spec_IsSign.l0 k x0 x11 x12 (wrap64 (x13 + 1)))))))) else (if 0 < ((rdOf ByteArray.empty x11 x13).size : Int) then (if (bt (rdOf ByteArray.empty x11 x13) 0) = 32 then (some false) else ((spec_Has.f k (rdOf ByteArray.empty x11 x13) 0).bind fun t180 => (if t180 = true then (some false) else ((spec_Has.f k (rdOf ByteArray.empty x11 x13) 13).bind fun t181 => (if t181 = true then (some false) else (spec_IsSign.l0 k x0 x11 x12 (wrap64 (x13 + 1)))))))) else (none))) else (none)) else (none)) else (if 0 ≤ (wrap64 ((x0.size : Int) - 1)) then (if (wrap64 ((x0.size : Int) - 1)) < (x0.size : Int) then (some ((bt x0 (wrap64 ((x0.size : Int) - 1))) == 10)) else (none)) else (none))
def spec_IsSign.f (k : Nat) (a0 : ByteArray) : Option (Bool) := if a0.toList = ([] : List UInt8) then (some true) else (if (a0.size : Int) > 100000 then (some false) else ((spec_Lines.f k a0).bind fun t174 => (spec_IsSign.l0 k a0 t174 (t174.length : Int) 0)))
theorem spec_IsSign.mono_l : ∀ k, (∀ y0 y1 y2 y3, LeO (spec_IsSign.l0 k y0 y1 y2 y3) (spec_IsSign.l0 (k + 1) y0 y1 y2 y3))
  | 0 => fun _ _ _ _ r h => by simp [spec_IsSign.l0] at h
  | k + 1 => by
    have ih0 := spec_IsSign.mono_l k
    · intro y0 y1 y2 y3
      unfold spec_IsSign.l0
      repeat' first
      | (with_reducible exact ih0 _ _ _ _)
      | (with_reducible exact spec_Has.mono _ _ _)
      | (with_reducible exact spec_Lines.mono _ _)
      | (with_reducible exact LeO.refl _)
      | (with_reducible exact LeO.none _)
      | (with_reducible refine LeO.ite ?_ ?_)
      | (with_reducible refine LeO.bind ?_ (fun _ => ?_))
      | exact ih0 _ _ _ _
      | exact spec_Has.mono _ _ _
      | exact spec_Lines.mono _ _
      | exact LeO.none _
      | refine LeO.ite ?_ ?_
      | refine LeO.bind ?_ (fun _ => ?_)
theorem spec_IsSign.mono : ∀ a0 k, LeO (spec_IsSign.f k a0) (spec_IsSign.f (k + 1) a0) := by
  intro a0 k
  have ih0 := spec_IsSign.mono_l k
  unfold spec_IsSign.f
  repeat' first
      | (with_reducible exact ih0 _ _ _ _)
      | (with_reducible exact spec_Has.mono _ _ _)
      | (with_reducible exact spec_Lines.mono _ _)
      | (with_reducible exact LeO.refl _)
      | (with_reducible exact LeO.none _)
      | (with_reducible refine LeO.ite ?_ ?_)
      | (with_reducible refine LeO.bind ?_ (fun _ => ?_))
      | exact ih0 _ _ _ _
      | exact spec_Has.mono _ _ _
      | exact spec_Lines.mono _ _
      | exact LeO.none _
      | refine LeO.ite ?_ ?_
      | refine LeO.bind ?_ (fun _ => ?_)
set_option maxHeartbeats 8000000 in
set_option maxRecDepth 100000 in
theorem spec_IsSign.calls (k : Nat) (a0 : ByteArray) (r : Bool) (w : World) (h : spec_IsSign.f k a0 = some r) :
    Calls Tryd.prog 38 #[.string a0] w fun e w' => e = .returned (.bool r) ∧ Below w.heap.size w w' := by
  have HB := Aside0.mk (Below.refl w.heap.size w)
  have H : (if a0.toList = ([] : List UInt8) then (some true) else (if (a0.size : Int) > 100000 then (some false) else ((spec_Lines.f k a0).bind fun t174 => (spec_IsSign.l0 k a0 t174 (t174.length : Int) 0)))) = some r := h
  clear h
  by_cases c2 : a0.toList = ([] : List UInt8)
  · rw [if_pos c2] at H
    have c2b0 : (a0.toList == ([] : List UInt8)) = true := beq_iff_eq.mpr c2
    have c2b1 : (a0.toList != ([] : List UInt8)) = false := bne_eq_false_iff_eq.mpr c2
    clear c2
    obtain rfl := Option.some.inj H
    go_enter Tryd.func38, Tryd.ntmps38
    go_wp2
    go_ret
    exact ⟨by first | rfl | (simp [errW_none, errW_some] <;> rfl) | (simp [*, errW_none, errW_some] <;> rfl), by repeat (first | (with_reducible first | exact HB.out | apply below_alloc | apply pw_below_drewN | apply below_drew1) | exact HB.out)⟩
  · rw [if_neg c2] at H
    have c2b0 : (a0.toList == ([] : List UInt8)) = false := beq_eq_false_iff_ne.mpr c2
    have c2b1 : (a0.toList != ([] : List UInt8)) = true := bne_iff_ne.mpr c2
    by_cases c3 : (a0.size : Int) > 100000
    · rw [if_pos c3] at H
      have c3b0 : decide (100000 < (a0.size : Int)) = true := decide_eq_true c3
      have c3b1 : decide (100000 < a0.size) = true := decide_eq_true (by omega)
      clear c3
      obtain rfl := Option.some.inj H
      go_enter Tryd.func38, Tryd.ntmps38
      go_wp2
      go_ret
      exact ⟨by first | rfl | (simp [errW_none, errW_some] <;> rfl) | (simp [*, errW_none, errW_some] <;> rfl), by repeat (first | (with_reducible first | exact HB.out | apply below_alloc | apply pw_below_drewN | apply below_drew1) | exact HB.out)⟩
    · rw [if_neg c3] at H
      have c3b0 : decide (100000 < (a0.size : Int)) = false := decide_eq_false c3
      have c3b1 : decide (100000 < a0.size) = false := decide_eq_false (by omega)
      clear c3
      replace H := Option.bind_eq_some_iff.mp H
      obtain ⟨t174, A40, H⟩ := H
      replace H : (spec_IsSign.l0 k a0 t174 (t174.length : Int) 0) = some r := H
      have A4 := Aside0.mk A40
      clear A40
      have H' := Aside0.mk H
      clear H
      go_enter Tryd.func38, Tryd.ntmps38
      go_wp2_with (first | ((with_reducible refine gate_callee (f := 41) rfl ?_); refine goesL_ (some 11) rfl rfl Tryd.func41 (by kernel_rfl) rfl #[.string a0] rfl (by (try simp only [List.map_toArray, List.map_cons, List.map_nil]); first | done | rfl | (simp only [List.length_drop, List.length_take]; rfl)) ?_; (with_reducible refine (spec_Lines.calls k a0 t174 _ A4.out).mono ?_); rintro e w5 ⟨v175, rfl, ho0, hb⟩; refine ⟨_, rfl, ?_⟩; have n0_ := Aside0.mk (Kd.R_lower ho0 (below_size (by repeat (first | (with_reducible first | exact HB.out | apply below_alloc | apply pw_below_drewN | apply below_drew1) | exact HB.out)))); have n1_ := Aside0.mk (below_step (by repeat (first | (with_reducible first | exact HB.out | apply below_alloc | apply pw_below_drewN | apply below_drew1) | exact HB.out)) hb); clear HB; have HO176 := n0_; have HB := n1_; clear n0_ n1_; (try clear hb); (try clear hb2); (try clear hk); (try clear hi); (try clear ho0); obtain ⟨Ao6, co6, eo6⟩ := Kd.R_slice HO176.out; subst eo6))
      go_loopg [13] k (fun kq v13 w' => ∃ (x13_1 : Int), v13 = .int .i64 x13_1 ∧ Aside0 (spec_IsSign.l0 kq a0 t174 (t174.length : Int) x13_1 = some r) ∧ Aside0 (kq ≤ k) ∧ Aside0 (Kd.R Kd.string 9 w' w.heap.size (fun _ => True) (.slice Ao6 t174.length co6) t174) ∧ Aside0 (Below w.heap.size w w'))
      case atStart => exact ⟨(0), (by first | rfl | (simp; done) | (simp [*]; done)), H', ⟨Nat.le_refl _⟩, ⟨by (with_reducible repeat (first | apply Kd.R_alloc | apply Kd.R_drewN | apply Kd.R_drew)); exact HO176.out⟩, ⟨by repeat (first | (with_reducible first | exact HB.out | apply below_alloc | apply pw_below_drewN | apply below_drew1) | exact HB.out)⟩⟩
      case round =>
        clear H'
        try clear c2
        try clear c2b0
        try clear c2b1
        try clear p2
        try clear c3
        try clear c3b0
        try clear c3b1
        try clear c4
        obtain ⟨x13_1, rfl, HA, HK1, HO_11, HB⟩ := hrel
        cases gk with
        | zero => exact absurd HA.out (by simp [spec_IsSign.l0])
        | succ k1 =>
          have H := HA.out
          clear HA
          simp only [spec_IsSign.l0] at H
          by_cases c7 : x13_1 < (t174.length : Int)
          · rw [if_pos c7] at H
            have c7b0 : decide (x13_1 < (t174.length : Int)) = true := decide_eq_true c7
            clear c7
            by_cases c8 : 0 ≤ x13_1
            · rw [if_pos c8] at H
              have c8b0 : decide (0 ≤ x13_1) = true := decide_eq_true c8
              clear c8
              by_cases c9 : x13_1 < (t174.length : Int)
              · rw [if_pos c9] at H
                have c9b0 : decide (x13_1 < (t174.length : Int)) = true := decide_eq_true c9
                clear c9
                by_cases c10 : (rdOf ByteArray.empty t174 x13_1).toList = ([] : List UInt8)
                · rw [if_pos c10] at H
                  have c10b0 : ((rdOf ByteArray.empty t174 x13_1).toList == ([] : List UInt8)) = true := beq_iff_eq.mpr c10
                  have c10b1 : ((rdOf ByteArray.empty t174 x13_1).toList != ([] : List UInt8)) = false := bne_eq_false_iff_eq.mpr c10
                  clear c10
                  by_cases c11 : x13_1 = 0
                  · rw [if_pos c11] at H
                    have c11b0 : (x13_1 == 0) = true := beq_iff_eq.mpr c11
                    have c11b1 : (x13_1 != 0) = false := bne_eq_false_iff_eq.mpr c11
                    clear c11
                    obtain rfl := Option.some.inj H
                    have p177 : 0 ≤ (x13_1 : Int) := of_decide_eq_true (by first | (with_reducible assumption) | assumption)
                    have q177 : x13_1 < (t174.length : Int) := of_decide_eq_true (by first | (with_reducible assumption) | assumption)
                    obtain ⟨ad177, e177, hx177_0⟩ := Kd.at_string (Kd.R_reads' HO_11.out).2.2 x13_1 p177 q177
                    cases e177
                    replace p177 := eq_true p177
                    replace q177 := eq_true q177
                    go_wp2
                    go_ret
                    exact ⟨by first | rfl | (simp [errW_none, errW_some] <;> rfl) | (simp [*, errW_none, errW_some] <;> rfl), by repeat (first | (with_reducible first | exact HB.out | apply below_alloc | apply pw_below_drewN | apply below_drew1) | exact HB.out)⟩
                  · rw [if_neg c11] at H
                    have c11b0 : (x13_1 == 0) = false := beq_eq_false_iff_ne.mpr c11
                    have c11b1 : (x13_1 != 0) = true := bne_iff_ne.mpr c11
                    replace H := Option.bind_eq_some_iff.mp H
                    obtain ⟨t178, A120, H⟩ := H
                    replace H : (if t178 = true then (some false) else ((spec_Has.f k1 (rdOf ByteArray.empty t174 x13_1) 13).bind fun t179 => (if t179 = true then (some false) else (spec_IsSign.l0 k1 a0 t174 (t174.length : Int) (wrap64 (x13_1 + 1)))))) = some r := H
                    have A12 := Aside0.mk A120
                    clear A120
                    by_cases c13 : t178 = true
                    · subst c13
                      have H1 : (some false) = some r := by rw [if_pos rfl] at H; exact H
                      clear H
                      have H := H1
                      clear H1
                      obtain rfl := Option.some.inj H
                      have p177 : 0 ≤ (x13_1 : Int) := of_decide_eq_true (by first | (with_reducible assumption) | assumption)
                      have q177 : x13_1 < (t174.length : Int) := of_decide_eq_true (by first | (with_reducible assumption) | assumption)
                      obtain ⟨ad177, e177, hx177_0⟩ := Kd.at_string (Kd.R_reads' HO_11.out).2.2 x13_1 p177 q177
                      cases e177
                      replace p177 := eq_true p177
                      replace q177 := eq_true q177
                      go_wp2_with (first | (go_at_call 42; (with_reducible refine (spec_Has.calls k1 (rdOf ByteArray.empty t174 x13_1) 0 true _ A12.out).mono ?_); rintro e w' ⟨rfl, ⟨nd, rfl⟩⟩))
                      go_ret
                      exact ⟨by first | rfl | (simp [errW_none, errW_some] <;> rfl) | (simp [*, errW_none, errW_some] <;> rfl), by repeat (first | (with_reducible first | exact HB.out | apply below_alloc | apply pw_below_drewN | apply below_drew1) | exact HB.out)⟩
                    · replace c13 := Bool.eq_false_iff.mpr c13
                      subst c13
                      have H1 : ((spec_Has.f k1 (rdOf ByteArray.empty t174 x13_1) 13).bind fun t179 => (if t179 = true then (some false) else (spec_IsSign.l0 k1 a0 t174 (t174.length : Int) (wrap64 (x13_1 + 1))))) = some r := by rw [if_neg (show ¬ (false = true) by decide)] at H; exact H
                      clear H
                      have H := H1
                      clear H1
                      replace H := Option.bind_eq_some_iff.mp H
                      obtain ⟨t179, A140, H⟩ := H
                      replace H : (if t179 = true then (some false) else (spec_IsSign.l0 k1 a0 t174 (t174.length : Int) (wrap64 (x13_1 + 1)))) = some r := H
                      have A14 := Aside0.mk A140
                      clear A140
                      by_cases c15 : t179 = true
                      · subst c15
                        have H1 : (some false) = some r := by rw [if_pos rfl] at H; exact H
                        clear H
                        have H := H1
                        clear H1
                        obtain rfl := Option.some.inj H
                        have p177 : 0 ≤ (x13_1 : Int) := of_decide_eq_true (by first | (with_reducible assumption) | assumption)
                        have q177 : x13_1 < (t174.length : Int) := of_decide_eq_true (by first | (with_reducible assumption) | assumption)
                        obtain ⟨ad177, e177, hx177_0⟩ := Kd.at_string (Kd.R_reads' HO_11.out).2.2 x13_1 p177 q177
                        cases e177
                        replace p177 := eq_true p177
                        replace q177 := eq_true q177
                        go_wp2_with (first | (go_at_call 42; (with_reducible refine (spec_Has.calls k1 (rdOf ByteArray.empty t174 x13_1) 0 false _ A12.out).mono ?_); rintro e w' ⟨rfl, ⟨nd, rfl⟩⟩) | (go_at_call 42; (with_reducible refine (spec_Has.calls k1 (rdOf ByteArray.empty t174 x13_1) 13 true _ A14.out).mono ?_); rintro e w' ⟨rfl, ⟨nd, rfl⟩⟩))
                        go_ret
                        exact ⟨by first | rfl | (simp [errW_none, errW_some] <;> rfl) | (simp [*, errW_none, errW_some] <;> rfl), by repeat (first | (with_reducible first | exact HB.out | apply below_alloc | apply pw_below_drewN | apply below_drew1) | exact HB.out)⟩
                      · replace c15 := Bool.eq_false_iff.mpr c15
                        subst c15
                        have H1 : (spec_IsSign.l0 k1 a0 t174 (t174.length : Int) (wrap64 (x13_1 + 1))) = some r := by rw [if_neg (show ¬ (false = true) by decide)] at H; exact H
                        clear H
                        have H := H1
                        clear H1
                        have H' := Aside0.mk H
                        clear H
                        have p177 : 0 ≤ (x13_1 : Int) := of_decide_eq_true (by first | (with_reducible assumption) | assumption)
                        have q177 : x13_1 < (t174.length : Int) := of_decide_eq_true (by first | (with_reducible assumption) | assumption)
                        obtain ⟨ad177, e177, hx177_0⟩ := Kd.at_string (Kd.R_reads' HO_11.out).2.2 x13_1 p177 q177
                        cases e177
                        replace p177 := eq_true p177
                        replace q177 := eq_true q177
                        go_wp2_with (first | (go_at_call 42; (with_reducible refine (spec_Has.calls k1 (rdOf ByteArray.empty t174 x13_1) 0 false _ A12.out).mono ?_); rintro e w' ⟨rfl, ⟨nd, rfl⟩⟩) | (go_at_call 42; (with_reducible refine (spec_Has.calls k1 (rdOf ByteArray.empty t174 x13_1) 13 false _ A14.out).mono ?_); rintro e w' ⟨rfl, ⟨nd, rfl⟩⟩))
                        go_roundg k1
                        case measure => have := HK1.out; omega
                        case rel => exact ⟨(wrap64 (x13_1 + 1)), (by first | rfl | (simp; done) | (simp [*]; done)), H', ⟨by have := HK1.out; omega⟩, ⟨by (with_reducible repeat (first | apply Kd.R_alloc | apply Kd.R_drewN | apply Kd.R_drew)); exact HO_11.out⟩, ⟨by repeat (first | (with_reducible first | exact HB.out | apply below_alloc | apply pw_below_drewN | apply below_drew1) | exact HB.out)⟩⟩
                · rw [if_neg c10] at H
                  have c10b0 : ((rdOf ByteArray.empty t174 x13_1).toList == ([] : List UInt8)) = false := beq_eq_false_iff_ne.mpr c10
                  have c10b1 : ((rdOf ByteArray.empty t174 x13_1).toList != ([] : List UInt8)) = true := bne_iff_ne.mpr c10
                  by_cases c16 : 0 < ((rdOf ByteArray.empty t174 x13_1).size : Int)
                  · rw [if_pos c16] at H
                    have c16b0 : decide (0 < ((rdOf ByteArray.empty t174 x13_1).size : Int)) = true := decide_eq_true c16
                    have c16b1 : decide (0 < (rdOf ByteArray.empty t174 x13_1).size) = true := decide_eq_true (by omega)
                    clear c16
                    by_cases c18 : (bt (rdOf ByteArray.empty t174 x13_1) 0) = 32
                    · rw [if_pos c18] at H
                      have c18b0 : ((bt (rdOf ByteArray.empty t174 x13_1) 0) == 32) = true := beq_iff_eq.mpr c18
                      have c18b1 : ((bt (rdOf ByteArray.empty t174 x13_1) 0) != 32) = false := bne_eq_false_iff_eq.mpr c18
                      clear c18
                      obtain rfl := Option.some.inj H
                      have p177 : 0 ≤ (x13_1 : Int) := of_decide_eq_true (by first | (with_reducible assumption) | assumption)
                      have q177 : x13_1 < (t174.length : Int) := of_decide_eq_true (by first | (with_reducible assumption) | assumption)
                      obtain ⟨ad177, e177, hx177_0⟩ := Kd.at_string (Kd.R_reads' HO_11.out).2.2 x13_1 p177 q177
                      cases e177
                      replace p177 := eq_true p177
                      replace q177 := eq_true q177
                      have p17 : 0 ≤ (0 : Int) := (by omega)
                      have q17 : 0 < (rdOf ByteArray.empty t174 x13_1).size := (by have : (0 : Int) < ((rdOf ByteArray.empty t174 x13_1).size : Int) := of_decide_eq_true (by first | (with_reducible assumption) | assumption); omega)
                      have hx17 : ∀ h : 0 < (rdOf ByteArray.empty t174 x13_1).size, (((rdOf ByteArray.empty t174 x13_1)[0]'h).toNat : Int) = bt (rdOf ByteArray.empty t174 x13_1) 0 := bt_at (rdOf ByteArray.empty t174 x13_1) 0
                      clear p17
                      have qi17 : (0 < ((rdOf ByteArray.empty t174 x13_1).size : Int)) = True := eq_true (of_decide_eq_true (by first | (with_reducible assumption) | assumption))
                      replace q17 := eq_true q17
                      go_wp2
                      go_ret
                      exact ⟨by first | rfl | (simp [errW_none, errW_some] <;> rfl) | (simp [*, errW_none, errW_some] <;> rfl), by repeat (first | (with_reducible first | exact HB.out | apply below_alloc | apply pw_below_drewN | apply below_drew1) | exact HB.out)⟩
                    · rw [if_neg c18] at H
                      have c18b0 : ((bt (rdOf ByteArray.empty t174 x13_1) 0) == 32) = false := beq_eq_false_iff_ne.mpr c18
                      have c18b1 : ((bt (rdOf ByteArray.empty t174 x13_1) 0) != 32) = true := bne_iff_ne.mpr c18
                      replace H := Option.bind_eq_some_iff.mp H
                      obtain ⟨t180, A190, H⟩ := H
                      replace H : (if t180 = true then (some false) else ((spec_Has.f k1 (rdOf ByteArray.empty t174 x13_1) 13).bind fun t181 => (if t181 = true then (some false) else (spec_IsSign.l0 k1 a0 t174 (t174.length : Int) (wrap64 (x13_1 + 1)))))) = some r := H
                      have A19 := Aside0.mk A190
                      clear A190
                      by_cases c20 : t180 = true
                      · subst c20
                        have H1 : (some false) = some r := by rw [if_pos rfl] at H; exact H
                        clear H
                        have H := H1
                        clear H1
                        obtain rfl := Option.some.inj H
                        have p177 : 0 ≤ (x13_1 : Int) := of_decide_eq_true (by first | (with_reducible assumption) | assumption)
                        have q177 : x13_1 < (t174.length : Int) := of_decide_eq_true (by first | (with_reducible assumption) | assumption)
                        obtain ⟨ad177, e177, hx177_0⟩ := Kd.at_string (Kd.R_reads' HO_11.out).2.2 x13_1 p177 q177
                        cases e177
                        replace p177 := eq_true p177
                        replace q177 := eq_true q177
                        have p17 : 0 ≤ (0 : Int) := (by omega)
                        have q17 : 0 < (rdOf ByteArray.empty t174 x13_1).size := (by have : (0 : Int) < ((rdOf ByteArray.empty t174 x13_1).size : Int) := of_decide_eq_true (by first | (with_reducible assumption) | assumption); omega)
                        have hx17 : ∀ h : 0 < (rdOf ByteArray.empty t174 x13_1).size, (((rdOf ByteArray.empty t174 x13_1)[0]'h).toNat : Int) = bt (rdOf ByteArray.empty t174 x13_1) 0 := bt_at (rdOf ByteArray.empty t174 x13_1) 0
                        clear p17
                        have qi17 : (0 < ((rdOf ByteArray.empty t174 x13_1).size : Int)) = True := eq_true (of_decide_eq_true (by first | (with_reducible assumption) | assumption))
                        replace q17 := eq_true q17
                        go_wp2_with (first | (go_at_call 42; (with_reducible refine (spec_Has.calls k1 (rdOf ByteArray.empty t174 x13_1) 0 true _ A19.out).mono ?_); rintro e w' ⟨rfl, ⟨nd, rfl⟩⟩))
                        go_ret
                        exact ⟨by first | rfl | (simp [errW_none, errW_some] <;> rfl) | (simp [*, errW_none, errW_some] <;> rfl), by repeat (first | (with_reducible first | exact HB.out | apply below_alloc | apply pw_below_drewN | apply below_drew1) | exact HB.out)⟩
                      · replace c20 := Bool.eq_false_iff.mpr c20
                        subst c20
                        have H1 : ((spec_Has.f k1 (rdOf ByteArray.empty t174 x13_1) 13).bind fun t181 => (if t181 = true then (some false) else (spec_IsSign.l0 k1 a0 t174 (t174.length : Int) (wrap64 (x13_1 + 1))))) = some r := by rw [if_neg (show ¬ (false = true) by decide)] at H; exact H
                        clear H
                        have H := H1
                        clear H1
                        replace H := Option.bind_eq_some_iff.mp H
                        obtain ⟨t181, A210, H⟩ := H
                        replace H : (if t181 = true then (some false) else (spec_IsSign.l0 k1 a0 t174 (t174.length : Int) (wrap64 (x13_1 + 1)))) = some r := H
                        have A21 := Aside0.mk A210
                        clear A210
                        by_cases c22 : t181 = true
                        · subst c22
                          have H1 : (some false) = some r := by rw [if_pos rfl] at H; exact H
                          clear H
                          have H := H1
                          clear H1
                          obtain rfl := Option.some.inj H
                          have p177 : 0 ≤ (x13_1 : Int) := of_decide_eq_true (by first | (with_reducible assumption) | assumption)
                          have q177 : x13_1 < (t174.length : Int) := of_decide_eq_true (by first | (with_reducible assumption) | assumption)
                          obtain ⟨ad177, e177, hx177_0⟩ := Kd.at_string (Kd.R_reads' HO_11.out).2.2 x13_1 p177 q177
                          cases e177
                          replace p177 := eq_true p177
                          replace q177 := eq_true q177
                          have p17 : 0 ≤ (0 : Int) := (by omega)
                          have q17 : 0 < (rdOf ByteArray.empty t174 x13_1).size := (by have : (0 : Int) < ((rdOf ByteArray.empty t174 x13_1).size : Int) := of_decide_eq_true (by first | (with_reducible assumption) | assumption); omega)
                          have hx17 : ∀ h : 0 < (rdOf ByteArray.empty t174 x13_1).size, (((rdOf ByteArray.empty t174 x13_1)[0]'h).toNat : Int) = bt (rdOf ByteArray.empty t174 x13_1) 0 := bt_at (rdOf ByteArray.empty t174 x13_1) 0
                          clear p17
                          have qi17 : (0 < ((rdOf ByteArray.empty t174 x13_1).size : Int)) = True := eq_true (of_decide_eq_true (by first | (with_reducible assumption) | assumption))
                          replace q17 := eq_true q17
                          go_wp2_with (first | (go_at_call 42; (with_reducible refine (spec_Has.calls k1 (rdOf ByteArray.empty t174 x13_1) 0 false _ A19.out).mono ?_); rintro e w' ⟨rfl, ⟨nd, rfl⟩⟩) | (go_at_call 42; (with_reducible refine (spec_Has.calls k1 (rdOf ByteArray.empty t174 x13_1) 13 true _ A21.out).mono ?_); rintro e w' ⟨rfl, ⟨nd, rfl⟩⟩))
                          go_ret
                          exact ⟨by first | rfl | (simp [errW_none, errW_some] <;> rfl) | (simp [*, errW_none, errW_some] <;> rfl), by repeat (first | (with_reducible first | exact HB.out | apply below_alloc | apply pw_below_drewN | apply below_drew1) | exact HB.out)⟩
                        · replace c22 := Bool.eq_false_iff.mpr c22
                          subst c22
                          have H1 : (spec_IsSign.l0 k1 a0 t174 (t174.length : Int) (wrap64 (x13_1 + 1))) = some r := by rw [if_neg (show ¬ (false = true) by decide)] at H; exact H
                          clear H
                          have H := H1
                          clear H1
                          have H' := Aside0.mk H
                          clear H
                          have p177 : 0 ≤ (x13_1 : Int) := of_decide_eq_true (by first | (with_reducible assumption) | assumption)
                          have q177 : x13_1 < (t174.length : Int) := of_decide_eq_true (by first | (with_reducible assumption) | assumption)
                          obtain ⟨ad177, e177, hx177_0⟩ := Kd.at_string (Kd.R_reads' HO_11.out).2.2 x13_1 p177 q177
                          cases e177
                          replace p177 := eq_true p177
                          replace q177 := eq_true q177
                          have p17 : 0 ≤ (0 : Int) := (by omega)
                          have q17 : 0 < (rdOf ByteArray.empty t174 x13_1).size := (by have : (0 : Int) < ((rdOf ByteArray.empty t174 x13_1).size : Int) := of_decide_eq_true (by first | (with_reducible assumption) | assumption); omega)
                          have hx17 : ∀ h : 0 < (rdOf ByteArray.empty t174 x13_1).size, (((rdOf ByteArray.empty t174 x13_1)[0]'h).toNat : Int) = bt (rdOf ByteArray.empty t174 x13_1) 0 := bt_at (rdOf ByteArray.empty t174 x13_1) 0
                          clear p17
                          have qi17 : (0 < ((rdOf ByteArray.empty t174 x13_1).size : Int)) = True := eq_true (of_decide_eq_true (by first | (with_reducible assumption) | assumption))
                          replace q17 := eq_true q17
                          go_wp2_with (first | (go_at_call 42; (with_reducible refine (spec_Has.calls k1 (rdOf ByteArray.empty t174 x13_1) 0 false _ A19.out).mono ?_); rintro e w' ⟨rfl, ⟨nd, rfl⟩⟩) | (go_at_call 42; (with_reducible refine (spec_Has.calls k1 (rdOf ByteArray.empty t174 x13_1) 13 false _ A21.out).mono ?_); rintro e w' ⟨rfl, ⟨nd, rfl⟩⟩))
                          go_roundg k1
                          case measure => have := HK1.out; omega
                          case rel => exact ⟨(wrap64 (x13_1 + 1)), (by first | rfl | (simp; done) | (simp [*]; done)), H', ⟨by have := HK1.out; omega⟩, ⟨by (with_reducible repeat (first | apply Kd.R_alloc | apply Kd.R_drewN | apply Kd.R_drew)); exact HO_11.out⟩, ⟨by repeat (first | (with_reducible first | exact HB.out | apply below_alloc | apply pw_below_drewN | apply below_drew1) | exact HB.out)⟩⟩
                  · rw [if_neg c16] at H
                    exact absurd H (by simp)
              · rw [if_neg c9] at H
                exact absurd H (by simp)
            · rw [if_neg c8] at H
              exact absurd H (by simp)
          · rw [if_neg c7] at H
            have c7b0 : decide (x13_1 < (t174.length : Int)) = false := decide_eq_false c7
            clear c7
            obtain ⟨ji23, hji23⟩ : ∃ j_ : Int, (wrap64 ((a0.size : Int) - 1)) = j_ := ⟨_, rfl⟩
            replace H : (if 0 ≤ (ji23) then (if (ji23) < (a0.size : Int) then (some ((bt a0 (ji23)) == 10)) else (none)) else (none)) = some r := by first | (rw [hji23] at H; exact H) | (simp only [hji23] at H ⊢; exact H)
            have hji23w : (IntKind.i64.wrap ((a0.size : Int) - 1)) = ji23 := (i64_w _).trans hji23
            by_cases c24 : 0 ≤ (ji23)
            · rw [if_pos c24] at H
              have c24b0 : decide (0 ≤ (ji23)) = true := decide_eq_true c24
              clear c24
              by_cases c25 : (ji23) < (a0.size : Int)
              · rw [if_pos c25] at H
                have c25b0 : decide ((ji23) < (a0.size : Int)) = true := decide_eq_true c25
                clear c25
                obtain rfl := Option.some.inj H
                have p26 : 0 ≤ ((ji23) : Int) := of_decide_eq_true (by first | (with_reducible assumption) | assumption)
                have q26 : (ji23) < (a0.size : Int) := of_decide_eq_true (by first | (with_reducible assumption) | assumption)
                have hx26 := bt_at a0 (ji23)
                replace p26 := eq_true p26
                replace q26 := eq_true q26
                go_wp2
                go_ret
                exact ⟨by first | rfl | (simp [errW_none, errW_some] <;> rfl) | (simp only [← hji23]; first | rfl | (simp [errW_none, errW_some] <;> rfl)) | (simp [*, errW_none, errW_some] <;> rfl), by repeat (first | (with_reducible first | exact HB.out | apply below_alloc | apply pw_below_drewN | apply below_drew1) | exact HB.out)⟩
              · rw [if_neg c25] at H
                exact absurd H (by simp)
            · rw [if_neg c24] at H
              exact absurd H (by simp)

end Go.Proofs.YtddnepddilbikaaDoor.QAll
