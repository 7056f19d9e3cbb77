-- WRITTEN BY A PROGRAM OF THIS SESSION, out of the loaded program, with words of the kit
import Derived.Test.YthjgfdjihlciaaaDoorQAllx0
import Derived.Test.YthjgfdjihlciaaaDoorQAllx2
namespace Go.Proofs.YthjgfdjihlciaaaDoor.QAll
open Go.RowKit Go.Proofs.YthjgfdjihlciaaaDoorW.PrintWords Go.Proofs.YthjgfdjihlciaaaDoorW.PrintLast Go.Proofs.YthjgfdjihlciaaaDoorW.PrintMore
attribute [local go_sem] max2_int min2_int max_two min_two max_three min_three max_four min_four   -- for this text's walks alone
set_option linter.unusedVariables false
set_option linter.unusedSimpArgs false

/-! ### spec_TreeInOrder: function 5 -/
mutual
def spec_TreeInOrder.l0 : Nat → List (S28) → List (S28) → Int → Int → Option ((List (S28)))
  | 0, _, _, _, _ => none
  | k + 1, x3, x8, x9, x10 => if x10 < x9 then (if 0 ≤ x10 then (if x10 < (x8.length : Int) then (spec_TreeInOrder.l1 k x3 (x3.length : Int) x8 x9 x10 ((rd_T28 x8 x10).f0) ((rd_T28 x8 x10).f1) ((rd_T28 x8 x10).f2)) else (none)) else (none)) else (some x3)
def spec_TreeInOrder.l1 : Nat → List (S28) → Int → List (S28) → Int → Int → ByteArray → Int → ByteArray → Option ((List (S28)))
  | 0, _, _, _, _, _, _, _, _ => none
  | k + 1, x3, x6, x8, x9, x10, x108000, x108001, x108002 => if x6 > 0 then ((spec_sortName.f x108000 x108001 x108002).bind fun t108 => (if 0 ≤ (wrap64 (x6 - 1)) then (if (wrap64 (x6 - 1)) < (x3.length : Int) then ((spec_sortName.f ((rd_T28 x3 (wrap64 (x6 - 1))).f0) ((rd_T28 x3 (wrap64 (x6 - 1))).f1) ((rd_T28 x3 (wrap64 (x6 - 1))).f2)).bind fun t110 => (if (Op.bytesLess t108.toList t110.toList) = true then (spec_TreeInOrder.l1 k x3 (wrap64 (x6 - 1)) x8 x9 x10 x108000 x108001 x108002) else ((some (([] : List (S28)) : List (S28))).bind fun y111 => (if 0 ≤ x6 then (if x6 ≤ (x3.length : Int) then ((some (x3.take (x6 : Int).toNat : List (S28))).bind fun y114 => (if y111.length + y114.length < 3518437208883 then ((some (y111 ++ y114 : List (S28))).bind fun y118 => (if y118.length < 3518437208883 then ((some (y118 ++ [(⟨x108000, x108001, x108002⟩ : S28)] : List (S28))).bind fun y121 => ((some (x3.drop (x6 : Int).toNat : List (S28))).bind fun y124 => (if y121.length + y124.length < 3518437208883 then (spec_TreeInOrder.l0 k (y121 ++ y124) x8 x9 (wrap64 (x10 + 1))) else (none)))) else (none))) else (none))) else (none)) else (none))))) else (none)) else (none))) else ((some (([] : List (S28)) : List (S28))).bind fun y131 => (if 0 ≤ x6 then (if x6 ≤ (x3.length : Int) then ((some (x3.take (x6 : Int).toNat : List (S28))).bind fun y134 => (if y131.length + y134.length < 3518437208883 then ((some (y131 ++ y134 : List (S28))).bind fun y138 => (if y138.length < 3518437208883 then ((some (y138 ++ [(⟨x108000, x108001, x108002⟩ : S28)] : List (S28))).bind fun y141 => ((some (x3.drop (x6 : Int).toNat : List (S28))).bind fun y144 => (if y141.length + y144.length < 3518437208883 then (spec_TreeInOrder.l0 k (y141 ++ y144) x8 x9 (wrap64 (x10 + 1))) else (none)))) else (none))) else (none))) else (none)) else (none)))
end
def spec_TreeInOrder.f (k : Nat) (l0 : List (S28)) : Option ((List (S28))) := spec_TreeInOrder.l0 k ([] : List (S28)) l0 (l0.length : Int) 0
theorem spec_TreeInOrder.mono_l : ∀ k, (∀ y0 y1 y2 y3, LeO (spec_TreeInOrder.l0 k y0 y1 y2 y3) (spec_TreeInOrder.l0 (k + 1) y0 y1 y2 y3)) ∧ (∀ y0 y1 y2 y3 y4 y5 y6 y7, LeO (spec_TreeInOrder.l1 k y0 y1 y2 y3 y4 y5 y6 y7) (spec_TreeInOrder.l1 (k + 1) y0 y1 y2 y3 y4 y5 y6 y7))
  | 0 => ⟨fun _ _ _ _ r h => by simp [spec_TreeInOrder.l0] at h, fun _ _ _ _ _ _ _ _ r h => by simp [spec_TreeInOrder.l1] at h⟩
  | k + 1 => by
    obtain ⟨ih0, ih1⟩ := spec_TreeInOrder.mono_l k
    refine ⟨?_, ?_⟩
    · intro y0 y1 y2 y3
      unfold spec_TreeInOrder.l0
      repeat' first
      | (with_reducible exact ih0 _ _ _ _)
      | (with_reducible exact ih1 _ _ _ _ _ _ _ _)
      | (with_reducible exact LeO.refl _)
      | (with_reducible exact LeO.none _)
      | (with_reducible refine LeO.ite ?_ ?_)
      | (with_reducible refine LeO.bind ?_ (fun _ => ?_))
      | exact ih0 _ _ _ _
      | exact ih1 _ _ _ _ _ _ _ _
      | exact LeO.none _
      | refine LeO.ite ?_ ?_
      | refine LeO.bind ?_ (fun _ => ?_)
    · intro y0 y1 y2 y3 y4 y5 y6 y7
      unfold spec_TreeInOrder.l1
      repeat' first
      | (with_reducible exact ih0 _ _ _ _)
      | (with_reducible exact ih1 _ _ _ _ _ _ _ _)
      | (with_reducible exact LeO.refl _)
      | (with_reducible exact LeO.none _)
      | (with_reducible refine LeO.ite ?_ ?_)
      | (with_reducible refine LeO.bind ?_ (fun _ => ?_))
      | exact ih0 _ _ _ _
      | exact ih1 _ _ _ _ _ _ _ _
      | exact LeO.none _
      | refine LeO.ite ?_ ?_
      | refine LeO.bind ?_ (fun _ => ?_)
theorem spec_TreeInOrder.mono : ∀ a0 k, LeO (spec_TreeInOrder.f k a0) (spec_TreeInOrder.f (k + 1) a0) := by
  intro a0 k
  obtain ⟨ih0, ih1⟩ := spec_TreeInOrder.mono_l k
  unfold spec_TreeInOrder.f
  repeat' first
      | (with_reducible exact ih0 _ _ _ _)
      | (with_reducible exact ih1 _ _ _ _ _ _ _ _)
      | (with_reducible exact LeO.refl _)
      | (with_reducible exact LeO.none _)
      | (with_reducible refine LeO.ite ?_ ?_)
      | (with_reducible refine LeO.bind ?_ (fun _ => ?_))
      | exact ih0 _ _ _ _
      | exact ih1 _ _ _ _ _ _ _ _
      | exact LeO.none _
      | refine LeO.ite ?_ ?_
      | refine LeO.bind ?_ (fun _ => ?_)
def spec_TreeInOrder.T6 : Bool × List (List Nat × List Nat) := (true, [([], []), ([0], [0]), ([1], [1]), ([2], [2]), ([3, 2, 2], [2, 3]), ([2], [2]), ([2], [2]), ([6, 2], [2, 6]), ([5, 7, 2], [2, 5, 7]), ([8, 2], [2, 8]), ([9, 4, 2], [2, 9]), ([4, 10, 2], [2, 4, 10]), ([2, 11], [2, 11])])
def spec_TreeInOrder.B6 : List Nat := [0, 1, 3, 7, 15, 7, 7, 71, 231, 487, 1023, 2047, 4095]
theorem spec_TreeInOrder.tab6 : rtab .any (opsOf Tryd.f5 6) = spec_TreeInOrder.T6 := by kernel_rfl
theorem spec_TreeInOrder.bits6 : waitsOk spec_TreeInOrder.T6.2 spec_TreeInOrder.B6 = true := by kernel_rfl
def spec_TreeInOrder.T9 : Bool × List (List Nat × List Nat) := (true, [([], []), ([], []), ([1], [1]), ([0, 2], [0, 2]), ([], []), ([], []), ([4, 5], [4, 5]), ([3, 6, 3], [3, 6]), ([7, 7, 0, 1, 2, 3, 4, 5, 6, 7], [4, 7])])
def spec_TreeInOrder.B9 : List Nat := [0, 0, 2, 7, 0, 0, 48, 127, 255]
theorem spec_TreeInOrder.tab9 : rtab .any (opsOf Tryd.f5 9) = spec_TreeInOrder.T9 := by kernel_rfl
theorem spec_TreeInOrder.bits9 : waitsOk spec_TreeInOrder.T9.2 spec_TreeInOrder.B9 = true := by kernel_rfl
set_option maxHeartbeats 8000000 in
set_option maxRecDepth 100000 in
theorem spec_TreeInOrder.calls (k : Nat) (A0 : Option Addr) (c0 : Nat) (l0 : List (S28)) (r : List (S28)) (w : World) (hr0 : Kd.C k28 w A0 l0.length l0) (hc0 : l0.length ≤ c0) (h : spec_TreeInOrder.f k l0 = some r) :
    Calls Tryd.prog 5 #[.slice A0 l0.length c0] w fun e w' => ∃ v0_ : Value, e = .returned (v0_) ∧ Kd.R k28 28 w' w.heap.size (fun _ => True) v0_ r ∧ Below w.heap.size w w' := by
  have hu28 := Tryd.underlying28
  have HR0 := Aside0.mk hr0
  have HC0 := Aside0.mk hc0
  clear hr0 hc0
  have HB := Aside0.mk (Below.refl w.heap.size w)
  have H : (spec_TreeInOrder.l0 k ([] : List (S28)) l0 (l0.length : Int) 0) = some r := h
  clear h
  have H' := Aside0.mk H
  clear H
  go_enter Tryd.func5, Tryd.ntmps5
  go_wp2
  go_loopg [3, 10] k (fun kq v3 v10 w' => ∃ (x3_1 : List (S28)) (x10_1 : Int), v10 = .int .i64 x10_1 ∧ Aside0 (spec_TreeInOrder.l0 kq x3_1 l0 (l0.length : Int) x10_1 = some r) ∧ Aside0 (kq ≤ k) ∧ Aside0 (Kd.R k28 28 w' w.heap.size (fun _ => True) v3 x3_1) ∧ Aside0 (Below w.heap.size w w'))
  case atStart => exact ⟨(([] : List (S28))), (0), (by first | rfl | (simp; done) | (simp [*]; done)), H', ⟨Nat.le_refl _⟩, ⟨by first | exact Kd.R_nil _ _ _ _ _ | exact Kd.N_nil _ _ _ _ _ | exact Kd.V_nil _ _ _ _ _ | exact Kd.Q_nil _ _ _ _ _ | exact Kd.S_nil _ _ _ _ _⟩, ⟨by repeat (first | (with_reducible first | exact HB.out | apply below_alloc | apply pw_below_drewN | apply below_drew1) | exact HB.out)⟩⟩
  case round =>
    clear H'
    obtain ⟨x3_1, x10_1, rfl, HA, HK1, HO_3, HB⟩ := hrel
    cases gk with
    | zero => exact absurd HA.out (by simp [spec_TreeInOrder.l0])
    | succ k1 =>
      have H := HA.out
      clear HA
      simp only [spec_TreeInOrder.l0] at H
      by_cases c2 : x10_1 < (l0.length : Int)
      · rw [if_pos c2] at H
        have c2b0 : decide (x10_1 < (l0.length : Int)) = true := decide_eq_true c2
        clear c2
        by_cases c3 : 0 ≤ x10_1
        · rw [if_pos c3] at H
          have c3b0 : decide (0 ≤ x10_1) = true := decide_eq_true c3
          clear c3
          by_cases c4 : x10_1 < (l0.length : Int)
          · rw [if_pos c4] at H
            have c4b0 : decide (x10_1 < (l0.length : Int)) = true := decide_eq_true c4
            clear c4
            have H' := Aside0.mk H
            clear H
            have p106 : 0 ≤ (x10_1 : Int) := of_decide_eq_true (by first | (with_reducible assumption) | assumption)
            have q106 : x10_1 < (l0.length : Int) := of_decide_eq_true (by first | (with_reducible assumption) | assumption)
            obtain ⟨ad106, e106, hx106_0, hx106_1, hx106_2⟩ := at_T28 HR0.out x10_1 p106 q106
            cases e106
            replace hx106_0 := (HB.out.cell (World.block_lt_of_cell? w _ hx106_0)).trans hx106_0
            replace hx106_1 := (HB.out.cell (World.block_lt_of_cell? w _ hx106_1)).trans hx106_1
            replace hx106_2 := (HB.out.cell (World.block_lt_of_cell? w _ hx106_2)).trans hx106_2
            replace p106 := eq_true p106
            replace q106 := eq_true q106
            go_wp2_with (first | ((with_reducible refine gate_dst (N := 5) rfl ?_); refine box_event ?hg (N := 5) ?hd (cs := #[.string (⟨#[]⟩ : ByteArray), .int .u32 0, .string (⟨#[]⟩ : ByteArray)]) (t := 28) ?hr ?_; (case hd => rfl); (case hg => rfl); (case hr => first | (go_simp; done) | (go_simp; rfl)); intro gb107 hg w5 hbox hb; have n0_ := Aside0.mk (Kd.R_below (Kd.R_elderB (by (with_reducible repeat (first | apply Kd.R_alloc | apply Kd.R_drewN | apply Kd.R_drew)); exact HO_3.out) gb107 (Nat.le_of_eq hg.symm)) hb); have n1_ := Aside0.mk (below_step (by repeat (first | (with_reducible first | exact HB.out | apply below_alloc | apply pw_below_drewN | apply below_drew1) | exact HB.out)) hb); have n2_ := Aside0.mk (hbox); have n3_ := Aside0.mk ((by rw [hg]; exact (below_size (by repeat (first | (with_reducible first | exact HB.out | apply below_alloc | apply pw_below_drewN | apply below_drew1) | exact HB.out))) : w.heap.size ≤ gb107)); have n4_ := Aside0.mk ((by rw [hg]; exact (below_size (by repeat (first | (with_reducible first | exact HB.out | apply below_alloc | apply pw_below_drewN | apply below_drew1) | exact HB.out))) : w.heap.size ≤ gb107)); clear HO_3; clear HB; have HO_3 := n0_; have HB := n1_; have BK107 := n2_; have GW107 := n3_; have GE107 := n4_; clear n0_ n1_ n2_ n3_ n4_; clear hb hbox hg; have hcz6_0 : w5.cell? ⟨gb107, 0, none⟩ = some (.string (⟨#[]⟩ : ByteArray)) := (blk_cell BK107.out 0).trans rfl; have hcz6_1 : w5.cell? ⟨gb107, 1, none⟩ = some (.int .u32 0) := (blk_cell BK107.out 1).trans rfl; have hcz6_2 : w5.cell? ⟨gb107, 2, none⟩ = some (.string (⟨#[]⟩ : ByteArray)) := (blk_cell BK107.out 2).trans rfl; have hfz6_0 := blk_frozen BK107.out 0; have hfz6_1 := blk_frozen BK107.out 1; have hfz6_2 := blk_frozen BK107.out 2; obtain ⟨Ao7, co7, eo7⟩ := Kd.R_slice HO_3.out; subst eo7))
            go_loopg [6] k1 (fun kq v6 w' => ∃ (x6_2 : Int), v6 = .int .i64 x6_2 ∧ Aside0 (spec_TreeInOrder.l1 kq x3_1 x6_2 l0 (l0.length : Int) x10_1 ((rd_T28 l0 x10_1).f0) ((rd_T28 l0 x10_1).f1) ((rd_T28 l0 x10_1).f2) = some r) ∧ Aside0 (kq ≤ k1) ∧ Aside0 (Kd.R k28 28 w' w.heap.size (fun k_ => k_ ≠ gb107) (.slice Ao7 x3_1.length co7) x3_1) ∧ Aside0 (w'.heap[gb107]? = some (.cells #[.string ((rd_T28 l0 x10_1).f0), .int .u32 ((rd_T28 l0 x10_1).f1), .string ((rd_T28 l0 x10_1).f2)] 28 (0, 0))) ∧ Aside0 (Below w.heap.size w w'))
            case atStart => exact ⟨((x3_1.length : Int)), (by first | rfl | (simp; done) | (simp [*]; done)), H', ⟨Nat.le_refl _⟩, ⟨by (with_reducible repeat (first | apply Kd.R_alloc | apply Kd.R_drewN | apply Kd.R_drew)); exact Kd.R_mono (Kd.R_far (p := ⟨gb107, 2, none⟩) (Kd.R_far (p := ⟨gb107, 1, none⟩) (Kd.R_far (p := ⟨gb107, 0, none⟩) (Kd.R_mono HO_3.out (fun k_ hk => (⟨hk, hk.2⟩ : _ ∧ k_ ≠ gb107))) (fun _ hk => hk.2) (.string ((rd_T28 l0 x10_1).f0))) (fun _ hk => hk.2) (.int .u32 ((rd_T28 l0 x10_1).f1))) (fun _ hk => hk.2) (.string ((rd_T28 l0 x10_1).f2))) (fun _ hk => hk.1.2)⟩, ⟨by (with_reducible repeat (first | refine blk_drewN ?_ _ | refine blk_drew ?_ | refine blk_alloc ?_ _)); refine blk_put (cs := #[.string ((rd_T28 l0 x10_1).f0), .int .u32 ((rd_T28 l0 x10_1).f1), .string (⟨#[]⟩ : ByteArray)]) ?_ 2 _ rfl; (with_reducible repeat (first | refine blk_drewN ?_ _ | refine blk_drew ?_ | refine blk_alloc ?_ _)); refine blk_put (cs := #[.string ((rd_T28 l0 x10_1).f0), .int .u32 0, .string (⟨#[]⟩ : ByteArray)]) ?_ 1 _ rfl; (with_reducible repeat (first | refine blk_drewN ?_ _ | refine blk_drew ?_ | refine blk_alloc ?_ _)); refine blk_put (cs := #[.string (⟨#[]⟩ : ByteArray), .int .u32 0, .string (⟨#[]⟩ : ByteArray)]) ?_ 0 _ rfl; (with_reducible repeat (first | refine blk_drewN ?_ _ | refine blk_drew ?_ | refine blk_alloc ?_ _)); exact BK107.out⟩, ⟨by repeat (first | (with_reducible first | exact HB.out | apply below_alloc | apply pw_below_drewN | apply below_drew1 | refine below_set ?_ GE107.out) | exact HB.out)⟩⟩
            case round =>
              clear H'
              try clear p1
              try clear q1
              try clear hx1
              try clear c2
              try clear c2b0
              try clear p2
              try clear c3
              try clear c3b0
              try clear c4
              try clear c4b0
              try clear c5
              try clear hcz6_0
              try clear hcz6_1
              try clear hcz6_2
              try clear hfz6_0
              try clear hfz6_1
              try clear hfz6_2
              try clear hx106_0
              try clear hx106_1
              try clear hx106_2
              try clear p106
              try clear q106
              obtain ⟨x6_2, rfl, HA, HK2, HO_3, BK107, HB⟩ := hrel
              cases gk with
              | zero => exact absurd HA.out (by simp [spec_TreeInOrder.l1])
              | succ k2 =>
                have H := HA.out
                clear HA
                simp only [spec_TreeInOrder.l1] at H
                by_cases c8 : x6_2 > 0
                · rw [if_pos c8] at H
                  have c8b0 : decide (0 < x6_2) = true := decide_eq_true c8
                  clear c8
                  replace H := Option.bind_eq_some_iff.mp H
                  obtain ⟨t108, A90, H⟩ := H
                  replace H : (if 0 ≤ (wrap64 (x6_2 - 1)) then (if (wrap64 (x6_2 - 1)) < (x3_1.length : Int) then ((spec_sortName.f ((rd_T28 x3_1 (wrap64 (x6_2 - 1))).f0) ((rd_T28 x3_1 (wrap64 (x6_2 - 1))).f1) ((rd_T28 x3_1 (wrap64 (x6_2 - 1))).f2)).bind fun t110 => (if (Op.bytesLess t108.toList t110.toList) = true then (spec_TreeInOrder.l1 k2 x3_1 (wrap64 (x6_2 - 1)) l0 (l0.length : Int) x10_1 ((rd_T28 l0 x10_1).f0) ((rd_T28 l0 x10_1).f1) ((rd_T28 l0 x10_1).f2)) else ((some (([] : List (S28)) : List (S28))).bind fun y111 => (if 0 ≤ x6_2 then (if x6_2 ≤ (x3_1.length : Int) then ((some (x3_1.take (x6_2 : Int).toNat : List (S28))).bind fun y114 => (if y111.length + y114.length < 3518437208883 then ((some (y111 ++ y114 : List (S28))).bind fun y118 => (if y118.length < 3518437208883 then ((some (y118 ++ [(⟨((rd_T28 l0 x10_1).f0), ((rd_T28 l0 x10_1).f1), ((rd_T28 l0 x10_1).f2)⟩ : S28)] : List (S28))).bind fun y121 => ((some (x3_1.drop (x6_2 : Int).toNat : List (S28))).bind fun y124 => (if y121.length + y124.length < 3518437208883 then (spec_TreeInOrder.l0 k2 (y121 ++ y124) l0 (l0.length : Int) (wrap64 (x10_1 + 1))) else (none)))) else (none))) else (none))) else (none)) else (none))))) else (none)) else (none)) = some r := H
                  have A9 := Aside0.mk A90
                  clear A90
                  obtain ⟨ji10, hji10⟩ : ∃ j_ : Int, (wrap64 (x6_2 - 1)) = j_ := ⟨_, rfl⟩
                  replace H : (if 0 ≤ (ji10) then (if (ji10) < (x3_1.length : Int) then ((spec_sortName.f ((rd_T28 x3_1 (ji10)).f0) ((rd_T28 x3_1 (ji10)).f1) ((rd_T28 x3_1 (ji10)).f2)).bind fun t110 => (if (Op.bytesLess t108.toList t110.toList) = true then (spec_TreeInOrder.l1 k2 x3_1 ji10 l0 (l0.length : Int) x10_1 ((rd_T28 l0 x10_1).f0) ((rd_T28 l0 x10_1).f1) ((rd_T28 l0 x10_1).f2)) else ((some (([] : List (S28)) : List (S28))).bind fun y111 => (if 0 ≤ x6_2 then (if x6_2 ≤ (x3_1.length : Int) then ((some (x3_1.take (x6_2 : Int).toNat : List (S28))).bind fun y114 => (if y111.length + y114.length < 3518437208883 then ((some (y111 ++ y114 : List (S28))).bind fun y118 => (if y118.length < 3518437208883 then ((some (y118 ++ [(⟨((rd_T28 l0 x10_1).f0), ((rd_T28 l0 x10_1).f1), ((rd_T28 l0 x10_1).f2)⟩ : S28)] : List (S28))).bind fun y121 => ((some (x3_1.drop (x6_2 : Int).toNat : List (S28))).bind fun y124 => (if y121.length + y124.length < 3518437208883 then (spec_TreeInOrder.l0 k2 (y121 ++ y124) l0 (l0.length : Int) (wrap64 (x10_1 + 1))) else (none)))) else (none))) else (none))) else (none)) else (none))))) else (none)) else (none)) = some r := by first | (rw [hji10] at H; exact H) | (simp only [hji10] at H ⊢; exact H)
                  (try rw [hji10] at A9)
                  have hji10w : (IntKind.i64.wrap (x6_2 - 1)) = ji10 := (i64_w _).trans hji10
                  by_cases c11 : 0 ≤ (ji10)
                  · rw [if_pos c11] at H
                    have c11b0 : decide (0 ≤ (ji10)) = true := decide_eq_true c11
                    clear c11
                    by_cases c12 : (ji10) < (x3_1.length : Int)
                    · rw [if_pos c12] at H
                      have c12b0 : decide ((ji10) < (x3_1.length : Int)) = true := decide_eq_true c12
                      clear c12
                      replace H := Option.bind_eq_some_iff.mp H
                      obtain ⟨t110, A130, H⟩ := H
                      replace H : (if (Op.bytesLess t108.toList t110.toList) = true then (spec_TreeInOrder.l1 k2 x3_1 ji10 l0 (l0.length : Int) x10_1 ((rd_T28 l0 x10_1).f0) ((rd_T28 l0 x10_1).f1) ((rd_T28 l0 x10_1).f2)) else ((some (([] : List (S28)) : List (S28))).bind fun y111 => (if 0 ≤ x6_2 then (if x6_2 ≤ (x3_1.length : Int) then ((some (x3_1.take (x6_2 : Int).toNat : List (S28))).bind fun y114 => (if y111.length + y114.length < 3518437208883 then ((some (y111 ++ y114 : List (S28))).bind fun y118 => (if y118.length < 3518437208883 then ((some (y118 ++ [(⟨((rd_T28 l0 x10_1).f0), ((rd_T28 l0 x10_1).f1), ((rd_T28 l0 x10_1).f2)⟩ : S28)] : List (S28))).bind fun y121 => ((some (x3_1.drop (x6_2 : Int).toNat : List (S28))).bind fun y124 => (if y121.length + y124.length < 3518437208883 then (spec_TreeInOrder.l0 k2 (y121 ++ y124) l0 (l0.length : Int) (wrap64 (x10_1 + 1))) else (none)))) else (none))) else (none))) else (none)) else (none)))) = some r := H
                      have A13 := Aside0.mk A130
                      clear A130
                      by_cases c14 : (Op.bytesLess t108.toList t110.toList) = true
                      · rw [if_pos c14] at H
                        have c14b0 : (Op.bytesLess t108.toList t110.toList) = true := c14
                        clear c14
                        have H' := Aside0.mk H
                        clear H
                        try go_wp2
                        have n0_ := Aside0.mk (Kd.R_drew HO_3.out)
                        have n1_ := Aside0.mk (blk_drew BK107.out)
                        have n2_ := Aside0.mk (below_drew1 HB.out)
                        clear HO_3
                        clear BK107
                        clear HB
                        have HO_3 := n0_
                        have BK107 := n1_
                        have HB := n2_
                        clear n0_ n1_ n2_
                        have p109 : 0 ≤ ((ji10) : Int) := of_decide_eq_true (by first | (with_reducible assumption) | assumption)
                        have q109 : (ji10) < (x3_1.length : Int) := of_decide_eq_true (by first | (with_reducible assumption) | assumption)
                        obtain ⟨ad109, e109, hx109_0, hx109_1, hx109_2⟩ := at_T28 (Kd.R_reads' HO_3.out).2.2 (ji10) p109 q109
                        cases e109
                        replace p109 := eq_true p109
                        replace q109 := eq_true q109
                        refine start_ (n := 13) (S := fun w' => w'.cell? ⟨gb107, 0, none⟩ = some (.string ((rd_T28 l0 x10_1).f0)) ∧ w'.cell? ⟨gb107, 1, none⟩ = some (.int .u32 ((rd_T28 l0 x10_1).f1)) ∧ w'.cell? ⟨gb107, 2, none⟩ = some (.string ((rd_T28 l0 x10_1).f2)) ∧ w'.cell? (ad109.add (((ji10)).toNat * 3)) = some (.string ((rd_T28 x3_1 (ji10)).f0)) ∧ w'.cell? ⟨(ad109.add (((ji10)).toNat * 3)).block, (ad109.add (((ji10)).toNat * 3)).off + 1, none⟩ = some (.int .u32 ((rd_T28 x3_1 (ji10)).f1)) ∧ w'.cell? ⟨(ad109.add (((ji10)).toNat * 3)).block, (ad109.add (((ji10)).toNat * 3)).off + 2, none⟩ = some (.string ((rd_T28 x3_1 (ji10)).f2))) (ds := []) #[false, false, false, false, false, false, false, false, false, false, false, false, false] (by kernel_rfl) rfl rfl ⟨(blk_cell BK107.out 0).trans rfl, (blk_cell BK107.out 1).trans rfl, (blk_cell BK107.out 2).trans rfl, hx109_0, hx109_1, hx109_2⟩ (fun hHeld => ?_); refine with_tabW spec_TreeInOrder.tab6 spec_TreeInOrder.bits6 (fun HT_ HW_ => ?_)
                        generalize wr.drew = w15 at HO_3 BK107 HB hx109_0 hx109_1 hx109_2 hHeld ⊢
                        refine pure_ (i := 0) (N := some 16) (v := ?_) (a' := ?_) #[true, false, false, false, false, false, false, false, false, false, false, false, false] rfl rfl (any_of HT_.out (by kernel_rfl)) (fun _ _ _ h => h) (Or.inl ⟨by rfl, ?_⟩) ?_ ?_
                        rotate_left
                        · intro w'
                          go_simp
                          with_reducible rfl
                        rotate_left
                        · simp only [Act.put, List.setIfInBounds_toArray, List.set_cons_zero, List.set_cons_succ, i64_w, i32_w]
                          rfl
                        refine pure_ (i := 1) (N := some 17) (v := ?_) (a' := ?_) #[true, true, false, false, false, false, false, false, false, false, false, false, false] rfl rfl (any_of HT_.out (by kernel_rfl)) (fun _ _ _ h => h) (Or.inl ⟨by rfl, ?_⟩) ?_ ?_
                        rotate_left
                        · intro w'
                          go_simp
                          with_reducible rfl
                        rotate_left
                        · simp only [Act.put, List.setIfInBounds_toArray, List.set_cons_zero, List.set_cons_succ, i64_w, i32_w]
                          rfl
                        refine pure_ (i := 2) (N := some 18) (v := ?_) (a' := ?_) #[true, true, true, false, false, false, false, false, false, false, false, false, false] rfl rfl (any_of HT_.out (by kernel_rfl)) (fun _ _ _ h => h) (Or.inl ⟨by rfl, ?_⟩) ?_ ?_
                        rotate_left
                        · intro w'
                          go_simp
                          with_reducible rfl
                        rotate_left
                        · simp only [Act.put, List.setIfInBounds_toArray, List.set_cons_zero, List.set_cons_succ, i64_w, i32_w]
                          rfl
                        refine pure_ (i := 5) (N := some 21) (v := ?_) (a' := ?_) #[true, true, true, false, false, true, false, false, false, false, false, false, false] rfl rfl (any_of HT_.out (by kernel_rfl)) (fun _ _ _ h => h) (Or.inl ⟨by rfl, ?_⟩) ?_ ?_
                        rotate_left
                        · intro w'
                          go_simp
                          with_reducible rfl
                        rotate_left
                        · simp only [Act.put, List.setIfInBounds_toArray, List.set_cons_zero, List.set_cons_succ, i64_w, i32_w]
                          rfl
                        refine pure_ (i := 6) (N := some 22) (v := ?_) (a' := ?_) #[true, true, true, false, false, true, true, false, false, false, false, false, false] rfl rfl (any_of HT_.out (by kernel_rfl)) (fun _ _ _ h => h) (Or.inl ⟨by rfl, ?_⟩) ?_ ?_
                        rotate_left
                        · intro w'
                          go_simp
                          with_reducible rfl
                        rotate_left
                        · simp only [Act.put, List.setIfInBounds_toArray, List.set_cons_zero, List.set_cons_succ, i64_w, i32_w]
                          rfl
                        refine pure_ (i := 7) (N := some 23) (v := ?_) (a' := ?_) #[true, true, true, false, false, true, true, true, false, false, false, false, false] rfl rfl (any_of HT_.out (by kernel_rfl)) (fun _ _ _ h => h) (Or.inl ⟨by rfl, ?_⟩) ?_ ?_
                        rotate_left
                        · intro w'
                          go_simp
                          with_reducible rfl
                        rotate_left
                        · simp only [Act.put, List.setIfInBounds_toArray, List.set_cons_zero, List.set_cons_succ, i64_w, i32_w]
                          rfl
                        refine pure_ (i := 8) (N := some 24) (v := ?_) (a' := ?_) #[true, true, true, false, false, true, true, true, true, false, false, false, false] rfl rfl (any_of HT_.out (by kernel_rfl)) (fun _ _ _ h => h) (Or.inl ⟨by rfl, ?_⟩) ?_ ?_
                        rotate_left
                        · intro w'
                          go_simp
                          with_reducible rfl
                        rotate_left
                        · simp only [Act.put, List.setIfInBounds_toArray, List.set_cons_zero, List.set_cons_succ, i64_w, i32_w]
                          rfl
                        refine take_ (i := 3) (N := some 19) (v := ?_) (a' := ?_) #[true, true, true, true, false, true, true, true, true, false, false, false, false] rfl rfl (take_ofW HT_.out HW_.out (by kernel_rfl)) (fun _ _ _ h => h) (Or.inl ⟨by rfl, ?_⟩) hHeld ?_ ?_
                        rotate_left
                        · rintro w' ⟨s0, s1, s2, s3, s4, s5⟩
                          go_simp
                          with_reducible rfl
                        rotate_left
                        · simp only [Act.put, List.setIfInBounds_toArray, List.set_cons_zero, List.set_cons_succ, i64_w, i32_w]
                          rfl
                        refine take_ (i := 9) (N := some 25) (v := ?_) (a' := ?_) #[true, true, true, true, false, true, true, true, true, true, false, false, false] rfl rfl (take_ofW HT_.out HW_.out (by kernel_rfl)) (fun _ _ _ h => h) (Or.inl ⟨by rfl, ?_⟩) hHeld ?_ ?_
                        rotate_left
                        · rintro w' ⟨s0, s1, s2, s3, s4, s5⟩
                          go_simp
                          with_reducible rfl
                        rotate_left
                        · simp only [Act.put, List.setIfInBounds_toArray, List.set_cons_zero, List.set_cons_succ, i64_w, i32_w]
                          rfl
                        refine one_ (i := 4) (N := some 20) #[true, true, true, true, true, true, true, true, true, true, false, false, false] rfl rfl (one_of HT_.out (by kernel_rfl)) (by decide) (fun K hK => ?_)
                        refine goes_ Tryd.func10 (by kernel_rfl) rfl #[.agg #[.string ((rd_T28 l0 x10_1).f0), .int .u32 ((rd_T28 l0 x10_1).f1), .string ((rd_T28 l0 x10_1).f2)]] (by rfl) rfl rfl (by (try simp only [List.map_toArray, List.map_cons, List.map_nil]); first | done | rfl | (simp only [List.length_drop, List.length_take]; rfl)) ?_
                        with_reducible refine (spec_sortName.calls ((rd_T28 l0 x10_1).f0) ((rd_T28 l0 x10_1).f1) ((rd_T28 l0 x10_1).f2) t108 _ A9.out).mono ?_
                        rintro e w16 ⟨rfl, hb⟩
                        have HS3_ := (hb.cell (World.block_lt_of_cell? _ _ (hHeld.2.2.2.1))).trans (hHeld.2.2.2.1)
                        have HS4_ := (hb.cell (World.block_lt_of_cell? _ _ (hHeld.2.2.2.2.1))).trans (hHeld.2.2.2.2.1)
                        have HS5_ := (hb.cell (World.block_lt_of_cell? _ _ (hHeld.2.2.2.2.2))).trans (hHeld.2.2.2.2.2)
                        refine ⟨_, rfl, ?_⟩
                        have n0_ := Aside0.mk (Kd.R_below (by (with_reducible repeat (first | apply Kd.R_alloc | apply Kd.R_drewN | apply Kd.R_drew)); exact HO_3.out) hb)
                        have n1_ := Aside0.mk (blk_below (g := gb107) (o := .cells #[.string ((rd_T28 l0 x10_1).f0), .int .u32 ((rd_T28 l0 x10_1).f1), .string ((rd_T28 l0 x10_1).f2)] 28 (0, 0)) (by (with_reducible repeat (first | refine blk_drewN ?_ _ | refine blk_drew ?_ | refine blk_alloc ?_ _)); exact BK107.out) hb)
                        have n2_ := Aside0.mk (below_step (by repeat (first | (with_reducible first | exact HB.out | apply below_alloc | apply pw_below_drewN | apply below_drew1 | refine below_set ?_ GE107.out) | exact HB.out)) hb)
                        clear HO_3
                        clear BK107
                        clear HB
                        have HO_3 := n0_
                        have BK107 := n1_
                        have HB := n2_
                        clear n0_ n1_ n2_
                        (try clear hb)
                        (try clear hb2)
                        (try clear hk)
                        (try clear hi)
                        refine hK.out _ _ ⟨(blk_cell BK107.out 0).trans rfl, (blk_cell BK107.out 1).trans rfl, (blk_cell BK107.out 2).trans rfl, HS3_, HS4_, HS5_⟩ (fun hHeld => ?_)
                        clear hK K
                        refine norm_ (a' := ?_) ?_ ?_
                        rotate_left
                        · show Act.put _ (some 20) _ = _
                          simp only [Act.put, List.setIfInBounds_toArray, List.set_cons_zero, List.set_cons_succ, i64_w, i32_w]
                          rfl
                        refine one_ (i := 10) (N := some 26) #[true, true, true, true, true, true, true, true, true, true, true, false, false] rfl rfl (one_of HT_.out (by kernel_rfl)) (by decide) (fun K hK => ?_)
                        refine goes_ Tryd.func10 (by kernel_rfl) rfl #[.agg #[.string ((rd_T28 x3_1 (ji10)).f0), .int .u32 ((rd_T28 x3_1 (ji10)).f1), .string ((rd_T28 x3_1 (ji10)).f2)]] (by rfl) rfl rfl (by (try simp only [List.map_toArray, List.map_cons, List.map_nil]); first | done | (simp only [hji10]; rfl) | rfl | (simp only [List.length_drop, List.length_take]; rfl)) ?_
                        with_reducible refine (spec_sortName.calls ((rd_T28 x3_1 (ji10)).f0) ((rd_T28 x3_1 (ji10)).f1) ((rd_T28 x3_1 (ji10)).f2) t110 _ A13.out).mono ?_
                        rintro e w17 ⟨rfl, hb⟩
                        have HS3_ := (hb.cell (World.block_lt_of_cell? _ _ (hHeld.2.2.2.1))).trans (hHeld.2.2.2.1)
                        have HS4_ := (hb.cell (World.block_lt_of_cell? _ _ (hHeld.2.2.2.2.1))).trans (hHeld.2.2.2.2.1)
                        have HS5_ := (hb.cell (World.block_lt_of_cell? _ _ (hHeld.2.2.2.2.2))).trans (hHeld.2.2.2.2.2)
                        refine ⟨_, rfl, ?_⟩
                        have n0_ := Aside0.mk (Kd.R_below (by (with_reducible repeat (first | apply Kd.R_alloc | apply Kd.R_drewN | apply Kd.R_drew)); exact HO_3.out) hb)
                        have n1_ := Aside0.mk (blk_below (g := gb107) (o := .cells #[.string ((rd_T28 l0 x10_1).f0), .int .u32 ((rd_T28 l0 x10_1).f1), .string ((rd_T28 l0 x10_1).f2)] 28 (0, 0)) (by (with_reducible repeat (first | refine blk_drewN ?_ _ | refine blk_drew ?_ | refine blk_alloc ?_ _)); exact BK107.out) hb)
                        have n2_ := Aside0.mk (below_step (by repeat (first | (with_reducible first | exact HB.out | apply below_alloc | apply pw_below_drewN | apply below_drew1 | refine below_set ?_ GE107.out) | exact HB.out)) hb)
                        clear HO_3
                        clear BK107
                        clear HB
                        have HO_3 := n0_
                        have BK107 := n1_
                        have HB := n2_
                        clear n0_ n1_ n2_
                        (try clear hb)
                        (try clear hb2)
                        (try clear hk)
                        (try clear hi)
                        refine hK.out _ _ ⟨(blk_cell BK107.out 0).trans rfl, (blk_cell BK107.out 1).trans rfl, (blk_cell BK107.out 2).trans rfl, HS3_, HS4_, HS5_⟩ (fun hHeld => ?_)
                        clear hK K
                        refine norm_ (a' := ?_) ?_ ?_
                        rotate_left
                        · show Act.put _ (some 26) _ = _
                          simp only [Act.put, List.setIfInBounds_toArray, List.set_cons_zero, List.set_cons_succ, i64_w, i32_w]
                          rfl
                        refine pure_ (i := 11) (N := some 27) (v := ?_) (a' := ?_) #[true, true, true, true, true, true, true, true, true, true, true, true, false] rfl rfl (any_of HT_.out (by kernel_rfl)) (fun _ _ _ h => h) (Or.inl ⟨by rfl, ?_⟩) ?_ ?_
                        rotate_left
                        · intro w'
                          go_simp
                          with_reducible rfl
                        rotate_left
                        · simp only [Act.put, List.setIfInBounds_toArray, List.set_cons_zero, List.set_cons_succ, i64_w, i32_w]
                          rfl
                        refine pure_ (i := 12) (N := some 28) (v := ?_) (a' := ?_) #[true, true, true, true, true, true, true, true, true, true, true, true, true] rfl rfl (any_of HT_.out (by kernel_rfl)) (fun _ _ _ h => h) (Or.inl ⟨by rfl, ?_⟩) ?_ ?_
                        rotate_left
                        · intro w'
                          go_simp
                          with_reducible rfl
                        rotate_left
                        · simp only [Act.put, List.setIfInBounds_toArray, List.set_cons_zero, List.set_cons_succ, i64_w, i32_w]
                          rfl
                        refine done_ (done_of HT_.out (by kernel_rfl)) ?_
                        try go_wp2
                        go_roundg k2
                        case measure => have := HK1.out; have := HK2.out; omega
                        case rel => exact ⟨(ji10), (by first | rfl | (simp; done) | (simp only [← hji10] <;> (first | rfl | simp)) | (simp [*]; done)), H', ⟨by have := HK1.out; have := HK2.out; omega⟩, ⟨by (with_reducible repeat (first | apply Kd.R_alloc | apply Kd.R_drewN | apply Kd.R_drew)); exact HO_3.out⟩, ⟨by (with_reducible repeat (first | refine blk_drewN ?_ _ | refine blk_drew ?_ | refine blk_alloc ?_ _)); exact BK107.out⟩, ⟨by repeat (first | (with_reducible first | exact HB.out | apply below_alloc | apply pw_below_drewN | apply below_drew1 | refine below_set ?_ GE107.out) | exact HB.out)⟩⟩
                      · rw [if_neg c14] at H
                        have c14b0 : (Op.bytesLess t108.toList t110.toList) = false := by simpa using c14
                        clear c14
                        obtain ⟨y111, hy111⟩ : ∃ y_ : List (S28), y_ = (([] : List (S28))) := ⟨_, rfl⟩
                        replace H : (if 0 ≤ x6_2 then (if x6_2 ≤ (x3_1.length : Int) then ((some (x3_1.take (x6_2 : Int).toNat : List (S28))).bind fun y114 => (if y111.length + y114.length < 3518437208883 then ((some (y111 ++ y114 : List (S28))).bind fun y118 => (if y118.length < 3518437208883 then ((some (y118 ++ [(⟨((rd_T28 l0 x10_1).f0), ((rd_T28 l0 x10_1).f1), ((rd_T28 l0 x10_1).f2)⟩ : S28)] : List (S28))).bind fun y121 => ((some (x3_1.drop (x6_2 : Int).toNat : List (S28))).bind fun y124 => (if y121.length + y124.length < 3518437208883 then (spec_TreeInOrder.l0 k2 (y121 ++ y124) l0 (l0.length : Int) (wrap64 (x10_1 + 1))) else (none)))) else (none))) else (none))) else (none)) else (none)) = some r := by first | (rw [hy111]; with_reducible exact H) | (have H2_ := (Option.bind_some _ _).symm.trans H; rw [hy111]; with_reducible exact H2_) | (have H2_ := (Option.bind_some _ _).symm.trans H; with_reducible exact H2_) | with_reducible exact H | (rw [hy111]; exact H) | exact H
                        have Ny111 := Aside0.mk hy111
                        clear hy111
                        by_cases c18 : 0 ≤ x6_2
                        · rw [if_pos c18] at H
                          have c18b0 := eq_true c18
                          have c18b1 : decide (0 ≤ x6_2) = true := decide_eq_true c18
                          clear c18
                          by_cases c19 : x6_2 ≤ (x3_1.length : Int)
                          · rw [if_pos c19] at H
                            have c19b0 := eq_true c19
                            have c19b1 : decide (x6_2 ≤ (x3_1.length : Int)) = true := decide_eq_true c19
                            clear c19
                            obtain ⟨y114, hy114⟩ : ∃ y_ : List (S28), y_ = (x3_1.take (x6_2 : Int).toNat) := ⟨_, rfl⟩
                            replace H : (if y111.length + y114.length < 3518437208883 then ((some (y111 ++ y114 : List (S28))).bind fun y118 => (if y118.length < 3518437208883 then ((some (y118 ++ [(⟨((rd_T28 l0 x10_1).f0), ((rd_T28 l0 x10_1).f1), ((rd_T28 l0 x10_1).f2)⟩ : S28)] : List (S28))).bind fun y121 => ((some (x3_1.drop (x6_2 : Int).toNat : List (S28))).bind fun y124 => (if y121.length + y124.length < 3518437208883 then (spec_TreeInOrder.l0 k2 (y121 ++ y124) l0 (l0.length : Int) (wrap64 (x10_1 + 1))) else (none)))) else (none))) else (none)) = some r := by first | (rw [hy114]; with_reducible exact H) | (have H2_ := (Option.bind_some _ _).symm.trans H; rw [hy114]; with_reducible exact H2_) | (have H2_ := (Option.bind_some _ _).symm.trans H; with_reducible exact H2_) | with_reducible exact H | (rw [hy114]; exact H) | exact H
                            have Ny114 := Aside0.mk hy114
                            clear hy114
                            by_cases c20 : y111.length + y114.length < 3518437208883
                            · rw [if_pos c20] at H
                              have LMc20 := Aside0.mk c20
                              clear c20
                              obtain ⟨y118, hy118⟩ : ∃ y_ : List (S28), y_ = (y111 ++ y114) := ⟨_, rfl⟩
                              replace H : (if y118.length < 3518437208883 then ((some (y118 ++ [(⟨((rd_T28 l0 x10_1).f0), ((rd_T28 l0 x10_1).f1), ((rd_T28 l0 x10_1).f2)⟩ : S28)] : List (S28))).bind fun y121 => ((some (x3_1.drop (x6_2 : Int).toNat : List (S28))).bind fun y124 => (if y121.length + y124.length < 3518437208883 then (spec_TreeInOrder.l0 k2 (y121 ++ y124) l0 (l0.length : Int) (wrap64 (x10_1 + 1))) else (none)))) else (none)) = some r := by first | (rw [hy118]; with_reducible exact H) | (have H2_ := (Option.bind_some _ _).symm.trans H; rw [hy118]; with_reducible exact H2_) | (have H2_ := (Option.bind_some _ _).symm.trans H; with_reducible exact H2_) | with_reducible exact H | (rw [hy118]; exact H) | exact H
                              have Ny118 := Aside0.mk hy118
                              clear hy118
                              by_cases c21 : y118.length < 3518437208883
                              · rw [if_pos c21] at H
                                have LMc21 := Aside0.mk c21
                                clear c21
                                obtain ⟨y121, hy121⟩ : ∃ y_ : List (S28), y_ = (y118 ++ [(⟨((rd_T28 l0 x10_1).f0), ((rd_T28 l0 x10_1).f1), ((rd_T28 l0 x10_1).f2)⟩ : S28)]) := ⟨_, rfl⟩
                                replace H : ((some (x3_1.drop (x6_2 : Int).toNat : List (S28))).bind fun y124 => (if y121.length + y124.length < 3518437208883 then (spec_TreeInOrder.l0 k2 (y121 ++ y124) l0 (l0.length : Int) (wrap64 (x10_1 + 1))) else (none))) = some r := by first | (rw [hy121]; with_reducible exact H) | (have H2_ := (Option.bind_some _ _).symm.trans H; rw [hy121]; with_reducible exact H2_) | (have H2_ := (Option.bind_some _ _).symm.trans H; with_reducible exact H2_) | with_reducible exact H | (rw [hy121]; exact H) | exact H
                                have Ny121 := Aside0.mk hy121
                                clear hy121
                                have c22b0 := eq_true (of_decide_eq_true (by first | (with_reducible assumption) | assumption) : 0 ≤ x6_2)
                                have c23b0 := eq_true (of_decide_eq_true (by first | (with_reducible assumption) | assumption) : x6_2 ≤ (x3_1.length : Int))
                                obtain ⟨y124, hy124⟩ : ∃ y_ : List (S28), y_ = (x3_1.drop (x6_2 : Int).toNat) := ⟨_, rfl⟩
                                replace H : (if y121.length + y124.length < 3518437208883 then (spec_TreeInOrder.l0 k2 (y121 ++ y124) l0 (l0.length : Int) (wrap64 (x10_1 + 1))) else (none)) = some r := by first | (rw [hy124]; with_reducible exact H) | (have H2_ := (Option.bind_some _ _).symm.trans H; rw [hy124]; with_reducible exact H2_) | (have H2_ := (Option.bind_some _ _).symm.trans H; with_reducible exact H2_) | with_reducible exact H | (rw [hy124]; exact H) | exact H
                                have Ny124 := Aside0.mk hy124
                                clear hy124
                                by_cases c24 : y121.length + y124.length < 3518437208883
                                · rw [if_pos c24] at H
                                  have LMc24 := Aside0.mk c24
                                  clear c24
                                  obtain ⟨y128, hy128⟩ : ∃ y_ : List (S28), y_ = (y121 ++ y124) := ⟨_, rfl⟩
                                  replace H : (spec_TreeInOrder.l0 k2 y128 l0 (l0.length : Int) (wrap64 (x10_1 + 1))) = some r := by first | (rw [hy128]; with_reducible exact H) | (have H2_ := (Option.bind_some _ _).symm.trans H; rw [hy128]; with_reducible exact H2_) | (have H2_ := (Option.bind_some _ _).symm.trans H; with_reducible exact H2_) | with_reducible exact H | (rw [hy128]; exact H) | exact H
                                  have Ny128 := Aside0.mk hy128
                                  clear hy128
                                  have H' := Aside0.mk H
                                  clear H
                                  try go_wp2
                                  have n0_ := Aside0.mk (Kd.R_drew HO_3.out)
                                  have n1_ := Aside0.mk (blk_drew BK107.out)
                                  have n2_ := Aside0.mk (below_drew1 HB.out)
                                  clear HO_3
                                  clear BK107
                                  clear HB
                                  have HO_3 := n0_
                                  have BK107 := n1_
                                  have HB := n2_
                                  clear n0_ n1_ n2_
                                  have p109 : 0 ≤ ((ji10) : Int) := of_decide_eq_true (by first | (with_reducible assumption) | assumption)
                                  have q109 : (ji10) < (x3_1.length : Int) := of_decide_eq_true (by first | (with_reducible assumption) | assumption)
                                  obtain ⟨ad109, e109, hx109_0, hx109_1, hx109_2⟩ := at_T28 (Kd.R_reads' HO_3.out).2.2 (ji10) p109 q109
                                  cases e109
                                  replace p109 := eq_true p109
                                  replace q109 := eq_true q109
                                  refine start_ (n := 13) (S := fun w' => w'.cell? ⟨gb107, 0, none⟩ = some (.string ((rd_T28 l0 x10_1).f0)) ∧ w'.cell? ⟨gb107, 1, none⟩ = some (.int .u32 ((rd_T28 l0 x10_1).f1)) ∧ w'.cell? ⟨gb107, 2, none⟩ = some (.string ((rd_T28 l0 x10_1).f2)) ∧ w'.cell? (ad109.add (((ji10)).toNat * 3)) = some (.string ((rd_T28 x3_1 (ji10)).f0)) ∧ w'.cell? ⟨(ad109.add (((ji10)).toNat * 3)).block, (ad109.add (((ji10)).toNat * 3)).off + 1, none⟩ = some (.int .u32 ((rd_T28 x3_1 (ji10)).f1)) ∧ w'.cell? ⟨(ad109.add (((ji10)).toNat * 3)).block, (ad109.add (((ji10)).toNat * 3)).off + 2, none⟩ = some (.string ((rd_T28 x3_1 (ji10)).f2))) (ds := []) #[false, false, false, false, false, false, false, false, false, false, false, false, false] (by kernel_rfl) rfl rfl ⟨(blk_cell BK107.out 0).trans rfl, (blk_cell BK107.out 1).trans rfl, (blk_cell BK107.out 2).trans rfl, hx109_0, hx109_1, hx109_2⟩ (fun hHeld => ?_); refine with_tabW spec_TreeInOrder.tab6 spec_TreeInOrder.bits6 (fun HT_ HW_ => ?_)
                                  generalize wr.drew = w25 at HO_3 BK107 HB hx109_0 hx109_1 hx109_2 hHeld ⊢
                                  refine pure_ (i := 0) (N := some 16) (v := ?_) (a' := ?_) #[true, false, false, false, false, false, false, false, false, false, false, false, false] rfl rfl (any_of HT_.out (by kernel_rfl)) (fun _ _ _ h => h) (Or.inl ⟨by rfl, ?_⟩) ?_ ?_
                                  rotate_left
                                  · intro w'
                                    go_simp
                                    with_reducible rfl
                                  rotate_left
                                  · simp only [Act.put, List.setIfInBounds_toArray, List.set_cons_zero, List.set_cons_succ, i64_w, i32_w]
                                    rfl
                                  refine pure_ (i := 1) (N := some 17) (v := ?_) (a' := ?_) #[true, true, false, false, false, false, false, false, false, false, false, false, false] rfl rfl (any_of HT_.out (by kernel_rfl)) (fun _ _ _ h => h) (Or.inl ⟨by rfl, ?_⟩) ?_ ?_
                                  rotate_left
                                  · intro w'
                                    go_simp
                                    with_reducible rfl
                                  rotate_left
                                  · simp only [Act.put, List.setIfInBounds_toArray, List.set_cons_zero, List.set_cons_succ, i64_w, i32_w]
                                    rfl
                                  refine pure_ (i := 2) (N := some 18) (v := ?_) (a' := ?_) #[true, true, true, false, false, false, false, false, false, false, false, false, false] rfl rfl (any_of HT_.out (by kernel_rfl)) (fun _ _ _ h => h) (Or.inl ⟨by rfl, ?_⟩) ?_ ?_
                                  rotate_left
                                  · intro w'
                                    go_simp
                                    with_reducible rfl
                                  rotate_left
                                  · simp only [Act.put, List.setIfInBounds_toArray, List.set_cons_zero, List.set_cons_succ, i64_w, i32_w]
                                    rfl
                                  refine pure_ (i := 5) (N := some 21) (v := ?_) (a' := ?_) #[true, true, true, false, false, true, false, false, false, false, false, false, false] rfl rfl (any_of HT_.out (by kernel_rfl)) (fun _ _ _ h => h) (Or.inl ⟨by rfl, ?_⟩) ?_ ?_
                                  rotate_left
                                  · intro w'
                                    go_simp
                                    with_reducible rfl
                                  rotate_left
                                  · simp only [Act.put, List.setIfInBounds_toArray, List.set_cons_zero, List.set_cons_succ, i64_w, i32_w]
                                    rfl
                                  refine pure_ (i := 6) (N := some 22) (v := ?_) (a' := ?_) #[true, true, true, false, false, true, true, false, false, false, false, false, false] rfl rfl (any_of HT_.out (by kernel_rfl)) (fun _ _ _ h => h) (Or.inl ⟨by rfl, ?_⟩) ?_ ?_
                                  rotate_left
                                  · intro w'
                                    go_simp
                                    with_reducible rfl
                                  rotate_left
                                  · simp only [Act.put, List.setIfInBounds_toArray, List.set_cons_zero, List.set_cons_succ, i64_w, i32_w]
                                    rfl
                                  refine pure_ (i := 7) (N := some 23) (v := ?_) (a' := ?_) #[true, true, true, false, false, true, true, true, false, false, false, false, false] rfl rfl (any_of HT_.out (by kernel_rfl)) (fun _ _ _ h => h) (Or.inl ⟨by rfl, ?_⟩) ?_ ?_
                                  rotate_left
                                  · intro w'
                                    go_simp
                                    with_reducible rfl
                                  rotate_left
                                  · simp only [Act.put, List.setIfInBounds_toArray, List.set_cons_zero, List.set_cons_succ, i64_w, i32_w]
                                    rfl
                                  refine pure_ (i := 8) (N := some 24) (v := ?_) (a' := ?_) #[true, true, true, false, false, true, true, true, true, false, false, false, false] rfl rfl (any_of HT_.out (by kernel_rfl)) (fun _ _ _ h => h) (Or.inl ⟨by rfl, ?_⟩) ?_ ?_
                                  rotate_left
                                  · intro w'
                                    go_simp
                                    with_reducible rfl
                                  rotate_left
                                  · simp only [Act.put, List.setIfInBounds_toArray, List.set_cons_zero, List.set_cons_succ, i64_w, i32_w]
                                    rfl
                                  refine take_ (i := 3) (N := some 19) (v := ?_) (a' := ?_) #[true, true, true, true, false, true, true, true, true, false, false, false, false] rfl rfl (take_ofW HT_.out HW_.out (by kernel_rfl)) (fun _ _ _ h => h) (Or.inl ⟨by rfl, ?_⟩) hHeld ?_ ?_
                                  rotate_left
                                  · rintro w' ⟨s0, s1, s2, s3, s4, s5⟩
                                    go_simp
                                    with_reducible rfl
                                  rotate_left
                                  · simp only [Act.put, List.setIfInBounds_toArray, List.set_cons_zero, List.set_cons_succ, i64_w, i32_w]
                                    rfl
                                  refine take_ (i := 9) (N := some 25) (v := ?_) (a' := ?_) #[true, true, true, true, false, true, true, true, true, true, false, false, false] rfl rfl (take_ofW HT_.out HW_.out (by kernel_rfl)) (fun _ _ _ h => h) (Or.inl ⟨by rfl, ?_⟩) hHeld ?_ ?_
                                  rotate_left
                                  · rintro w' ⟨s0, s1, s2, s3, s4, s5⟩
                                    go_simp
                                    with_reducible rfl
                                  rotate_left
                                  · simp only [Act.put, List.setIfInBounds_toArray, List.set_cons_zero, List.set_cons_succ, i64_w, i32_w]
                                    rfl
                                  refine one_ (i := 4) (N := some 20) #[true, true, true, true, true, true, true, true, true, true, false, false, false] rfl rfl (one_of HT_.out (by kernel_rfl)) (by decide) (fun K hK => ?_)
                                  refine goes_ Tryd.func10 (by kernel_rfl) rfl #[.agg #[.string ((rd_T28 l0 x10_1).f0), .int .u32 ((rd_T28 l0 x10_1).f1), .string ((rd_T28 l0 x10_1).f2)]] (by rfl) rfl rfl (by (try simp only [List.map_toArray, List.map_cons, List.map_nil]); first | done | rfl | (simp only [List.length_drop, List.length_take]; rfl)) ?_
                                  with_reducible refine (spec_sortName.calls ((rd_T28 l0 x10_1).f0) ((rd_T28 l0 x10_1).f1) ((rd_T28 l0 x10_1).f2) t108 _ A9.out).mono ?_
                                  rintro e w26 ⟨rfl, hb⟩
                                  have HS3_ := (hb.cell (World.block_lt_of_cell? _ _ (hHeld.2.2.2.1))).trans (hHeld.2.2.2.1)
                                  have HS4_ := (hb.cell (World.block_lt_of_cell? _ _ (hHeld.2.2.2.2.1))).trans (hHeld.2.2.2.2.1)
                                  have HS5_ := (hb.cell (World.block_lt_of_cell? _ _ (hHeld.2.2.2.2.2))).trans (hHeld.2.2.2.2.2)
                                  refine ⟨_, rfl, ?_⟩
                                  have n0_ := Aside0.mk (Kd.R_below (by (with_reducible repeat (first | apply Kd.R_alloc | apply Kd.R_drewN | apply Kd.R_drew)); exact HO_3.out) hb)
                                  have n1_ := Aside0.mk (blk_below (g := gb107) (o := .cells #[.string ((rd_T28 l0 x10_1).f0), .int .u32 ((rd_T28 l0 x10_1).f1), .string ((rd_T28 l0 x10_1).f2)] 28 (0, 0)) (by (with_reducible repeat (first | refine blk_drewN ?_ _ | refine blk_drew ?_ | refine blk_alloc ?_ _)); exact BK107.out) hb)
                                  have n2_ := Aside0.mk (below_step (by repeat (first | (with_reducible first | exact HB.out | apply below_alloc | apply pw_below_drewN | apply below_drew1 | refine below_set ?_ GE107.out) | exact HB.out)) hb)
                                  clear HO_3
                                  clear BK107
                                  clear HB
                                  have HO_3 := n0_
                                  have BK107 := n1_
                                  have HB := n2_
                                  clear n0_ n1_ n2_
                                  (try clear hb)
                                  (try clear hb2)
                                  (try clear hk)
                                  (try clear hi)
                                  refine hK.out _ _ ⟨(blk_cell BK107.out 0).trans rfl, (blk_cell BK107.out 1).trans rfl, (blk_cell BK107.out 2).trans rfl, HS3_, HS4_, HS5_⟩ (fun hHeld => ?_)
                                  clear hK K
                                  refine norm_ (a' := ?_) ?_ ?_
                                  rotate_left
                                  · show Act.put _ (some 20) _ = _
                                    simp only [Act.put, List.setIfInBounds_toArray, List.set_cons_zero, List.set_cons_succ, i64_w, i32_w]
                                    rfl
                                  refine one_ (i := 10) (N := some 26) #[true, true, true, true, true, true, true, true, true, true, true, false, false] rfl rfl (one_of HT_.out (by kernel_rfl)) (by decide) (fun K hK => ?_)
                                  refine goes_ Tryd.func10 (by kernel_rfl) rfl #[.agg #[.string ((rd_T28 x3_1 (ji10)).f0), .int .u32 ((rd_T28 x3_1 (ji10)).f1), .string ((rd_T28 x3_1 (ji10)).f2)]] (by rfl) rfl rfl (by (try simp only [List.map_toArray, List.map_cons, List.map_nil]); first | done | (simp only [hji10]; rfl) | rfl | (simp only [List.length_drop, List.length_take]; rfl)) ?_
                                  with_reducible refine (spec_sortName.calls ((rd_T28 x3_1 (ji10)).f0) ((rd_T28 x3_1 (ji10)).f1) ((rd_T28 x3_1 (ji10)).f2) t110 _ A13.out).mono ?_
                                  rintro e w27 ⟨rfl, hb⟩
                                  have HS3_ := (hb.cell (World.block_lt_of_cell? _ _ (hHeld.2.2.2.1))).trans (hHeld.2.2.2.1)
                                  have HS4_ := (hb.cell (World.block_lt_of_cell? _ _ (hHeld.2.2.2.2.1))).trans (hHeld.2.2.2.2.1)
                                  have HS5_ := (hb.cell (World.block_lt_of_cell? _ _ (hHeld.2.2.2.2.2))).trans (hHeld.2.2.2.2.2)
                                  refine ⟨_, rfl, ?_⟩
                                  have n0_ := Aside0.mk (Kd.R_below (by (with_reducible repeat (first | apply Kd.R_alloc | apply Kd.R_drewN | apply Kd.R_drew)); exact HO_3.out) hb)
                                  have n1_ := Aside0.mk (blk_below (g := gb107) (o := .cells #[.string ((rd_T28 l0 x10_1).f0), .int .u32 ((rd_T28 l0 x10_1).f1), .string ((rd_T28 l0 x10_1).f2)] 28 (0, 0)) (by (with_reducible repeat (first | refine blk_drewN ?_ _ | refine blk_drew ?_ | refine blk_alloc ?_ _)); exact BK107.out) hb)
                                  have n2_ := Aside0.mk (below_step (by repeat (first | (with_reducible first | exact HB.out | apply below_alloc | apply pw_below_drewN | apply below_drew1 | refine below_set ?_ GE107.out) | exact HB.out)) hb)
                                  clear HO_3
                                  clear BK107
                                  clear HB
                                  have HO_3 := n0_
                                  have BK107 := n1_
                                  have HB := n2_
                                  clear n0_ n1_ n2_
                                  (try clear hb)
                                  (try clear hb2)
                                  (try clear hk)
                                  (try clear hi)
                                  refine hK.out _ _ ⟨(blk_cell BK107.out 0).trans rfl, (blk_cell BK107.out 1).trans rfl, (blk_cell BK107.out 2).trans rfl, HS3_, HS4_, HS5_⟩ (fun hHeld => ?_)
                                  clear hK K
                                  refine norm_ (a' := ?_) ?_ ?_
                                  rotate_left
                                  · show Act.put _ (some 26) _ = _
                                    simp only [Act.put, List.setIfInBounds_toArray, List.set_cons_zero, List.set_cons_succ, i64_w, i32_w]
                                    rfl
                                  refine pure_ (i := 11) (N := some 27) (v := ?_) (a' := ?_) #[true, true, true, true, true, true, true, true, true, true, true, true, false] rfl rfl (any_of HT_.out (by kernel_rfl)) (fun _ _ _ h => h) (Or.inl ⟨by rfl, ?_⟩) ?_ ?_
                                  rotate_left
                                  · intro w'
                                    go_simp
                                    with_reducible rfl
                                  rotate_left
                                  · simp only [Act.put, List.setIfInBounds_toArray, List.set_cons_zero, List.set_cons_succ, i64_w, i32_w]
                                    rfl
                                  refine pure_ (i := 12) (N := some 28) (v := ?_) (a' := ?_) #[true, true, true, true, true, true, true, true, true, true, true, true, true] rfl rfl (any_of HT_.out (by kernel_rfl)) (fun _ _ _ h => h) (Or.inl ⟨by rfl, ?_⟩) ?_ ?_
                                  rotate_left
                                  · intro w'
                                    go_simp
                                    with_reducible rfl
                                  rotate_left
                                  · simp only [Act.put, List.setIfInBounds_toArray, List.set_cons_zero, List.set_cons_succ, i64_w, i32_w]
                                    rfl
                                  refine done_ (done_of HT_.out (by kernel_rfl)) ?_
                                  try go_wp2_with (first | ((with_reducible refine gate_dst (N := 31) rfl ?_); refine Kd.R_lit k28 _ 28 ?hg (N := 31) ?hd (xs := ([] : List (S28))) (inner := []) (ok := fun _ => True) (okp := fun _ => True) ?hr ?hp (fun _ hk => hk) trivial (Below.refl _ _) (Nat.le_refl _) (by simp) ?_; (case hd => rfl); (case hg => rfl); (case hr => first | (go_simp; done) | (go_simp; rfl)); (case hp => exact (Reps.none _ _)); intro v112 w28 ho29 hb hg_ hnew_; clear hg_ hnew_; (first | rw [← Ny111.out] at ho29 | (simp only [Int.reduceToNat] at ho29; rw [← Ny111.out] at ho29)); have n0_ := Aside0.mk (Kd.R_elder' (by (with_reducible repeat (first | apply Kd.R_alloc | apply Kd.R_drewN | apply Kd.R_drew)); exact HO_3.out) (Kd.R_base ho29) hb); have n1_ := Aside0.mk (Kd.R_lower (Kd.R_newB (Kd.R_new' ho29 (Kd.R_lt (by (with_reducible repeat (first | apply Kd.R_alloc | apply Kd.R_drewN | apply Kd.R_drew)); exact HO_3.out))) (g := gb107) (o := .cells #[.string ((rd_T28 l0 x10_1).f0), .int .u32 ((rd_T28 l0 x10_1).f1), .string ((rd_T28 l0 x10_1).f2)] 28 (0, 0)) (by (with_reducible repeat (first | refine blk_drewN ?_ _ | refine blk_drew ?_ | refine blk_alloc ?_ _)); exact BK107.out)) (below_size (by repeat (first | (with_reducible first | exact HB.out | apply below_alloc | apply pw_below_drewN | apply below_drew1 | refine below_set ?_ GE107.out) | exact HB.out)))); have n2_ := Aside0.mk (blk_below (g := gb107) (o := .cells #[.string ((rd_T28 l0 x10_1).f0), .int .u32 ((rd_T28 l0 x10_1).f1), .string ((rd_T28 l0 x10_1).f2)] 28 (0, 0)) (by (with_reducible repeat (first | refine blk_drewN ?_ _ | refine blk_drew ?_ | refine blk_alloc ?_ _)); exact BK107.out) hb); have n3_ := Aside0.mk (below_step (by repeat (first | (with_reducible first | exact HB.out | apply below_alloc | apply pw_below_drewN | apply below_drew1 | refine below_set ?_ GE107.out) | exact HB.out)) hb); clear HO_3; clear BK107; clear HB; have HO_3 := n0_; have HO113 := n1_; have BK107 := n2_; have HB := n3_; clear n0_ n1_ n2_ n3_; clear hb ho29; have q30 : (x6_2 : Int) ≤ ((x3_1.length : Int) : Int) := of_decide_eq_true (by first | (with_reducible assumption) | assumption); obtain ⟨i030, hi030, _, hsz30, _⟩ := info_parts info28; have hroom30 : x3_1.length ≤ co7 := (Kd.R_reads' HO_3.out).2.1; have hC30 : Kd.C k28 _ (some ad109) x3_1.length x3_1 := (Kd.R_reads' HO_3.out).2.2; have hcut30 := cut_to (P := Tryd.prog) 22 28 .i64 Tryd.underlying22 hi030 (some ad109) x3_1.length co7 x6_2 (of_decide_eq_true (by first | (with_reducible assumption) | assumption)) q30 hroom30; have hr30 := Kd.C_take (m := (x6_2 : Int).toNat) hC30 (by omega); have hy30 : y114.length = (x6_2 : Int).toNat := (by rw [Ny114.out, List.length_take]; omega); rw [← Ny114.out] at hr30; rw [← hy30] at hcut30; have HR117 := Aside0.mk hr30; have HC117 := Aside0.mk (show y114.length ≤ co7 from by omega); clear hr30 hC30 hroom30 hi030 hsz30; have KY30 := Aside0.mk hy30; clear hy30; have KL30 := Aside0.mk (show (x6_2 : Int).toNat ≤ x3_1.length from by omega); replace q30 := eq_true q30) | ((with_reducible refine gate_builtin (b := .append) (xs := #[.tmp 31, .tmp 34]) rfl ?_); at_builtin; refine Kd.R_append_rows k28 (w0 := w) w.heap.size rfl (.tmp 31) (.tmp 34) 22 28 (.agg #[(.string ⟨#[]⟩), (.int .u32 0), (.string ⟨#[]⟩)]) 40 rfl Tryd.underlying22 info28 rfl (by decide) (by omega) v112 y111 y114 _ _ _ (fun k_ => some k_ ≠ (.slice (some ad109) x3_1.length co7 : Value).ownBlock ∧ k_ ≠ gb107) (fun _ => False) rfl rfl ?aO ?aR (fun _ _ h => h) (fun _ h => h.elim) ?aF ?aB ?aS ?aL ?_; (case aR => repeat (first | exact (by repeat (first | (with_reducible exact HR117.out) | (with_reducible refine Kd.C_alloc ?_ _) | (with_reducible refine Kd.C_drewN ?_ _) | (with_reducible refine Kd.C_drew ?_) | exact HR117.out)) | (with_reducible refine Kd.C_alloc ?_ _) | (with_reducible refine Kd.C_drewN ?_ _) | (with_reducible refine Kd.C_drew ?_))); (case aB => exact (by repeat (first | (with_reducible first | exact HB.out | apply below_alloc | apply pw_below_drewN | apply below_drew1 | refine below_set ?_ GE107.out) | exact HB.out))); (case aF => exact (fun k_ hk => ⟨Kd.fresh' (Kd.R_lt (by (with_reducible repeat (first | apply Kd.R_alloc | apply Kd.R_drewN | apply Kd.R_drew)); exact HO_3.out)) k_ hk, Kd.freshB (g := gb107) (o := .cells #[.string ((rd_T28 l0 x10_1).f0), .int .u32 ((rd_T28 l0 x10_1).f1), .string ((rd_T28 l0 x10_1).f2)] 28 (0, 0)) (by (with_reducible repeat (first | refine blk_drewN ?_ _ | refine blk_drew ?_ | refine blk_alloc ?_ _)); exact BK107.out) k_ hk⟩)); (case aO => exact (by (with_reducible repeat (first | apply Kd.R_alloc | apply Kd.R_drewN | apply Kd.R_drew)); exact Kd.R_mono HO113.out (fun _ hk => ⟨hk.1.2, hk.2⟩))); (case aS => exact (below_size (by repeat (first | (with_reducible first | exact HB.out | apply below_alloc | apply pw_below_drewN | apply below_drew1 | refine below_set ?_ GE107.out) | exact HB.out)))); (case aL => have := LMc20.out; omega); intro v119 w31 ho hb hg hat; rw [← Ny118.out] at ho; have n0_ := Aside0.mk (Kd.R_after (ok := (fun k_ => k_ ≠ gb107)) (by (with_reducible repeat (first | apply Kd.R_alloc | apply Kd.R_drewN | apply Kd.R_drew)); exact HO_3.out) hg hat); have n1_ := Aside0.mk (blk_grown (g := gb107) (o := .cells #[.string ((rd_T28 l0 x10_1).f0), .int .u32 ((rd_T28 l0 x10_1).f1), .string ((rd_T28 l0 x10_1).f2)] 28 (0, 0)) (by (with_reducible repeat (first | refine blk_drewN ?_ _ | refine blk_drew ?_ | refine blk_alloc ?_ _)); exact BK107.out) hg (Kd.R_away HO113.out (fun _ hk => hk.2))); have n2_ := Aside0.mk (hb); have n3_ := Aside0.mk ((show Kd.C k28 w31 (some ad109) y114.length y114 from by rw [Ny114.out]; exact Kd.C_take (m := (x6_2 : Int).toNat) ((Kd.R_reads' (Kd.R_after (ok := (fun k_ => k_ ≠ gb107)) (by (with_reducible repeat (first | apply Kd.R_alloc | apply Kd.R_drewN | apply Kd.R_drew)); exact HO_3.out) hg hat)).2.2) KL30.out)); have n4_ := Aside0.mk (ho); clear HO_3; clear BK107; clear HB; clear HR117; clear HO113; have HO_3 := n0_; have BK107 := n1_; have HB := n2_; have HR117 := n3_; have HO120 := n4_; clear n0_ n1_ n2_ n3_ n4_; clear ho hb hg hat))
                                  have n0_ := Aside0.mk (Kd.R_drew HO_3.out)
                                  have n1_ := Aside0.mk (Kd.R_drew HO120.out)
                                  have n2_ := Aside0.mk (blk_drew BK107.out)
                                  have n3_ := Aside0.mk (Kd.C_drew HR117.out)
                                  have n4_ := Aside0.mk (below_drew1 HB.out)
                                  clear HO_3
                                  clear HO120
                                  clear BK107
                                  clear HR117
                                  clear HB
                                  have HO_3 := n0_
                                  have HO120 := n1_
                                  have BK107 := n2_
                                  have HR117 := n3_
                                  have HB := n4_
                                  clear n0_ n1_ n2_ n3_ n4_
                                  have q33 : (x6_2 : Int) ≤ ((x3_1.length : Int) : Int) := of_decide_eq_true (by first | (with_reducible assumption) | assumption)
                                  obtain ⟨i033, hi033, _, hsz33, _⟩ := info_parts info28
                                  have hroom33 : x3_1.length ≤ co7 := (Kd.R_reads' HO_3.out).2.1
                                  have hC33 : Kd.C k28 _ (some ad109) x3_1.length x3_1 := (Kd.R_reads' HO_3.out).2.2
                                  have q033 : (0 : Int) ≤ (x6_2 : Int) := of_decide_eq_true (by first | (with_reducible assumption) | assumption)
                                  have hcut33 := cut_from (P := Tryd.prog) 22 28 .i64 Tryd.underlying22 hi033 3 hsz33 (some ad109) x3_1.length co7 x6_2 q033 q33
                                  have hr33 := Kd.C_drop (m := (x6_2 : Int).toNat) (c := co7) hC33 (by omega) hroom33
                                  obtain ⟨A33, hA33⟩ : ∃ A1, A1 = (if co7 = (x6_2 : Int).toNat then (some ad109) else ((some ad109) : Option Addr).map (·.add ((x6_2 : Int).toNat * 3))) := ⟨_, rfl⟩
                                  obtain ⟨c33, hc33⟩ : ∃ c1, c1 = co7 - (x6_2 : Int).toNat := ⟨_, rfl⟩
                                  have hy33 : y124.length = x3_1.length - (x6_2 : Int).toNat := (by rw [Ny124.out, List.length_drop] <;> omega)
                                  rw [show (x3_1).drop (x6_2 : Int).toNat = y124 from Ny124.out.symm] at hr33
                                  replace hr33 : Kd.C k28 _ A33 y124.length y124 := (by rw [hA33]; exact hr33)
                                  rw [← hy33, ← hA33, ← hc33] at hcut33
                                  have HR127 := Aside0.mk hr33
                                  have HC127 := Aside0.mk (show y124.length ≤ c33 from by rw [hy33, hc33]; exact Nat.sub_le_sub_right hroom33 _)
                                  clear hr33 hC33 hroom33 hi033 hsz33 hc33
                                  have KY33 := Aside0.mk hy33
                                  have KA33 := Aside0.mk hA33
                                  clear hy33 hA33
                                  have KL33 := Aside0.mk (show (x6_2 : Int).toNat ≤ x3_1.length from by omega)
                                  replace q33 := eq_true q33
                                  refine start_ (n := 9) (S := fun w' => w'.cell? ⟨gb107, 0, none⟩ = some (.string ((rd_T28 l0 x10_1).f0)) ∧ w'.cell? ⟨gb107, 1, none⟩ = some (.int .u32 ((rd_T28 l0 x10_1).f1)) ∧ w'.cell? ⟨gb107, 2, none⟩ = some (.string ((rd_T28 l0 x10_1).f2))) (ds := []) #[false, false, false, false, false, false, false, false, false] (by kernel_rfl) rfl rfl ⟨(blk_cell BK107.out 0).trans rfl, (blk_cell BK107.out 1).trans rfl, (blk_cell BK107.out 2).trans rfl⟩ (fun hHeld => ?_); refine with_tabW spec_TreeInOrder.tab9 spec_TreeInOrder.bits9 (fun HT_ HW_ => ?_)
                                  generalize w31.drew = w32 at HO_3 HO120 BK107 HR117 HB HR127 hHeld ⊢
                                  refine pure_ (i := 0) (N := some 36) (v := ?_) (a' := ?_) #[true, false, false, false, false, false, false, false, false] rfl rfl (any_of HT_.out (by kernel_rfl)) (fun _ _ _ h => h) (Or.inl ⟨by rfl, ?_⟩) ?_ ?_
                                  rotate_left
                                  · intro w'
                                    go_simp
                                    with_reducible rfl
                                  rotate_left
                                  · simp only [Act.put, List.setIfInBounds_toArray, List.set_cons_zero, List.set_cons_succ, i64_w, i32_w]
                                    rfl
                                  refine pure_ (i := 4) (N := some 40) (v := ?_) (a' := ?_) #[true, false, false, false, true, false, false, false, false] rfl rfl (any_of HT_.out (by kernel_rfl)) (fun _ _ _ h => h) (Or.inl ⟨by rfl, ?_⟩) ?_ ?_
                                  rotate_left
                                  · intro w'
                                    go_simp
                                    with_reducible rfl
                                  rotate_left
                                  · simp only [Act.put, List.setIfInBounds_toArray, List.set_cons_zero, List.set_cons_succ, i64_w, i32_w]
                                    rfl
                                  refine pure_ (i := 5) (N := some 41) (v := ?_) (a' := ?_) #[true, false, false, false, true, true, false, false, false] rfl rfl (any_of HT_.out (by kernel_rfl)) (fun _ _ _ h => h) (Or.inl ⟨by rfl, ?_⟩) ?_ ?_
                                  rotate_left
                                  · intro w'
                                    go_simp
                                    with_reducible rfl
                                  rotate_left
                                  · simp only [Act.put, List.setIfInBounds_toArray, List.set_cons_zero, List.set_cons_succ, i64_w, i32_w]
                                    rfl
                                  refine pure_ (i := 6) (N := some 42) (v := ?_) (a' := ?_) #[true, false, false, false, true, true, true, false, false] rfl rfl (any_of HT_.out (by kernel_rfl)) (fun _ _ _ h => h) (Or.inl ⟨by rfl, ?_⟩) ?_ ?_
                                  rotate_left
                                  · intro w'
                                    go_simp
                                    with_reducible rfl
                                  rotate_left
                                  · simp only [Act.put, List.setIfInBounds_toArray, List.set_cons_zero, List.set_cons_succ, i64_w, i32_w]
                                    rfl
                                  refine take_ (i := 1) (N := some 37) (v := ?_) (a' := ?_) #[true, true, false, false, true, true, true, false, false] rfl rfl (take_ofW HT_.out HW_.out (by kernel_rfl)) (fun _ _ _ h => h) (Or.inl ⟨by rfl, ?_⟩) hHeld ?_ ?_
                                  rotate_left
                                  · rintro w' ⟨s0, s1, s2⟩
                                    go_simp
                                    with_reducible rfl
                                  rotate_left
                                  · simp only [Act.put, List.setIfInBounds_toArray, List.set_cons_zero, List.set_cons_succ, i64_w, i32_w]
                                    rfl
                                  refine one_ (i := 2) (N := some 38) #[true, true, true, false, true, true, true, false, false] rfl rfl (one_of HT_.out (by kernel_rfl)) (by decide) (fun K hK => ?_)
                                  refine value_ (w1 := ?_) (v := ?_) (by rfl) rfl ?_ ?_
                                  rotate_left 2
                                  · go_simp
                                    constructor
                                    · rfl
                                    · rfl
                                  refine hK.out _ _ ⟨(blk_cell (blk_alloc BK107.out _) 0).trans rfl, (blk_cell (blk_alloc BK107.out _) 1).trans rfl, (blk_cell (blk_alloc BK107.out _) 2).trans rfl⟩ (fun hHeld => ?_)
                                  clear hK K
                                  refine norm_ (a' := ?_) ?_ ?_
                                  rotate_left
                                  · show Act.put _ (some 38) _ = _
                                    simp only [Act.put, List.setIfInBounds_toArray, List.set_cons_zero, List.set_cons_succ, i64_w, i32_w]
                                    rfl
                                  refine one_ (i := 3) (N := some 39) #[true, true, true, true, true, true, true, false, false] rfl rfl (one_of HT_.out (by kernel_rfl)) (by decide) (fun K hK => ?_)
                                  refine Kd.R_append_step k28 (w0 := w) w.heap.size (by rfl) (.tmp 36) (.tmp 38) 22 28 (.agg #[(.string ⟨#[]⟩), (.int .u32 0), (.string ⟨#[]⟩)]) 40 rfl Tryd.underlying22 info28 rfl (by decide) (by omega) v119 y118 (⟨((rd_T28 l0 x10_1).f0), ((rd_T28 l0 x10_1).f1), ((rd_T28 l0 x10_1).f2)⟩ : S28) [.string ((rd_T28 l0 x10_1).f0), .int .u32 ((rd_T28 l0 x10_1).f1), .string ((rd_T28 l0 x10_1).f2)] (fun k_ => some k_ ≠ (.slice (some ad109) x3_1.length co7 : Value).ownBlock ∧ k_ ≠ gb107) (fun _ => False) rfl rfl ?aP (fun _ hk => hk.elim) ?aF ?aO ?aB ?aS ?aL ?_
                                  (case aP => exact k28_mkM _ _ _ (⟨((rd_T28 l0 x10_1).f0), ((rd_T28 l0 x10_1).f1), ((rd_T28 l0 x10_1).f2)⟩ : S28))
                                  (case aB => exact (by repeat (first | (with_reducible first | exact HB.out | apply below_alloc | apply pw_below_drewN | apply below_drew1 | refine below_set ?_ GE107.out) | exact HB.out)))
                                  (case aF => exact (fun k_ hk => ⟨Kd.fresh' (Kd.R_lt (by (with_reducible repeat (first | apply Kd.R_alloc | apply Kd.R_drewN | apply Kd.R_drew)); exact HO_3.out)) k_ hk, Kd.freshB (g := gb107) (o := .cells #[.string ((rd_T28 l0 x10_1).f0), .int .u32 ((rd_T28 l0 x10_1).f1), .string ((rd_T28 l0 x10_1).f2)] 28 (0, 0)) (by (with_reducible repeat (first | refine blk_drewN ?_ _ | refine blk_drew ?_ | refine blk_alloc ?_ _)); exact BK107.out) k_ hk⟩))
                                  (case aO => exact (by (with_reducible repeat (first | apply Kd.R_alloc | apply Kd.R_drewN | apply Kd.R_drew)); exact HO120.out))
                                  (case aS => exact (below_size (by repeat (first | (with_reducible first | exact HB.out | apply below_alloc | apply pw_below_drewN | apply below_drew1 | refine below_set ?_ GE107.out) | exact HB.out))))
                                  (case aL => have := LMc21.out; omega)
                                  intro v122 w34 ho hb hg hat
                                  rw [← Ny121.out] at ho
                                  have n0_ := Aside0.mk (Kd.R_after (ok := (fun k_ => k_ ≠ gb107)) (by (with_reducible repeat (first | apply Kd.R_alloc | apply Kd.R_drewN | apply Kd.R_drew)); exact HO_3.out) hg hat)
                                  have n1_ := Aside0.mk (blk_grown (g := gb107) (o := .cells #[.string ((rd_T28 l0 x10_1).f0), .int .u32 ((rd_T28 l0 x10_1).f1), .string ((rd_T28 l0 x10_1).f2)] 28 (0, 0)) (by (with_reducible repeat (first | refine blk_drewN ?_ _ | refine blk_drew ?_ | refine blk_alloc ?_ _)); exact BK107.out) hg (Kd.R_away HO120.out (fun _ hk => hk.2)))
                                  have n2_ := Aside0.mk (hb)
                                  have n3_ := Aside0.mk ((show Kd.C k28 w34 (some ad109) y114.length y114 from by rw [Ny114.out]; exact Kd.C_take (m := (x6_2 : Int).toNat) ((Kd.R_reads' (Kd.R_after (ok := (fun k_ => k_ ≠ gb107)) (by (with_reducible repeat (first | apply Kd.R_alloc | apply Kd.R_drewN | apply Kd.R_drew)); exact HO_3.out) hg hat)).2.2) KL30.out))
                                  have n4_ := Aside0.mk ((show Kd.C k28 w34 A33 y124.length y124 from by rw [Ny124.out, KA33.out]; exact Kd.C_drop (m := (x6_2 : Int).toNat) (c := co7) ((Kd.R_reads' (Kd.R_after (ok := (fun k_ => k_ ≠ gb107)) (by (with_reducible repeat (first | apply Kd.R_alloc | apply Kd.R_drewN | apply Kd.R_drew)); exact HO_3.out) hg hat)).2.2) KL33.out ((Kd.R_reads' (Kd.R_after (ok := (fun k_ => k_ ≠ gb107)) (by (with_reducible repeat (first | apply Kd.R_alloc | apply Kd.R_drewN | apply Kd.R_drew)); exact HO_3.out) hg hat)).2.1)))
                                  have n5_ := Aside0.mk (ho)
                                  clear HO_3
                                  clear BK107
                                  clear HB
                                  clear HR117
                                  clear HR127
                                  clear HO120
                                  have HO_3 := n0_
                                  have BK107 := n1_
                                  have HB := n2_
                                  have HR117 := n3_
                                  have HR127 := n4_
                                  have HO123 := n5_
                                  clear n0_ n1_ n2_ n3_ n4_ n5_
                                  clear ho hb hg hat
                                  refine hK.out _ _ ⟨(blk_cell BK107.out 0).trans rfl, (blk_cell BK107.out 1).trans rfl, (blk_cell BK107.out 2).trans rfl⟩ (fun hHeld => ?_)
                                  clear hK K
                                  refine norm_ (a' := ?_) ?_ ?_
                                  rotate_left
                                  · show Act.put _ (some 39) _ = _
                                    simp only [Act.put, List.setIfInBounds_toArray, List.set_cons_zero, List.set_cons_succ, i64_w, i32_w]
                                    rfl
                                  refine one_ (i := 7) (N := some 43) #[true, true, true, true, true, true, true, true, false] rfl rfl (one_of HT_.out (by kernel_rfl)) (by decide) (fun K hK => ?_)
                                  refine Kd.R_append_rows_step k28 (w0 := w) w.heap.size (by rfl) (.tmp 39) (.tmp 42) 22 28 (.agg #[(.string ⟨#[]⟩), (.int .u32 0), (.string ⟨#[]⟩)]) 40 rfl Tryd.underlying22 info28 rfl (by decide) (by omega) v122 y121 y124 _ _ _ (fun k_ => some k_ ≠ (.slice (some ad109) x3_1.length co7 : Value).ownBlock ∧ k_ ≠ gb107) (fun _ => False) rfl rfl ?aO ?aR (fun _ _ h => h) (fun _ h => h.elim) ?aF ?aB ?aS ?aL ?_
                                  (case aR => repeat (first | exact (by repeat (first | (with_reducible exact HR127.out) | (with_reducible refine Kd.C_alloc ?_ _) | (with_reducible refine Kd.C_drewN ?_ _) | (with_reducible refine Kd.C_drew ?_) | exact HR127.out)) | (with_reducible refine Kd.C_alloc ?_ _) | (with_reducible refine Kd.C_drewN ?_ _) | (with_reducible refine Kd.C_drew ?_)))
                                  (case aB => exact (by repeat (first | (with_reducible first | exact HB.out | apply below_alloc | apply pw_below_drewN | apply below_drew1 | refine below_set ?_ GE107.out) | exact HB.out)))
                                  (case aF => exact (fun k_ hk => ⟨Kd.fresh' (Kd.R_lt (by (with_reducible repeat (first | apply Kd.R_alloc | apply Kd.R_drewN | apply Kd.R_drew)); exact HO_3.out)) k_ hk, Kd.freshB (g := gb107) (o := .cells #[.string ((rd_T28 l0 x10_1).f0), .int .u32 ((rd_T28 l0 x10_1).f1), .string ((rd_T28 l0 x10_1).f2)] 28 (0, 0)) (by (with_reducible repeat (first | refine blk_drewN ?_ _ | refine blk_drew ?_ | refine blk_alloc ?_ _)); exact BK107.out) k_ hk⟩))
                                  (case aO => exact (by (with_reducible repeat (first | apply Kd.R_alloc | apply Kd.R_drewN | apply Kd.R_drew)); exact HO123.out))
                                  (case aS => exact (below_size (by repeat (first | (with_reducible first | exact HB.out | apply below_alloc | apply pw_below_drewN | apply below_drew1 | refine below_set ?_ GE107.out) | exact HB.out))))
                                  (case aL => have := LMc24.out; omega)
                                  intro v129 w35 ho hb hg hat
                                  rw [← Ny128.out] at ho
                                  have n0_ := Aside0.mk (Kd.R_after (ok := (fun k_ => k_ ≠ gb107)) (by (with_reducible repeat (first | apply Kd.R_alloc | apply Kd.R_drewN | apply Kd.R_drew)); exact HO_3.out) hg hat)
                                  have n1_ := Aside0.mk (blk_grown (g := gb107) (o := .cells #[.string ((rd_T28 l0 x10_1).f0), .int .u32 ((rd_T28 l0 x10_1).f1), .string ((rd_T28 l0 x10_1).f2)] 28 (0, 0)) (by (with_reducible repeat (first | refine blk_drewN ?_ _ | refine blk_drew ?_ | refine blk_alloc ?_ _)); exact BK107.out) hg (Kd.R_away HO123.out (fun _ hk => hk.2)))
                                  have n2_ := Aside0.mk (hb)
                                  have n3_ := Aside0.mk ((show Kd.C k28 w35 (some ad109) y114.length y114 from by rw [Ny114.out]; exact Kd.C_take (m := (x6_2 : Int).toNat) ((Kd.R_reads' (Kd.R_after (ok := (fun k_ => k_ ≠ gb107)) (by (with_reducible repeat (first | apply Kd.R_alloc | apply Kd.R_drewN | apply Kd.R_drew)); exact HO_3.out) hg hat)).2.2) KL30.out))
                                  have n4_ := Aside0.mk ((show Kd.C k28 w35 A33 y124.length y124 from by rw [Ny124.out, KA33.out]; exact Kd.C_drop (m := (x6_2 : Int).toNat) (c := co7) ((Kd.R_reads' (Kd.R_after (ok := (fun k_ => k_ ≠ gb107)) (by (with_reducible repeat (first | apply Kd.R_alloc | apply Kd.R_drewN | apply Kd.R_drew)); exact HO_3.out) hg hat)).2.2) KL33.out ((Kd.R_reads' (Kd.R_after (ok := (fun k_ => k_ ≠ gb107)) (by (with_reducible repeat (first | apply Kd.R_alloc | apply Kd.R_drewN | apply Kd.R_drew)); exact HO_3.out) hg hat)).2.1)))
                                  have n5_ := Aside0.mk (ho)
                                  clear HO_3
                                  clear BK107
                                  clear HB
                                  clear HR117
                                  clear HR127
                                  clear HO123
                                  have HO_3 := n0_
                                  have BK107 := n1_
                                  have HB := n2_
                                  have HR117 := n3_
                                  have HR127 := n4_
                                  have HO130 := n5_
                                  clear n0_ n1_ n2_ n3_ n4_ n5_
                                  clear ho hb hg hat
                                  refine hK.out _ _ ⟨(blk_cell BK107.out 0).trans rfl, (blk_cell BK107.out 1).trans rfl, (blk_cell BK107.out 2).trans rfl⟩ (fun hHeld => ?_)
                                  clear hK K
                                  refine norm_ (a' := ?_) ?_ ?_
                                  rotate_left
                                  · show Act.put _ (some 43) _ = _
                                    simp only [Act.put, List.setIfInBounds_toArray, List.set_cons_zero, List.set_cons_succ, i64_w, i32_w]
                                    rfl
                                  refine pure_ (i := 8) (N := some 3) (v := ?_) (a' := ?_) #[true, true, true, true, true, true, true, true, true] rfl rfl (any_of HT_.out (by kernel_rfl)) (fun _ _ _ h => h) (Or.inl ⟨by rfl, ?_⟩) ?_ ?_
                                  rotate_left
                                  · intro w'
                                    go_simp
                                    with_reducible rfl
                                  rotate_left
                                  · simp only [Act.put, List.setIfInBounds_toArray, List.set_cons_zero, List.set_cons_succ, i64_w, i32_w]
                                    rfl
                                  refine done_ (done_of HT_.out (by kernel_rfl)) ?_
                                  try go_wp2
                                  go_roundg k2
                                  case measure => have := HK1.out; have := HK2.out; omega
                                  case rel => exact ⟨(y128), (wrap64 (x10_1 + 1)), (by first | rfl | (simp; done) | (simp [*]; done)), H', ⟨by have := HK1.out; have := HK2.out; omega⟩, ⟨by (with_reducible repeat (first | apply Kd.R_alloc | apply Kd.R_drewN | apply Kd.R_drew)); exact Kd.R_mono HO130.out (fun _ hk => trivial)⟩, ⟨by repeat (first | (with_reducible first | exact HB.out | apply below_alloc | apply pw_below_drewN | apply below_drew1 | refine below_set ?_ GE107.out) | exact HB.out)⟩⟩
                                · rw [if_neg c24] at H
                                  exact absurd H (by simp)
                              · rw [if_neg c21] at H
                                exact absurd H (by simp)
                            · rw [if_neg c20] at H
                              exact absurd H (by simp)
                          · rw [if_neg c19] at H
                            exact absurd H (by simp)
                        · rw [if_neg c18] at H
                          exact absurd H (by simp)
                    · rw [if_neg c12] at H
                      exact absurd H (by simp)
                  · rw [if_neg c11] at H
                    exact absurd H (by simp)
                · rw [if_neg c8] at H
                  have c8b0 : decide (0 < x6_2) = false := decide_eq_false c8
                  clear c8
                  obtain ⟨y131, hy131⟩ : ∃ y_ : List (S28), y_ = (([] : List (S28))) := ⟨_, rfl⟩
                  replace H : (if 0 ≤ x6_2 then (if x6_2 ≤ (x3_1.length : Int) then ((some (x3_1.take (x6_2 : Int).toNat : List (S28))).bind fun y134 => (if y131.length + y134.length < 3518437208883 then ((some (y131 ++ y134 : List (S28))).bind fun y138 => (if y138.length < 3518437208883 then ((some (y138 ++ [(⟨((rd_T28 l0 x10_1).f0), ((rd_T28 l0 x10_1).f1), ((rd_T28 l0 x10_1).f2)⟩ : S28)] : List (S28))).bind fun y141 => ((some (x3_1.drop (x6_2 : Int).toNat : List (S28))).bind fun y144 => (if y141.length + y144.length < 3518437208883 then (spec_TreeInOrder.l0 k2 (y141 ++ y144) l0 (l0.length : Int) (wrap64 (x10_1 + 1))) else (none)))) else (none))) else (none))) else (none)) else (none)) = some r := by first | (rw [hy131]; with_reducible exact H) | (have H2_ := (Option.bind_some _ _).symm.trans H; rw [hy131]; with_reducible exact H2_) | (have H2_ := (Option.bind_some _ _).symm.trans H; with_reducible exact H2_) | with_reducible exact H | (rw [hy131]; exact H) | exact H
                  have Ny131 := Aside0.mk hy131
                  clear hy131
                  by_cases c36 : 0 ≤ x6_2
                  · rw [if_pos c36] at H
                    have c36b0 := eq_true c36
                    have c36b1 : decide (0 ≤ x6_2) = true := decide_eq_true c36
                    clear c36
                    by_cases c37 : x6_2 ≤ (x3_1.length : Int)
                    · rw [if_pos c37] at H
                      have c37b0 := eq_true c37
                      have c37b1 : decide (x6_2 ≤ (x3_1.length : Int)) = true := decide_eq_true c37
                      clear c37
                      obtain ⟨y134, hy134⟩ : ∃ y_ : List (S28), y_ = (x3_1.take (x6_2 : Int).toNat) := ⟨_, rfl⟩
                      replace H : (if y131.length + y134.length < 3518437208883 then ((some (y131 ++ y134 : List (S28))).bind fun y138 => (if y138.length < 3518437208883 then ((some (y138 ++ [(⟨((rd_T28 l0 x10_1).f0), ((rd_T28 l0 x10_1).f1), ((rd_T28 l0 x10_1).f2)⟩ : S28)] : List (S28))).bind fun y141 => ((some (x3_1.drop (x6_2 : Int).toNat : List (S28))).bind fun y144 => (if y141.length + y144.length < 3518437208883 then (spec_TreeInOrder.l0 k2 (y141 ++ y144) l0 (l0.length : Int) (wrap64 (x10_1 + 1))) else (none)))) else (none))) else (none)) = some r := by first | (rw [hy134]; with_reducible exact H) | (have H2_ := (Option.bind_some _ _).symm.trans H; rw [hy134]; with_reducible exact H2_) | (have H2_ := (Option.bind_some _ _).symm.trans H; with_reducible exact H2_) | with_reducible exact H | (rw [hy134]; exact H) | exact H
                      have Ny134 := Aside0.mk hy134
                      clear hy134
                      by_cases c38 : y131.length + y134.length < 3518437208883
                      · rw [if_pos c38] at H
                        have LMc38 := Aside0.mk c38
                        clear c38
                        obtain ⟨y138, hy138⟩ : ∃ y_ : List (S28), y_ = (y131 ++ y134) := ⟨_, rfl⟩
                        replace H : (if y138.length < 3518437208883 then ((some (y138 ++ [(⟨((rd_T28 l0 x10_1).f0), ((rd_T28 l0 x10_1).f1), ((rd_T28 l0 x10_1).f2)⟩ : S28)] : List (S28))).bind fun y141 => ((some (x3_1.drop (x6_2 : Int).toNat : List (S28))).bind fun y144 => (if y141.length + y144.length < 3518437208883 then (spec_TreeInOrder.l0 k2 (y141 ++ y144) l0 (l0.length : Int) (wrap64 (x10_1 + 1))) else (none)))) else (none)) = some r := by first | (rw [hy138]; with_reducible exact H) | (have H2_ := (Option.bind_some _ _).symm.trans H; rw [hy138]; with_reducible exact H2_) | (have H2_ := (Option.bind_some _ _).symm.trans H; with_reducible exact H2_) | with_reducible exact H | (rw [hy138]; exact H) | exact H
                        have Ny138 := Aside0.mk hy138
                        clear hy138
                        by_cases c39 : y138.length < 3518437208883
                        · rw [if_pos c39] at H
                          have LMc39 := Aside0.mk c39
                          clear c39
                          obtain ⟨y141, hy141⟩ : ∃ y_ : List (S28), y_ = (y138 ++ [(⟨((rd_T28 l0 x10_1).f0), ((rd_T28 l0 x10_1).f1), ((rd_T28 l0 x10_1).f2)⟩ : S28)]) := ⟨_, rfl⟩
                          replace H : ((some (x3_1.drop (x6_2 : Int).toNat : List (S28))).bind fun y144 => (if y141.length + y144.length < 3518437208883 then (spec_TreeInOrder.l0 k2 (y141 ++ y144) l0 (l0.length : Int) (wrap64 (x10_1 + 1))) else (none))) = some r := by first | (rw [hy141]; with_reducible exact H) | (have H2_ := (Option.bind_some _ _).symm.trans H; rw [hy141]; with_reducible exact H2_) | (have H2_ := (Option.bind_some _ _).symm.trans H; with_reducible exact H2_) | with_reducible exact H | (rw [hy141]; exact H) | exact H
                          have Ny141 := Aside0.mk hy141
                          clear hy141
                          have c40b0 := eq_true (of_decide_eq_true (by first | (with_reducible assumption) | assumption) : 0 ≤ x6_2)
                          have c41b0 := eq_true (of_decide_eq_true (by first | (with_reducible assumption) | assumption) : x6_2 ≤ (x3_1.length : Int))
                          obtain ⟨y144, hy144⟩ : ∃ y_ : List (S28), y_ = (x3_1.drop (x6_2 : Int).toNat) := ⟨_, rfl⟩
                          replace H : (if y141.length + y144.length < 3518437208883 then (spec_TreeInOrder.l0 k2 (y141 ++ y144) l0 (l0.length : Int) (wrap64 (x10_1 + 1))) else (none)) = some r := by first | (rw [hy144]; with_reducible exact H) | (have H2_ := (Option.bind_some _ _).symm.trans H; rw [hy144]; with_reducible exact H2_) | (have H2_ := (Option.bind_some _ _).symm.trans H; with_reducible exact H2_) | with_reducible exact H | (rw [hy144]; exact H) | exact H
                          have Ny144 := Aside0.mk hy144
                          clear hy144
                          by_cases c42 : y141.length + y144.length < 3518437208883
                          · rw [if_pos c42] at H
                            have LMc42 := Aside0.mk c42
                            clear c42
                            obtain ⟨y148, hy148⟩ : ∃ y_ : List (S28), y_ = (y141 ++ y144) := ⟨_, rfl⟩
                            replace H : (spec_TreeInOrder.l0 k2 y148 l0 (l0.length : Int) (wrap64 (x10_1 + 1))) = some r := by first | (rw [hy148]; with_reducible exact H) | (have H2_ := (Option.bind_some _ _).symm.trans H; rw [hy148]; with_reducible exact H2_) | (have H2_ := (Option.bind_some _ _).symm.trans H; with_reducible exact H2_) | with_reducible exact H | (rw [hy148]; exact H) | exact H
                            have Ny148 := Aside0.mk hy148
                            clear hy148
                            have H' := Aside0.mk H
                            clear H
                            try go_wp2
                            have n0_ := Aside0.mk (Kd.R_drew HO_3.out)
                            have n1_ := Aside0.mk (blk_drew BK107.out)
                            have n2_ := Aside0.mk (below_drew1 HB.out)
                            clear HO_3
                            clear BK107
                            clear HB
                            have HO_3 := n0_
                            have BK107 := n1_
                            have HB := n2_
                            clear n0_ n1_ n2_
                            refine start_ (n := 13) (S := fun w' => True) (ds := []) #[false, false, false, false, false, false, false, false, false, false, false, false, false] (by kernel_rfl) rfl rfl trivial (fun hHeld => ?_); refine with_tabW spec_TreeInOrder.tab6 spec_TreeInOrder.bits6 (fun HT_ HW_ => ?_)
                            generalize wr.drew = w43 at HO_3 BK107 HB hHeld ⊢
                            refine pure_ (i := 0) (N := some 16) (v := ?_) (a' := ?_) #[true, false, false, false, false, false, false, false, false, false, false, false, false] rfl rfl (any_of HT_.out (by kernel_rfl)) (fun _ _ _ h => h) (Or.inl ⟨by rfl, ?_⟩) ?_ ?_
                            rotate_left
                            · intro w'
                              go_simp
                              with_reducible rfl
                            rotate_left
                            · simp only [Act.put, List.setIfInBounds_toArray, List.set_cons_zero, List.set_cons_succ, i64_w, i32_w]
                              rfl
                            refine pure_ (i := 1) (N := some 17) (v := ?_) (a' := ?_) #[true, true, false, false, false, false, false, false, false, false, false, false, false] rfl rfl (any_of HT_.out (by kernel_rfl)) (fun _ _ _ h => h) (Or.inl ⟨by rfl, ?_⟩) ?_ ?_
                            rotate_left
                            · intro w'
                              go_simp
                              with_reducible rfl
                            rotate_left
                            · simp only [Act.put, List.setIfInBounds_toArray, List.set_cons_zero, List.set_cons_succ, i64_w, i32_w]
                              rfl
                            refine pure_ (i := 2) (N := some 18) (v := ?_) (a' := ?_) #[true, true, true, false, false, false, false, false, false, false, false, false, false] rfl rfl (any_of HT_.out (by kernel_rfl)) (fun _ _ _ h => h) (Or.inl ⟨by rfl, ?_⟩) ?_ ?_
                            rotate_left
                            · intro w'
                              go_simp
                              with_reducible rfl
                            rotate_left
                            · simp only [Act.put, List.setIfInBounds_toArray, List.set_cons_zero, List.set_cons_succ, i64_w, i32_w]
                              rfl
                            refine pure_ (i := 3) (N := some 19) (v := undef) (a' := ?_) #[true, true, true, true, false, false, false, false, false, false, false, false, false] rfl rfl (any_of HT_.out (by kernel_rfl)) (fun _ _ _ h => h) (Or.inr ⟨by rfl, rfl⟩) ?_ ?_
                            rotate_left
                            · simp only [Act.put, List.setIfInBounds_toArray, List.set_cons_zero, List.set_cons_succ, i64_w, i32_w]
                              rfl
                            refine pure_ (i := 4) (N := some 20) (v := undef) (a' := ?_) #[true, true, true, true, true, false, false, false, false, false, false, false, false] rfl rfl (any_of HT_.out (by kernel_rfl)) (fun _ _ _ h => h) (Or.inr ⟨by rfl, rfl⟩) ?_ ?_
                            rotate_left
                            · simp only [Act.put, List.setIfInBounds_toArray, List.set_cons_zero, List.set_cons_succ, i64_w, i32_w]
                              rfl
                            refine pure_ (i := 5) (N := some 21) (v := undef) (a' := ?_) #[true, true, true, true, true, true, false, false, false, false, false, false, false] rfl rfl (any_of HT_.out (by kernel_rfl)) (fun _ _ _ h => h) (Or.inr ⟨by rfl, rfl⟩) ?_ ?_
                            rotate_left
                            · simp only [Act.put, List.setIfInBounds_toArray, List.set_cons_zero, List.set_cons_succ, i64_w, i32_w]
                              rfl
                            refine pure_ (i := 6) (N := some 22) (v := undef) (a' := ?_) #[true, true, true, true, true, true, true, false, false, false, false, false, false] rfl rfl (any_of HT_.out (by kernel_rfl)) (fun _ _ _ h => h) (Or.inr ⟨by rfl, rfl⟩) ?_ ?_
                            rotate_left
                            · simp only [Act.put, List.setIfInBounds_toArray, List.set_cons_zero, List.set_cons_succ, i64_w, i32_w]
                              rfl
                            refine pure_ (i := 7) (N := some 23) (v := undef) (a' := ?_) #[true, true, true, true, true, true, true, true, false, false, false, false, false] rfl rfl (any_of HT_.out (by kernel_rfl)) (fun _ _ _ h => h) (Or.inr ⟨by rfl, rfl⟩) ?_ ?_
                            rotate_left
                            · simp only [Act.put, List.setIfInBounds_toArray, List.set_cons_zero, List.set_cons_succ, i64_w, i32_w]
                              rfl
                            refine pure_ (i := 8) (N := some 24) (v := undef) (a' := ?_) #[true, true, true, true, true, true, true, true, true, false, false, false, false] rfl rfl (any_of HT_.out (by kernel_rfl)) (fun _ _ _ h => h) (Or.inr ⟨by rfl, rfl⟩) ?_ ?_
                            rotate_left
                            · simp only [Act.put, List.setIfInBounds_toArray, List.set_cons_zero, List.set_cons_succ, i64_w, i32_w]
                              rfl
                            refine pure_ (i := 9) (N := some 25) (v := undef) (a' := ?_) #[true, true, true, true, true, true, true, true, true, true, false, false, false] rfl rfl (any_of HT_.out (by kernel_rfl)) (fun _ _ _ h => h) (Or.inr ⟨by rfl, rfl⟩) ?_ ?_
                            rotate_left
                            · simp only [Act.put, List.setIfInBounds_toArray, List.set_cons_zero, List.set_cons_succ, i64_w, i32_w]
                              rfl
                            refine pure_ (i := 10) (N := some 26) (v := undef) (a' := ?_) #[true, true, true, true, true, true, true, true, true, true, true, false, false] rfl rfl (any_of HT_.out (by kernel_rfl)) (fun _ _ _ h => h) (Or.inr ⟨by rfl, rfl⟩) ?_ ?_
                            rotate_left
                            · simp only [Act.put, List.setIfInBounds_toArray, List.set_cons_zero, List.set_cons_succ, i64_w, i32_w]
                              rfl
                            refine pure_ (i := 11) (N := some 27) (v := undef) (a' := ?_) #[true, true, true, true, true, true, true, true, true, true, true, true, false] rfl rfl (any_of HT_.out (by kernel_rfl)) (fun _ _ _ h => h) (Or.inr ⟨by rfl, rfl⟩) ?_ ?_
                            rotate_left
                            · simp only [Act.put, List.setIfInBounds_toArray, List.set_cons_zero, List.set_cons_succ, i64_w, i32_w]
                              rfl
                            refine pure_ (i := 12) (N := some 28) (v := ?_) (a' := ?_) #[true, true, true, true, true, true, true, true, true, true, true, true, true] rfl rfl (any_of HT_.out (by kernel_rfl)) (fun _ _ _ h => h) (Or.inl ⟨by rfl, ?_⟩) ?_ ?_
                            rotate_left
                            · intro w'
                              go_simp
                              with_reducible rfl
                            rotate_left
                            · simp only [Act.put, List.setIfInBounds_toArray, List.set_cons_zero, List.set_cons_succ, i64_w, i32_w]
                              rfl
                            refine done_ (done_of HT_.out (by kernel_rfl)) ?_
                            try go_wp2_with (first | ((with_reducible refine gate_dst (N := 31) rfl ?_); refine Kd.R_lit k28 _ 28 ?hg (N := 31) ?hd (xs := ([] : List (S28))) (inner := []) (ok := fun _ => True) (okp := fun _ => True) ?hr ?hp (fun _ hk => hk) trivial (Below.refl _ _) (Nat.le_refl _) (by simp) ?_; (case hd => rfl); (case hg => rfl); (case hr => first | (go_simp; done) | (go_simp; rfl)); (case hp => exact (Reps.none _ _)); intro v132 w44 ho45 hb hg_ hnew_; clear hg_ hnew_; (first | rw [← Ny131.out] at ho45 | (simp only [Int.reduceToNat] at ho45; rw [← Ny131.out] at ho45)); have n0_ := Aside0.mk (Kd.R_elder' (by (with_reducible repeat (first | apply Kd.R_alloc | apply Kd.R_drewN | apply Kd.R_drew)); exact HO_3.out) (Kd.R_base ho45) hb); have n1_ := Aside0.mk (Kd.R_lower (Kd.R_newB (Kd.R_new' ho45 (Kd.R_lt (by (with_reducible repeat (first | apply Kd.R_alloc | apply Kd.R_drewN | apply Kd.R_drew)); exact HO_3.out))) (g := gb107) (o := .cells #[.string ((rd_T28 l0 x10_1).f0), .int .u32 ((rd_T28 l0 x10_1).f1), .string ((rd_T28 l0 x10_1).f2)] 28 (0, 0)) (by (with_reducible repeat (first | refine blk_drewN ?_ _ | refine blk_drew ?_ | refine blk_alloc ?_ _)); exact BK107.out)) (below_size (by repeat (first | (with_reducible first | exact HB.out | apply below_alloc | apply pw_below_drewN | apply below_drew1 | refine below_set ?_ GE107.out) | exact HB.out)))); have n2_ := Aside0.mk (blk_below (g := gb107) (o := .cells #[.string ((rd_T28 l0 x10_1).f0), .int .u32 ((rd_T28 l0 x10_1).f1), .string ((rd_T28 l0 x10_1).f2)] 28 (0, 0)) (by (with_reducible repeat (first | refine blk_drewN ?_ _ | refine blk_drew ?_ | refine blk_alloc ?_ _)); exact BK107.out) hb); have n3_ := Aside0.mk (below_step (by repeat (first | (with_reducible first | exact HB.out | apply below_alloc | apply pw_below_drewN | apply below_drew1 | refine below_set ?_ GE107.out) | exact HB.out)) hb); clear HO_3; clear BK107; clear HB; have HO_3 := n0_; have HO133 := n1_; have BK107 := n2_; have HB := n3_; clear n0_ n1_ n2_ n3_; clear hb ho45; have q46 : (x6_2 : Int) ≤ ((x3_1.length : Int) : Int) := of_decide_eq_true (by first | (with_reducible assumption) | assumption); obtain ⟨i046, hi046, _, hsz46, _⟩ := info_parts info28; have hroom46 : x3_1.length ≤ co7 := (Kd.R_reads' HO_3.out).2.1; have hC46 : Kd.C k28 _ Ao7 x3_1.length x3_1 := (Kd.R_reads' HO_3.out).2.2; have hcut46 := cut_to (P := Tryd.prog) 22 28 .i64 Tryd.underlying22 hi046 Ao7 x3_1.length co7 x6_2 (of_decide_eq_true (by first | (with_reducible assumption) | assumption)) q46 hroom46; have hr46 := Kd.C_take (m := (x6_2 : Int).toNat) hC46 (by omega); have hy46 : y134.length = (x6_2 : Int).toNat := (by rw [Ny134.out, List.length_take]; omega); rw [← Ny134.out] at hr46; rw [← hy46] at hcut46; have HR137 := Aside0.mk hr46; have HC137 := Aside0.mk (show y134.length ≤ co7 from by omega); clear hr46 hC46 hroom46 hi046 hsz46; have KY46 := Aside0.mk hy46; clear hy46; have KL46 := Aside0.mk (show (x6_2 : Int).toNat ≤ x3_1.length from by omega); replace q46 := eq_true q46) | ((with_reducible refine gate_builtin (b := .append) (xs := #[.tmp 31, .tmp 34]) rfl ?_); at_builtin; refine Kd.R_append_rows k28 (w0 := w) w.heap.size rfl (.tmp 31) (.tmp 34) 22 28 (.agg #[(.string ⟨#[]⟩), (.int .u32 0), (.string ⟨#[]⟩)]) 40 rfl Tryd.underlying22 info28 rfl (by decide) (by omega) v132 y131 y134 _ _ _ (fun k_ => some k_ ≠ (.slice Ao7 x3_1.length co7 : Value).ownBlock ∧ k_ ≠ gb107) (fun _ => False) rfl rfl ?aO ?aR (fun _ _ h => h) (fun _ h => h.elim) ?aF ?aB ?aS ?aL ?_; (case aR => repeat (first | exact (by repeat (first | (with_reducible exact HR137.out) | (with_reducible refine Kd.C_alloc ?_ _) | (with_reducible refine Kd.C_drewN ?_ _) | (with_reducible refine Kd.C_drew ?_) | exact HR137.out)) | (with_reducible refine Kd.C_alloc ?_ _) | (with_reducible refine Kd.C_drewN ?_ _) | (with_reducible refine Kd.C_drew ?_))); (case aB => exact (by repeat (first | (with_reducible first | exact HB.out | apply below_alloc | apply pw_below_drewN | apply below_drew1 | refine below_set ?_ GE107.out) | exact HB.out))); (case aF => exact (fun k_ hk => ⟨Kd.fresh' (Kd.R_lt (by (with_reducible repeat (first | apply Kd.R_alloc | apply Kd.R_drewN | apply Kd.R_drew)); exact HO_3.out)) k_ hk, Kd.freshB (g := gb107) (o := .cells #[.string ((rd_T28 l0 x10_1).f0), .int .u32 ((rd_T28 l0 x10_1).f1), .string ((rd_T28 l0 x10_1).f2)] 28 (0, 0)) (by (with_reducible repeat (first | refine blk_drewN ?_ _ | refine blk_drew ?_ | refine blk_alloc ?_ _)); exact BK107.out) k_ hk⟩)); (case aO => exact (by (with_reducible repeat (first | apply Kd.R_alloc | apply Kd.R_drewN | apply Kd.R_drew)); exact Kd.R_mono HO133.out (fun _ hk => ⟨hk.1.2, hk.2⟩))); (case aS => exact (below_size (by repeat (first | (with_reducible first | exact HB.out | apply below_alloc | apply pw_below_drewN | apply below_drew1 | refine below_set ?_ GE107.out) | exact HB.out)))); (case aL => have := LMc38.out; omega); intro v139 w47 ho hb hg hat; rw [← Ny138.out] at ho; have n0_ := Aside0.mk (Kd.R_after (ok := (fun k_ => k_ ≠ gb107)) (by (with_reducible repeat (first | apply Kd.R_alloc | apply Kd.R_drewN | apply Kd.R_drew)); exact HO_3.out) hg hat); have n1_ := Aside0.mk (blk_grown (g := gb107) (o := .cells #[.string ((rd_T28 l0 x10_1).f0), .int .u32 ((rd_T28 l0 x10_1).f1), .string ((rd_T28 l0 x10_1).f2)] 28 (0, 0)) (by (with_reducible repeat (first | refine blk_drewN ?_ _ | refine blk_drew ?_ | refine blk_alloc ?_ _)); exact BK107.out) hg (Kd.R_away HO133.out (fun _ hk => hk.2))); have n2_ := Aside0.mk (hb); have n3_ := Aside0.mk ((show Kd.C k28 w47 Ao7 y134.length y134 from by rw [Ny134.out]; exact Kd.C_take (m := (x6_2 : Int).toNat) ((Kd.R_reads' (Kd.R_after (ok := (fun k_ => k_ ≠ gb107)) (by (with_reducible repeat (first | apply Kd.R_alloc | apply Kd.R_drewN | apply Kd.R_drew)); exact HO_3.out) hg hat)).2.2) KL46.out)); have n4_ := Aside0.mk (ho); clear HO_3; clear BK107; clear HB; clear HR137; clear HO133; have HO_3 := n0_; have BK107 := n1_; have HB := n2_; have HR137 := n3_; have HO140 := n4_; clear n0_ n1_ n2_ n3_ n4_; clear ho hb hg hat))
                            have n0_ := Aside0.mk (Kd.R_drew HO_3.out)
                            have n1_ := Aside0.mk (Kd.R_drew HO140.out)
                            have n2_ := Aside0.mk (blk_drew BK107.out)
                            have n3_ := Aside0.mk (Kd.C_drew HR137.out)
                            have n4_ := Aside0.mk (below_drew1 HB.out)
                            clear HO_3
                            clear HO140
                            clear BK107
                            clear HR137
                            clear HB
                            have HO_3 := n0_
                            have HO140 := n1_
                            have BK107 := n2_
                            have HR137 := n3_
                            have HB := n4_
                            clear n0_ n1_ n2_ n3_ n4_
                            have q49 : (x6_2 : Int) ≤ ((x3_1.length : Int) : Int) := of_decide_eq_true (by first | (with_reducible assumption) | assumption)
                            obtain ⟨i049, hi049, _, hsz49, _⟩ := info_parts info28
                            have hroom49 : x3_1.length ≤ co7 := (Kd.R_reads' HO_3.out).2.1
                            have hC49 : Kd.C k28 _ Ao7 x3_1.length x3_1 := (Kd.R_reads' HO_3.out).2.2
                            have q049 : (0 : Int) ≤ (x6_2 : Int) := of_decide_eq_true (by first | (with_reducible assumption) | assumption)
                            have hcut49 := cut_from (P := Tryd.prog) 22 28 .i64 Tryd.underlying22 hi049 3 hsz49 Ao7 x3_1.length co7 x6_2 q049 q49
                            have hr49 := Kd.C_drop (m := (x6_2 : Int).toNat) (c := co7) hC49 (by omega) hroom49
                            obtain ⟨A49, hA49⟩ : ∃ A1, A1 = (if co7 = (x6_2 : Int).toNat then Ao7 else (Ao7 : Option Addr).map (·.add ((x6_2 : Int).toNat * 3))) := ⟨_, rfl⟩
                            obtain ⟨c49, hc49⟩ : ∃ c1, c1 = co7 - (x6_2 : Int).toNat := ⟨_, rfl⟩
                            have hy49 : y144.length = x3_1.length - (x6_2 : Int).toNat := (by rw [Ny144.out, List.length_drop] <;> omega)
                            rw [show (x3_1).drop (x6_2 : Int).toNat = y144 from Ny144.out.symm] at hr49
                            replace hr49 : Kd.C k28 _ A49 y144.length y144 := (by rw [hA49]; exact hr49)
                            rw [← hy49, ← hA49, ← hc49] at hcut49
                            have HR147 := Aside0.mk hr49
                            have HC147 := Aside0.mk (show y144.length ≤ c49 from by rw [hy49, hc49]; exact Nat.sub_le_sub_right hroom49 _)
                            clear hr49 hC49 hroom49 hi049 hsz49 hc49
                            have KY49 := Aside0.mk hy49
                            have KA49 := Aside0.mk hA49
                            clear hy49 hA49
                            have KL49 := Aside0.mk (show (x6_2 : Int).toNat ≤ x3_1.length from by omega)
                            replace q49 := eq_true q49
                            refine start_ (n := 9) (S := fun w' => w'.cell? ⟨gb107, 0, none⟩ = some (.string ((rd_T28 l0 x10_1).f0)) ∧ w'.cell? ⟨gb107, 1, none⟩ = some (.int .u32 ((rd_T28 l0 x10_1).f1)) ∧ w'.cell? ⟨gb107, 2, none⟩ = some (.string ((rd_T28 l0 x10_1).f2))) (ds := []) #[false, false, false, false, false, false, false, false, false] (by kernel_rfl) rfl rfl ⟨(blk_cell BK107.out 0).trans rfl, (blk_cell BK107.out 1).trans rfl, (blk_cell BK107.out 2).trans rfl⟩ (fun hHeld => ?_); refine with_tabW spec_TreeInOrder.tab9 spec_TreeInOrder.bits9 (fun HT_ HW_ => ?_)
                            generalize w47.drew = w48 at HO_3 HO140 BK107 HR137 HB HR147 hHeld ⊢
                            refine pure_ (i := 0) (N := some 36) (v := ?_) (a' := ?_) #[true, false, false, false, false, false, false, false, false] rfl rfl (any_of HT_.out (by kernel_rfl)) (fun _ _ _ h => h) (Or.inl ⟨by rfl, ?_⟩) ?_ ?_
                            rotate_left
                            · intro w'
                              go_simp
                              with_reducible rfl
                            rotate_left
                            · simp only [Act.put, List.setIfInBounds_toArray, List.set_cons_zero, List.set_cons_succ, i64_w, i32_w]
                              rfl
                            refine pure_ (i := 4) (N := some 40) (v := ?_) (a' := ?_) #[true, false, false, false, true, false, false, false, false] rfl rfl (any_of HT_.out (by kernel_rfl)) (fun _ _ _ h => h) (Or.inl ⟨by rfl, ?_⟩) ?_ ?_
                            rotate_left
                            · intro w'
                              go_simp
                              with_reducible rfl
                            rotate_left
                            · simp only [Act.put, List.setIfInBounds_toArray, List.set_cons_zero, List.set_cons_succ, i64_w, i32_w]
                              rfl
                            refine pure_ (i := 5) (N := some 41) (v := ?_) (a' := ?_) #[true, false, false, false, true, true, false, false, false] rfl rfl (any_of HT_.out (by kernel_rfl)) (fun _ _ _ h => h) (Or.inl ⟨by rfl, ?_⟩) ?_ ?_
                            rotate_left
                            · intro w'
                              go_simp
                              with_reducible rfl
                            rotate_left
                            · simp only [Act.put, List.setIfInBounds_toArray, List.set_cons_zero, List.set_cons_succ, i64_w, i32_w]
                              rfl
                            refine pure_ (i := 6) (N := some 42) (v := ?_) (a' := ?_) #[true, false, false, false, true, true, true, false, false] rfl rfl (any_of HT_.out (by kernel_rfl)) (fun _ _ _ h => h) (Or.inl ⟨by rfl, ?_⟩) ?_ ?_
                            rotate_left
                            · intro w'
                              go_simp
                              with_reducible rfl
                            rotate_left
                            · simp only [Act.put, List.setIfInBounds_toArray, List.set_cons_zero, List.set_cons_succ, i64_w, i32_w]
                              rfl
                            refine take_ (i := 1) (N := some 37) (v := ?_) (a' := ?_) #[true, true, false, false, true, true, true, false, false] rfl rfl (take_ofW HT_.out HW_.out (by kernel_rfl)) (fun _ _ _ h => h) (Or.inl ⟨by rfl, ?_⟩) hHeld ?_ ?_
                            rotate_left
                            · rintro w' ⟨s0, s1, s2⟩
                              go_simp
                              with_reducible rfl
                            rotate_left
                            · simp only [Act.put, List.setIfInBounds_toArray, List.set_cons_zero, List.set_cons_succ, i64_w, i32_w]
                              rfl
                            refine one_ (i := 2) (N := some 38) #[true, true, true, false, true, true, true, false, false] rfl rfl (one_of HT_.out (by kernel_rfl)) (by decide) (fun K hK => ?_)
                            refine value_ (w1 := ?_) (v := ?_) (by rfl) rfl ?_ ?_
                            rotate_left 2
                            · go_simp
                              constructor
                              · rfl
                              · rfl
                            refine hK.out _ _ ⟨(blk_cell (blk_alloc BK107.out _) 0).trans rfl, (blk_cell (blk_alloc BK107.out _) 1).trans rfl, (blk_cell (blk_alloc BK107.out _) 2).trans rfl⟩ (fun hHeld => ?_)
                            clear hK K
                            refine norm_ (a' := ?_) ?_ ?_
                            rotate_left
                            · show Act.put _ (some 38) _ = _
                              simp only [Act.put, List.setIfInBounds_toArray, List.set_cons_zero, List.set_cons_succ, i64_w, i32_w]
                              rfl
                            refine one_ (i := 3) (N := some 39) #[true, true, true, true, true, true, true, false, false] rfl rfl (one_of HT_.out (by kernel_rfl)) (by decide) (fun K hK => ?_)
                            refine Kd.R_append_step k28 (w0 := w) w.heap.size (by rfl) (.tmp 36) (.tmp 38) 22 28 (.agg #[(.string ⟨#[]⟩), (.int .u32 0), (.string ⟨#[]⟩)]) 40 rfl Tryd.underlying22 info28 rfl (by decide) (by omega) v139 y138 (⟨((rd_T28 l0 x10_1).f0), ((rd_T28 l0 x10_1).f1), ((rd_T28 l0 x10_1).f2)⟩ : S28) [.string ((rd_T28 l0 x10_1).f0), .int .u32 ((rd_T28 l0 x10_1).f1), .string ((rd_T28 l0 x10_1).f2)] (fun k_ => some k_ ≠ (.slice Ao7 x3_1.length co7 : Value).ownBlock ∧ k_ ≠ gb107) (fun _ => False) rfl rfl ?aP (fun _ hk => hk.elim) ?aF ?aO ?aB ?aS ?aL ?_
                            (case aP => exact k28_mkM _ _ _ (⟨((rd_T28 l0 x10_1).f0), ((rd_T28 l0 x10_1).f1), ((rd_T28 l0 x10_1).f2)⟩ : S28))
                            (case aB => exact (by repeat (first | (with_reducible first | exact HB.out | apply below_alloc | apply pw_below_drewN | apply below_drew1 | refine below_set ?_ GE107.out) | exact HB.out)))
                            (case aF => exact (fun k_ hk => ⟨Kd.fresh' (Kd.R_lt (by (with_reducible repeat (first | apply Kd.R_alloc | apply Kd.R_drewN | apply Kd.R_drew)); exact HO_3.out)) k_ hk, Kd.freshB (g := gb107) (o := .cells #[.string ((rd_T28 l0 x10_1).f0), .int .u32 ((rd_T28 l0 x10_1).f1), .string ((rd_T28 l0 x10_1).f2)] 28 (0, 0)) (by (with_reducible repeat (first | refine blk_drewN ?_ _ | refine blk_drew ?_ | refine blk_alloc ?_ _)); exact BK107.out) k_ hk⟩))
                            (case aO => exact (by (with_reducible repeat (first | apply Kd.R_alloc | apply Kd.R_drewN | apply Kd.R_drew)); exact HO140.out))
                            (case aS => exact (below_size (by repeat (first | (with_reducible first | exact HB.out | apply below_alloc | apply pw_below_drewN | apply below_drew1 | refine below_set ?_ GE107.out) | exact HB.out))))
                            (case aL => have := LMc39.out; omega)
                            intro v142 w50 ho hb hg hat
                            rw [← Ny141.out] at ho
                            have n0_ := Aside0.mk (Kd.R_after (ok := (fun k_ => k_ ≠ gb107)) (by (with_reducible repeat (first | apply Kd.R_alloc | apply Kd.R_drewN | apply Kd.R_drew)); exact HO_3.out) hg hat)
                            have n1_ := Aside0.mk (blk_grown (g := gb107) (o := .cells #[.string ((rd_T28 l0 x10_1).f0), .int .u32 ((rd_T28 l0 x10_1).f1), .string ((rd_T28 l0 x10_1).f2)] 28 (0, 0)) (by (with_reducible repeat (first | refine blk_drewN ?_ _ | refine blk_drew ?_ | refine blk_alloc ?_ _)); exact BK107.out) hg (Kd.R_away HO140.out (fun _ hk => hk.2)))
                            have n2_ := Aside0.mk (hb)
                            have n3_ := Aside0.mk ((show Kd.C k28 w50 Ao7 y134.length y134 from by rw [Ny134.out]; exact Kd.C_take (m := (x6_2 : Int).toNat) ((Kd.R_reads' (Kd.R_after (ok := (fun k_ => k_ ≠ gb107)) (by (with_reducible repeat (first | apply Kd.R_alloc | apply Kd.R_drewN | apply Kd.R_drew)); exact HO_3.out) hg hat)).2.2) KL46.out))
                            have n4_ := Aside0.mk ((show Kd.C k28 w50 A49 y144.length y144 from by rw [Ny144.out, KA49.out]; exact Kd.C_drop (m := (x6_2 : Int).toNat) (c := co7) ((Kd.R_reads' (Kd.R_after (ok := (fun k_ => k_ ≠ gb107)) (by (with_reducible repeat (first | apply Kd.R_alloc | apply Kd.R_drewN | apply Kd.R_drew)); exact HO_3.out) hg hat)).2.2) KL49.out ((Kd.R_reads' (Kd.R_after (ok := (fun k_ => k_ ≠ gb107)) (by (with_reducible repeat (first | apply Kd.R_alloc | apply Kd.R_drewN | apply Kd.R_drew)); exact HO_3.out) hg hat)).2.1)))
                            have n5_ := Aside0.mk (ho)
                            clear HO_3
                            clear BK107
                            clear HB
                            clear HR137
                            clear HR147
                            clear HO140
                            have HO_3 := n0_
                            have BK107 := n1_
                            have HB := n2_
                            have HR137 := n3_
                            have HR147 := n4_
                            have HO143 := n5_
                            clear n0_ n1_ n2_ n3_ n4_ n5_
                            clear ho hb hg hat
                            refine hK.out _ _ ⟨(blk_cell BK107.out 0).trans rfl, (blk_cell BK107.out 1).trans rfl, (blk_cell BK107.out 2).trans rfl⟩ (fun hHeld => ?_)
                            clear hK K
                            refine norm_ (a' := ?_) ?_ ?_
                            rotate_left
                            · show Act.put _ (some 39) _ = _
                              simp only [Act.put, List.setIfInBounds_toArray, List.set_cons_zero, List.set_cons_succ, i64_w, i32_w]
                              rfl
                            refine one_ (i := 7) (N := some 43) #[true, true, true, true, true, true, true, true, false] rfl rfl (one_of HT_.out (by kernel_rfl)) (by decide) (fun K hK => ?_)
                            refine Kd.R_append_rows_step k28 (w0 := w) w.heap.size (by rfl) (.tmp 39) (.tmp 42) 22 28 (.agg #[(.string ⟨#[]⟩), (.int .u32 0), (.string ⟨#[]⟩)]) 40 rfl Tryd.underlying22 info28 rfl (by decide) (by omega) v142 y141 y144 _ _ _ (fun k_ => some k_ ≠ (.slice Ao7 x3_1.length co7 : Value).ownBlock ∧ k_ ≠ gb107) (fun _ => False) rfl rfl ?aO ?aR (fun _ _ h => h) (fun _ h => h.elim) ?aF ?aB ?aS ?aL ?_
                            (case aR => repeat (first | exact (by repeat (first | (with_reducible exact HR147.out) | (with_reducible refine Kd.C_alloc ?_ _) | (with_reducible refine Kd.C_drewN ?_ _) | (with_reducible refine Kd.C_drew ?_) | exact HR147.out)) | (with_reducible refine Kd.C_alloc ?_ _) | (with_reducible refine Kd.C_drewN ?_ _) | (with_reducible refine Kd.C_drew ?_)))
                            (case aB => exact (by repeat (first | (with_reducible first | exact HB.out | apply below_alloc | apply pw_below_drewN | apply below_drew1 | refine below_set ?_ GE107.out) | exact HB.out)))
                            (case aF => exact (fun k_ hk => ⟨Kd.fresh' (Kd.R_lt (by (with_reducible repeat (first | apply Kd.R_alloc | apply Kd.R_drewN | apply Kd.R_drew)); exact HO_3.out)) k_ hk, Kd.freshB (g := gb107) (o := .cells #[.string ((rd_T28 l0 x10_1).f0), .int .u32 ((rd_T28 l0 x10_1).f1), .string ((rd_T28 l0 x10_1).f2)] 28 (0, 0)) (by (with_reducible repeat (first | refine blk_drewN ?_ _ | refine blk_drew ?_ | refine blk_alloc ?_ _)); exact BK107.out) k_ hk⟩))
                            (case aO => exact (by (with_reducible repeat (first | apply Kd.R_alloc | apply Kd.R_drewN | apply Kd.R_drew)); exact HO143.out))
                            (case aS => exact (below_size (by repeat (first | (with_reducible first | exact HB.out | apply below_alloc | apply pw_below_drewN | apply below_drew1 | refine below_set ?_ GE107.out) | exact HB.out))))
                            (case aL => have := LMc42.out; omega)
                            intro v149 w51 ho hb hg hat
                            rw [← Ny148.out] at ho
                            have n0_ := Aside0.mk (Kd.R_after (ok := (fun k_ => k_ ≠ gb107)) (by (with_reducible repeat (first | apply Kd.R_alloc | apply Kd.R_drewN | apply Kd.R_drew)); exact HO_3.out) hg hat)
                            have n1_ := Aside0.mk (blk_grown (g := gb107) (o := .cells #[.string ((rd_T28 l0 x10_1).f0), .int .u32 ((rd_T28 l0 x10_1).f1), .string ((rd_T28 l0 x10_1).f2)] 28 (0, 0)) (by (with_reducible repeat (first | refine blk_drewN ?_ _ | refine blk_drew ?_ | refine blk_alloc ?_ _)); exact BK107.out) hg (Kd.R_away HO143.out (fun _ hk => hk.2)))
                            have n2_ := Aside0.mk (hb)
                            have n3_ := Aside0.mk ((show Kd.C k28 w51 Ao7 y134.length y134 from by rw [Ny134.out]; exact Kd.C_take (m := (x6_2 : Int).toNat) ((Kd.R_reads' (Kd.R_after (ok := (fun k_ => k_ ≠ gb107)) (by (with_reducible repeat (first | apply Kd.R_alloc | apply Kd.R_drewN | apply Kd.R_drew)); exact HO_3.out) hg hat)).2.2) KL46.out))
                            have n4_ := Aside0.mk ((show Kd.C k28 w51 A49 y144.length y144 from by rw [Ny144.out, KA49.out]; exact Kd.C_drop (m := (x6_2 : Int).toNat) (c := co7) ((Kd.R_reads' (Kd.R_after (ok := (fun k_ => k_ ≠ gb107)) (by (with_reducible repeat (first | apply Kd.R_alloc | apply Kd.R_drewN | apply Kd.R_drew)); exact HO_3.out) hg hat)).2.2) KL49.out ((Kd.R_reads' (Kd.R_after (ok := (fun k_ => k_ ≠ gb107)) (by (with_reducible repeat (first | apply Kd.R_alloc | apply Kd.R_drewN | apply Kd.R_drew)); exact HO_3.out) hg hat)).2.1)))
                            have n5_ := Aside0.mk (ho)
                            clear HO_3
                            clear BK107
                            clear HB
                            clear HR137
                            clear HR147
                            clear HO143
                            have HO_3 := n0_
                            have BK107 := n1_
                            have HB := n2_
                            have HR137 := n3_
                            have HR147 := n4_
                            have HO150 := n5_
                            clear n0_ n1_ n2_ n3_ n4_ n5_
                            clear ho hb hg hat
                            refine hK.out _ _ ⟨(blk_cell BK107.out 0).trans rfl, (blk_cell BK107.out 1).trans rfl, (blk_cell BK107.out 2).trans rfl⟩ (fun hHeld => ?_)
                            clear hK K
                            refine norm_ (a' := ?_) ?_ ?_
                            rotate_left
                            · show Act.put _ (some 43) _ = _
                              simp only [Act.put, List.setIfInBounds_toArray, List.set_cons_zero, List.set_cons_succ, i64_w, i32_w]
                              rfl
                            refine pure_ (i := 8) (N := some 3) (v := ?_) (a' := ?_) #[true, true, true, true, true, true, true, true, true] rfl rfl (any_of HT_.out (by kernel_rfl)) (fun _ _ _ h => h) (Or.inl ⟨by rfl, ?_⟩) ?_ ?_
                            rotate_left
                            · intro w'
                              go_simp
                              with_reducible rfl
                            rotate_left
                            · simp only [Act.put, List.setIfInBounds_toArray, List.set_cons_zero, List.set_cons_succ, i64_w, i32_w]
                              rfl
                            refine done_ (done_of HT_.out (by kernel_rfl)) ?_
                            try go_wp2
                            go_roundg k2
                            case measure => have := HK1.out; have := HK2.out; omega
                            case rel => exact ⟨(y148), (wrap64 (x10_1 + 1)), (by first | rfl | (simp; done) | (simp [*]; done)), H', ⟨by have := HK1.out; have := HK2.out; omega⟩, ⟨by (with_reducible repeat (first | apply Kd.R_alloc | apply Kd.R_drewN | apply Kd.R_drew)); exact Kd.R_mono HO150.out (fun _ hk => trivial)⟩, ⟨by repeat (first | (with_reducible first | exact HB.out | apply below_alloc | apply pw_below_drewN | apply below_drew1 | refine below_set ?_ GE107.out) | exact HB.out)⟩⟩
                          · rw [if_neg c42] at H
                            exact absurd H (by simp)
                        · rw [if_neg c39] at H
                          exact absurd H (by simp)
                      · rw [if_neg c38] at H
                        exact absurd H (by simp)
                    · rw [if_neg c37] at H
                      exact absurd H (by simp)
                  · rw [if_neg c36] at H
                    exact absurd H (by simp)
          · rw [if_neg c4] at H
            exact absurd H (by simp)
        · rw [if_neg c3] at H
          exact absurd H (by simp)
      · rw [if_neg c2] at H
        have c2b0 : decide (x10_1 < (l0.length : Int)) = false := decide_eq_false c2
        clear c2
        obtain rfl := Option.some.inj H
        go_wp2
        go_ret
        exact ⟨_, by first | rfl | (simp [errW_none, errW_some] <;> rfl) | (simp [*, errW_none, errW_some] <;> rfl), by (with_reducible repeat (first | apply Kd.R_alloc | apply Kd.R_drewN | apply Kd.R_drew)); exact HO_3.out, by repeat (first | (with_reducible first | exact HB.out | apply below_alloc | apply pw_below_drewN | apply below_drew1) | exact HB.out)⟩

end Go.Proofs.YthjgfdjihlciaaaDoor.QAll
