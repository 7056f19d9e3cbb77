-- WRITTEN BY A PROGRAM OF THIS SESSION, out of the loaded program, with words of the kit
import Derived.Test.YtddnepddilbikaaDoorQAllx0
namespace Go.Proofs.YtddnepddilbikaaDoor.QAll
open Go.RowKit Go.Proofs.YtddnepddilbikaaDoorW.PrintWords Go.Proofs.YtddnepddilbikaaDoorW.PrintLast Go.Proofs.YtddnepddilbikaaDoorW.PrintMore
attribute [local go_sem] max2_int min2_int max_two min_two max_three min_three max_four min_four   -- for this text's walks alone
set_option linter.unusedVariables false
set_option linter.unusedSimpArgs false

/-! ### laws_zzFits21: function 19 -/
def laws_zzFits21.f (a0_0 : ByteArray) (a0_1 : Int) (a0_2 : ByteArray) : Option (Bool) := if (a0_0.size : Int) > 2147483647 then (some false) else (if (a0_2.size : Int) > 2147483647 then (some false) else (some true))
/-! ### laws_zzFits20: function 6 -/
def laws_zzFits20.l0 : Nat → List (S44) → Int → Int → Option (Bool)
  | 0, _, _, _ => none
  | k + 1, x8, x9, x10 => if x10 < x9 then (if 0 ≤ x10 then (if x10 < (x8.length : Int) then ((laws_zzFits21.f ((rd_T44 x8 x10).f0) ((rd_T44 x8 x10).f1) ((rd_T44 x8 x10).f2)).bind fun t104 => (if t104 = true then (laws_zzFits20.l0 k x8 x9 (wrap64 (x10 + 1))) else (some false))) else (none)) else (none)) else (some true)
def laws_zzFits20.f (k : Nat) (l0 : List (S44)) : Option (Bool) := if (l0.length : Int) > 2147483647 then (some false) else (laws_zzFits20.l0 k l0 (l0.length : Int) 0)
theorem laws_zzFits20.mono_l : ∀ k, (∀ y0 y1 y2, LeO (laws_zzFits20.l0 k y0 y1 y2) (laws_zzFits20.l0 (k + 1) y0 y1 y2))
  | 0 => fun _ _ _ r h => by simp [laws_zzFits20.l0] at h
  | k + 1 => by
    have ih0 := laws_zzFits20.mono_l k
    · intro y0 y1 y2
      unfold laws_zzFits20.l0
      repeat' first
      | (with_reducible exact ih0 _ _ _)
      | (with_reducible exact LeO.refl _)
      | (with_reducible exact LeO.none _)
      | (with_reducible refine LeO.ite ?_ ?_)
      | (with_reducible refine LeO.bind ?_ (fun _ => ?_))
      | exact ih0 _ _ _
      | exact LeO.none _
      | refine LeO.ite ?_ ?_
      | refine LeO.bind ?_ (fun _ => ?_)
theorem laws_zzFits20.mono : ∀ a0 k, LeO (laws_zzFits20.f k a0) (laws_zzFits20.f (k + 1) a0) := by
  intro a0 k
  have ih0 := laws_zzFits20.mono_l k
  unfold laws_zzFits20.f
  repeat' first
      | (with_reducible exact ih0 _ _ _)
      | (with_reducible exact LeO.refl _)
      | (with_reducible exact LeO.none _)
      | (with_reducible refine LeO.ite ?_ ?_)
      | (with_reducible refine LeO.bind ?_ (fun _ => ?_))
      | exact ih0 _ _ _
      | exact LeO.none _
      | refine LeO.ite ?_ ?_
      | refine LeO.bind ?_ (fun _ => ?_)
/-! ### laws_zzFits22: function 27 -/
def laws_zzFits22.f (a0_0 : ByteArray) (a0_1 : ByteArray) (a0_2 : Int) (a0_3 : Int) : Option (Bool) := if (a0_0.size : Int) > 2147483647 then (some false) else (if (a0_1.size : Int) > 2147483647 then (some false) else (some true))
set_option maxHeartbeats 8000000 in
set_option maxRecDepth 100000 in
theorem laws_zzFits22.calls (a0_0 : ByteArray) (a0_1 : ByteArray) (a0_2 : Int) (a0_3 : Int) (r : Bool) (w : World) (h : laws_zzFits22.f a0_0 a0_1 a0_2 a0_3 = some r) :
    Calls Tryd.prog 27 #[.agg #[.string a0_0, .string a0_1, .int .i64 a0_2, .int .i64 a0_3]] w fun e w' => e = .returned (.bool r) ∧ Below w.heap.size w w' := by
  have hu30 := Tryd.underlying30
  have HB := Aside0.mk (Below.refl w.heap.size w)
  have H : (if (a0_0.size : Int) > 2147483647 then (some false) else (if (a0_1.size : Int) > 2147483647 then (some false) else (some true))) = some r := h
  clear h
  by_cases c2 : (a0_0.size : Int) > 2147483647
  · rw [if_pos c2] at H
    have c2b0 : decide (2147483647 < (a0_0.size : Int)) = true := decide_eq_true c2
    have c2b1 : decide (2147483647 < a0_0.size) = true := decide_eq_true (by omega)
    clear c2
    obtain rfl := Option.some.inj H
    go_enter Tryd.func27, Tryd.ntmps27
    go_wp2_with (first | ((with_reducible refine gate_dst (N := 1) rfl ?_); refine box_event ?hg (N := 1) ?hd (cs := #[.string a0_0, .string a0_1, .int .i64 a0_2, .int .i64 a0_3]) (t := 30) ?hr ?_; (case hd => rfl); (case hg => rfl); (case hr => first | (go_simp; done) | (go_simp; rfl)); intro gb105 hg w3 hbox hb; have n0_ := Aside0.mk (below_step (by repeat (first | (with_reducible first | exact HB.out | apply below_alloc | apply pw_below_drewN | apply below_drew1) | exact HB.out)) hb); have n1_ := Aside0.mk (hbox); have n2_ := Aside0.mk ((by rw [hg]; exact (below_size (by repeat (first | (with_reducible first | exact HB.out | apply below_alloc | apply pw_below_drewN | apply below_drew1) | exact HB.out))) : w.heap.size ≤ gb105)); have n3_ := Aside0.mk ((by rw [hg]; exact (below_size (by repeat (first | (with_reducible first | exact HB.out | apply below_alloc | apply pw_below_drewN | apply below_drew1) | exact HB.out))) : w.heap.size ≤ gb105)); clear HB; have HB := n0_; have BK105 := n1_; have GW105 := n2_; have GE105 := n3_; clear n0_ n1_ n2_ n3_; clear hb hbox hg; have hcz4_0 : w3.cell? ⟨gb105, 0, none⟩ = some (.string a0_0) := (blk_cell BK105.out 0).trans rfl; have hcz4_1 : w3.cell? ⟨gb105, 1, none⟩ = some (.string a0_1) := (blk_cell BK105.out 1).trans rfl; have hcz4_2 : w3.cell? ⟨gb105, 2, none⟩ = some (.int .i64 a0_2) := (blk_cell BK105.out 2).trans rfl; have hcz4_3 : w3.cell? ⟨gb105, 3, none⟩ = some (.int .i64 a0_3) := (blk_cell BK105.out 3).trans rfl; have hfz4_0 := blk_frozen BK105.out 0; have hfz4_1 := blk_frozen BK105.out 1; have hfz4_2 := blk_frozen BK105.out 2; have hfz4_3 := blk_frozen BK105.out 3))
    go_ret
    exact ⟨by first | rfl | (simp [errW_none, errW_some] <;> rfl) | (simp [*, errW_none, errW_some] <;> rfl), by repeat (first | (with_reducible first | exact HB.out | apply below_alloc | apply pw_below_drewN | apply below_drew1 | refine below_set ?_ GE105.out) | exact HB.out)⟩
  · rw [if_neg c2] at H
    have c2b0 : decide (2147483647 < (a0_0.size : Int)) = false := decide_eq_false c2
    have c2b1 : decide (2147483647 < a0_0.size) = false := decide_eq_false (by omega)
    clear c2
    by_cases c5 : (a0_1.size : Int) > 2147483647
    · rw [if_pos c5] at H
      have c5b0 : decide (2147483647 < (a0_1.size : Int)) = true := decide_eq_true c5
      have c5b1 : decide (2147483647 < a0_1.size) = true := decide_eq_true (by omega)
      clear c5
      obtain rfl := Option.some.inj H
      go_enter Tryd.func27, Tryd.ntmps27
      go_wp2_with (first | ((with_reducible refine gate_dst (N := 1) rfl ?_); refine box_event ?hg (N := 1) ?hd (cs := #[.string a0_0, .string a0_1, .int .i64 a0_2, .int .i64 a0_3]) (t := 30) ?hr ?_; (case hd => rfl); (case hg => rfl); (case hr => first | (go_simp; done) | (go_simp; rfl)); intro gb105 hg w6 hbox hb; have n0_ := Aside0.mk (below_step (by repeat (first | (with_reducible first | exact HB.out | apply below_alloc | apply pw_below_drewN | apply below_drew1) | exact HB.out)) hb); have n1_ := Aside0.mk (hbox); have n2_ := Aside0.mk ((by rw [hg]; exact (below_size (by repeat (first | (with_reducible first | exact HB.out | apply below_alloc | apply pw_below_drewN | apply below_drew1) | exact HB.out))) : w.heap.size ≤ gb105)); have n3_ := Aside0.mk ((by rw [hg]; exact (below_size (by repeat (first | (with_reducible first | exact HB.out | apply below_alloc | apply pw_below_drewN | apply below_drew1) | exact HB.out))) : w.heap.size ≤ gb105)); clear HB; have HB := n0_; have BK105 := n1_; have GW105 := n2_; have GE105 := n3_; clear n0_ n1_ n2_ n3_; clear hb hbox hg; have hcz7_0 : w6.cell? ⟨gb105, 0, none⟩ = some (.string a0_0) := (blk_cell BK105.out 0).trans rfl; have hcz7_1 : w6.cell? ⟨gb105, 1, none⟩ = some (.string a0_1) := (blk_cell BK105.out 1).trans rfl; have hcz7_2 : w6.cell? ⟨gb105, 2, none⟩ = some (.int .i64 a0_2) := (blk_cell BK105.out 2).trans rfl; have hcz7_3 : w6.cell? ⟨gb105, 3, none⟩ = some (.int .i64 a0_3) := (blk_cell BK105.out 3).trans rfl; have hfz7_0 := blk_frozen BK105.out 0; have hfz7_1 := blk_frozen BK105.out 1; have hfz7_2 := blk_frozen BK105.out 2; have hfz7_3 := blk_frozen BK105.out 3))
      go_ret
      exact ⟨by first | rfl | (simp [errW_none, errW_some] <;> rfl) | (simp [*, errW_none, errW_some] <;> rfl), by repeat (first | (with_reducible first | exact HB.out | apply below_alloc | apply pw_below_drewN | apply below_drew1 | refine below_set ?_ GE105.out) | exact HB.out)⟩
    · rw [if_neg c5] at H
      have c5b0 : decide (2147483647 < (a0_1.size : Int)) = false := decide_eq_false c5
      have c5b1 : decide (2147483647 < a0_1.size) = false := decide_eq_false (by omega)
      clear c5
      obtain rfl := Option.some.inj H
      go_enter Tryd.func27, Tryd.ntmps27
      go_wp2_with (first | ((with_reducible refine gate_dst (N := 1) rfl ?_); refine box_event ?hg (N := 1) ?hd (cs := #[.string a0_0, .string a0_1, .int .i64 a0_2, .int .i64 a0_3]) (t := 30) ?hr ?_; (case hd => rfl); (case hg => rfl); (case hr => first | (go_simp; done) | (go_simp; rfl)); intro gb105 hg w8 hbox hb; have n0_ := Aside0.mk (below_step (by repeat (first | (with_reducible first | exact HB.out | apply below_alloc | apply pw_below_drewN | apply below_drew1) | exact HB.out)) hb); have n1_ := Aside0.mk (hbox); have n2_ := Aside0.mk ((by rw [hg]; exact (below_size (by repeat (first | (with_reducible first | exact HB.out | apply below_alloc | apply pw_below_drewN | apply below_drew1) | exact HB.out))) : w.heap.size ≤ gb105)); have n3_ := Aside0.mk ((by rw [hg]; exact (below_size (by repeat (first | (with_reducible first | exact HB.out | apply below_alloc | apply pw_below_drewN | apply below_drew1) | exact HB.out))) : w.heap.size ≤ gb105)); clear HB; have HB := n0_; have BK105 := n1_; have GW105 := n2_; have GE105 := n3_; clear n0_ n1_ n2_ n3_; clear hb hbox hg; have hcz9_0 : w8.cell? ⟨gb105, 0, none⟩ = some (.string a0_0) := (blk_cell BK105.out 0).trans rfl; have hcz9_1 : w8.cell? ⟨gb105, 1, none⟩ = some (.string a0_1) := (blk_cell BK105.out 1).trans rfl; have hcz9_2 : w8.cell? ⟨gb105, 2, none⟩ = some (.int .i64 a0_2) := (blk_cell BK105.out 2).trans rfl; have hcz9_3 : w8.cell? ⟨gb105, 3, none⟩ = some (.int .i64 a0_3) := (blk_cell BK105.out 3).trans rfl; have hfz9_0 := blk_frozen BK105.out 0; have hfz9_1 := blk_frozen BK105.out 1; have hfz9_2 := blk_frozen BK105.out 2; have hfz9_3 := blk_frozen BK105.out 3))
      go_ret
      exact ⟨by first | rfl | (simp [errW_none, errW_some] <;> rfl) | (simp [*, errW_none, errW_some] <;> rfl), by repeat (first | (with_reducible first | exact HB.out | apply below_alloc | apply pw_below_drewN | apply below_drew1 | refine below_set ?_ GE105.out) | exact HB.out)⟩

/-! ### laws_zzFits16: function 36 -/
def laws_zzFits16.l0 : Nat → List ByteArray → Int → Int → Option (Bool)
  | 0, _, _, _ => none
  | k + 1, x8, x9, x10 => if x10 < x9 then (if 0 ≤ x10 then (if x10 < (x8.length : Int) then (if ((rdOf ByteArray.empty x8 x10).size : Int) > 2147483647 then (some false) else (laws_zzFits16.l0 k x8 x9 (wrap64 (x10 + 1)))) else (none)) else (none)) else (some true)
def laws_zzFits16.f (k : Nat) (l0 : List ByteArray) : Option (Bool) := if (l0.length : Int) > 2147483647 then (some false) else (laws_zzFits16.l0 k l0 (l0.length : Int) 0)
theorem laws_zzFits16.mono_l : ∀ k, (∀ y0 y1 y2, LeO (laws_zzFits16.l0 k y0 y1 y2) (laws_zzFits16.l0 (k + 1) y0 y1 y2))
  | 0 => fun _ _ _ r h => by simp [laws_zzFits16.l0] at h
  | k + 1 => by
    have ih0 := laws_zzFits16.mono_l k
    · intro y0 y1 y2
      unfold laws_zzFits16.l0
      repeat' first
      | (with_reducible exact ih0 _ _ _)
      | (with_reducible exact LeO.refl _)
      | (with_reducible exact LeO.none _)
      | (with_reducible refine LeO.ite ?_ ?_)
      | (with_reducible refine LeO.bind ?_ (fun _ => ?_))
      | exact ih0 _ _ _
      | exact LeO.none _
      | refine LeO.ite ?_ ?_
      | refine LeO.bind ?_ (fun _ => ?_)
theorem laws_zzFits16.mono : ∀ a0 k, LeO (laws_zzFits16.f k a0) (laws_zzFits16.f (k + 1) a0) := by
  intro a0 k
  have ih0 := laws_zzFits16.mono_l k
  unfold laws_zzFits16.f
  repeat' first
      | (with_reducible exact ih0 _ _ _)
      | (with_reducible exact LeO.refl _)
      | (with_reducible exact LeO.none _)
      | (with_reducible refine LeO.ite ?_ ?_)
      | (with_reducible refine LeO.bind ?_ (fun _ => ?_))
      | exact ih0 _ _ _
      | exact LeO.none _
      | refine LeO.ite ?_ ?_
      | refine LeO.bind ?_ (fun _ => ?_)
set_option maxHeartbeats 8000000 in
set_option maxRecDepth 100000 in
theorem laws_zzFits16.calls (k : Nat) (A0 : Option Addr) (c0 : Nat) (l0 : List ByteArray) (r : Bool) (w : World) (hr0 : Kd.C Kd.string w A0 l0.length l0) (hc0 : l0.length ≤ c0) (h : laws_zzFits16.f k l0 = some r) :
    Calls Tryd.prog 36 #[.slice A0 l0.length c0] w fun e w' => e = .returned (.bool r) ∧ Drawn0 w w' := by
  have HR0 := Aside0.mk hr0
  have HC0 := Aside0.mk hc0
  clear hr0 hc0
  have H : (if (l0.length : Int) > 2147483647 then (some false) else (laws_zzFits16.l0 k l0 (l0.length : Int) 0)) = some r := h
  clear h
  by_cases c2 : (l0.length : Int) > 2147483647
  · rw [if_pos c2] at H
    have c2b0 : decide (2147483647 < (l0.length : Int)) = true := decide_eq_true c2
    have c2b1 : decide (2147483647 < l0.length) = true := decide_eq_true (by omega)
    clear c2
    obtain rfl := Option.some.inj H
    go_enter Tryd.func36, Tryd.ntmps36
    go_wp2
    go_ret
    exact ⟨by first | rfl | (simp; done) | (simp [*]; done), by repeat (first | exact Drawn0.refl _ | apply Drawn0.step)⟩
  · rw [if_neg c2] at H
    have c2b0 : decide (2147483647 < (l0.length : Int)) = false := decide_eq_false c2
    have c2b1 : decide (2147483647 < l0.length) = false := decide_eq_false (by omega)
    clear c2
    have H' := Aside0.mk H
    clear H
    go_enter Tryd.func36, Tryd.ntmps36
    go_wp2
    go_loopg [10] k (fun kq v10 w' => ∃ (x10_1 : Int), v10 = .int .i64 x10_1 ∧ Aside0 (laws_zzFits16.l0 kq l0 (l0.length : Int) x10_1 = some r) ∧ Aside0 (kq ≤ k) ∧ Drawn0 w w')
    case atStart => exact ⟨(0), (by first | rfl | (simp; done) | (simp [*]; done)), H', ⟨Nat.le_refl _⟩, by repeat (first | exact Drawn0.refl _ | apply Drawn0.step)⟩
    case round =>
      clear H'
      try clear c2
      try clear c2b0
      try clear c2b1
      try clear p2
      obtain ⟨x10_1, rfl, HA, HK1, ⟨m1, rfl⟩⟩ := hrel
      cases gk with
      | zero => exact absurd HA.out (by simp [laws_zzFits16.l0])
      | succ k1 =>
        have H := HA.out
        clear HA
        simp only [laws_zzFits16.l0] at H
        by_cases c3 : x10_1 < (l0.length : Int)
        · rw [if_pos c3] at H
          have c3b0 : decide (x10_1 < (l0.length : Int)) = true := decide_eq_true c3
          clear c3
          by_cases c4 : 0 ≤ x10_1
          · rw [if_pos c4] at H
            have c4b0 : decide (0 ≤ x10_1) = true := decide_eq_true c4
            clear c4
            by_cases c5 : x10_1 < (l0.length : Int)
            · rw [if_pos c5] at H
              have c5b0 : decide (x10_1 < (l0.length : Int)) = true := decide_eq_true c5
              clear c5
              by_cases c6 : ((rdOf ByteArray.empty l0 x10_1).size : Int) > 2147483647
              · rw [if_pos c6] at H
                have c6b0 : decide (2147483647 < ((rdOf ByteArray.empty l0 x10_1).size : Int)) = true := decide_eq_true c6
                have c6b1 : decide (2147483647 < (rdOf ByteArray.empty l0 x10_1).size) = true := decide_eq_true (by omega)
                clear c6
                obtain rfl := Option.some.inj H
                have p106 : 0 ≤ (x10_1 : Int) := of_decide_eq_true (by first | (with_reducible assumption) | assumption)
                have q106 : x10_1 < (l0.length : Int) := of_decide_eq_true (by first | (with_reducible assumption) | assumption)
                obtain ⟨ad106, e106, hx106_0⟩ := Kd.at_string HR0.out x10_1 p106 q106
                cases e106
                replace p106 := eq_true p106
                replace q106 := eq_true q106
                go_wp2
                go_ret
                exact ⟨by first | rfl | (simp; done) | (simp [*]; done), by repeat (first | exact Drawn0.refl _ | apply Drawn0.step)⟩
              · rw [if_neg c6] at H
                have c6b0 : decide (2147483647 < ((rdOf ByteArray.empty l0 x10_1).size : Int)) = false := decide_eq_false c6
                have c6b1 : decide (2147483647 < (rdOf ByteArray.empty l0 x10_1).size) = false := decide_eq_false (by omega)
                clear c6
                have H' := Aside0.mk H
                clear H
                have p106 : 0 ≤ (x10_1 : Int) := of_decide_eq_true (by first | (with_reducible assumption) | assumption)
                have q106 : x10_1 < (l0.length : Int) := of_decide_eq_true (by first | (with_reducible assumption) | assumption)
                obtain ⟨ad106, e106, hx106_0⟩ := Kd.at_string HR0.out x10_1 p106 q106
                cases e106
                replace p106 := eq_true p106
                replace q106 := eq_true q106
                go_wp2
                go_roundg k1
                case measure => have := HK1.out; omega
                case rel => exact ⟨(wrap64 (x10_1 + 1)), (by first | rfl | (simp; done) | (simp [*]; done)), H', ⟨by have := HK1.out; omega⟩, by repeat (first | exact Drawn0.refl _ | apply Drawn0.step)⟩
            · rw [if_neg c5] at H
              exact absurd H (by simp)
          · rw [if_neg c4] at H
            exact absurd H (by simp)
        · rw [if_neg c3] at H
          have c3b0 : decide (x10_1 < (l0.length : Int)) = false := decide_eq_false c3
          clear c3
          obtain rfl := Option.some.inj H
          go_wp2
          go_ret
          exact ⟨by first | rfl | (simp; done) | (simp [*]; done), by repeat (first | exact Drawn0.refl _ | apply Drawn0.step)⟩

/-! ### laws_zzFits23: function 15 -/
def laws_zzFits23.f (k : Nat) (a0_0 : ByteArray) (l0_1 : List ByteArray) (a0_2 : ByteArray) (a0_3 : ByteArray) (a0_4 : Int) (a0_5 : Int) (a0_6 : ByteArray) (a0_7 : ByteArray) (a0_8 : Int) (a0_9 : Int) (a0_10 : ByteArray) (a0_11 : ByteArray) (a0_12 : ByteArray) (a0_13 : ByteArray) : Option (Bool) := if (a0_0.size : Int) > 2147483647 then (some false) else ((laws_zzFits16.f k l0_1).bind fun t108 => (if t108 = true then ((laws_zzFits22.f a0_2 a0_3 a0_4 a0_5).bind fun t109 => (if t109 = true then ((laws_zzFits22.f a0_6 a0_7 a0_8 a0_9).bind fun t110 => (if t110 = true then (if (a0_10.size : Int) > 2147483647 then (some false) else (if (a0_11.size : Int) > 2147483647 then (some false) else (if (a0_12.size : Int) > 2147483647 then (some false) else (if (a0_13.size : Int) > 2147483647 then (some false) else (some true))))) else (some false))) else (some false))) else (some false)))
theorem laws_zzFits23.mono : ∀ a0 a1 a2 a3 a4 a5 a6 a7 a8 a9 a10 a11 a12 a13 k, LeO (laws_zzFits23.f k a0 a1 a2 a3 a4 a5 a6 a7 a8 a9 a10 a11 a12 a13) (laws_zzFits23.f (k + 1) a0 a1 a2 a3 a4 a5 a6 a7 a8 a9 a10 a11 a12 a13) := by
  intro a0 a1 a2 a3 a4 a5 a6 a7 a8 a9 a10 a11 a12 a13 k
  unfold laws_zzFits23.f
  repeat' first
      | (with_reducible exact laws_zzFits16.mono _ _)
      | (with_reducible exact LeO.refl _)
      | (with_reducible exact LeO.none _)
      | (with_reducible refine LeO.ite ?_ ?_)
      | (with_reducible refine LeO.bind ?_ (fun _ => ?_))
      | exact laws_zzFits16.mono _ _
      | exact LeO.none _
      | refine LeO.ite ?_ ?_
      | refine LeO.bind ?_ (fun _ => ?_)
set_option maxHeartbeats 8000000 in
set_option maxRecDepth 100000 in
theorem laws_zzFits23.calls (k : Nat) (a0_0 : ByteArray) (A0_1 : Option Addr) (c0_1 : Nat) (l0_1 : List ByteArray) (a0_2 : ByteArray) (a0_3 : ByteArray) (a0_4 : Int) (a0_5 : Int) (a0_6 : ByteArray) (a0_7 : ByteArray) (a0_8 : Int) (a0_9 : Int) (a0_10 : ByteArray) (a0_11 : ByteArray) (a0_12 : ByteArray) (a0_13 : ByteArray) (r : Bool) (w : World) (hr0_1 : Kd.C Kd.string w A0_1 l0_1.length l0_1) (hc0_1 : l0_1.length ≤ c0_1) (h : laws_zzFits23.f k a0_0 l0_1 a0_2 a0_3 a0_4 a0_5 a0_6 a0_7 a0_8 a0_9 a0_10 a0_11 a0_12 a0_13 = some r) :
    Calls Tryd.prog 15 #[.agg #[.string a0_0, .slice A0_1 l0_1.length c0_1, .string a0_2, .string a0_3, .int .i64 a0_4, .int .i64 a0_5, .string a0_6, .string a0_7, .int .i64 a0_8, .int .i64 a0_9, .string a0_10, .string a0_11, .string a0_12, .string a0_13]] w fun e w' => e = .returned (.bool r) ∧ Below w.heap.size w w' := by
  have hu38 := Tryd.underlying38
  have hu30 := Tryd.underlying30
  have HR0_1 := Aside0.mk hr0_1
  have HC0_1 := Aside0.mk hc0_1
  clear hr0_1 hc0_1
  have HB := Aside0.mk (Below.refl w.heap.size w)
  have H : (if (a0_0.size : Int) > 2147483647 then (some false) else ((laws_zzFits16.f k l0_1).bind fun t108 => (if t108 = true then ((laws_zzFits22.f a0_2 a0_3 a0_4 a0_5).bind fun t109 => (if t109 = true then ((laws_zzFits22.f a0_6 a0_7 a0_8 a0_9).bind fun t110 => (if t110 = true then (if (a0_10.size : Int) > 2147483647 then (some false) else (if (a0_11.size : Int) > 2147483647 then (some false) else (if (a0_12.size : Int) > 2147483647 then (some false) else (if (a0_13.size : Int) > 2147483647 then (some false) else (some true))))) else (some false))) else (some false))) else (some false)))) = some r := h
  clear h
  by_cases c2 : (a0_0.size : Int) > 2147483647
  · rw [if_pos c2] at H
    have c2b0 : decide (2147483647 < (a0_0.size : Int)) = true := decide_eq_true c2
    have c2b1 : decide (2147483647 < a0_0.size) = true := decide_eq_true (by omega)
    clear c2
    obtain rfl := Option.some.inj H
    go_enter Tryd.func15, Tryd.ntmps15
    go_wp2_with (first | ((with_reducible refine gate_dst (N := 1) rfl ?_); refine box_event ?hg (N := 1) ?hd (cs := #[.string a0_0, .slice A0_1 l0_1.length c0_1, .string a0_2, .string a0_3, .int .i64 a0_4, .int .i64 a0_5, .string a0_6, .string a0_7, .int .i64 a0_8, .int .i64 a0_9, .string a0_10, .string a0_11, .string a0_12, .string a0_13]) (t := 38) ?hr ?_; (case hd => rfl); (case hg => rfl); (case hr => first | (go_simp; done) | (go_simp; rfl)); intro gb107 hg w3 hbox hb; have n0_ := Aside0.mk (below_step (by repeat (first | (with_reducible first | exact HB.out | apply below_alloc | apply pw_below_drewN | apply below_drew1) | exact HB.out)) hb); have n1_ := Aside0.mk (hbox); have n2_ := Aside0.mk ((by rw [hg]; exact (below_size (by repeat (first | (with_reducible first | exact HB.out | apply below_alloc | apply pw_below_drewN | apply below_drew1) | exact HB.out))) : w.heap.size ≤ gb107)); have n3_ := Aside0.mk ((by rw [hg]; exact (below_size (by repeat (first | (with_reducible first | exact HB.out | apply below_alloc | apply pw_below_drewN | apply below_drew1) | exact HB.out))) : w.heap.size ≤ gb107)); clear HB; have HB := n0_; have BK107 := n1_; have GW107 := n2_; have GE107 := n3_; clear n0_ n1_ n2_ n3_; clear hb hbox hg; have hcz4_0 : w3.cell? ⟨gb107, 0, none⟩ = some (.string a0_0) := (blk_cell BK107.out 0).trans rfl; have hcz4_1 : w3.cell? ⟨gb107, 1, none⟩ = some (.slice A0_1 l0_1.length c0_1) := (blk_cell BK107.out 1).trans rfl; have hcz4_2 : w3.cell? ⟨gb107, 2, none⟩ = some (.string a0_2) := (blk_cell BK107.out 2).trans rfl; have hcz4_3 : w3.cell? ⟨gb107, 3, none⟩ = some (.string a0_3) := (blk_cell BK107.out 3).trans rfl; have hcz4_4 : w3.cell? ⟨gb107, 4, none⟩ = some (.int .i64 a0_4) := (blk_cell BK107.out 4).trans rfl; have hcz4_5 : w3.cell? ⟨gb107, 5, none⟩ = some (.int .i64 a0_5) := (blk_cell BK107.out 5).trans rfl; have hcz4_6 : w3.cell? ⟨gb107, 6, none⟩ = some (.string a0_6) := (blk_cell BK107.out 6).trans rfl; have hcz4_7 : w3.cell? ⟨gb107, 7, none⟩ = some (.string a0_7) := (blk_cell BK107.out 7).trans rfl; have hcz4_8 : w3.cell? ⟨gb107, 8, none⟩ = some (.int .i64 a0_8) := (blk_cell BK107.out 8).trans rfl; have hcz4_9 : w3.cell? ⟨gb107, 9, none⟩ = some (.int .i64 a0_9) := (blk_cell BK107.out 9).trans rfl; have hcz4_10 : w3.cell? ⟨gb107, 10, none⟩ = some (.string a0_10) := (blk_cell BK107.out 10).trans rfl; have hcz4_11 : w3.cell? ⟨gb107, 11, none⟩ = some (.string a0_11) := (blk_cell BK107.out 11).trans rfl; have hcz4_12 : w3.cell? ⟨gb107, 12, none⟩ = some (.string a0_12) := (blk_cell BK107.out 12).trans rfl; have hcz4_13 : w3.cell? ⟨gb107, 13, none⟩ = some (.string a0_13) := (blk_cell BK107.out 13).trans rfl; have hfz4_0 := blk_frozen BK107.out 0; have hfz4_1 := blk_frozen BK107.out 1; have hfz4_2 := blk_frozen BK107.out 2; have hfz4_3 := blk_frozen BK107.out 3; have hfz4_4 := blk_frozen BK107.out 4; have hfz4_5 := blk_frozen BK107.out 5; have hfz4_6 := blk_frozen BK107.out 6; have hfz4_7 := blk_frozen BK107.out 7; have hfz4_8 := blk_frozen BK107.out 8; have hfz4_9 := blk_frozen BK107.out 9; have hfz4_10 := blk_frozen BK107.out 10; have hfz4_11 := blk_frozen BK107.out 11; have hfz4_12 := blk_frozen BK107.out 12; have hfz4_13 := blk_frozen BK107.out 13))
    go_ret
    exact ⟨by first | rfl | (simp [errW_none, errW_some] <;> rfl) | (simp [*, errW_none, errW_some] <;> rfl), by repeat (first | (with_reducible first | exact HB.out | apply below_alloc | apply pw_below_drewN | apply below_drew1 | refine below_set ?_ GE107.out) | exact HB.out)⟩
  · rw [if_neg c2] at H
    have c2b0 : decide (2147483647 < (a0_0.size : Int)) = false := decide_eq_false c2
    have c2b1 : decide (2147483647 < a0_0.size) = false := decide_eq_false (by omega)
    clear c2
    replace H := Option.bind_eq_some_iff.mp H
    obtain ⟨t108, A50, H⟩ := H
    replace H : (if t108 = true then ((laws_zzFits22.f a0_2 a0_3 a0_4 a0_5).bind fun t109 => (if t109 = true then ((laws_zzFits22.f a0_6 a0_7 a0_8 a0_9).bind fun t110 => (if t110 = true then (if (a0_10.size : Int) > 2147483647 then (some false) else (if (a0_11.size : Int) > 2147483647 then (some false) else (if (a0_12.size : Int) > 2147483647 then (some false) else (if (a0_13.size : Int) > 2147483647 then (some false) else (some true))))) else (some false))) else (some false))) else (some false)) = some r := H
    have A5 := Aside0.mk A50
    clear A50
    by_cases c6 : t108 = true
    · subst c6
      have H1 : ((laws_zzFits22.f a0_2 a0_3 a0_4 a0_5).bind fun t109 => (if t109 = true then ((laws_zzFits22.f a0_6 a0_7 a0_8 a0_9).bind fun t110 => (if t110 = true then (if (a0_10.size : Int) > 2147483647 then (some false) else (if (a0_11.size : Int) > 2147483647 then (some false) else (if (a0_12.size : Int) > 2147483647 then (some false) else (if (a0_13.size : Int) > 2147483647 then (some false) else (some true))))) else (some false))) else (some false))) = some r := by rw [if_pos rfl] at H; exact H
      clear H
      have H := H1
      clear H1
      replace H := Option.bind_eq_some_iff.mp H
      obtain ⟨t109, A70, H⟩ := H
      replace H : (if t109 = true then ((laws_zzFits22.f a0_6 a0_7 a0_8 a0_9).bind fun t110 => (if t110 = true then (if (a0_10.size : Int) > 2147483647 then (some false) else (if (a0_11.size : Int) > 2147483647 then (some false) else (if (a0_12.size : Int) > 2147483647 then (some false) else (if (a0_13.size : Int) > 2147483647 then (some false) else (some true))))) else (some false))) else (some false)) = some r := H
      have A7 := Aside0.mk A70
      clear A70
      by_cases c8 : t109 = true
      · subst c8
        have H1 : ((laws_zzFits22.f a0_6 a0_7 a0_8 a0_9).bind fun t110 => (if t110 = true then (if (a0_10.size : Int) > 2147483647 then (some false) else (if (a0_11.size : Int) > 2147483647 then (some false) else (if (a0_12.size : Int) > 2147483647 then (some false) else (if (a0_13.size : Int) > 2147483647 then (some false) else (some true))))) else (some false))) = some r := by rw [if_pos rfl] at H; exact H
        clear H
        have H := H1
        clear H1
        replace H := Option.bind_eq_some_iff.mp H
        obtain ⟨t110, A90, H⟩ := H
        replace H : (if t110 = true then (if (a0_10.size : Int) > 2147483647 then (some false) else (if (a0_11.size : Int) > 2147483647 then (some false) else (if (a0_12.size : Int) > 2147483647 then (some false) else (if (a0_13.size : Int) > 2147483647 then (some false) else (some true))))) else (some false)) = some r := H
        have A9 := Aside0.mk A90
        clear A90
        by_cases c10 : t110 = true
        · subst c10
          have H1 : (if (a0_10.size : Int) > 2147483647 then (some false) else (if (a0_11.size : Int) > 2147483647 then (some false) else (if (a0_12.size : Int) > 2147483647 then (some false) else (if (a0_13.size : Int) > 2147483647 then (some false) else (some true))))) = some r := by rw [if_pos rfl] at H; exact H
          clear H
          have H := H1
          clear H1
          by_cases c11 : (a0_10.size : Int) > 2147483647
          · rw [if_pos c11] at H
            have c11b0 : decide (2147483647 < (a0_10.size : Int)) = true := decide_eq_true c11
            have c11b1 : decide (2147483647 < a0_10.size) = true := decide_eq_true (by omega)
            clear c11
            obtain rfl := Option.some.inj H
            go_enter Tryd.func15, Tryd.ntmps15
            go_wp2_with (first | ((with_reducible refine gate_dst (N := 1) rfl ?_); refine box_event ?hg (N := 1) ?hd (cs := #[.string a0_0, .slice A0_1 l0_1.length c0_1, .string a0_2, .string a0_3, .int .i64 a0_4, .int .i64 a0_5, .string a0_6, .string a0_7, .int .i64 a0_8, .int .i64 a0_9, .string a0_10, .string a0_11, .string a0_12, .string a0_13]) (t := 38) ?hr ?_; (case hd => rfl); (case hg => rfl); (case hr => first | (go_simp; done) | (go_simp; rfl)); intro gb107 hg w12 hbox hb; have n0_ := Aside0.mk (below_step (by repeat (first | (with_reducible first | exact HB.out | apply below_alloc | apply pw_below_drewN | apply below_drew1) | exact HB.out)) hb); have n1_ := Aside0.mk (hbox); have n2_ := Aside0.mk ((by rw [hg]; exact (below_size (by repeat (first | (with_reducible first | exact HB.out | apply below_alloc | apply pw_below_drewN | apply below_drew1) | exact HB.out))) : w.heap.size ≤ gb107)); have n3_ := Aside0.mk ((by rw [hg]; exact (below_size (by repeat (first | (with_reducible first | exact HB.out | apply below_alloc | apply pw_below_drewN | apply below_drew1) | exact HB.out))) : w.heap.size ≤ gb107)); clear HB; have HB := n0_; have BK107 := n1_; have GW107 := n2_; have GE107 := n3_; clear n0_ n1_ n2_ n3_; clear hb hbox hg; have hcz13_0 : w12.cell? ⟨gb107, 0, none⟩ = some (.string a0_0) := (blk_cell BK107.out 0).trans rfl; have hcz13_1 : w12.cell? ⟨gb107, 1, none⟩ = some (.slice A0_1 l0_1.length c0_1) := (blk_cell BK107.out 1).trans rfl; have hcz13_2 : w12.cell? ⟨gb107, 2, none⟩ = some (.string a0_2) := (blk_cell BK107.out 2).trans rfl; have hcz13_3 : w12.cell? ⟨gb107, 3, none⟩ = some (.string a0_3) := (blk_cell BK107.out 3).trans rfl; have hcz13_4 : w12.cell? ⟨gb107, 4, none⟩ = some (.int .i64 a0_4) := (blk_cell BK107.out 4).trans rfl; have hcz13_5 : w12.cell? ⟨gb107, 5, none⟩ = some (.int .i64 a0_5) := (blk_cell BK107.out 5).trans rfl; have hcz13_6 : w12.cell? ⟨gb107, 6, none⟩ = some (.string a0_6) := (blk_cell BK107.out 6).trans rfl; have hcz13_7 : w12.cell? ⟨gb107, 7, none⟩ = some (.string a0_7) := (blk_cell BK107.out 7).trans rfl; have hcz13_8 : w12.cell? ⟨gb107, 8, none⟩ = some (.int .i64 a0_8) := (blk_cell BK107.out 8).trans rfl; have hcz13_9 : w12.cell? ⟨gb107, 9, none⟩ = some (.int .i64 a0_9) := (blk_cell BK107.out 9).trans rfl; have hcz13_10 : w12.cell? ⟨gb107, 10, none⟩ = some (.string a0_10) := (blk_cell BK107.out 10).trans rfl; have hcz13_11 : w12.cell? ⟨gb107, 11, none⟩ = some (.string a0_11) := (blk_cell BK107.out 11).trans rfl; have hcz13_12 : w12.cell? ⟨gb107, 12, none⟩ = some (.string a0_12) := (blk_cell BK107.out 12).trans rfl; have hcz13_13 : w12.cell? ⟨gb107, 13, none⟩ = some (.string a0_13) := (blk_cell BK107.out 13).trans rfl; have hfz13_0 := blk_frozen BK107.out 0; have hfz13_1 := blk_frozen BK107.out 1; have hfz13_2 := blk_frozen BK107.out 2; have hfz13_3 := blk_frozen BK107.out 3; have hfz13_4 := blk_frozen BK107.out 4; have hfz13_5 := blk_frozen BK107.out 5; have hfz13_6 := blk_frozen BK107.out 6; have hfz13_7 := blk_frozen BK107.out 7; have hfz13_8 := blk_frozen BK107.out 8; have hfz13_9 := blk_frozen BK107.out 9; have hfz13_10 := blk_frozen BK107.out 10; have hfz13_11 := blk_frozen BK107.out 11; have hfz13_12 := blk_frozen BK107.out 12; have hfz13_13 := blk_frozen BK107.out 13) | ((with_reducible refine gate_callee (f := 36) rfl ?_); refine goesL_ (some 9) rfl rfl Tryd.func36 (by kernel_rfl) rfl #[.slice A0_1 l0_1.length c0_1] rfl (by (try simp only [List.map_toArray, List.map_cons, List.map_nil]); first | done | rfl | (simp only [List.length_drop, List.length_take]; rfl)) ?_; (with_reducible refine (laws_zzFits16.calls k _ _ l0_1 true _ ?side1 ?side2 A5.out).mono ?_); (case side1 => repeat (first | exact (Kd.C_below HR0_1.out HB.out) | (with_reducible refine Kd.C_alloc ?_ _) | (with_reducible refine Kd.C_drewN ?_ _) | (with_reducible refine Kd.C_drew ?_))); (case side2 => exact HC0_1.out); rintro e w' ⟨rfl, ⟨nd, rfl⟩⟩; refine ⟨_, rfl, ?_⟩) | ((with_reducible refine gate_callee (f := 27) rfl ?_); refine goesL_ (some 13) rfl rfl Tryd.func27 (by kernel_rfl) rfl #[.agg #[.string a0_2, .string a0_3, .int .i64 a0_4, .int .i64 a0_5]] rfl (by (try simp only [List.map_toArray, List.map_cons, List.map_nil]); first | done | rfl | (simp only [List.length_drop, List.length_take]; rfl)) ?_; (with_reducible refine (laws_zzFits22.calls a0_2 a0_3 a0_4 a0_5 true _ A7.out).mono ?_); rintro e w14 ⟨rfl, hb⟩; refine ⟨_, rfl, ?_⟩; have n0_ := Aside0.mk (blk_below (g := gb107) (o := .cells #[.string a0_0, .slice A0_1 l0_1.length c0_1, .string a0_2, .string a0_3, .int .i64 a0_4, .int .i64 a0_5, .string a0_6, .string a0_7, .int .i64 a0_8, .int .i64 a0_9, .string a0_10, .string a0_11, .string a0_12, .string a0_13] 38 (0, 0)) (by (with_reducible repeat (first | refine blk_drewN ?_ _ | refine blk_drew ?_ | refine blk_alloc ?_ _)); exact BK107.out) hb); have n1_ := Aside0.mk (below_step (by repeat (first | (with_reducible first | exact HB.out | apply below_alloc | apply pw_below_drewN | apply below_drew1 | refine below_set ?_ GE107.out) | exact HB.out)) hb); clear BK107; clear HB; have BK107 := n0_; have HB := n1_; clear n0_ n1_; (try clear hb); (try clear hb2); (try clear hk); (try clear hi); have hcz15_0 : w14.cell? ⟨gb107, 0, none⟩ = some (.string a0_0) := (blk_cell BK107.out 0).trans rfl; have hcz15_1 : w14.cell? ⟨gb107, 1, none⟩ = some (.slice A0_1 l0_1.length c0_1) := (blk_cell BK107.out 1).trans rfl; have hcz15_2 : w14.cell? ⟨gb107, 2, none⟩ = some (.string a0_2) := (blk_cell BK107.out 2).trans rfl; have hcz15_3 : w14.cell? ⟨gb107, 3, none⟩ = some (.string a0_3) := (blk_cell BK107.out 3).trans rfl; have hcz15_4 : w14.cell? ⟨gb107, 4, none⟩ = some (.int .i64 a0_4) := (blk_cell BK107.out 4).trans rfl; have hcz15_5 : w14.cell? ⟨gb107, 5, none⟩ = some (.int .i64 a0_5) := (blk_cell BK107.out 5).trans rfl; have hcz15_6 : w14.cell? ⟨gb107, 6, none⟩ = some (.string a0_6) := (blk_cell BK107.out 6).trans rfl; have hcz15_7 : w14.cell? ⟨gb107, 7, none⟩ = some (.string a0_7) := (blk_cell BK107.out 7).trans rfl; have hcz15_8 : w14.cell? ⟨gb107, 8, none⟩ = some (.int .i64 a0_8) := (blk_cell BK107.out 8).trans rfl; have hcz15_9 : w14.cell? ⟨gb107, 9, none⟩ = some (.int .i64 a0_9) := (blk_cell BK107.out 9).trans rfl; have hcz15_10 : w14.cell? ⟨gb107, 10, none⟩ = some (.string a0_10) := (blk_cell BK107.out 10).trans rfl; have hcz15_11 : w14.cell? ⟨gb107, 11, none⟩ = some (.string a0_11) := (blk_cell BK107.out 11).trans rfl; have hcz15_12 : w14.cell? ⟨gb107, 12, none⟩ = some (.string a0_12) := (blk_cell BK107.out 12).trans rfl; have hcz15_13 : w14.cell? ⟨gb107, 13, none⟩ = some (.string a0_13) := (blk_cell BK107.out 13).trans rfl; have hfz15_0 := blk_frozen BK107.out 0; have hfz15_1 := blk_frozen BK107.out 1; have hfz15_2 := blk_frozen BK107.out 2; have hfz15_3 := blk_frozen BK107.out 3; have hfz15_4 := blk_frozen BK107.out 4; have hfz15_5 := blk_frozen BK107.out 5; have hfz15_6 := blk_frozen BK107.out 6; have hfz15_7 := blk_frozen BK107.out 7; have hfz15_8 := blk_frozen BK107.out 8; have hfz15_9 := blk_frozen BK107.out 9; have hfz15_10 := blk_frozen BK107.out 10; have hfz15_11 := blk_frozen BK107.out 11; have hfz15_12 := blk_frozen BK107.out 12; have hfz15_13 := blk_frozen BK107.out 13) | ((with_reducible refine gate_callee (f := 27) rfl ?_); refine goesL_ (some 17) rfl rfl Tryd.func27 (by kernel_rfl) rfl #[.agg #[.string a0_6, .string a0_7, .int .i64 a0_8, .int .i64 a0_9]] rfl (by (try simp only [List.map_toArray, List.map_cons, List.map_nil]); first | done | rfl | (simp only [List.length_drop, List.length_take]; rfl)) ?_; (with_reducible refine (laws_zzFits22.calls a0_6 a0_7 a0_8 a0_9 true _ A9.out).mono ?_); rintro e w16 ⟨rfl, hb⟩; refine ⟨_, rfl, ?_⟩; have n0_ := Aside0.mk (blk_below (g := gb107) (o := .cells #[.string a0_0, .slice A0_1 l0_1.length c0_1, .string a0_2, .string a0_3, .int .i64 a0_4, .int .i64 a0_5, .string a0_6, .string a0_7, .int .i64 a0_8, .int .i64 a0_9, .string a0_10, .string a0_11, .string a0_12, .string a0_13] 38 (0, 0)) (by (with_reducible repeat (first | refine blk_drewN ?_ _ | refine blk_drew ?_ | refine blk_alloc ?_ _)); exact BK107.out) hb); have n1_ := Aside0.mk (below_step (by repeat (first | (with_reducible first | exact HB.out | apply below_alloc | apply pw_below_drewN | apply below_drew1 | refine below_set ?_ GE107.out) | exact HB.out)) hb); clear BK107; clear HB; have BK107 := n0_; have HB := n1_; clear n0_ n1_; (try clear hb); (try clear hb2); (try clear hk); (try clear hi); have hcz17_0 : w16.cell? ⟨gb107, 0, none⟩ = some (.string a0_0) := (blk_cell BK107.out 0).trans rfl; have hcz17_1 : w16.cell? ⟨gb107, 1, none⟩ = some (.slice A0_1 l0_1.length c0_1) := (blk_cell BK107.out 1).trans rfl; have hcz17_2 : w16.cell? ⟨gb107, 2, none⟩ = some (.string a0_2) := (blk_cell BK107.out 2).trans rfl; have hcz17_3 : w16.cell? ⟨gb107, 3, none⟩ = some (.string a0_3) := (blk_cell BK107.out 3).trans rfl; have hcz17_4 : w16.cell? ⟨gb107, 4, none⟩ = some (.int .i64 a0_4) := (blk_cell BK107.out 4).trans rfl; have hcz17_5 : w16.cell? ⟨gb107, 5, none⟩ = some (.int .i64 a0_5) := (blk_cell BK107.out 5).trans rfl; have hcz17_6 : w16.cell? ⟨gb107, 6, none⟩ = some (.string a0_6) := (blk_cell BK107.out 6).trans rfl; have hcz17_7 : w16.cell? ⟨gb107, 7, none⟩ = some (.string a0_7) := (blk_cell BK107.out 7).trans rfl; have hcz17_8 : w16.cell? ⟨gb107, 8, none⟩ = some (.int .i64 a0_8) := (blk_cell BK107.out 8).trans rfl; have hcz17_9 : w16.cell? ⟨gb107, 9, none⟩ = some (.int .i64 a0_9) := (blk_cell BK107.out 9).trans rfl; have hcz17_10 : w16.cell? ⟨gb107, 10, none⟩ = some (.string a0_10) := (blk_cell BK107.out 10).trans rfl; have hcz17_11 : w16.cell? ⟨gb107, 11, none⟩ = some (.string a0_11) := (blk_cell BK107.out 11).trans rfl; have hcz17_12 : w16.cell? ⟨gb107, 12, none⟩ = some (.string a0_12) := (blk_cell BK107.out 12).trans rfl; have hcz17_13 : w16.cell? ⟨gb107, 13, none⟩ = some (.string a0_13) := (blk_cell BK107.out 13).trans rfl; have hfz17_0 := blk_frozen BK107.out 0; have hfz17_1 := blk_frozen BK107.out 1; have hfz17_2 := blk_frozen BK107.out 2; have hfz17_3 := blk_frozen BK107.out 3; have hfz17_4 := blk_frozen BK107.out 4; have hfz17_5 := blk_frozen BK107.out 5; have hfz17_6 := blk_frozen BK107.out 6; have hfz17_7 := blk_frozen BK107.out 7; have hfz17_8 := blk_frozen BK107.out 8; have hfz17_9 := blk_frozen BK107.out 9; have hfz17_10 := blk_frozen BK107.out 10; have hfz17_11 := blk_frozen BK107.out 11; have hfz17_12 := blk_frozen BK107.out 12; have hfz17_13 := blk_frozen BK107.out 13))
            go_ret
            exact ⟨by first | rfl | (simp [errW_none, errW_some] <;> rfl) | (simp [*, errW_none, errW_some] <;> rfl), by repeat (first | (with_reducible first | exact HB.out | apply below_alloc | apply pw_below_drewN | apply below_drew1 | refine below_set ?_ GE107.out) | exact HB.out)⟩
          · rw [if_neg c11] at H
            have c11b0 : decide (2147483647 < (a0_10.size : Int)) = false := decide_eq_false c11
            have c11b1 : decide (2147483647 < a0_10.size) = false := decide_eq_false (by omega)
            clear c11
            by_cases c18 : (a0_11.size : Int) > 2147483647
            · rw [if_pos c18] at H
              have c18b0 : decide (2147483647 < (a0_11.size : Int)) = true := decide_eq_true c18
              have c18b1 : decide (2147483647 < a0_11.size) = true := decide_eq_true (by omega)
              clear c18
              obtain rfl := Option.some.inj H
              go_enter Tryd.func15, Tryd.ntmps15
              go_wp2_with (first | ((with_reducible refine gate_dst (N := 1) rfl ?_); refine box_event ?hg (N := 1) ?hd (cs := #[.string a0_0, .slice A0_1 l0_1.length c0_1, .string a0_2, .string a0_3, .int .i64 a0_4, .int .i64 a0_5, .string a0_6, .string a0_7, .int .i64 a0_8, .int .i64 a0_9, .string a0_10, .string a0_11, .string a0_12, .string a0_13]) (t := 38) ?hr ?_; (case hd => rfl); (case hg => rfl); (case hr => first | (go_simp; done) | (go_simp; rfl)); intro gb107 hg w19 hbox hb; have n0_ := Aside0.mk (below_step (by repeat (first | (with_reducible first | exact HB.out | apply below_alloc | apply pw_below_drewN | apply below_drew1) | exact HB.out)) hb); have n1_ := Aside0.mk (hbox); have n2_ := Aside0.mk ((by rw [hg]; exact (below_size (by repeat (first | (with_reducible first | exact HB.out | apply below_alloc | apply pw_below_drewN | apply below_drew1) | exact HB.out))) : w.heap.size ≤ gb107)); have n3_ := Aside0.mk ((by rw [hg]; exact (below_size (by repeat (first | (with_reducible first | exact HB.out | apply below_alloc | apply pw_below_drewN | apply below_drew1) | exact HB.out))) : w.heap.size ≤ gb107)); clear HB; have HB := n0_; have BK107 := n1_; have GW107 := n2_; have GE107 := n3_; clear n0_ n1_ n2_ n3_; clear hb hbox hg; have hcz20_0 : w19.cell? ⟨gb107, 0, none⟩ = some (.string a0_0) := (blk_cell BK107.out 0).trans rfl; have hcz20_1 : w19.cell? ⟨gb107, 1, none⟩ = some (.slice A0_1 l0_1.length c0_1) := (blk_cell BK107.out 1).trans rfl; have hcz20_2 : w19.cell? ⟨gb107, 2, none⟩ = some (.string a0_2) := (blk_cell BK107.out 2).trans rfl; have hcz20_3 : w19.cell? ⟨gb107, 3, none⟩ = some (.string a0_3) := (blk_cell BK107.out 3).trans rfl; have hcz20_4 : w19.cell? ⟨gb107, 4, none⟩ = some (.int .i64 a0_4) := (blk_cell BK107.out 4).trans rfl; have hcz20_5 : w19.cell? ⟨gb107, 5, none⟩ = some (.int .i64 a0_5) := (blk_cell BK107.out 5).trans rfl; have hcz20_6 : w19.cell? ⟨gb107, 6, none⟩ = some (.string a0_6) := (blk_cell BK107.out 6).trans rfl; have hcz20_7 : w19.cell? ⟨gb107, 7, none⟩ = some (.string a0_7) := (blk_cell BK107.out 7).trans rfl; have hcz20_8 : w19.cell? ⟨gb107, 8, none⟩ = some (.int .i64 a0_8) := (blk_cell BK107.out 8).trans rfl; have hcz20_9 : w19.cell? ⟨gb107, 9, none⟩ = some (.int .i64 a0_9) := (blk_cell BK107.out 9).trans rfl; have hcz20_10 : w19.cell? ⟨gb107, 10, none⟩ = some (.string a0_10) := (blk_cell BK107.out 10).trans rfl; have hcz20_11 : w19.cell? ⟨gb107, 11, none⟩ = some (.string a0_11) := (blk_cell BK107.out 11).trans rfl; have hcz20_12 : w19.cell? ⟨gb107, 12, none⟩ = some (.string a0_12) := (blk_cell BK107.out 12).trans rfl; have hcz20_13 : w19.cell? ⟨gb107, 13, none⟩ = some (.string a0_13) := (blk_cell BK107.out 13).trans rfl; have hfz20_0 := blk_frozen BK107.out 0; have hfz20_1 := blk_frozen BK107.out 1; have hfz20_2 := blk_frozen BK107.out 2; have hfz20_3 := blk_frozen BK107.out 3; have hfz20_4 := blk_frozen BK107.out 4; have hfz20_5 := blk_frozen BK107.out 5; have hfz20_6 := blk_frozen BK107.out 6; have hfz20_7 := blk_frozen BK107.out 7; have hfz20_8 := blk_frozen BK107.out 8; have hfz20_9 := blk_frozen BK107.out 9; have hfz20_10 := blk_frozen BK107.out 10; have hfz20_11 := blk_frozen BK107.out 11; have hfz20_12 := blk_frozen BK107.out 12; have hfz20_13 := blk_frozen BK107.out 13) | ((with_reducible refine gate_callee (f := 36) rfl ?_); refine goesL_ (some 9) rfl rfl Tryd.func36 (by kernel_rfl) rfl #[.slice A0_1 l0_1.length c0_1] rfl (by (try simp only [List.map_toArray, List.map_cons, List.map_nil]); first | done | rfl | (simp only [List.length_drop, List.length_take]; rfl)) ?_; (with_reducible refine (laws_zzFits16.calls k _ _ l0_1 true _ ?side1 ?side2 A5.out).mono ?_); (case side1 => repeat (first | exact (Kd.C_below HR0_1.out HB.out) | (with_reducible refine Kd.C_alloc ?_ _) | (with_reducible refine Kd.C_drewN ?_ _) | (with_reducible refine Kd.C_drew ?_))); (case side2 => exact HC0_1.out); rintro e w' ⟨rfl, ⟨nd, rfl⟩⟩; refine ⟨_, rfl, ?_⟩) | ((with_reducible refine gate_callee (f := 27) rfl ?_); refine goesL_ (some 13) rfl rfl Tryd.func27 (by kernel_rfl) rfl #[.agg #[.string a0_2, .string a0_3, .int .i64 a0_4, .int .i64 a0_5]] rfl (by (try simp only [List.map_toArray, List.map_cons, List.map_nil]); first | done | rfl | (simp only [List.length_drop, List.length_take]; rfl)) ?_; (with_reducible refine (laws_zzFits22.calls a0_2 a0_3 a0_4 a0_5 true _ A7.out).mono ?_); rintro e w21 ⟨rfl, hb⟩; refine ⟨_, rfl, ?_⟩; have n0_ := Aside0.mk (blk_below (g := gb107) (o := .cells #[.string a0_0, .slice A0_1 l0_1.length c0_1, .string a0_2, .string a0_3, .int .i64 a0_4, .int .i64 a0_5, .string a0_6, .string a0_7, .int .i64 a0_8, .int .i64 a0_9, .string a0_10, .string a0_11, .string a0_12, .string a0_13] 38 (0, 0)) (by (with_reducible repeat (first | refine blk_drewN ?_ _ | refine blk_drew ?_ | refine blk_alloc ?_ _)); exact BK107.out) hb); have n1_ := Aside0.mk (below_step (by repeat (first | (with_reducible first | exact HB.out | apply below_alloc | apply pw_below_drewN | apply below_drew1 | refine below_set ?_ GE107.out) | exact HB.out)) hb); clear BK107; clear HB; have BK107 := n0_; have HB := n1_; clear n0_ n1_; (try clear hb); (try clear hb2); (try clear hk); (try clear hi); have hcz22_0 : w21.cell? ⟨gb107, 0, none⟩ = some (.string a0_0) := (blk_cell BK107.out 0).trans rfl; have hcz22_1 : w21.cell? ⟨gb107, 1, none⟩ = some (.slice A0_1 l0_1.length c0_1) := (blk_cell BK107.out 1).trans rfl; have hcz22_2 : w21.cell? ⟨gb107, 2, none⟩ = some (.string a0_2) := (blk_cell BK107.out 2).trans rfl; have hcz22_3 : w21.cell? ⟨gb107, 3, none⟩ = some (.string a0_3) := (blk_cell BK107.out 3).trans rfl; have hcz22_4 : w21.cell? ⟨gb107, 4, none⟩ = some (.int .i64 a0_4) := (blk_cell BK107.out 4).trans rfl; have hcz22_5 : w21.cell? ⟨gb107, 5, none⟩ = some (.int .i64 a0_5) := (blk_cell BK107.out 5).trans rfl; have hcz22_6 : w21.cell? ⟨gb107, 6, none⟩ = some (.string a0_6) := (blk_cell BK107.out 6).trans rfl; have hcz22_7 : w21.cell? ⟨gb107, 7, none⟩ = some (.string a0_7) := (blk_cell BK107.out 7).trans rfl; have hcz22_8 : w21.cell? ⟨gb107, 8, none⟩ = some (.int .i64 a0_8) := (blk_cell BK107.out 8).trans rfl; have hcz22_9 : w21.cell? ⟨gb107, 9, none⟩ = some (.int .i64 a0_9) := (blk_cell BK107.out 9).trans rfl; have hcz22_10 : w21.cell? ⟨gb107, 10, none⟩ = some (.string a0_10) := (blk_cell BK107.out 10).trans rfl; have hcz22_11 : w21.cell? ⟨gb107, 11, none⟩ = some (.string a0_11) := (blk_cell BK107.out 11).trans rfl; have hcz22_12 : w21.cell? ⟨gb107, 12, none⟩ = some (.string a0_12) := (blk_cell BK107.out 12).trans rfl; have hcz22_13 : w21.cell? ⟨gb107, 13, none⟩ = some (.string a0_13) := (blk_cell BK107.out 13).trans rfl; have hfz22_0 := blk_frozen BK107.out 0; have hfz22_1 := blk_frozen BK107.out 1; have hfz22_2 := blk_frozen BK107.out 2; have hfz22_3 := blk_frozen BK107.out 3; have hfz22_4 := blk_frozen BK107.out 4; have hfz22_5 := blk_frozen BK107.out 5; have hfz22_6 := blk_frozen BK107.out 6; have hfz22_7 := blk_frozen BK107.out 7; have hfz22_8 := blk_frozen BK107.out 8; have hfz22_9 := blk_frozen BK107.out 9; have hfz22_10 := blk_frozen BK107.out 10; have hfz22_11 := blk_frozen BK107.out 11; have hfz22_12 := blk_frozen BK107.out 12; have hfz22_13 := blk_frozen BK107.out 13) | ((with_reducible refine gate_callee (f := 27) rfl ?_); refine goesL_ (some 17) rfl rfl Tryd.func27 (by kernel_rfl) rfl #[.agg #[.string a0_6, .string a0_7, .int .i64 a0_8, .int .i64 a0_9]] rfl (by (try simp only [List.map_toArray, List.map_cons, List.map_nil]); first | done | rfl | (simp only [List.length_drop, List.length_take]; rfl)) ?_; (with_reducible refine (laws_zzFits22.calls a0_6 a0_7 a0_8 a0_9 true _ A9.out).mono ?_); rintro e w23 ⟨rfl, hb⟩; refine ⟨_, rfl, ?_⟩; have n0_ := Aside0.mk (blk_below (g := gb107) (o := .cells #[.string a0_0, .slice A0_1 l0_1.length c0_1, .string a0_2, .string a0_3, .int .i64 a0_4, .int .i64 a0_5, .string a0_6, .string a0_7, .int .i64 a0_8, .int .i64 a0_9, .string a0_10, .string a0_11, .string a0_12, .string a0_13] 38 (0, 0)) (by (with_reducible repeat (first | refine blk_drewN ?_ _ | refine blk_drew ?_ | refine blk_alloc ?_ _)); exact BK107.out) hb); have n1_ := Aside0.mk (below_step (by repeat (first | (with_reducible first | exact HB.out | apply below_alloc | apply pw_below_drewN | apply below_drew1 | refine below_set ?_ GE107.out) | exact HB.out)) hb); clear BK107; clear HB; have BK107 := n0_; have HB := n1_; clear n0_ n1_; (try clear hb); (try clear hb2); (try clear hk); (try clear hi); have hcz24_0 : w23.cell? ⟨gb107, 0, none⟩ = some (.string a0_0) := (blk_cell BK107.out 0).trans rfl; have hcz24_1 : w23.cell? ⟨gb107, 1, none⟩ = some (.slice A0_1 l0_1.length c0_1) := (blk_cell BK107.out 1).trans rfl; have hcz24_2 : w23.cell? ⟨gb107, 2, none⟩ = some (.string a0_2) := (blk_cell BK107.out 2).trans rfl; have hcz24_3 : w23.cell? ⟨gb107, 3, none⟩ = some (.string a0_3) := (blk_cell BK107.out 3).trans rfl; have hcz24_4 : w23.cell? ⟨gb107, 4, none⟩ = some (.int .i64 a0_4) := (blk_cell BK107.out 4).trans rfl; have hcz24_5 : w23.cell? ⟨gb107, 5, none⟩ = some (.int .i64 a0_5) := (blk_cell BK107.out 5).trans rfl; have hcz24_6 : w23.cell? ⟨gb107, 6, none⟩ = some (.string a0_6) := (blk_cell BK107.out 6).trans rfl; have hcz24_7 : w23.cell? ⟨gb107, 7, none⟩ = some (.string a0_7) := (blk_cell BK107.out 7).trans rfl; have hcz24_8 : w23.cell? ⟨gb107, 8, none⟩ = some (.int .i64 a0_8) := (blk_cell BK107.out 8).trans rfl; have hcz24_9 : w23.cell? ⟨gb107, 9, none⟩ = some (.int .i64 a0_9) := (blk_cell BK107.out 9).trans rfl; have hcz24_10 : w23.cell? ⟨gb107, 10, none⟩ = some (.string a0_10) := (blk_cell BK107.out 10).trans rfl; have hcz24_11 : w23.cell? ⟨gb107, 11, none⟩ = some (.string a0_11) := (blk_cell BK107.out 11).trans rfl; have hcz24_12 : w23.cell? ⟨gb107, 12, none⟩ = some (.string a0_12) := (blk_cell BK107.out 12).trans rfl; have hcz24_13 : w23.cell? ⟨gb107, 13, none⟩ = some (.string a0_13) := (blk_cell BK107.out 13).trans rfl; have hfz24_0 := blk_frozen BK107.out 0; have hfz24_1 := blk_frozen BK107.out 1; have hfz24_2 := blk_frozen BK107.out 2; have hfz24_3 := blk_frozen BK107.out 3; have hfz24_4 := blk_frozen BK107.out 4; have hfz24_5 := blk_frozen BK107.out 5; have hfz24_6 := blk_frozen BK107.out 6; have hfz24_7 := blk_frozen BK107.out 7; have hfz24_8 := blk_frozen BK107.out 8; have hfz24_9 := blk_frozen BK107.out 9; have hfz24_10 := blk_frozen BK107.out 10; have hfz24_11 := blk_frozen BK107.out 11; have hfz24_12 := blk_frozen BK107.out 12; have hfz24_13 := blk_frozen BK107.out 13))
              go_ret
              exact ⟨by first | rfl | (simp [errW_none, errW_some] <;> rfl) | (simp [*, errW_none, errW_some] <;> rfl), by repeat (first | (with_reducible first | exact HB.out | apply below_alloc | apply pw_below_drewN | apply below_drew1 | refine below_set ?_ GE107.out) | exact HB.out)⟩
            · rw [if_neg c18] at H
              have c18b0 : decide (2147483647 < (a0_11.size : Int)) = false := decide_eq_false c18
              have c18b1 : decide (2147483647 < a0_11.size) = false := decide_eq_false (by omega)
              clear c18
              by_cases c25 : (a0_12.size : Int) > 2147483647
              · rw [if_pos c25] at H
                have c25b0 : decide (2147483647 < (a0_12.size : Int)) = true := decide_eq_true c25
                have c25b1 : decide (2147483647 < a0_12.size) = true := decide_eq_true (by omega)
                clear c25
                obtain rfl := Option.some.inj H
                go_enter Tryd.func15, Tryd.ntmps15
                go_wp2_with (first | ((with_reducible refine gate_dst (N := 1) rfl ?_); refine box_event ?hg (N := 1) ?hd (cs := #[.string a0_0, .slice A0_1 l0_1.length c0_1, .string a0_2, .string a0_3, .int .i64 a0_4, .int .i64 a0_5, .string a0_6, .string a0_7, .int .i64 a0_8, .int .i64 a0_9, .string a0_10, .string a0_11, .string a0_12, .string a0_13]) (t := 38) ?hr ?_; (case hd => rfl); (case hg => rfl); (case hr => first | (go_simp; done) | (go_simp; rfl)); intro gb107 hg w26 hbox hb; have n0_ := Aside0.mk (below_step (by repeat (first | (with_reducible first | exact HB.out | apply below_alloc | apply pw_below_drewN | apply below_drew1) | exact HB.out)) hb); have n1_ := Aside0.mk (hbox); have n2_ := Aside0.mk ((by rw [hg]; exact (below_size (by repeat (first | (with_reducible first | exact HB.out | apply below_alloc | apply pw_below_drewN | apply below_drew1) | exact HB.out))) : w.heap.size ≤ gb107)); have n3_ := Aside0.mk ((by rw [hg]; exact (below_size (by repeat (first | (with_reducible first | exact HB.out | apply below_alloc | apply pw_below_drewN | apply below_drew1) | exact HB.out))) : w.heap.size ≤ gb107)); clear HB; have HB := n0_; have BK107 := n1_; have GW107 := n2_; have GE107 := n3_; clear n0_ n1_ n2_ n3_; clear hb hbox hg; have hcz27_0 : w26.cell? ⟨gb107, 0, none⟩ = some (.string a0_0) := (blk_cell BK107.out 0).trans rfl; have hcz27_1 : w26.cell? ⟨gb107, 1, none⟩ = some (.slice A0_1 l0_1.length c0_1) := (blk_cell BK107.out 1).trans rfl; have hcz27_2 : w26.cell? ⟨gb107, 2, none⟩ = some (.string a0_2) := (blk_cell BK107.out 2).trans rfl; have hcz27_3 : w26.cell? ⟨gb107, 3, none⟩ = some (.string a0_3) := (blk_cell BK107.out 3).trans rfl; have hcz27_4 : w26.cell? ⟨gb107, 4, none⟩ = some (.int .i64 a0_4) := (blk_cell BK107.out 4).trans rfl; have hcz27_5 : w26.cell? ⟨gb107, 5, none⟩ = some (.int .i64 a0_5) := (blk_cell BK107.out 5).trans rfl; have hcz27_6 : w26.cell? ⟨gb107, 6, none⟩ = some (.string a0_6) := (blk_cell BK107.out 6).trans rfl; have hcz27_7 : w26.cell? ⟨gb107, 7, none⟩ = some (.string a0_7) := (blk_cell BK107.out 7).trans rfl; have hcz27_8 : w26.cell? ⟨gb107, 8, none⟩ = some (.int .i64 a0_8) := (blk_cell BK107.out 8).trans rfl; have hcz27_9 : w26.cell? ⟨gb107, 9, none⟩ = some (.int .i64 a0_9) := (blk_cell BK107.out 9).trans rfl; have hcz27_10 : w26.cell? ⟨gb107, 10, none⟩ = some (.string a0_10) := (blk_cell BK107.out 10).trans rfl; have hcz27_11 : w26.cell? ⟨gb107, 11, none⟩ = some (.string a0_11) := (blk_cell BK107.out 11).trans rfl; have hcz27_12 : w26.cell? ⟨gb107, 12, none⟩ = some (.string a0_12) := (blk_cell BK107.out 12).trans rfl; have hcz27_13 : w26.cell? ⟨gb107, 13, none⟩ = some (.string a0_13) := (blk_cell BK107.out 13).trans rfl; have hfz27_0 := blk_frozen BK107.out 0; have hfz27_1 := blk_frozen BK107.out 1; have hfz27_2 := blk_frozen BK107.out 2; have hfz27_3 := blk_frozen BK107.out 3; have hfz27_4 := blk_frozen BK107.out 4; have hfz27_5 := blk_frozen BK107.out 5; have hfz27_6 := blk_frozen BK107.out 6; have hfz27_7 := blk_frozen BK107.out 7; have hfz27_8 := blk_frozen BK107.out 8; have hfz27_9 := blk_frozen BK107.out 9; have hfz27_10 := blk_frozen BK107.out 10; have hfz27_11 := blk_frozen BK107.out 11; have hfz27_12 := blk_frozen BK107.out 12; have hfz27_13 := blk_frozen BK107.out 13) | ((with_reducible refine gate_callee (f := 36) rfl ?_); refine goesL_ (some 9) rfl rfl Tryd.func36 (by kernel_rfl) rfl #[.slice A0_1 l0_1.length c0_1] rfl (by (try simp only [List.map_toArray, List.map_cons, List.map_nil]); first | done | rfl | (simp only [List.length_drop, List.length_take]; rfl)) ?_; (with_reducible refine (laws_zzFits16.calls k _ _ l0_1 true _ ?side1 ?side2 A5.out).mono ?_); (case side1 => repeat (first | exact (Kd.C_below HR0_1.out HB.out) | (with_reducible refine Kd.C_alloc ?_ _) | (with_reducible refine Kd.C_drewN ?_ _) | (with_reducible refine Kd.C_drew ?_))); (case side2 => exact HC0_1.out); rintro e w' ⟨rfl, ⟨nd, rfl⟩⟩; refine ⟨_, rfl, ?_⟩) | ((with_reducible refine gate_callee (f := 27) rfl ?_); refine goesL_ (some 13) rfl rfl Tryd.func27 (by kernel_rfl) rfl #[.agg #[.string a0_2, .string a0_3, .int .i64 a0_4, .int .i64 a0_5]] rfl (by (try simp only [List.map_toArray, List.map_cons, List.map_nil]); first | done | rfl | (simp only [List.length_drop, List.length_take]; rfl)) ?_; (with_reducible refine (laws_zzFits22.calls a0_2 a0_3 a0_4 a0_5 true _ A7.out).mono ?_); rintro e w28 ⟨rfl, hb⟩; refine ⟨_, rfl, ?_⟩; have n0_ := Aside0.mk (blk_below (g := gb107) (o := .cells #[.string a0_0, .slice A0_1 l0_1.length c0_1, .string a0_2, .string a0_3, .int .i64 a0_4, .int .i64 a0_5, .string a0_6, .string a0_7, .int .i64 a0_8, .int .i64 a0_9, .string a0_10, .string a0_11, .string a0_12, .string a0_13] 38 (0, 0)) (by (with_reducible repeat (first | refine blk_drewN ?_ _ | refine blk_drew ?_ | refine blk_alloc ?_ _)); exact BK107.out) hb); have n1_ := Aside0.mk (below_step (by repeat (first | (with_reducible first | exact HB.out | apply below_alloc | apply pw_below_drewN | apply below_drew1 | refine below_set ?_ GE107.out) | exact HB.out)) hb); clear BK107; clear HB; have BK107 := n0_; have HB := n1_; clear n0_ n1_; (try clear hb); (try clear hb2); (try clear hk); (try clear hi); have hcz29_0 : w28.cell? ⟨gb107, 0, none⟩ = some (.string a0_0) := (blk_cell BK107.out 0).trans rfl; have hcz29_1 : w28.cell? ⟨gb107, 1, none⟩ = some (.slice A0_1 l0_1.length c0_1) := (blk_cell BK107.out 1).trans rfl; have hcz29_2 : w28.cell? ⟨gb107, 2, none⟩ = some (.string a0_2) := (blk_cell BK107.out 2).trans rfl; have hcz29_3 : w28.cell? ⟨gb107, 3, none⟩ = some (.string a0_3) := (blk_cell BK107.out 3).trans rfl; have hcz29_4 : w28.cell? ⟨gb107, 4, none⟩ = some (.int .i64 a0_4) := (blk_cell BK107.out 4).trans rfl; have hcz29_5 : w28.cell? ⟨gb107, 5, none⟩ = some (.int .i64 a0_5) := (blk_cell BK107.out 5).trans rfl; have hcz29_6 : w28.cell? ⟨gb107, 6, none⟩ = some (.string a0_6) := (blk_cell BK107.out 6).trans rfl; have hcz29_7 : w28.cell? ⟨gb107, 7, none⟩ = some (.string a0_7) := (blk_cell BK107.out 7).trans rfl; have hcz29_8 : w28.cell? ⟨gb107, 8, none⟩ = some (.int .i64 a0_8) := (blk_cell BK107.out 8).trans rfl; have hcz29_9 : w28.cell? ⟨gb107, 9, none⟩ = some (.int .i64 a0_9) := (blk_cell BK107.out 9).trans rfl; have hcz29_10 : w28.cell? ⟨gb107, 10, none⟩ = some (.string a0_10) := (blk_cell BK107.out 10).trans rfl; have hcz29_11 : w28.cell? ⟨gb107, 11, none⟩ = some (.string a0_11) := (blk_cell BK107.out 11).trans rfl; have hcz29_12 : w28.cell? ⟨gb107, 12, none⟩ = some (.string a0_12) := (blk_cell BK107.out 12).trans rfl; have hcz29_13 : w28.cell? ⟨gb107, 13, none⟩ = some (.string a0_13) := (blk_cell BK107.out 13).trans rfl; have hfz29_0 := blk_frozen BK107.out 0; have hfz29_1 := blk_frozen BK107.out 1; have hfz29_2 := blk_frozen BK107.out 2; have hfz29_3 := blk_frozen BK107.out 3; have hfz29_4 := blk_frozen BK107.out 4; have hfz29_5 := blk_frozen BK107.out 5; have hfz29_6 := blk_frozen BK107.out 6; have hfz29_7 := blk_frozen BK107.out 7; have hfz29_8 := blk_frozen BK107.out 8; have hfz29_9 := blk_frozen BK107.out 9; have hfz29_10 := blk_frozen BK107.out 10; have hfz29_11 := blk_frozen BK107.out 11; have hfz29_12 := blk_frozen BK107.out 12; have hfz29_13 := blk_frozen BK107.out 13) | ((with_reducible refine gate_callee (f := 27) rfl ?_); refine goesL_ (some 17) rfl rfl Tryd.func27 (by kernel_rfl) rfl #[.agg #[.string a0_6, .string a0_7, .int .i64 a0_8, .int .i64 a0_9]] rfl (by (try simp only [List.map_toArray, List.map_cons, List.map_nil]); first | done | rfl | (simp only [List.length_drop, List.length_take]; rfl)) ?_; (with_reducible refine (laws_zzFits22.calls a0_6 a0_7 a0_8 a0_9 true _ A9.out).mono ?_); rintro e w30 ⟨rfl, hb⟩; refine ⟨_, rfl, ?_⟩; have n0_ := Aside0.mk (blk_below (g := gb107) (o := .cells #[.string a0_0, .slice A0_1 l0_1.length c0_1, .string a0_2, .string a0_3, .int .i64 a0_4, .int .i64 a0_5, .string a0_6, .string a0_7, .int .i64 a0_8, .int .i64 a0_9, .string a0_10, .string a0_11, .string a0_12, .string a0_13] 38 (0, 0)) (by (with_reducible repeat (first | refine blk_drewN ?_ _ | refine blk_drew ?_ | refine blk_alloc ?_ _)); exact BK107.out) hb); have n1_ := Aside0.mk (below_step (by repeat (first | (with_reducible first | exact HB.out | apply below_alloc | apply pw_below_drewN | apply below_drew1 | refine below_set ?_ GE107.out) | exact HB.out)) hb); clear BK107; clear HB; have BK107 := n0_; have HB := n1_; clear n0_ n1_; (try clear hb); (try clear hb2); (try clear hk); (try clear hi); have hcz31_0 : w30.cell? ⟨gb107, 0, none⟩ = some (.string a0_0) := (blk_cell BK107.out 0).trans rfl; have hcz31_1 : w30.cell? ⟨gb107, 1, none⟩ = some (.slice A0_1 l0_1.length c0_1) := (blk_cell BK107.out 1).trans rfl; have hcz31_2 : w30.cell? ⟨gb107, 2, none⟩ = some (.string a0_2) := (blk_cell BK107.out 2).trans rfl; have hcz31_3 : w30.cell? ⟨gb107, 3, none⟩ = some (.string a0_3) := (blk_cell BK107.out 3).trans rfl; have hcz31_4 : w30.cell? ⟨gb107, 4, none⟩ = some (.int .i64 a0_4) := (blk_cell BK107.out 4).trans rfl; have hcz31_5 : w30.cell? ⟨gb107, 5, none⟩ = some (.int .i64 a0_5) := (blk_cell BK107.out 5).trans rfl; have hcz31_6 : w30.cell? ⟨gb107, 6, none⟩ = some (.string a0_6) := (blk_cell BK107.out 6).trans rfl; have hcz31_7 : w30.cell? ⟨gb107, 7, none⟩ = some (.string a0_7) := (blk_cell BK107.out 7).trans rfl; have hcz31_8 : w30.cell? ⟨gb107, 8, none⟩ = some (.int .i64 a0_8) := (blk_cell BK107.out 8).trans rfl; have hcz31_9 : w30.cell? ⟨gb107, 9, none⟩ = some (.int .i64 a0_9) := (blk_cell BK107.out 9).trans rfl; have hcz31_10 : w30.cell? ⟨gb107, 10, none⟩ = some (.string a0_10) := (blk_cell BK107.out 10).trans rfl; have hcz31_11 : w30.cell? ⟨gb107, 11, none⟩ = some (.string a0_11) := (blk_cell BK107.out 11).trans rfl; have hcz31_12 : w30.cell? ⟨gb107, 12, none⟩ = some (.string a0_12) := (blk_cell BK107.out 12).trans rfl; have hcz31_13 : w30.cell? ⟨gb107, 13, none⟩ = some (.string a0_13) := (blk_cell BK107.out 13).trans rfl; have hfz31_0 := blk_frozen BK107.out 0; have hfz31_1 := blk_frozen BK107.out 1; have hfz31_2 := blk_frozen BK107.out 2; have hfz31_3 := blk_frozen BK107.out 3; have hfz31_4 := blk_frozen BK107.out 4; have hfz31_5 := blk_frozen BK107.out 5; have hfz31_6 := blk_frozen BK107.out 6; have hfz31_7 := blk_frozen BK107.out 7; have hfz31_8 := blk_frozen BK107.out 8; have hfz31_9 := blk_frozen BK107.out 9; have hfz31_10 := blk_frozen BK107.out 10; have hfz31_11 := blk_frozen BK107.out 11; have hfz31_12 := blk_frozen BK107.out 12; have hfz31_13 := blk_frozen BK107.out 13))
                go_ret
                exact ⟨by first | rfl | (simp [errW_none, errW_some] <;> rfl) | (simp [*, errW_none, errW_some] <;> rfl), by repeat (first | (with_reducible first | exact HB.out | apply below_alloc | apply pw_below_drewN | apply below_drew1 | refine below_set ?_ GE107.out) | exact HB.out)⟩
              · rw [if_neg c25] at H
                have c25b0 : decide (2147483647 < (a0_12.size : Int)) = false := decide_eq_false c25
                have c25b1 : decide (2147483647 < a0_12.size) = false := decide_eq_false (by omega)
                clear c25
                by_cases c32 : (a0_13.size : Int) > 2147483647
                · rw [if_pos c32] at H
                  have c32b0 : decide (2147483647 < (a0_13.size : Int)) = true := decide_eq_true c32
                  have c32b1 : decide (2147483647 < a0_13.size) = true := decide_eq_true (by omega)
                  clear c32
                  obtain rfl := Option.some.inj H
                  go_enter Tryd.func15, Tryd.ntmps15
                  go_wp2_with (first | ((with_reducible refine gate_dst (N := 1) rfl ?_); refine box_event ?hg (N := 1) ?hd (cs := #[.string a0_0, .slice A0_1 l0_1.length c0_1, .string a0_2, .string a0_3, .int .i64 a0_4, .int .i64 a0_5, .string a0_6, .string a0_7, .int .i64 a0_8, .int .i64 a0_9, .string a0_10, .string a0_11, .string a0_12, .string a0_13]) (t := 38) ?hr ?_; (case hd => rfl); (case hg => rfl); (case hr => first | (go_simp; done) | (go_simp; rfl)); intro gb107 hg w33 hbox hb; have n0_ := Aside0.mk (below_step (by repeat (first | (with_reducible first | exact HB.out | apply below_alloc | apply pw_below_drewN | apply below_drew1) | exact HB.out)) hb); have n1_ := Aside0.mk (hbox); have n2_ := Aside0.mk ((by rw [hg]; exact (below_size (by repeat (first | (with_reducible first | exact HB.out | apply below_alloc | apply pw_below_drewN | apply below_drew1) | exact HB.out))) : w.heap.size ≤ gb107)); have n3_ := Aside0.mk ((by rw [hg]; exact (below_size (by repeat (first | (with_reducible first | exact HB.out | apply below_alloc | apply pw_below_drewN | apply below_drew1) | exact HB.out))) : w.heap.size ≤ gb107)); clear HB; have HB := n0_; have BK107 := n1_; have GW107 := n2_; have GE107 := n3_; clear n0_ n1_ n2_ n3_; clear hb hbox hg; have hcz34_0 : w33.cell? ⟨gb107, 0, none⟩ = some (.string a0_0) := (blk_cell BK107.out 0).trans rfl; have hcz34_1 : w33.cell? ⟨gb107, 1, none⟩ = some (.slice A0_1 l0_1.length c0_1) := (blk_cell BK107.out 1).trans rfl; have hcz34_2 : w33.cell? ⟨gb107, 2, none⟩ = some (.string a0_2) := (blk_cell BK107.out 2).trans rfl; have hcz34_3 : w33.cell? ⟨gb107, 3, none⟩ = some (.string a0_3) := (blk_cell BK107.out 3).trans rfl; have hcz34_4 : w33.cell? ⟨gb107, 4, none⟩ = some (.int .i64 a0_4) := (blk_cell BK107.out 4).trans rfl; have hcz34_5 : w33.cell? ⟨gb107, 5, none⟩ = some (.int .i64 a0_5) := (blk_cell BK107.out 5).trans rfl; have hcz34_6 : w33.cell? ⟨gb107, 6, none⟩ = some (.string a0_6) := (blk_cell BK107.out 6).trans rfl; have hcz34_7 : w33.cell? ⟨gb107, 7, none⟩ = some (.string a0_7) := (blk_cell BK107.out 7).trans rfl; have hcz34_8 : w33.cell? ⟨gb107, 8, none⟩ = some (.int .i64 a0_8) := (blk_cell BK107.out 8).trans rfl; have hcz34_9 : w33.cell? ⟨gb107, 9, none⟩ = some (.int .i64 a0_9) := (blk_cell BK107.out 9).trans rfl; have hcz34_10 : w33.cell? ⟨gb107, 10, none⟩ = some (.string a0_10) := (blk_cell BK107.out 10).trans rfl; have hcz34_11 : w33.cell? ⟨gb107, 11, none⟩ = some (.string a0_11) := (blk_cell BK107.out 11).trans rfl; have hcz34_12 : w33.cell? ⟨gb107, 12, none⟩ = some (.string a0_12) := (blk_cell BK107.out 12).trans rfl; have hcz34_13 : w33.cell? ⟨gb107, 13, none⟩ = some (.string a0_13) := (blk_cell BK107.out 13).trans rfl; have hfz34_0 := blk_frozen BK107.out 0; have hfz34_1 := blk_frozen BK107.out 1; have hfz34_2 := blk_frozen BK107.out 2; have hfz34_3 := blk_frozen BK107.out 3; have hfz34_4 := blk_frozen BK107.out 4; have hfz34_5 := blk_frozen BK107.out 5; have hfz34_6 := blk_frozen BK107.out 6; have hfz34_7 := blk_frozen BK107.out 7; have hfz34_8 := blk_frozen BK107.out 8; have hfz34_9 := blk_frozen BK107.out 9; have hfz34_10 := blk_frozen BK107.out 10; have hfz34_11 := blk_frozen BK107.out 11; have hfz34_12 := blk_frozen BK107.out 12; have hfz34_13 := blk_frozen BK107.out 13) | ((with_reducible refine gate_callee (f := 36) rfl ?_); refine goesL_ (some 9) rfl rfl Tryd.func36 (by kernel_rfl) rfl #[.slice A0_1 l0_1.length c0_1] rfl (by (try simp only [List.map_toArray, List.map_cons, List.map_nil]); first | done | rfl | (simp only [List.length_drop, List.length_take]; rfl)) ?_; (with_reducible refine (laws_zzFits16.calls k _ _ l0_1 true _ ?side1 ?side2 A5.out).mono ?_); (case side1 => repeat (first | exact (Kd.C_below HR0_1.out HB.out) | (with_reducible refine Kd.C_alloc ?_ _) | (with_reducible refine Kd.C_drewN ?_ _) | (with_reducible refine Kd.C_drew ?_))); (case side2 => exact HC0_1.out); rintro e w' ⟨rfl, ⟨nd, rfl⟩⟩; refine ⟨_, rfl, ?_⟩) | ((with_reducible refine gate_callee (f := 27) rfl ?_); refine goesL_ (some 13) rfl rfl Tryd.func27 (by kernel_rfl) rfl #[.agg #[.string a0_2, .string a0_3, .int .i64 a0_4, .int .i64 a0_5]] rfl (by (try simp only [List.map_toArray, List.map_cons, List.map_nil]); first | done | rfl | (simp only [List.length_drop, List.length_take]; rfl)) ?_; (with_reducible refine (laws_zzFits22.calls a0_2 a0_3 a0_4 a0_5 true _ A7.out).mono ?_); rintro e w35 ⟨rfl, hb⟩; refine ⟨_, rfl, ?_⟩; have n0_ := Aside0.mk (blk_below (g := gb107) (o := .cells #[.string a0_0, .slice A0_1 l0_1.length c0_1, .string a0_2, .string a0_3, .int .i64 a0_4, .int .i64 a0_5, .string a0_6, .string a0_7, .int .i64 a0_8, .int .i64 a0_9, .string a0_10, .string a0_11, .string a0_12, .string a0_13] 38 (0, 0)) (by (with_reducible repeat (first | refine blk_drewN ?_ _ | refine blk_drew ?_ | refine blk_alloc ?_ _)); exact BK107.out) hb); have n1_ := Aside0.mk (below_step (by repeat (first | (with_reducible first | exact HB.out | apply below_alloc | apply pw_below_drewN | apply below_drew1 | refine below_set ?_ GE107.out) | exact HB.out)) hb); clear BK107; clear HB; have BK107 := n0_; have HB := n1_; clear n0_ n1_; (try clear hb); (try clear hb2); (try clear hk); (try clear hi); have hcz36_0 : w35.cell? ⟨gb107, 0, none⟩ = some (.string a0_0) := (blk_cell BK107.out 0).trans rfl; have hcz36_1 : w35.cell? ⟨gb107, 1, none⟩ = some (.slice A0_1 l0_1.length c0_1) := (blk_cell BK107.out 1).trans rfl; have hcz36_2 : w35.cell? ⟨gb107, 2, none⟩ = some (.string a0_2) := (blk_cell BK107.out 2).trans rfl; have hcz36_3 : w35.cell? ⟨gb107, 3, none⟩ = some (.string a0_3) := (blk_cell BK107.out 3).trans rfl; have hcz36_4 : w35.cell? ⟨gb107, 4, none⟩ = some (.int .i64 a0_4) := (blk_cell BK107.out 4).trans rfl; have hcz36_5 : w35.cell? ⟨gb107, 5, none⟩ = some (.int .i64 a0_5) := (blk_cell BK107.out 5).trans rfl; have hcz36_6 : w35.cell? ⟨gb107, 6, none⟩ = some (.string a0_6) := (blk_cell BK107.out 6).trans rfl; have hcz36_7 : w35.cell? ⟨gb107, 7, none⟩ = some (.string a0_7) := (blk_cell BK107.out 7).trans rfl; have hcz36_8 : w35.cell? ⟨gb107, 8, none⟩ = some (.int .i64 a0_8) := (blk_cell BK107.out 8).trans rfl; have hcz36_9 : w35.cell? ⟨gb107, 9, none⟩ = some (.int .i64 a0_9) := (blk_cell BK107.out 9).trans rfl; have hcz36_10 : w35.cell? ⟨gb107, 10, none⟩ = some (.string a0_10) := (blk_cell BK107.out 10).trans rfl; have hcz36_11 : w35.cell? ⟨gb107, 11, none⟩ = some (.string a0_11) := (blk_cell BK107.out 11).trans rfl; have hcz36_12 : w35.cell? ⟨gb107, 12, none⟩ = some (.string a0_12) := (blk_cell BK107.out 12).trans rfl; have hcz36_13 : w35.cell? ⟨gb107, 13, none⟩ = some (.string a0_13) := (blk_cell BK107.out 13).trans rfl; have hfz36_0 := blk_frozen BK107.out 0; have hfz36_1 := blk_frozen BK107.out 1; have hfz36_2 := blk_frozen BK107.out 2; have hfz36_3 := blk_frozen BK107.out 3; have hfz36_4 := blk_frozen BK107.out 4; have hfz36_5 := blk_frozen BK107.out 5; have hfz36_6 := blk_frozen BK107.out 6; have hfz36_7 := blk_frozen BK107.out 7; have hfz36_8 := blk_frozen BK107.out 8; have hfz36_9 := blk_frozen BK107.out 9; have hfz36_10 := blk_frozen BK107.out 10; have hfz36_11 := blk_frozen BK107.out 11; have hfz36_12 := blk_frozen BK107.out 12; have hfz36_13 := blk_frozen BK107.out 13) | ((with_reducible refine gate_callee (f := 27) rfl ?_); refine goesL_ (some 17) rfl rfl Tryd.func27 (by kernel_rfl) rfl #[.agg #[.string a0_6, .string a0_7, .int .i64 a0_8, .int .i64 a0_9]] rfl (by (try simp only [List.map_toArray, List.map_cons, List.map_nil]); first | done | rfl | (simp only [List.length_drop, List.length_take]; rfl)) ?_; (with_reducible refine (laws_zzFits22.calls a0_6 a0_7 a0_8 a0_9 true _ A9.out).mono ?_); rintro e w37 ⟨rfl, hb⟩; refine ⟨_, rfl, ?_⟩; have n0_ := Aside0.mk (blk_below (g := gb107) (o := .cells #[.string a0_0, .slice A0_1 l0_1.length c0_1, .string a0_2, .string a0_3, .int .i64 a0_4, .int .i64 a0_5, .string a0_6, .string a0_7, .int .i64 a0_8, .int .i64 a0_9, .string a0_10, .string a0_11, .string a0_12, .string a0_13] 38 (0, 0)) (by (with_reducible repeat (first | refine blk_drewN ?_ _ | refine blk_drew ?_ | refine blk_alloc ?_ _)); exact BK107.out) hb); have n1_ := Aside0.mk (below_step (by repeat (first | (with_reducible first | exact HB.out | apply below_alloc | apply pw_below_drewN | apply below_drew1 | refine below_set ?_ GE107.out) | exact HB.out)) hb); clear BK107; clear HB; have BK107 := n0_; have HB := n1_; clear n0_ n1_; (try clear hb); (try clear hb2); (try clear hk); (try clear hi); have hcz38_0 : w37.cell? ⟨gb107, 0, none⟩ = some (.string a0_0) := (blk_cell BK107.out 0).trans rfl; have hcz38_1 : w37.cell? ⟨gb107, 1, none⟩ = some (.slice A0_1 l0_1.length c0_1) := (blk_cell BK107.out 1).trans rfl; have hcz38_2 : w37.cell? ⟨gb107, 2, none⟩ = some (.string a0_2) := (blk_cell BK107.out 2).trans rfl; have hcz38_3 : w37.cell? ⟨gb107, 3, none⟩ = some (.string a0_3) := (blk_cell BK107.out 3).trans rfl; have hcz38_4 : w37.cell? ⟨gb107, 4, none⟩ = some (.int .i64 a0_4) := (blk_cell BK107.out 4).trans rfl; have hcz38_5 : w37.cell? ⟨gb107, 5, none⟩ = some (.int .i64 a0_5) := (blk_cell BK107.out 5).trans rfl; have hcz38_6 : w37.cell? ⟨gb107, 6, none⟩ = some (.string a0_6) := (blk_cell BK107.out 6).trans rfl; have hcz38_7 : w37.cell? ⟨gb107, 7, none⟩ = some (.string a0_7) := (blk_cell BK107.out 7).trans rfl; have hcz38_8 : w37.cell? ⟨gb107, 8, none⟩ = some (.int .i64 a0_8) := (blk_cell BK107.out 8).trans rfl; have hcz38_9 : w37.cell? ⟨gb107, 9, none⟩ = some (.int .i64 a0_9) := (blk_cell BK107.out 9).trans rfl; have hcz38_10 : w37.cell? ⟨gb107, 10, none⟩ = some (.string a0_10) := (blk_cell BK107.out 10).trans rfl; have hcz38_11 : w37.cell? ⟨gb107, 11, none⟩ = some (.string a0_11) := (blk_cell BK107.out 11).trans rfl; have hcz38_12 : w37.cell? ⟨gb107, 12, none⟩ = some (.string a0_12) := (blk_cell BK107.out 12).trans rfl; have hcz38_13 : w37.cell? ⟨gb107, 13, none⟩ = some (.string a0_13) := (blk_cell BK107.out 13).trans rfl; have hfz38_0 := blk_frozen BK107.out 0; have hfz38_1 := blk_frozen BK107.out 1; have hfz38_2 := blk_frozen BK107.out 2; have hfz38_3 := blk_frozen BK107.out 3; have hfz38_4 := blk_frozen BK107.out 4; have hfz38_5 := blk_frozen BK107.out 5; have hfz38_6 := blk_frozen BK107.out 6; have hfz38_7 := blk_frozen BK107.out 7; have hfz38_8 := blk_frozen BK107.out 8; have hfz38_9 := blk_frozen BK107.out 9; have hfz38_10 := blk_frozen BK107.out 10; have hfz38_11 := blk_frozen BK107.out 11; have hfz38_12 := blk_frozen BK107.out 12; have hfz38_13 := blk_frozen BK107.out 13))
                  go_ret
                  exact ⟨by first | rfl | (simp [errW_none, errW_some] <;> rfl) | (simp [*, errW_none, errW_some] <;> rfl), by repeat (first | (with_reducible first | exact HB.out | apply below_alloc | apply pw_below_drewN | apply below_drew1 | refine below_set ?_ GE107.out) | exact HB.out)⟩
                · rw [if_neg c32] at H
                  have c32b0 : decide (2147483647 < (a0_13.size : Int)) = false := decide_eq_false c32
                  have c32b1 : decide (2147483647 < a0_13.size) = false := decide_eq_false (by omega)
                  clear c32
                  obtain rfl := Option.some.inj H
                  go_enter Tryd.func15, Tryd.ntmps15
                  go_wp2_with (first | ((with_reducible refine gate_dst (N := 1) rfl ?_); refine box_event ?hg (N := 1) ?hd (cs := #[.string a0_0, .slice A0_1 l0_1.length c0_1, .string a0_2, .string a0_3, .int .i64 a0_4, .int .i64 a0_5, .string a0_6, .string a0_7, .int .i64 a0_8, .int .i64 a0_9, .string a0_10, .string a0_11, .string a0_12, .string a0_13]) (t := 38) ?hr ?_; (case hd => rfl); (case hg => rfl); (case hr => first | (go_simp; done) | (go_simp; rfl)); intro gb107 hg w39 hbox hb; have n0_ := Aside0.mk (below_step (by repeat (first | (with_reducible first | exact HB.out | apply below_alloc | apply pw_below_drewN | apply below_drew1) | exact HB.out)) hb); have n1_ := Aside0.mk (hbox); have n2_ := Aside0.mk ((by rw [hg]; exact (below_size (by repeat (first | (with_reducible first | exact HB.out | apply below_alloc | apply pw_below_drewN | apply below_drew1) | exact HB.out))) : w.heap.size ≤ gb107)); have n3_ := Aside0.mk ((by rw [hg]; exact (below_size (by repeat (first | (with_reducible first | exact HB.out | apply below_alloc | apply pw_below_drewN | apply below_drew1) | exact HB.out))) : w.heap.size ≤ gb107)); clear HB; have HB := n0_; have BK107 := n1_; have GW107 := n2_; have GE107 := n3_; clear n0_ n1_ n2_ n3_; clear hb hbox hg; have hcz40_0 : w39.cell? ⟨gb107, 0, none⟩ = some (.string a0_0) := (blk_cell BK107.out 0).trans rfl; have hcz40_1 : w39.cell? ⟨gb107, 1, none⟩ = some (.slice A0_1 l0_1.length c0_1) := (blk_cell BK107.out 1).trans rfl; have hcz40_2 : w39.cell? ⟨gb107, 2, none⟩ = some (.string a0_2) := (blk_cell BK107.out 2).trans rfl; have hcz40_3 : w39.cell? ⟨gb107, 3, none⟩ = some (.string a0_3) := (blk_cell BK107.out 3).trans rfl; have hcz40_4 : w39.cell? ⟨gb107, 4, none⟩ = some (.int .i64 a0_4) := (blk_cell BK107.out 4).trans rfl; have hcz40_5 : w39.cell? ⟨gb107, 5, none⟩ = some (.int .i64 a0_5) := (blk_cell BK107.out 5).trans rfl; have hcz40_6 : w39.cell? ⟨gb107, 6, none⟩ = some (.string a0_6) := (blk_cell BK107.out 6).trans rfl; have hcz40_7 : w39.cell? ⟨gb107, 7, none⟩ = some (.string a0_7) := (blk_cell BK107.out 7).trans rfl; have hcz40_8 : w39.cell? ⟨gb107, 8, none⟩ = some (.int .i64 a0_8) := (blk_cell BK107.out 8).trans rfl; have hcz40_9 : w39.cell? ⟨gb107, 9, none⟩ = some (.int .i64 a0_9) := (blk_cell BK107.out 9).trans rfl; have hcz40_10 : w39.cell? ⟨gb107, 10, none⟩ = some (.string a0_10) := (blk_cell BK107.out 10).trans rfl; have hcz40_11 : w39.cell? ⟨gb107, 11, none⟩ = some (.string a0_11) := (blk_cell BK107.out 11).trans rfl; have hcz40_12 : w39.cell? ⟨gb107, 12, none⟩ = some (.string a0_12) := (blk_cell BK107.out 12).trans rfl; have hcz40_13 : w39.cell? ⟨gb107, 13, none⟩ = some (.string a0_13) := (blk_cell BK107.out 13).trans rfl; have hfz40_0 := blk_frozen BK107.out 0; have hfz40_1 := blk_frozen BK107.out 1; have hfz40_2 := blk_frozen BK107.out 2; have hfz40_3 := blk_frozen BK107.out 3; have hfz40_4 := blk_frozen BK107.out 4; have hfz40_5 := blk_frozen BK107.out 5; have hfz40_6 := blk_frozen BK107.out 6; have hfz40_7 := blk_frozen BK107.out 7; have hfz40_8 := blk_frozen BK107.out 8; have hfz40_9 := blk_frozen BK107.out 9; have hfz40_10 := blk_frozen BK107.out 10; have hfz40_11 := blk_frozen BK107.out 11; have hfz40_12 := blk_frozen BK107.out 12; have hfz40_13 := blk_frozen BK107.out 13) | ((with_reducible refine gate_callee (f := 36) rfl ?_); refine goesL_ (some 9) rfl rfl Tryd.func36 (by kernel_rfl) rfl #[.slice A0_1 l0_1.length c0_1] rfl (by (try simp only [List.map_toArray, List.map_cons, List.map_nil]); first | done | rfl | (simp only [List.length_drop, List.length_take]; rfl)) ?_; (with_reducible refine (laws_zzFits16.calls k _ _ l0_1 true _ ?side1 ?side2 A5.out).mono ?_); (case side1 => repeat (first | exact (Kd.C_below HR0_1.out HB.out) | (with_reducible refine Kd.C_alloc ?_ _) | (with_reducible refine Kd.C_drewN ?_ _) | (with_reducible refine Kd.C_drew ?_))); (case side2 => exact HC0_1.out); rintro e w' ⟨rfl, ⟨nd, rfl⟩⟩; refine ⟨_, rfl, ?_⟩) | ((with_reducible refine gate_callee (f := 27) rfl ?_); refine goesL_ (some 13) rfl rfl Tryd.func27 (by kernel_rfl) rfl #[.agg #[.string a0_2, .string a0_3, .int .i64 a0_4, .int .i64 a0_5]] rfl (by (try simp only [List.map_toArray, List.map_cons, List.map_nil]); first | done | rfl | (simp only [List.length_drop, List.length_take]; rfl)) ?_; (with_reducible refine (laws_zzFits22.calls a0_2 a0_3 a0_4 a0_5 true _ A7.out).mono ?_); rintro e w41 ⟨rfl, hb⟩; refine ⟨_, rfl, ?_⟩; have n0_ := Aside0.mk (blk_below (g := gb107) (o := .cells #[.string a0_0, .slice A0_1 l0_1.length c0_1, .string a0_2, .string a0_3, .int .i64 a0_4, .int .i64 a0_5, .string a0_6, .string a0_7, .int .i64 a0_8, .int .i64 a0_9, .string a0_10, .string a0_11, .string a0_12, .string a0_13] 38 (0, 0)) (by (with_reducible repeat (first | refine blk_drewN ?_ _ | refine blk_drew ?_ | refine blk_alloc ?_ _)); exact BK107.out) hb); have n1_ := Aside0.mk (below_step (by repeat (first | (with_reducible first | exact HB.out | apply below_alloc | apply pw_below_drewN | apply below_drew1 | refine below_set ?_ GE107.out) | exact HB.out)) hb); clear BK107; clear HB; have BK107 := n0_; have HB := n1_; clear n0_ n1_; (try clear hb); (try clear hb2); (try clear hk); (try clear hi); have hcz42_0 : w41.cell? ⟨gb107, 0, none⟩ = some (.string a0_0) := (blk_cell BK107.out 0).trans rfl; have hcz42_1 : w41.cell? ⟨gb107, 1, none⟩ = some (.slice A0_1 l0_1.length c0_1) := (blk_cell BK107.out 1).trans rfl; have hcz42_2 : w41.cell? ⟨gb107, 2, none⟩ = some (.string a0_2) := (blk_cell BK107.out 2).trans rfl; have hcz42_3 : w41.cell? ⟨gb107, 3, none⟩ = some (.string a0_3) := (blk_cell BK107.out 3).trans rfl; have hcz42_4 : w41.cell? ⟨gb107, 4, none⟩ = some (.int .i64 a0_4) := (blk_cell BK107.out 4).trans rfl; have hcz42_5 : w41.cell? ⟨gb107, 5, none⟩ = some (.int .i64 a0_5) := (blk_cell BK107.out 5).trans rfl; have hcz42_6 : w41.cell? ⟨gb107, 6, none⟩ = some (.string a0_6) := (blk_cell BK107.out 6).trans rfl; have hcz42_7 : w41.cell? ⟨gb107, 7, none⟩ = some (.string a0_7) := (blk_cell BK107.out 7).trans rfl; have hcz42_8 : w41.cell? ⟨gb107, 8, none⟩ = some (.int .i64 a0_8) := (blk_cell BK107.out 8).trans rfl; have hcz42_9 : w41.cell? ⟨gb107, 9, none⟩ = some (.int .i64 a0_9) := (blk_cell BK107.out 9).trans rfl; have hcz42_10 : w41.cell? ⟨gb107, 10, none⟩ = some (.string a0_10) := (blk_cell BK107.out 10).trans rfl; have hcz42_11 : w41.cell? ⟨gb107, 11, none⟩ = some (.string a0_11) := (blk_cell BK107.out 11).trans rfl; have hcz42_12 : w41.cell? ⟨gb107, 12, none⟩ = some (.string a0_12) := (blk_cell BK107.out 12).trans rfl; have hcz42_13 : w41.cell? ⟨gb107, 13, none⟩ = some (.string a0_13) := (blk_cell BK107.out 13).trans rfl; have hfz42_0 := blk_frozen BK107.out 0; have hfz42_1 := blk_frozen BK107.out 1; have hfz42_2 := blk_frozen BK107.out 2; have hfz42_3 := blk_frozen BK107.out 3; have hfz42_4 := blk_frozen BK107.out 4; have hfz42_5 := blk_frozen BK107.out 5; have hfz42_6 := blk_frozen BK107.out 6; have hfz42_7 := blk_frozen BK107.out 7; have hfz42_8 := blk_frozen BK107.out 8; have hfz42_9 := blk_frozen BK107.out 9; have hfz42_10 := blk_frozen BK107.out 10; have hfz42_11 := blk_frozen BK107.out 11; have hfz42_12 := blk_frozen BK107.out 12; have hfz42_13 := blk_frozen BK107.out 13) | ((with_reducible refine gate_callee (f := 27) rfl ?_); refine goesL_ (some 17) rfl rfl Tryd.func27 (by kernel_rfl) rfl #[.agg #[.string a0_6, .string a0_7, .int .i64 a0_8, .int .i64 a0_9]] rfl (by (try simp only [List.map_toArray, List.map_cons, List.map_nil]); first | done | rfl | (simp only [List.length_drop, List.length_take]; rfl)) ?_; (with_reducible refine (laws_zzFits22.calls a0_6 a0_7 a0_8 a0_9 true _ A9.out).mono ?_); rintro e w43 ⟨rfl, hb⟩; refine ⟨_, rfl, ?_⟩; have n0_ := Aside0.mk (blk_below (g := gb107) (o := .cells #[.string a0_0, .slice A0_1 l0_1.length c0_1, .string a0_2, .string a0_3, .int .i64 a0_4, .int .i64 a0_5, .string a0_6, .string a0_7, .int .i64 a0_8, .int .i64 a0_9, .string a0_10, .string a0_11, .string a0_12, .string a0_13] 38 (0, 0)) (by (with_reducible repeat (first | refine blk_drewN ?_ _ | refine blk_drew ?_ | refine blk_alloc ?_ _)); exact BK107.out) hb); have n1_ := Aside0.mk (below_step (by repeat (first | (with_reducible first | exact HB.out | apply below_alloc | apply pw_below_drewN | apply below_drew1 | refine below_set ?_ GE107.out) | exact HB.out)) hb); clear BK107; clear HB; have BK107 := n0_; have HB := n1_; clear n0_ n1_; (try clear hb); (try clear hb2); (try clear hk); (try clear hi); have hcz44_0 : w43.cell? ⟨gb107, 0, none⟩ = some (.string a0_0) := (blk_cell BK107.out 0).trans rfl; have hcz44_1 : w43.cell? ⟨gb107, 1, none⟩ = some (.slice A0_1 l0_1.length c0_1) := (blk_cell BK107.out 1).trans rfl; have hcz44_2 : w43.cell? ⟨gb107, 2, none⟩ = some (.string a0_2) := (blk_cell BK107.out 2).trans rfl; have hcz44_3 : w43.cell? ⟨gb107, 3, none⟩ = some (.string a0_3) := (blk_cell BK107.out 3).trans rfl; have hcz44_4 : w43.cell? ⟨gb107, 4, none⟩ = some (.int .i64 a0_4) := (blk_cell BK107.out 4).trans rfl; have hcz44_5 : w43.cell? ⟨gb107, 5, none⟩ = some (.int .i64 a0_5) := (blk_cell BK107.out 5).trans rfl; have hcz44_6 : w43.cell? ⟨gb107, 6, none⟩ = some (.string a0_6) := (blk_cell BK107.out 6).trans rfl; have hcz44_7 : w43.cell? ⟨gb107, 7, none⟩ = some (.string a0_7) := (blk_cell BK107.out 7).trans rfl; have hcz44_8 : w43.cell? ⟨gb107, 8, none⟩ = some (.int .i64 a0_8) := (blk_cell BK107.out 8).trans rfl; have hcz44_9 : w43.cell? ⟨gb107, 9, none⟩ = some (.int .i64 a0_9) := (blk_cell BK107.out 9).trans rfl; have hcz44_10 : w43.cell? ⟨gb107, 10, none⟩ = some (.string a0_10) := (blk_cell BK107.out 10).trans rfl; have hcz44_11 : w43.cell? ⟨gb107, 11, none⟩ = some (.string a0_11) := (blk_cell BK107.out 11).trans rfl; have hcz44_12 : w43.cell? ⟨gb107, 12, none⟩ = some (.string a0_12) := (blk_cell BK107.out 12).trans rfl; have hcz44_13 : w43.cell? ⟨gb107, 13, none⟩ = some (.string a0_13) := (blk_cell BK107.out 13).trans rfl; have hfz44_0 := blk_frozen BK107.out 0; have hfz44_1 := blk_frozen BK107.out 1; have hfz44_2 := blk_frozen BK107.out 2; have hfz44_3 := blk_frozen BK107.out 3; have hfz44_4 := blk_frozen BK107.out 4; have hfz44_5 := blk_frozen BK107.out 5; have hfz44_6 := blk_frozen BK107.out 6; have hfz44_7 := blk_frozen BK107.out 7; have hfz44_8 := blk_frozen BK107.out 8; have hfz44_9 := blk_frozen BK107.out 9; have hfz44_10 := blk_frozen BK107.out 10; have hfz44_11 := blk_frozen BK107.out 11; have hfz44_12 := blk_frozen BK107.out 12; have hfz44_13 := blk_frozen BK107.out 13))
                  go_ret
                  exact ⟨by first | rfl | (simp [errW_none, errW_some] <;> rfl) | (simp [*, errW_none, errW_some] <;> rfl), by repeat (first | (with_reducible first | exact HB.out | apply below_alloc | apply pw_below_drewN | apply below_drew1 | refine below_set ?_ GE107.out) | exact HB.out)⟩
        · replace c10 := Bool.eq_false_iff.mpr c10
          subst c10
          have H1 : (some false) = some r := by rw [if_neg (show ¬ (false = true) by decide)] at H; exact H
          clear H
          have H := H1
          clear H1
          obtain rfl := Option.some.inj H
          go_enter Tryd.func15, Tryd.ntmps15
          go_wp2_with (first | ((with_reducible refine gate_dst (N := 1) rfl ?_); refine box_event ?hg (N := 1) ?hd (cs := #[.string a0_0, .slice A0_1 l0_1.length c0_1, .string a0_2, .string a0_3, .int .i64 a0_4, .int .i64 a0_5, .string a0_6, .string a0_7, .int .i64 a0_8, .int .i64 a0_9, .string a0_10, .string a0_11, .string a0_12, .string a0_13]) (t := 38) ?hr ?_; (case hd => rfl); (case hg => rfl); (case hr => first | (go_simp; done) | (go_simp; rfl)); intro gb107 hg w45 hbox hb; have n0_ := Aside0.mk (below_step (by repeat (first | (with_reducible first | exact HB.out | apply below_alloc | apply pw_below_drewN | apply below_drew1) | exact HB.out)) hb); have n1_ := Aside0.mk (hbox); have n2_ := Aside0.mk ((by rw [hg]; exact (below_size (by repeat (first | (with_reducible first | exact HB.out | apply below_alloc | apply pw_below_drewN | apply below_drew1) | exact HB.out))) : w.heap.size ≤ gb107)); have n3_ := Aside0.mk ((by rw [hg]; exact (below_size (by repeat (first | (with_reducible first | exact HB.out | apply below_alloc | apply pw_below_drewN | apply below_drew1) | exact HB.out))) : w.heap.size ≤ gb107)); clear HB; have HB := n0_; have BK107 := n1_; have GW107 := n2_; have GE107 := n3_; clear n0_ n1_ n2_ n3_; clear hb hbox hg; have hcz46_0 : w45.cell? ⟨gb107, 0, none⟩ = some (.string a0_0) := (blk_cell BK107.out 0).trans rfl; have hcz46_1 : w45.cell? ⟨gb107, 1, none⟩ = some (.slice A0_1 l0_1.length c0_1) := (blk_cell BK107.out 1).trans rfl; have hcz46_2 : w45.cell? ⟨gb107, 2, none⟩ = some (.string a0_2) := (blk_cell BK107.out 2).trans rfl; have hcz46_3 : w45.cell? ⟨gb107, 3, none⟩ = some (.string a0_3) := (blk_cell BK107.out 3).trans rfl; have hcz46_4 : w45.cell? ⟨gb107, 4, none⟩ = some (.int .i64 a0_4) := (blk_cell BK107.out 4).trans rfl; have hcz46_5 : w45.cell? ⟨gb107, 5, none⟩ = some (.int .i64 a0_5) := (blk_cell BK107.out 5).trans rfl; have hcz46_6 : w45.cell? ⟨gb107, 6, none⟩ = some (.string a0_6) := (blk_cell BK107.out 6).trans rfl; have hcz46_7 : w45.cell? ⟨gb107, 7, none⟩ = some (.string a0_7) := (blk_cell BK107.out 7).trans rfl; have hcz46_8 : w45.cell? ⟨gb107, 8, none⟩ = some (.int .i64 a0_8) := (blk_cell BK107.out 8).trans rfl; have hcz46_9 : w45.cell? ⟨gb107, 9, none⟩ = some (.int .i64 a0_9) := (blk_cell BK107.out 9).trans rfl; have hcz46_10 : w45.cell? ⟨gb107, 10, none⟩ = some (.string a0_10) := (blk_cell BK107.out 10).trans rfl; have hcz46_11 : w45.cell? ⟨gb107, 11, none⟩ = some (.string a0_11) := (blk_cell BK107.out 11).trans rfl; have hcz46_12 : w45.cell? ⟨gb107, 12, none⟩ = some (.string a0_12) := (blk_cell BK107.out 12).trans rfl; have hcz46_13 : w45.cell? ⟨gb107, 13, none⟩ = some (.string a0_13) := (blk_cell BK107.out 13).trans rfl; have hfz46_0 := blk_frozen BK107.out 0; have hfz46_1 := blk_frozen BK107.out 1; have hfz46_2 := blk_frozen BK107.out 2; have hfz46_3 := blk_frozen BK107.out 3; have hfz46_4 := blk_frozen BK107.out 4; have hfz46_5 := blk_frozen BK107.out 5; have hfz46_6 := blk_frozen BK107.out 6; have hfz46_7 := blk_frozen BK107.out 7; have hfz46_8 := blk_frozen BK107.out 8; have hfz46_9 := blk_frozen BK107.out 9; have hfz46_10 := blk_frozen BK107.out 10; have hfz46_11 := blk_frozen BK107.out 11; have hfz46_12 := blk_frozen BK107.out 12; have hfz46_13 := blk_frozen BK107.out 13) | ((with_reducible refine gate_callee (f := 36) rfl ?_); refine goesL_ (some 9) rfl rfl Tryd.func36 (by kernel_rfl) rfl #[.slice A0_1 l0_1.length c0_1] rfl (by (try simp only [List.map_toArray, List.map_cons, List.map_nil]); first | done | rfl | (simp only [List.length_drop, List.length_take]; rfl)) ?_; (with_reducible refine (laws_zzFits16.calls k _ _ l0_1 true _ ?side1 ?side2 A5.out).mono ?_); (case side1 => repeat (first | exact (Kd.C_below HR0_1.out HB.out) | (with_reducible refine Kd.C_alloc ?_ _) | (with_reducible refine Kd.C_drewN ?_ _) | (with_reducible refine Kd.C_drew ?_))); (case side2 => exact HC0_1.out); rintro e w' ⟨rfl, ⟨nd, rfl⟩⟩; refine ⟨_, rfl, ?_⟩) | ((with_reducible refine gate_callee (f := 27) rfl ?_); refine goesL_ (some 13) rfl rfl Tryd.func27 (by kernel_rfl) rfl #[.agg #[.string a0_2, .string a0_3, .int .i64 a0_4, .int .i64 a0_5]] rfl (by (try simp only [List.map_toArray, List.map_cons, List.map_nil]); first | done | rfl | (simp only [List.length_drop, List.length_take]; rfl)) ?_; (with_reducible refine (laws_zzFits22.calls a0_2 a0_3 a0_4 a0_5 true _ A7.out).mono ?_); rintro e w47 ⟨rfl, hb⟩; refine ⟨_, rfl, ?_⟩; have n0_ := Aside0.mk (blk_below (g := gb107) (o := .cells #[.string a0_0, .slice A0_1 l0_1.length c0_1, .string a0_2, .string a0_3, .int .i64 a0_4, .int .i64 a0_5, .string a0_6, .string a0_7, .int .i64 a0_8, .int .i64 a0_9, .string a0_10, .string a0_11, .string a0_12, .string a0_13] 38 (0, 0)) (by (with_reducible repeat (first | refine blk_drewN ?_ _ | refine blk_drew ?_ | refine blk_alloc ?_ _)); exact BK107.out) hb); have n1_ := Aside0.mk (below_step (by repeat (first | (with_reducible first | exact HB.out | apply below_alloc | apply pw_below_drewN | apply below_drew1 | refine below_set ?_ GE107.out) | exact HB.out)) hb); clear BK107; clear HB; have BK107 := n0_; have HB := n1_; clear n0_ n1_; (try clear hb); (try clear hb2); (try clear hk); (try clear hi); have hcz48_0 : w47.cell? ⟨gb107, 0, none⟩ = some (.string a0_0) := (blk_cell BK107.out 0).trans rfl; have hcz48_1 : w47.cell? ⟨gb107, 1, none⟩ = some (.slice A0_1 l0_1.length c0_1) := (blk_cell BK107.out 1).trans rfl; have hcz48_2 : w47.cell? ⟨gb107, 2, none⟩ = some (.string a0_2) := (blk_cell BK107.out 2).trans rfl; have hcz48_3 : w47.cell? ⟨gb107, 3, none⟩ = some (.string a0_3) := (blk_cell BK107.out 3).trans rfl; have hcz48_4 : w47.cell? ⟨gb107, 4, none⟩ = some (.int .i64 a0_4) := (blk_cell BK107.out 4).trans rfl; have hcz48_5 : w47.cell? ⟨gb107, 5, none⟩ = some (.int .i64 a0_5) := (blk_cell BK107.out 5).trans rfl; have hcz48_6 : w47.cell? ⟨gb107, 6, none⟩ = some (.string a0_6) := (blk_cell BK107.out 6).trans rfl; have hcz48_7 : w47.cell? ⟨gb107, 7, none⟩ = some (.string a0_7) := (blk_cell BK107.out 7).trans rfl; have hcz48_8 : w47.cell? ⟨gb107, 8, none⟩ = some (.int .i64 a0_8) := (blk_cell BK107.out 8).trans rfl; have hcz48_9 : w47.cell? ⟨gb107, 9, none⟩ = some (.int .i64 a0_9) := (blk_cell BK107.out 9).trans rfl; have hcz48_10 : w47.cell? ⟨gb107, 10, none⟩ = some (.string a0_10) := (blk_cell BK107.out 10).trans rfl; have hcz48_11 : w47.cell? ⟨gb107, 11, none⟩ = some (.string a0_11) := (blk_cell BK107.out 11).trans rfl; have hcz48_12 : w47.cell? ⟨gb107, 12, none⟩ = some (.string a0_12) := (blk_cell BK107.out 12).trans rfl; have hcz48_13 : w47.cell? ⟨gb107, 13, none⟩ = some (.string a0_13) := (blk_cell BK107.out 13).trans rfl; have hfz48_0 := blk_frozen BK107.out 0; have hfz48_1 := blk_frozen BK107.out 1; have hfz48_2 := blk_frozen BK107.out 2; have hfz48_3 := blk_frozen BK107.out 3; have hfz48_4 := blk_frozen BK107.out 4; have hfz48_5 := blk_frozen BK107.out 5; have hfz48_6 := blk_frozen BK107.out 6; have hfz48_7 := blk_frozen BK107.out 7; have hfz48_8 := blk_frozen BK107.out 8; have hfz48_9 := blk_frozen BK107.out 9; have hfz48_10 := blk_frozen BK107.out 10; have hfz48_11 := blk_frozen BK107.out 11; have hfz48_12 := blk_frozen BK107.out 12; have hfz48_13 := blk_frozen BK107.out 13) | ((with_reducible refine gate_callee (f := 27) rfl ?_); refine goesL_ (some 17) rfl rfl Tryd.func27 (by kernel_rfl) rfl #[.agg #[.string a0_6, .string a0_7, .int .i64 a0_8, .int .i64 a0_9]] rfl (by (try simp only [List.map_toArray, List.map_cons, List.map_nil]); first | done | rfl | (simp only [List.length_drop, List.length_take]; rfl)) ?_; (with_reducible refine (laws_zzFits22.calls a0_6 a0_7 a0_8 a0_9 false _ A9.out).mono ?_); rintro e w49 ⟨rfl, hb⟩; refine ⟨_, rfl, ?_⟩; have n0_ := Aside0.mk (blk_below (g := gb107) (o := .cells #[.string a0_0, .slice A0_1 l0_1.length c0_1, .string a0_2, .string a0_3, .int .i64 a0_4, .int .i64 a0_5, .string a0_6, .string a0_7, .int .i64 a0_8, .int .i64 a0_9, .string a0_10, .string a0_11, .string a0_12, .string a0_13] 38 (0, 0)) (by (with_reducible repeat (first | refine blk_drewN ?_ _ | refine blk_drew ?_ | refine blk_alloc ?_ _)); exact BK107.out) hb); have n1_ := Aside0.mk (below_step (by repeat (first | (with_reducible first | exact HB.out | apply below_alloc | apply pw_below_drewN | apply below_drew1 | refine below_set ?_ GE107.out) | exact HB.out)) hb); clear BK107; clear HB; have BK107 := n0_; have HB := n1_; clear n0_ n1_; (try clear hb); (try clear hb2); (try clear hk); (try clear hi)))
          go_ret
          exact ⟨by first | rfl | (simp [errW_none, errW_some] <;> rfl) | (simp [*, errW_none, errW_some] <;> rfl), by repeat (first | (with_reducible first | exact HB.out | apply below_alloc | apply pw_below_drewN | apply below_drew1 | refine below_set ?_ GE107.out) | exact HB.out)⟩
      · replace c8 := Bool.eq_false_iff.mpr c8
        subst c8
        have H1 : (some false) = some r := by rw [if_neg (show ¬ (false = true) by decide)] at H; exact H
        clear H
        have H := H1
        clear H1
        obtain rfl := Option.some.inj H
        go_enter Tryd.func15, Tryd.ntmps15
        go_wp2_with (first | ((with_reducible refine gate_dst (N := 1) rfl ?_); refine box_event ?hg (N := 1) ?hd (cs := #[.string a0_0, .slice A0_1 l0_1.length c0_1, .string a0_2, .string a0_3, .int .i64 a0_4, .int .i64 a0_5, .string a0_6, .string a0_7, .int .i64 a0_8, .int .i64 a0_9, .string a0_10, .string a0_11, .string a0_12, .string a0_13]) (t := 38) ?hr ?_; (case hd => rfl); (case hg => rfl); (case hr => first | (go_simp; done) | (go_simp; rfl)); intro gb107 hg w50 hbox hb; have n0_ := Aside0.mk (below_step (by repeat (first | (with_reducible first | exact HB.out | apply below_alloc | apply pw_below_drewN | apply below_drew1) | exact HB.out)) hb); have n1_ := Aside0.mk (hbox); have n2_ := Aside0.mk ((by rw [hg]; exact (below_size (by repeat (first | (with_reducible first | exact HB.out | apply below_alloc | apply pw_below_drewN | apply below_drew1) | exact HB.out))) : w.heap.size ≤ gb107)); have n3_ := Aside0.mk ((by rw [hg]; exact (below_size (by repeat (first | (with_reducible first | exact HB.out | apply below_alloc | apply pw_below_drewN | apply below_drew1) | exact HB.out))) : w.heap.size ≤ gb107)); clear HB; have HB := n0_; have BK107 := n1_; have GW107 := n2_; have GE107 := n3_; clear n0_ n1_ n2_ n3_; clear hb hbox hg; have hcz51_0 : w50.cell? ⟨gb107, 0, none⟩ = some (.string a0_0) := (blk_cell BK107.out 0).trans rfl; have hcz51_1 : w50.cell? ⟨gb107, 1, none⟩ = some (.slice A0_1 l0_1.length c0_1) := (blk_cell BK107.out 1).trans rfl; have hcz51_2 : w50.cell? ⟨gb107, 2, none⟩ = some (.string a0_2) := (blk_cell BK107.out 2).trans rfl; have hcz51_3 : w50.cell? ⟨gb107, 3, none⟩ = some (.string a0_3) := (blk_cell BK107.out 3).trans rfl; have hcz51_4 : w50.cell? ⟨gb107, 4, none⟩ = some (.int .i64 a0_4) := (blk_cell BK107.out 4).trans rfl; have hcz51_5 : w50.cell? ⟨gb107, 5, none⟩ = some (.int .i64 a0_5) := (blk_cell BK107.out 5).trans rfl; have hcz51_6 : w50.cell? ⟨gb107, 6, none⟩ = some (.string a0_6) := (blk_cell BK107.out 6).trans rfl; have hcz51_7 : w50.cell? ⟨gb107, 7, none⟩ = some (.string a0_7) := (blk_cell BK107.out 7).trans rfl; have hcz51_8 : w50.cell? ⟨gb107, 8, none⟩ = some (.int .i64 a0_8) := (blk_cell BK107.out 8).trans rfl; have hcz51_9 : w50.cell? ⟨gb107, 9, none⟩ = some (.int .i64 a0_9) := (blk_cell BK107.out 9).trans rfl; have hcz51_10 : w50.cell? ⟨gb107, 10, none⟩ = some (.string a0_10) := (blk_cell BK107.out 10).trans rfl; have hcz51_11 : w50.cell? ⟨gb107, 11, none⟩ = some (.string a0_11) := (blk_cell BK107.out 11).trans rfl; have hcz51_12 : w50.cell? ⟨gb107, 12, none⟩ = some (.string a0_12) := (blk_cell BK107.out 12).trans rfl; have hcz51_13 : w50.cell? ⟨gb107, 13, none⟩ = some (.string a0_13) := (blk_cell BK107.out 13).trans rfl; have hfz51_0 := blk_frozen BK107.out 0; have hfz51_1 := blk_frozen BK107.out 1; have hfz51_2 := blk_frozen BK107.out 2; have hfz51_3 := blk_frozen BK107.out 3; have hfz51_4 := blk_frozen BK107.out 4; have hfz51_5 := blk_frozen BK107.out 5; have hfz51_6 := blk_frozen BK107.out 6; have hfz51_7 := blk_frozen BK107.out 7; have hfz51_8 := blk_frozen BK107.out 8; have hfz51_9 := blk_frozen BK107.out 9; have hfz51_10 := blk_frozen BK107.out 10; have hfz51_11 := blk_frozen BK107.out 11; have hfz51_12 := blk_frozen BK107.out 12; have hfz51_13 := blk_frozen BK107.out 13) | ((with_reducible refine gate_callee (f := 36) rfl ?_); refine goesL_ (some 9) rfl rfl Tryd.func36 (by kernel_rfl) rfl #[.slice A0_1 l0_1.length c0_1] rfl (by (try simp only [List.map_toArray, List.map_cons, List.map_nil]); first | done | rfl | (simp only [List.length_drop, List.length_take]; rfl)) ?_; (with_reducible refine (laws_zzFits16.calls k _ _ l0_1 true _ ?side1 ?side2 A5.out).mono ?_); (case side1 => repeat (first | exact (Kd.C_below HR0_1.out HB.out) | (with_reducible refine Kd.C_alloc ?_ _) | (with_reducible refine Kd.C_drewN ?_ _) | (with_reducible refine Kd.C_drew ?_))); (case side2 => exact HC0_1.out); rintro e w' ⟨rfl, ⟨nd, rfl⟩⟩; refine ⟨_, rfl, ?_⟩) | ((with_reducible refine gate_callee (f := 27) rfl ?_); refine goesL_ (some 13) rfl rfl Tryd.func27 (by kernel_rfl) rfl #[.agg #[.string a0_2, .string a0_3, .int .i64 a0_4, .int .i64 a0_5]] rfl (by (try simp only [List.map_toArray, List.map_cons, List.map_nil]); first | done | rfl | (simp only [List.length_drop, List.length_take]; rfl)) ?_; (with_reducible refine (laws_zzFits22.calls a0_2 a0_3 a0_4 a0_5 false _ A7.out).mono ?_); rintro e w52 ⟨rfl, hb⟩; refine ⟨_, rfl, ?_⟩; have n0_ := Aside0.mk (blk_below (g := gb107) (o := .cells #[.string a0_0, .slice A0_1 l0_1.length c0_1, .string a0_2, .string a0_3, .int .i64 a0_4, .int .i64 a0_5, .string a0_6, .string a0_7, .int .i64 a0_8, .int .i64 a0_9, .string a0_10, .string a0_11, .string a0_12, .string a0_13] 38 (0, 0)) (by (with_reducible repeat (first | refine blk_drewN ?_ _ | refine blk_drew ?_ | refine blk_alloc ?_ _)); exact BK107.out) hb); have n1_ := Aside0.mk (below_step (by repeat (first | (with_reducible first | exact HB.out | apply below_alloc | apply pw_below_drewN | apply below_drew1 | refine below_set ?_ GE107.out) | exact HB.out)) hb); clear BK107; clear HB; have BK107 := n0_; have HB := n1_; clear n0_ n1_; (try clear hb); (try clear hb2); (try clear hk); (try clear hi)))
        go_ret
        exact ⟨by first | rfl | (simp [errW_none, errW_some] <;> rfl) | (simp [*, errW_none, errW_some] <;> rfl), by repeat (first | (with_reducible first | exact HB.out | apply below_alloc | apply pw_below_drewN | apply below_drew1 | refine below_set ?_ GE107.out) | exact HB.out)⟩
    · replace c6 := Bool.eq_false_iff.mpr c6
      subst c6
      have H1 : (some false) = some r := by rw [if_neg (show ¬ (false = true) by decide)] at H; exact H
      clear H
      have H := H1
      clear H1
      obtain rfl := Option.some.inj H
      go_enter Tryd.func15, Tryd.ntmps15
      go_wp2_with (first | ((with_reducible refine gate_dst (N := 1) rfl ?_); refine box_event ?hg (N := 1) ?hd (cs := #[.string a0_0, .slice A0_1 l0_1.length c0_1, .string a0_2, .string a0_3, .int .i64 a0_4, .int .i64 a0_5, .string a0_6, .string a0_7, .int .i64 a0_8, .int .i64 a0_9, .string a0_10, .string a0_11, .string a0_12, .string a0_13]) (t := 38) ?hr ?_; (case hd => rfl); (case hg => rfl); (case hr => first | (go_simp; done) | (go_simp; rfl)); intro gb107 hg w53 hbox hb; have n0_ := Aside0.mk (below_step (by repeat (first | (with_reducible first | exact HB.out | apply below_alloc | apply pw_below_drewN | apply below_drew1) | exact HB.out)) hb); have n1_ := Aside0.mk (hbox); have n2_ := Aside0.mk ((by rw [hg]; exact (below_size (by repeat (first | (with_reducible first | exact HB.out | apply below_alloc | apply pw_below_drewN | apply below_drew1) | exact HB.out))) : w.heap.size ≤ gb107)); have n3_ := Aside0.mk ((by rw [hg]; exact (below_size (by repeat (first | (with_reducible first | exact HB.out | apply below_alloc | apply pw_below_drewN | apply below_drew1) | exact HB.out))) : w.heap.size ≤ gb107)); clear HB; have HB := n0_; have BK107 := n1_; have GW107 := n2_; have GE107 := n3_; clear n0_ n1_ n2_ n3_; clear hb hbox hg; have hcz54_0 : w53.cell? ⟨gb107, 0, none⟩ = some (.string a0_0) := (blk_cell BK107.out 0).trans rfl; have hcz54_1 : w53.cell? ⟨gb107, 1, none⟩ = some (.slice A0_1 l0_1.length c0_1) := (blk_cell BK107.out 1).trans rfl; have hcz54_2 : w53.cell? ⟨gb107, 2, none⟩ = some (.string a0_2) := (blk_cell BK107.out 2).trans rfl; have hcz54_3 : w53.cell? ⟨gb107, 3, none⟩ = some (.string a0_3) := (blk_cell BK107.out 3).trans rfl; have hcz54_4 : w53.cell? ⟨gb107, 4, none⟩ = some (.int .i64 a0_4) := (blk_cell BK107.out 4).trans rfl; have hcz54_5 : w53.cell? ⟨gb107, 5, none⟩ = some (.int .i64 a0_5) := (blk_cell BK107.out 5).trans rfl; have hcz54_6 : w53.cell? ⟨gb107, 6, none⟩ = some (.string a0_6) := (blk_cell BK107.out 6).trans rfl; have hcz54_7 : w53.cell? ⟨gb107, 7, none⟩ = some (.string a0_7) := (blk_cell BK107.out 7).trans rfl; have hcz54_8 : w53.cell? ⟨gb107, 8, none⟩ = some (.int .i64 a0_8) := (blk_cell BK107.out 8).trans rfl; have hcz54_9 : w53.cell? ⟨gb107, 9, none⟩ = some (.int .i64 a0_9) := (blk_cell BK107.out 9).trans rfl; have hcz54_10 : w53.cell? ⟨gb107, 10, none⟩ = some (.string a0_10) := (blk_cell BK107.out 10).trans rfl; have hcz54_11 : w53.cell? ⟨gb107, 11, none⟩ = some (.string a0_11) := (blk_cell BK107.out 11).trans rfl; have hcz54_12 : w53.cell? ⟨gb107, 12, none⟩ = some (.string a0_12) := (blk_cell BK107.out 12).trans rfl; have hcz54_13 : w53.cell? ⟨gb107, 13, none⟩ = some (.string a0_13) := (blk_cell BK107.out 13).trans rfl; have hfz54_0 := blk_frozen BK107.out 0; have hfz54_1 := blk_frozen BK107.out 1; have hfz54_2 := blk_frozen BK107.out 2; have hfz54_3 := blk_frozen BK107.out 3; have hfz54_4 := blk_frozen BK107.out 4; have hfz54_5 := blk_frozen BK107.out 5; have hfz54_6 := blk_frozen BK107.out 6; have hfz54_7 := blk_frozen BK107.out 7; have hfz54_8 := blk_frozen BK107.out 8; have hfz54_9 := blk_frozen BK107.out 9; have hfz54_10 := blk_frozen BK107.out 10; have hfz54_11 := blk_frozen BK107.out 11; have hfz54_12 := blk_frozen BK107.out 12; have hfz54_13 := blk_frozen BK107.out 13) | ((with_reducible refine gate_callee (f := 36) rfl ?_); refine goesL_ (some 9) rfl rfl Tryd.func36 (by kernel_rfl) rfl #[.slice A0_1 l0_1.length c0_1] rfl (by (try simp only [List.map_toArray, List.map_cons, List.map_nil]); first | done | rfl | (simp only [List.length_drop, List.length_take]; rfl)) ?_; (with_reducible refine (laws_zzFits16.calls k _ _ l0_1 false _ ?side1 ?side2 A5.out).mono ?_); (case side1 => repeat (first | exact (Kd.C_below HR0_1.out HB.out) | (with_reducible refine Kd.C_alloc ?_ _) | (with_reducible refine Kd.C_drewN ?_ _) | (with_reducible refine Kd.C_drew ?_))); (case side2 => exact HC0_1.out); rintro e w' ⟨rfl, ⟨nd, rfl⟩⟩; refine ⟨_, rfl, ?_⟩))
      go_ret
      exact ⟨by first | rfl | (simp [errW_none, errW_some] <;> rfl) | (simp [*, errW_none, errW_some] <;> rfl), by repeat (first | (with_reducible first | exact HB.out | apply below_alloc | apply pw_below_drewN | apply below_drew1 | refine below_set ?_ GE107.out) | exact HB.out)⟩

/-! ### laws_zzFits24: function 11 -/
def laws_zzFits24.f (a0_0 : ByteArray) (a0_1 : Int) (a0_2 : ByteArray) (a0_3 : ByteArray) (a0_4 : ByteArray) (a0_5 : Int) (a0_6 : Int) (a0_7 : ByteArray) (a0_8 : ByteArray) : Option (Bool) := if (a0_0.size : Int) > 2147483647 then (some false) else (if (a0_2.size : Int) > 2147483647 then (some false) else ((laws_zzFits22.f a0_3 a0_4 a0_5 a0_6).bind fun t112 => (if t112 = true then (if (a0_7.size : Int) > 2147483647 then (some false) else (if (a0_8.size : Int) > 2147483647 then (some false) else (some true))) else (some false))))
/-! ### spec_IsName40: function 28 -/
def spec_IsName40.l0 : Nat → ByteArray → Int → Int → Option (Bool)
  | 0, _, _, _ => none
  | k + 1, x0, x5, x6 => if x6 < x5 then (if 0 ≤ x6 then (if x6 < (x0.size : Int) then (if (bt x0 x6) ≥ 48 then (if (bt x0 x6) ≤ 57 then (spec_IsName40.l0 k x0 x5 (wrap64 (x6 + 1))) else (if (bt x0 x6) ≥ 97 then (if ((bt x0 x6) ≤ 102) then (spec_IsName40.l0 k x0 x5 (wrap64 (x6 + 1))) else (some false)) else (some false))) else (if (bt x0 x6) ≥ 97 then (if ((bt x0 x6) ≤ 102) then (spec_IsName40.l0 k x0 x5 (wrap64 (x6 + 1))) else (some false)) else (some false))) else (none)) else (none)) else (some ((x0.size : Int) == 40))
def spec_IsName40.f (k : Nat) (a0 : ByteArray) : Option (Bool) := spec_IsName40.l0 k a0 (a0.size : Int) 0
theorem spec_IsName40.mono_l : ∀ k, (∀ y0 y1 y2, LeO (spec_IsName40.l0 k y0 y1 y2) (spec_IsName40.l0 (k + 1) y0 y1 y2))
  | 0 => fun _ _ _ r h => by simp [spec_IsName40.l0] at h
  | k + 1 => by
    have ih0 := spec_IsName40.mono_l k
    · intro y0 y1 y2
      unfold spec_IsName40.l0
      repeat' first
      | (with_reducible exact ih0 _ _ _)
      | (with_reducible exact LeO.refl _)
      | (with_reducible exact LeO.none _)
      | (with_reducible refine LeO.ite ?_ ?_)
      | (with_reducible refine LeO.bind ?_ (fun _ => ?_))
      | exact ih0 _ _ _
      | exact LeO.none _
      | refine LeO.ite ?_ ?_
      | refine LeO.bind ?_ (fun _ => ?_)
theorem spec_IsName40.mono : ∀ a0 k, LeO (spec_IsName40.f k a0) (spec_IsName40.f (k + 1) a0) := by
  intro a0 k
  have ih0 := spec_IsName40.mono_l k
  unfold spec_IsName40.f
  repeat' first
      | (with_reducible exact ih0 _ _ _)
      | (with_reducible exact LeO.refl _)
      | (with_reducible exact LeO.none _)
      | (with_reducible refine LeO.ite ?_ ?_)
      | (with_reducible refine LeO.bind ?_ (fun _ => ?_))
      | exact ih0 _ _ _
      | exact LeO.none _
      | refine LeO.ite ?_ ?_
      | refine LeO.bind ?_ (fun _ => ?_)
set_option maxHeartbeats 8000000 in
set_option maxRecDepth 100000 in
theorem spec_IsName40.calls (k : Nat) (a0 : ByteArray) (r : Bool) (w : World) (h : spec_IsName40.f k a0 = some r) :
    Calls Tryd.prog 28 #[.string a0] w fun e w' => e = .returned (.bool r) ∧ Drawn0 w w' := by
  have H : (spec_IsName40.l0 k a0 (a0.size : Int) 0) = some r := h
  clear h
  have H' := Aside0.mk H
  clear H
  go_enter Tryd.func28, Tryd.ntmps28
  go_wp2
  go_loopg [6] k (fun kq v6 w' => ∃ (x6_1 : Int), v6 = .int .i64 x6_1 ∧ Aside0 (spec_IsName40.l0 kq a0 (a0.size : Int) x6_1 = some r) ∧ Aside0 (kq ≤ k) ∧ Drawn0 w w')
  case atStart => exact ⟨(0), (by first | rfl | (simp; done) | (simp [*]; done)), H', ⟨Nat.le_refl _⟩, by repeat (first | exact Drawn0.refl _ | apply Drawn0.step)⟩
  case round =>
    clear H'
    obtain ⟨x6_1, rfl, HA, HK1, ⟨m1, rfl⟩⟩ := hrel
    cases gk with
    | zero => exact absurd HA.out (by simp [spec_IsName40.l0])
    | succ k1 =>
      have H := HA.out
      clear HA
      simp only [spec_IsName40.l0] at H
      by_cases c2 : x6_1 < (a0.size : Int)
      · rw [if_pos c2] at H
        have c2b0 : decide (x6_1 < (a0.size : Int)) = true := decide_eq_true c2
        clear c2
        by_cases c3 : 0 ≤ x6_1
        · rw [if_pos c3] at H
          have c3b0 : decide (0 ≤ x6_1) = true := decide_eq_true c3
          clear c3
          by_cases c4 : x6_1 < (a0.size : Int)
          · rw [if_pos c4] at H
            have c4b0 : decide (x6_1 < (a0.size : Int)) = true := decide_eq_true c4
            clear c4
            by_cases c6 : (bt a0 x6_1) ≥ 48
            · rw [if_pos c6] at H
              have c6b0 : decide (48 ≤ (bt a0 x6_1)) = true := decide_eq_true c6
              clear c6
              by_cases c8 : (bt a0 x6_1) ≤ 57
              · rw [if_pos c8] at H
                have c8b0 : decide ((bt a0 x6_1) ≤ 57) = true := decide_eq_true c8
                clear c8
                have H' := Aside0.mk H
                clear H
                have p5 : 0 ≤ (x6_1 : Int) := of_decide_eq_true (by first | (with_reducible assumption) | assumption)
                have q5 : x6_1 < (a0.size : Int) := of_decide_eq_true (by first | (with_reducible assumption) | assumption)
                have hx5 := bt_at a0 x6_1
                replace p5 := eq_true p5
                replace q5 := eq_true q5
                have p7 : 0 ≤ (x6_1 : Int) := of_decide_eq_true (by first | (with_reducible assumption) | assumption)
                have q7 : x6_1 < (a0.size : Int) := of_decide_eq_true (by first | (with_reducible assumption) | assumption)
                have hx7 := bt_at a0 x6_1
                replace p7 := eq_true p7
                replace q7 := eq_true q7
                go_wp2
                go_roundg k1
                case measure => have := HK1.out; omega
                case rel => exact ⟨(wrap64 (x6_1 + 1)), (by first | rfl | (simp; done) | (simp [*]; done)), H', ⟨by have := HK1.out; omega⟩, by repeat (first | exact Drawn0.refl _ | apply Drawn0.step)⟩
              · rw [if_neg c8] at H
                have c8b0 : decide ((bt a0 x6_1) ≤ 57) = false := decide_eq_false c8
                clear c8
                by_cases c10 : (bt a0 x6_1) ≥ 97
                · rw [if_pos c10] at H
                  have c10b0 : decide (97 ≤ (bt a0 x6_1)) = true := decide_eq_true c10
                  clear c10
                  by_cases c12 : ((bt a0 x6_1) ≤ 102)
                  · rw [if_pos c12] at H
                    have c12b0 : decide ((bt a0 x6_1) ≤ 102) = true := decide_eq_true c12
                    clear c12
                    have H' := Aside0.mk H
                    clear H
                    have p5 : 0 ≤ (x6_1 : Int) := of_decide_eq_true (by first | (with_reducible assumption) | assumption)
                    have q5 : x6_1 < (a0.size : Int) := of_decide_eq_true (by first | (with_reducible assumption) | assumption)
                    have hx5 := bt_at a0 x6_1
                    replace p5 := eq_true p5
                    replace q5 := eq_true q5
                    have p7 : 0 ≤ (x6_1 : Int) := of_decide_eq_true (by first | (with_reducible assumption) | assumption)
                    have q7 : x6_1 < (a0.size : Int) := of_decide_eq_true (by first | (with_reducible assumption) | assumption)
                    have hx7 := bt_at a0 x6_1
                    replace p7 := eq_true p7
                    replace q7 := eq_true q7
                    have p9 : 0 ≤ (x6_1 : Int) := of_decide_eq_true (by first | (with_reducible assumption) | assumption)
                    have q9 : x6_1 < (a0.size : Int) := of_decide_eq_true (by first | (with_reducible assumption) | assumption)
                    have hx9 := bt_at a0 x6_1
                    replace p9 := eq_true p9
                    replace q9 := eq_true q9
                    have p11 : 0 ≤ (x6_1 : Int) := of_decide_eq_true (by first | (with_reducible assumption) | assumption)
                    have q11 : x6_1 < (a0.size : Int) := of_decide_eq_true (by first | (with_reducible assumption) | assumption)
                    have hx11 := bt_at a0 x6_1
                    replace p11 := eq_true p11
                    replace q11 := eq_true q11
                    go_wp2
                    go_roundg k1
                    case measure => have := HK1.out; omega
                    case rel => exact ⟨(wrap64 (x6_1 + 1)), (by first | rfl | (simp; done) | (simp [*]; done)), H', ⟨by have := HK1.out; omega⟩, by repeat (first | exact Drawn0.refl _ | apply Drawn0.step)⟩
                  · rw [if_neg c12] at H
                    have c12b0 : decide ((bt a0 x6_1) ≤ 102) = false := decide_eq_false c12
                    clear c12
                    obtain rfl := Option.some.inj H
                    have p5 : 0 ≤ (x6_1 : Int) := of_decide_eq_true (by first | (with_reducible assumption) | assumption)
                    have q5 : x6_1 < (a0.size : Int) := of_decide_eq_true (by first | (with_reducible assumption) | assumption)
                    have hx5 := bt_at a0 x6_1
                    replace p5 := eq_true p5
                    replace q5 := eq_true q5
                    have p7 : 0 ≤ (x6_1 : Int) := of_decide_eq_true (by first | (with_reducible assumption) | assumption)
                    have q7 : x6_1 < (a0.size : Int) := of_decide_eq_true (by first | (with_reducible assumption) | assumption)
                    have hx7 := bt_at a0 x6_1
                    replace p7 := eq_true p7
                    replace q7 := eq_true q7
                    have p9 : 0 ≤ (x6_1 : Int) := of_decide_eq_true (by first | (with_reducible assumption) | assumption)
                    have q9 : x6_1 < (a0.size : Int) := of_decide_eq_true (by first | (with_reducible assumption) | assumption)
                    have hx9 := bt_at a0 x6_1
                    replace p9 := eq_true p9
                    replace q9 := eq_true q9
                    have p11 : 0 ≤ (x6_1 : Int) := of_decide_eq_true (by first | (with_reducible assumption) | assumption)
                    have q11 : x6_1 < (a0.size : Int) := of_decide_eq_true (by first | (with_reducible assumption) | assumption)
                    have hx11 := bt_at a0 x6_1
                    replace p11 := eq_true p11
                    replace q11 := eq_true q11
                    go_wp2
                    go_ret
                    exact ⟨by first | rfl | (simp; done) | (simp [*]; done), by repeat (first | exact Drawn0.refl _ | apply Drawn0.step)⟩
                · rw [if_neg c10] at H
                  have c10b0 : decide (97 ≤ (bt a0 x6_1)) = false := decide_eq_false c10
                  clear c10
                  obtain rfl := Option.some.inj H
                  have p5 : 0 ≤ (x6_1 : Int) := of_decide_eq_true (by first | (with_reducible assumption) | assumption)
                  have q5 : x6_1 < (a0.size : Int) := of_decide_eq_true (by first | (with_reducible assumption) | assumption)
                  have hx5 := bt_at a0 x6_1
                  replace p5 := eq_true p5
                  replace q5 := eq_true q5
                  have p7 : 0 ≤ (x6_1 : Int) := of_decide_eq_true (by first | (with_reducible assumption) | assumption)
                  have q7 : x6_1 < (a0.size : Int) := of_decide_eq_true (by first | (with_reducible assumption) | assumption)
                  have hx7 := bt_at a0 x6_1
                  replace p7 := eq_true p7
                  replace q7 := eq_true q7
                  have p9 : 0 ≤ (x6_1 : Int) := of_decide_eq_true (by first | (with_reducible assumption) | assumption)
                  have q9 : x6_1 < (a0.size : Int) := of_decide_eq_true (by first | (with_reducible assumption) | assumption)
                  have hx9 := bt_at a0 x6_1
                  replace p9 := eq_true p9
                  replace q9 := eq_true q9
                  go_wp2
                  go_ret
                  exact ⟨by first | rfl | (simp; done) | (simp [*]; done), by repeat (first | exact Drawn0.refl _ | apply Drawn0.step)⟩
            · rw [if_neg c6] at H
              have c6b0 : decide (48 ≤ (bt a0 x6_1)) = false := decide_eq_false c6
              clear c6
              by_cases c14 : (bt a0 x6_1) ≥ 97
              · rw [if_pos c14] at H
                have c14b0 : decide (97 ≤ (bt a0 x6_1)) = true := decide_eq_true c14
                clear c14
                by_cases c16 : ((bt a0 x6_1) ≤ 102)
                · rw [if_pos c16] at H
                  have c16b0 : decide ((bt a0 x6_1) ≤ 102) = true := decide_eq_true c16
                  clear c16
                  have H' := Aside0.mk H
                  clear H
                  have p5 : 0 ≤ (x6_1 : Int) := of_decide_eq_true (by first | (with_reducible assumption) | assumption)
                  have q5 : x6_1 < (a0.size : Int) := of_decide_eq_true (by first | (with_reducible assumption) | assumption)
                  have hx5 := bt_at a0 x6_1
                  replace p5 := eq_true p5
                  replace q5 := eq_true q5
                  have p13 : 0 ≤ (x6_1 : Int) := of_decide_eq_true (by first | (with_reducible assumption) | assumption)
                  have q13 : x6_1 < (a0.size : Int) := of_decide_eq_true (by first | (with_reducible assumption) | assumption)
                  have hx13 := bt_at a0 x6_1
                  replace p13 := eq_true p13
                  replace q13 := eq_true q13
                  have p15 : 0 ≤ (x6_1 : Int) := of_decide_eq_true (by first | (with_reducible assumption) | assumption)
                  have q15 : x6_1 < (a0.size : Int) := of_decide_eq_true (by first | (with_reducible assumption) | assumption)
                  have hx15 := bt_at a0 x6_1
                  replace p15 := eq_true p15
                  replace q15 := eq_true q15
                  go_wp2
                  go_roundg k1
                  case measure => have := HK1.out; omega
                  case rel => exact ⟨(wrap64 (x6_1 + 1)), (by first | rfl | (simp; done) | (simp [*]; done)), H', ⟨by have := HK1.out; omega⟩, by repeat (first | exact Drawn0.refl _ | apply Drawn0.step)⟩
                · rw [if_neg c16] at H
                  have c16b0 : decide ((bt a0 x6_1) ≤ 102) = false := decide_eq_false c16
                  clear c16
                  obtain rfl := Option.some.inj H
                  have p5 : 0 ≤ (x6_1 : Int) := of_decide_eq_true (by first | (with_reducible assumption) | assumption)
                  have q5 : x6_1 < (a0.size : Int) := of_decide_eq_true (by first | (with_reducible assumption) | assumption)
                  have hx5 := bt_at a0 x6_1
                  replace p5 := eq_true p5
                  replace q5 := eq_true q5
                  have p13 : 0 ≤ (x6_1 : Int) := of_decide_eq_true (by first | (with_reducible assumption) | assumption)
                  have q13 : x6_1 < (a0.size : Int) := of_decide_eq_true (by first | (with_reducible assumption) | assumption)
                  have hx13 := bt_at a0 x6_1
                  replace p13 := eq_true p13
                  replace q13 := eq_true q13
                  have p15 : 0 ≤ (x6_1 : Int) := of_decide_eq_true (by first | (with_reducible assumption) | assumption)
                  have q15 : x6_1 < (a0.size : Int) := of_decide_eq_true (by first | (with_reducible assumption) | assumption)
                  have hx15 := bt_at a0 x6_1
                  replace p15 := eq_true p15
                  replace q15 := eq_true q15
                  go_wp2
                  go_ret
                  exact ⟨by first | rfl | (simp; done) | (simp [*]; done), by repeat (first | exact Drawn0.refl _ | apply Drawn0.step)⟩
              · rw [if_neg c14] at H
                have c14b0 : decide (97 ≤ (bt a0 x6_1)) = false := decide_eq_false c14
                clear c14
                obtain rfl := Option.some.inj H
                have p5 : 0 ≤ (x6_1 : Int) := of_decide_eq_true (by first | (with_reducible assumption) | assumption)
                have q5 : x6_1 < (a0.size : Int) := of_decide_eq_true (by first | (with_reducible assumption) | assumption)
                have hx5 := bt_at a0 x6_1
                replace p5 := eq_true p5
                replace q5 := eq_true q5
                have p13 : 0 ≤ (x6_1 : Int) := of_decide_eq_true (by first | (with_reducible assumption) | assumption)
                have q13 : x6_1 < (a0.size : Int) := of_decide_eq_true (by first | (with_reducible assumption) | assumption)
                have hx13 := bt_at a0 x6_1
                replace p13 := eq_true p13
                replace q13 := eq_true q13
                go_wp2
                go_ret
                exact ⟨by first | rfl | (simp; done) | (simp [*]; done), by repeat (first | exact Drawn0.refl _ | apply Drawn0.step)⟩
          · rw [if_neg c4] at H
            exact absurd H (by simp)
        · rw [if_neg c3] at H
          exact absurd H (by simp)
      · rw [if_neg c2] at H
        have c2b0 : decide (x6_1 < (a0.size : Int)) = false := decide_eq_false c2
        clear c2
        obtain rfl := Option.some.inj H
        go_wp2
        go_ret
        exact ⟨by first | rfl | (simp; done) | (simp [*]; done), by repeat (first | exact Drawn0.refl _ | apply Drawn0.step)⟩

end Go.Proofs.YtddnepddilbikaaDoor.QAll
