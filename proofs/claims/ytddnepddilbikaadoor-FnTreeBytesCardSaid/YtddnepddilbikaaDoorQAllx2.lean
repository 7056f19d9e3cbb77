-- WRITTEN BY A PROGRAM OF THIS SESSION, out of the loaded program, with words of the kit
import Derived.Test.YtddnepddilbikaaDoorQAllx0
import Derived.Test.YtddnepddilbikaaDoorQAllx1
namespace Go.Proofs.YtddnepddilbikaaDoor.QAll
open Go.RowKit Go.Proofs.YtddnepddilbikaaDoorW.PrintWords Go.Proofs.YtddnepddilbikaaDoorW.PrintLast Go.Proofs.YtddnepddilbikaaDoorW.PrintMore
attribute [local go_sem] max2_int min2_int max_two min_two max_three min_three max_four min_four   -- for this text's walks alone
set_option linter.unusedVariables false
set_option linter.unusedSimpArgs false

/-! ### spec_Has: function 42 -/
def spec_Has.l0 : Nat → ByteArray → Int → Int → Int → Option (Bool)
  | 0, _, _, _, _ => none
  | k + 1, x0, x1, x7, x8 => if x8 < x7 then (if 0 ≤ x8 then (if x8 < (x0.size : Int) then (if (bt x0 x8) = x1 then (some true) else (spec_Has.l0 k x0 x1 x7 (wrap64 (x8 + 1)))) else (none)) else (none)) else (some false)
def spec_Has.f (k : Nat) (a0 : ByteArray) (a1 : Int) : Option (Bool) := spec_Has.l0 k a0 a1 (a0.size : Int) 0
theorem spec_Has.mono_l : ∀ k, (∀ y0 y1 y2 y3, LeO (spec_Has.l0 k y0 y1 y2 y3) (spec_Has.l0 (k + 1) y0 y1 y2 y3))
  | 0 => fun _ _ _ _ r h => by simp [spec_Has.l0] at h
  | k + 1 => by
    have ih0 := spec_Has.mono_l k
    · intro y0 y1 y2 y3
      unfold spec_Has.l0
      repeat' first
      | (with_reducible exact ih0 _ _ _ _)
      | (with_reducible exact LeO.refl _)
      | (with_reducible exact LeO.none _)
      | (with_reducible refine LeO.ite ?_ ?_)
      | (with_reducible refine LeO.bind ?_ (fun _ => ?_))
      | exact ih0 _ _ _ _
      | exact LeO.none _
      | refine LeO.ite ?_ ?_
      | refine LeO.bind ?_ (fun _ => ?_)
theorem spec_Has.mono : ∀ a0 a1 k, LeO (spec_Has.f k a0 a1) (spec_Has.f (k + 1) a0 a1) := by
  intro a0 a1 k
  have ih0 := spec_Has.mono_l k
  unfold spec_Has.f
  repeat' first
      | (with_reducible exact ih0 _ _ _ _)
      | (with_reducible exact LeO.refl _)
      | (with_reducible exact LeO.none _)
      | (with_reducible refine LeO.ite ?_ ?_)
      | (with_reducible refine LeO.bind ?_ (fun _ => ?_))
      | exact ih0 _ _ _ _
      | exact LeO.none _
      | refine LeO.ite ?_ ?_
      | refine LeO.bind ?_ (fun _ => ?_)
set_option maxHeartbeats 8000000 in
set_option maxRecDepth 100000 in
theorem spec_Has.calls (k : Nat) (a0 : ByteArray) (a1 : Int) (r : Bool) (w : World) (h : spec_Has.f k a0 a1 = some r) :
    Calls Tryd.prog 42 #[.string a0, .int .u8 a1] w fun e w' => e = .returned (.bool r) ∧ Drawn0 w w' := by
  have H : (spec_Has.l0 k a0 a1 (a0.size : Int) 0) = some r := h
  clear h
  have H' := Aside0.mk H
  clear H
  go_enter Tryd.func42, Tryd.ntmps42
  go_wp2
  go_loopg [8] k (fun kq v8 w' => ∃ (x8_1 : Int), v8 = .int .i64 x8_1 ∧ Aside0 (spec_Has.l0 kq a0 a1 (a0.size : Int) x8_1 = some r) ∧ Aside0 (kq ≤ k) ∧ Drawn0 w w')
  case atStart => exact ⟨(0), (by first | rfl | (simp; done) | (simp [*]; done)), H', ⟨Nat.le_refl _⟩, by repeat (first | exact Drawn0.refl _ | apply Drawn0.step)⟩
  case round =>
    clear H'
    try clear p2
    obtain ⟨x8_1, rfl, HA, HK1, ⟨m1, rfl⟩⟩ := hrel
    cases gk with
    | zero => exact absurd HA.out (by simp [spec_Has.l0])
    | succ k1 =>
      have H := HA.out
      clear HA
      simp only [spec_Has.l0] at H
      by_cases c3 : x8_1 < (a0.size : Int)
      · rw [if_pos c3] at H
        have c3b0 : decide (x8_1 < (a0.size : Int)) = true := decide_eq_true c3
        clear c3
        by_cases c4 : 0 ≤ x8_1
        · rw [if_pos c4] at H
          have c4b0 : decide (0 ≤ x8_1) = true := decide_eq_true c4
          clear c4
          by_cases c5 : x8_1 < (a0.size : Int)
          · rw [if_pos c5] at H
            have c5b0 : decide (x8_1 < (a0.size : Int)) = true := decide_eq_true c5
            clear c5
            by_cases c7 : (bt a0 x8_1) = a1
            · rw [if_pos c7] at H
              have c7b0 : ((bt a0 x8_1) == a1) = true := beq_iff_eq.mpr c7
              have c7b1 : ((bt a0 x8_1) != a1) = false := bne_eq_false_iff_eq.mpr c7
              clear c7
              obtain rfl := Option.some.inj H
              have p6 : 0 ≤ (x8_1 : Int) := of_decide_eq_true (by first | (with_reducible assumption) | assumption)
              have q6 : x8_1 < (a0.size : Int) := of_decide_eq_true (by first | (with_reducible assumption) | assumption)
              have hx6 := bt_at a0 x8_1
              replace p6 := eq_true p6
              replace q6 := eq_true q6
              go_wp2
              go_ret
              exact ⟨by first | rfl | (simp; done) | (simp [*]; done), by repeat (first | exact Drawn0.refl _ | apply Drawn0.step)⟩
            · rw [if_neg c7] at H
              have c7b0 : ((bt a0 x8_1) == a1) = false := beq_eq_false_iff_ne.mpr c7
              have c7b1 : ((bt a0 x8_1) != a1) = true := bne_iff_ne.mpr c7
              have H' := Aside0.mk H
              clear H
              have p6 : 0 ≤ (x8_1 : Int) := of_decide_eq_true (by first | (with_reducible assumption) | assumption)
              have q6 : x8_1 < (a0.size : Int) := of_decide_eq_true (by first | (with_reducible assumption) | assumption)
              have hx6 := bt_at a0 x8_1
              replace p6 := eq_true p6
              replace q6 := eq_true q6
              go_wp2
              go_roundg k1
              case measure => have := HK1.out; omega
              case rel => exact ⟨(wrap64 (x8_1 + 1)), (by first | rfl | (simp; done) | (simp [*]; done)), H', ⟨by have := HK1.out; omega⟩, by repeat (first | exact Drawn0.refl _ | apply Drawn0.step)⟩
          · rw [if_neg c5] at H
            exact absurd H (by simp)
        · rw [if_neg c4] at H
          exact absurd H (by simp)
      · rw [if_neg c3] at H
        have c3b0 : decide (x8_1 < (a0.size : Int)) = false := decide_eq_false c3
        clear c3
        obtain rfl := Option.some.inj H
        go_wp2
        go_ret
        exact ⟨by first | rfl | (simp; done) | (simp [*]; done), by repeat (first | exact Drawn0.refl _ | apply Drawn0.step)⟩

/-! ### spec_IsMode: function 43 -/
def spec_IsMode.f (a0 : Int) : Option (Bool) := if a0 = 16384 then (some true) else (if a0 = 33188 then (some true) else (if a0 = 33204 then (some true) else (if a0 = 33261 then (some true) else (if a0 = 40960 then (some true) else (if a0 = 57344 then (some true) else (some false))))))
set_option maxHeartbeats 8000000 in
set_option maxRecDepth 100000 in
theorem spec_IsMode.calls (a0 : Int) (r : Bool) (w : World) (h : spec_IsMode.f a0 = some r) :
    Calls Tryd.prog 43 #[.int .u32 a0] w fun e w' => e = .returned (.bool r) ∧ Drawn0 w w' := by
  have H : (if a0 = 16384 then (some true) else (if a0 = 33188 then (some true) else (if a0 = 33204 then (some true) else (if a0 = 33261 then (some true) else (if a0 = 40960 then (some true) else (if a0 = 57344 then (some true) else (some false))))))) = some r := h
  clear h
  by_cases c2 : a0 = 16384
  · rw [if_pos c2] at H
    have c2b0 : (a0 == 16384) = true := beq_iff_eq.mpr c2
    have c2b1 : (a0 != 16384) = false := bne_eq_false_iff_eq.mpr c2
    clear c2
    obtain rfl := Option.some.inj H
    go_enter Tryd.func43, Tryd.ntmps43
    go_wp2
    go_ret
    exact ⟨by first | rfl | (simp; done) | (simp [*]; done), by repeat (first | exact Drawn0.refl _ | apply Drawn0.step)⟩
  · rw [if_neg c2] at H
    have c2b0 : (a0 == 16384) = false := beq_eq_false_iff_ne.mpr c2
    have c2b1 : (a0 != 16384) = true := bne_iff_ne.mpr c2
    by_cases c3 : a0 = 33188
    · rw [if_pos c3] at H
      have c3b0 : (a0 == 33188) = true := beq_iff_eq.mpr c3
      have c3b1 : (a0 != 33188) = false := bne_eq_false_iff_eq.mpr c3
      clear c3
      obtain rfl := Option.some.inj H
      go_enter Tryd.func43, Tryd.ntmps43
      go_wp2
      go_ret
      exact ⟨by first | rfl | (simp; done) | (simp [*]; done), by repeat (first | exact Drawn0.refl _ | apply Drawn0.step)⟩
    · rw [if_neg c3] at H
      have c3b0 : (a0 == 33188) = false := beq_eq_false_iff_ne.mpr c3
      have c3b1 : (a0 != 33188) = true := bne_iff_ne.mpr c3
      by_cases c4 : a0 = 33204
      · rw [if_pos c4] at H
        have c4b0 : (a0 == 33204) = true := beq_iff_eq.mpr c4
        have c4b1 : (a0 != 33204) = false := bne_eq_false_iff_eq.mpr c4
        clear c4
        obtain rfl := Option.some.inj H
        go_enter Tryd.func43, Tryd.ntmps43
        go_wp2
        go_ret
        exact ⟨by first | rfl | (simp; done) | (simp [*]; done), by repeat (first | exact Drawn0.refl _ | apply Drawn0.step)⟩
      · rw [if_neg c4] at H
        have c4b0 : (a0 == 33204) = false := beq_eq_false_iff_ne.mpr c4
        have c4b1 : (a0 != 33204) = true := bne_iff_ne.mpr c4
        by_cases c5 : a0 = 33261
        · rw [if_pos c5] at H
          have c5b0 : (a0 == 33261) = true := beq_iff_eq.mpr c5
          have c5b1 : (a0 != 33261) = false := bne_eq_false_iff_eq.mpr c5
          clear c5
          obtain rfl := Option.some.inj H
          go_enter Tryd.func43, Tryd.ntmps43
          go_wp2
          go_ret
          exact ⟨by first | rfl | (simp; done) | (simp [*]; done), by repeat (first | exact Drawn0.refl _ | apply Drawn0.step)⟩
        · rw [if_neg c5] at H
          have c5b0 : (a0 == 33261) = false := beq_eq_false_iff_ne.mpr c5
          have c5b1 : (a0 != 33261) = true := bne_iff_ne.mpr c5
          by_cases c6 : a0 = 40960
          · rw [if_pos c6] at H
            have c6b0 : (a0 == 40960) = true := beq_iff_eq.mpr c6
            have c6b1 : (a0 != 40960) = false := bne_eq_false_iff_eq.mpr c6
            clear c6
            obtain rfl := Option.some.inj H
            go_enter Tryd.func43, Tryd.ntmps43
            go_wp2
            go_ret
            exact ⟨by first | rfl | (simp; done) | (simp [*]; done), by repeat (first | exact Drawn0.refl _ | apply Drawn0.step)⟩
          · rw [if_neg c6] at H
            have c6b0 : (a0 == 40960) = false := beq_eq_false_iff_ne.mpr c6
            have c6b1 : (a0 != 40960) = true := bne_iff_ne.mpr c6
            by_cases c7 : a0 = 57344
            · rw [if_pos c7] at H
              have c7b0 : (a0 == 57344) = true := beq_iff_eq.mpr c7
              have c7b1 : (a0 != 57344) = false := bne_eq_false_iff_eq.mpr c7
              clear c7
              obtain rfl := Option.some.inj H
              go_enter Tryd.func43, Tryd.ntmps43
              go_wp2
              go_ret
              exact ⟨by first | rfl | (simp; done) | (simp [*]; done), by repeat (first | exact Drawn0.refl _ | apply Drawn0.step)⟩
            · rw [if_neg c7] at H
              have c7b0 : (a0 == 57344) = false := beq_eq_false_iff_ne.mpr c7
              have c7b1 : (a0 != 57344) = true := bne_iff_ne.mpr c7
              obtain rfl := Option.some.inj H
              go_enter Tryd.func43, Tryd.ntmps43
              go_wp2
              go_ret
              exact ⟨by first | rfl | (simp; done) | (simp [*]; done), by repeat (first | exact Drawn0.refl _ | apply Drawn0.step)⟩

/-! ### spec_IsEntry: function 20 -/
def spec_IsEntry.f (k : Nat) (a0_0 : ByteArray) (a0_1 : Int) (a0_2 : ByteArray) : Option (Bool) := if a0_0.toList = ([] : List UInt8) then (some false) else (if (a0_0.size : Int) ≤ 4096 then ((spec_Has.f k a0_0 0).bind fun t114 => (if t114 = true then (some false) else ((spec_Has.f k a0_0 47).bind fun t115 => (if t115 = true then (some false) else ((spec_IsMode.f a0_1).bind fun t116 => (if t116 = true then (if a0_1 = 33204 then (some false) else ((spec_IsName40.f k a0_2).bind fun t117 => (some t117))) else (some false))))))) else (some false))
theorem spec_IsEntry.mono : ∀ a0 a1 a2 k, LeO (spec_IsEntry.f k a0 a1 a2) (spec_IsEntry.f (k + 1) a0 a1 a2) := by
  intro a0 a1 a2 k
  unfold spec_IsEntry.f
  repeat' first
      | (with_reducible exact spec_Has.mono _ _ _)
      | (with_reducible exact spec_IsName40.mono _ _)
      | (with_reducible exact LeO.refl _)
      | (with_reducible exact LeO.none _)
      | (with_reducible refine LeO.ite ?_ ?_)
      | (with_reducible refine LeO.bind ?_ (fun _ => ?_))
      | exact spec_Has.mono _ _ _
      | exact spec_IsName40.mono _ _
      | exact LeO.none _
      | refine LeO.ite ?_ ?_
      | refine LeO.bind ?_ (fun _ => ?_)
set_option maxHeartbeats 8000000 in
set_option maxRecDepth 100000 in
theorem spec_IsEntry.calls (k : Nat) (a0_0 : ByteArray) (a0_1 : Int) (a0_2 : ByteArray) (r : Bool) (w : World) (h : spec_IsEntry.f k a0_0 a0_1 a0_2 = some r) :
    Calls Tryd.prog 20 #[.agg #[.string a0_0, .int .u32 a0_1, .string a0_2]] w fun e w' => e = .returned (.bool r) ∧ Below w.heap.size w w' := by
  have hu44 := Tryd.underlying44
  have HB := Aside0.mk (Below.refl w.heap.size w)
  have H : (if a0_0.toList = ([] : List UInt8) then (some false) else (if (a0_0.size : Int) ≤ 4096 then ((spec_Has.f k a0_0 0).bind fun t114 => (if t114 = true then (some false) else ((spec_Has.f k a0_0 47).bind fun t115 => (if t115 = true then (some false) else ((spec_IsMode.f a0_1).bind fun t116 => (if t116 = true then (if a0_1 = 33204 then (some false) else ((spec_IsName40.f k a0_2).bind fun t117 => (some t117))) else (some false))))))) else (some false))) = some r := h
  clear h
  by_cases c2 : a0_0.toList = ([] : List UInt8)
  · rw [if_pos c2] at H
    have c2b0 : (a0_0.toList == ([] : List UInt8)) = true := beq_iff_eq.mpr c2
    have c2b1 : (a0_0.toList != ([] : List UInt8)) = false := bne_eq_false_iff_eq.mpr c2
    clear c2
    obtain rfl := Option.some.inj H
    go_enter Tryd.func20, Tryd.ntmps20
    go_wp2_with (first | ((with_reducible refine gate_dst (N := 1) rfl ?_); (try (refine gate_guard (by rfl) ?_; dsimp only)); refine box_event ?hg (N := 1) ?hd (cs := #[.string a0_0, .int .u32 a0_1, .string a0_2]) (t := 44) ?hr ?_; (case hd => rfl); (case hg => rfl); (case hr => first | (go_simp; done) | (go_simp; rfl)); intro gb113 hg w3 hbox hb; have n0_ := Aside0.mk (below_step (by repeat (first | (with_reducible first | exact HB.out | apply below_alloc | apply pw_below_drewN | apply below_drew1) | exact HB.out)) hb); have n1_ := Aside0.mk (hbox); have n2_ := Aside0.mk ((by rw [hg]; exact (below_size (by repeat (first | (with_reducible first | exact HB.out | apply below_alloc | apply pw_below_drewN | apply below_drew1) | exact HB.out))) : w.heap.size ≤ gb113)); have n3_ := Aside0.mk ((by rw [hg]; exact (below_size (by repeat (first | (with_reducible first | exact HB.out | apply below_alloc | apply pw_below_drewN | apply below_drew1) | exact HB.out))) : w.heap.size ≤ gb113)); clear HB; have HB := n0_; have BK113 := n1_; have GW113 := n2_; have GE113 := n3_; clear n0_ n1_ n2_ n3_; clear hb hbox hg; have hcz4_0 : w3.cell? ⟨gb113, 0, none⟩ = some (.string a0_0) := (blk_cell BK113.out 0).trans rfl; have hcz4_1 : w3.cell? ⟨gb113, 1, none⟩ = some (.int .u32 a0_1) := (blk_cell BK113.out 1).trans rfl; have hcz4_2 : w3.cell? ⟨gb113, 2, none⟩ = some (.string a0_2) := (blk_cell BK113.out 2).trans rfl; have hfz4_0 := blk_frozen BK113.out 0; have hfz4_1 := blk_frozen BK113.out 1; have hfz4_2 := blk_frozen BK113.out 2))
    go_ret
    exact ⟨by first | rfl | (simp [errW_none, errW_some] <;> rfl) | (simp [*, errW_none, errW_some] <;> rfl), by repeat (first | (with_reducible first | exact HB.out | apply below_alloc | apply pw_below_drewN | apply below_drew1 | refine below_set ?_ GE113.out) | exact HB.out)⟩
  · rw [if_neg c2] at H
    have c2b0 : (a0_0.toList == ([] : List UInt8)) = false := beq_eq_false_iff_ne.mpr c2
    have c2b1 : (a0_0.toList != ([] : List UInt8)) = true := bne_iff_ne.mpr c2
    by_cases c5 : (a0_0.size : Int) ≤ 4096
    · rw [if_pos c5] at H
      have c5b0 : decide ((a0_0.size : Int) ≤ 4096) = true := decide_eq_true c5
      have c5b1 : decide (a0_0.size ≤ 4096) = true := decide_eq_true (by omega)
      clear c5
      replace H := Option.bind_eq_some_iff.mp H
      obtain ⟨t114, A60, H⟩ := H
      replace H : (if t114 = true then (some false) else ((spec_Has.f k a0_0 47).bind fun t115 => (if t115 = true then (some false) else ((spec_IsMode.f a0_1).bind fun t116 => (if t116 = true then (if a0_1 = 33204 then (some false) else ((spec_IsName40.f k a0_2).bind fun t117 => (some t117))) else (some false)))))) = some r := H
      have A6 := Aside0.mk A60
      clear A60
      by_cases c7 : t114 = true
      · subst c7
        have H1 : (some false) = some r := by rw [if_pos rfl] at H; exact H
        clear H
        have H := H1
        clear H1
        obtain rfl := Option.some.inj H
        go_enter Tryd.func20, Tryd.ntmps20
        go_wp2_with (first | ((with_reducible refine gate_dst (N := 1) rfl ?_); (try (refine gate_guard (by rfl) ?_; dsimp only)); refine box_event ?hg (N := 1) ?hd (cs := #[.string a0_0, .int .u32 a0_1, .string a0_2]) (t := 44) ?hr ?_; (case hd => rfl); (case hg => rfl); (case hr => first | (go_simp; done) | (go_simp; rfl)); intro gb113 hg w8 hbox hb; have n0_ := Aside0.mk (below_step (by repeat (first | (with_reducible first | exact HB.out | apply below_alloc | apply pw_below_drewN | apply below_drew1) | exact HB.out)) hb); have n1_ := Aside0.mk (hbox); have n2_ := Aside0.mk ((by rw [hg]; exact (below_size (by repeat (first | (with_reducible first | exact HB.out | apply below_alloc | apply pw_below_drewN | apply below_drew1) | exact HB.out))) : w.heap.size ≤ gb113)); have n3_ := Aside0.mk ((by rw [hg]; exact (below_size (by repeat (first | (with_reducible first | exact HB.out | apply below_alloc | apply pw_below_drewN | apply below_drew1) | exact HB.out))) : w.heap.size ≤ gb113)); clear HB; have HB := n0_; have BK113 := n1_; have GW113 := n2_; have GE113 := n3_; clear n0_ n1_ n2_ n3_; clear hb hbox hg; have hcz9_0 : w8.cell? ⟨gb113, 0, none⟩ = some (.string a0_0) := (blk_cell BK113.out 0).trans rfl; have hcz9_1 : w8.cell? ⟨gb113, 1, none⟩ = some (.int .u32 a0_1) := (blk_cell BK113.out 1).trans rfl; have hcz9_2 : w8.cell? ⟨gb113, 2, none⟩ = some (.string a0_2) := (blk_cell BK113.out 2).trans rfl; have hfz9_0 := blk_frozen BK113.out 0; have hfz9_1 := blk_frozen BK113.out 1; have hfz9_2 := blk_frozen BK113.out 2) | (go_at_call 42; (with_reducible refine (spec_Has.calls k a0_0 0 true _ A6.out).mono ?_); rintro e w' ⟨rfl, ⟨nd, rfl⟩⟩))
        go_ret
        exact ⟨by first | rfl | (simp [errW_none, errW_some] <;> rfl) | (simp [*, errW_none, errW_some] <;> rfl), by repeat (first | (with_reducible first | exact HB.out | apply below_alloc | apply pw_below_drewN | apply below_drew1 | refine below_set ?_ GE113.out) | exact HB.out)⟩
      · replace c7 := Bool.eq_false_iff.mpr c7
        subst c7
        have H1 : ((spec_Has.f k a0_0 47).bind fun t115 => (if t115 = true then (some false) else ((spec_IsMode.f a0_1).bind fun t116 => (if t116 = true then (if a0_1 = 33204 then (some false) else ((spec_IsName40.f k a0_2).bind fun t117 => (some t117))) else (some false))))) = some r := by rw [if_neg (show ¬ (false = true) by decide)] at H; exact H
        clear H
        have H := H1
        clear H1
        replace H := Option.bind_eq_some_iff.mp H
        obtain ⟨t115, A100, H⟩ := H
        replace H : (if t115 = true then (some false) else ((spec_IsMode.f a0_1).bind fun t116 => (if t116 = true then (if a0_1 = 33204 then (some false) else ((spec_IsName40.f k a0_2).bind fun t117 => (some t117))) else (some false)))) = some r := H
        have A10 := Aside0.mk A100
        clear A100
        by_cases c11 : t115 = true
        · subst c11
          have H1 : (some false) = some r := by rw [if_pos rfl] at H; exact H
          clear H
          have H := H1
          clear H1
          obtain rfl := Option.some.inj H
          go_enter Tryd.func20, Tryd.ntmps20
          go_wp2_with (first | ((with_reducible refine gate_dst (N := 1) rfl ?_); (try (refine gate_guard (by rfl) ?_; dsimp only)); refine box_event ?hg (N := 1) ?hd (cs := #[.string a0_0, .int .u32 a0_1, .string a0_2]) (t := 44) ?hr ?_; (case hd => rfl); (case hg => rfl); (case hr => first | (go_simp; done) | (go_simp; rfl)); intro gb113 hg w12 hbox hb; have n0_ := Aside0.mk (below_step (by repeat (first | (with_reducible first | exact HB.out | apply below_alloc | apply pw_below_drewN | apply below_drew1) | exact HB.out)) hb); have n1_ := Aside0.mk (hbox); have n2_ := Aside0.mk ((by rw [hg]; exact (below_size (by repeat (first | (with_reducible first | exact HB.out | apply below_alloc | apply pw_below_drewN | apply below_drew1) | exact HB.out))) : w.heap.size ≤ gb113)); have n3_ := Aside0.mk ((by rw [hg]; exact (below_size (by repeat (first | (with_reducible first | exact HB.out | apply below_alloc | apply pw_below_drewN | apply below_drew1) | exact HB.out))) : w.heap.size ≤ gb113)); clear HB; have HB := n0_; have BK113 := n1_; have GW113 := n2_; have GE113 := n3_; clear n0_ n1_ n2_ n3_; clear hb hbox hg; have hcz13_0 : w12.cell? ⟨gb113, 0, none⟩ = some (.string a0_0) := (blk_cell BK113.out 0).trans rfl; have hcz13_1 : w12.cell? ⟨gb113, 1, none⟩ = some (.int .u32 a0_1) := (blk_cell BK113.out 1).trans rfl; have hcz13_2 : w12.cell? ⟨gb113, 2, none⟩ = some (.string a0_2) := (blk_cell BK113.out 2).trans rfl; have hfz13_0 := blk_frozen BK113.out 0; have hfz13_1 := blk_frozen BK113.out 1; have hfz13_2 := blk_frozen BK113.out 2) | (go_at_call 42; (with_reducible refine (spec_Has.calls k a0_0 0 false _ A6.out).mono ?_); rintro e w' ⟨rfl, ⟨nd, rfl⟩⟩) | (go_at_call 42; (with_reducible refine (spec_Has.calls k a0_0 47 true _ A10.out).mono ?_); rintro e w' ⟨rfl, ⟨nd, rfl⟩⟩))
          go_ret
          exact ⟨by first | rfl | (simp [errW_none, errW_some] <;> rfl) | (simp [*, errW_none, errW_some] <;> rfl), by repeat (first | (with_reducible first | exact HB.out | apply below_alloc | apply pw_below_drewN | apply below_drew1 | refine below_set ?_ GE113.out) | exact HB.out)⟩
        · replace c11 := Bool.eq_false_iff.mpr c11
          subst c11
          have H1 : ((spec_IsMode.f a0_1).bind fun t116 => (if t116 = true then (if a0_1 = 33204 then (some false) else ((spec_IsName40.f k a0_2).bind fun t117 => (some t117))) else (some false))) = some r := by rw [if_neg (show ¬ (false = true) by decide)] at H; exact H
          clear H
          have H := H1
          clear H1
          replace H := Option.bind_eq_some_iff.mp H
          obtain ⟨t116, A140, H⟩ := H
          replace H : (if t116 = true then (if a0_1 = 33204 then (some false) else ((spec_IsName40.f k a0_2).bind fun t117 => (some t117))) else (some false)) = some r := H
          have A14 := Aside0.mk A140
          clear A140
          by_cases c15 : t116 = true
          · subst c15
            have H1 : (if a0_1 = 33204 then (some false) else ((spec_IsName40.f k a0_2).bind fun t117 => (some t117))) = some r := by rw [if_pos rfl] at H; exact H
            clear H
            have H := H1
            clear H1
            by_cases c16 : a0_1 = 33204
            · rw [if_pos c16] at H
              have c16b0 : (a0_1 == 33204) = true := beq_iff_eq.mpr c16
              have c16b1 : (a0_1 != 33204) = false := bne_eq_false_iff_eq.mpr c16
              clear c16
              obtain rfl := Option.some.inj H
              go_enter Tryd.func20, Tryd.ntmps20
              go_wp2_with (first | ((with_reducible refine gate_dst (N := 1) rfl ?_); (try (refine gate_guard (by rfl) ?_; dsimp only)); refine box_event ?hg (N := 1) ?hd (cs := #[.string a0_0, .int .u32 a0_1, .string a0_2]) (t := 44) ?hr ?_; (case hd => rfl); (case hg => rfl); (case hr => first | (go_simp; done) | (go_simp; rfl)); intro gb113 hg w17 hbox hb; have n0_ := Aside0.mk (below_step (by repeat (first | (with_reducible first | exact HB.out | apply below_alloc | apply pw_below_drewN | apply below_drew1) | exact HB.out)) hb); have n1_ := Aside0.mk (hbox); have n2_ := Aside0.mk ((by rw [hg]; exact (below_size (by repeat (first | (with_reducible first | exact HB.out | apply below_alloc | apply pw_below_drewN | apply below_drew1) | exact HB.out))) : w.heap.size ≤ gb113)); have n3_ := Aside0.mk ((by rw [hg]; exact (below_size (by repeat (first | (with_reducible first | exact HB.out | apply below_alloc | apply pw_below_drewN | apply below_drew1) | exact HB.out))) : w.heap.size ≤ gb113)); clear HB; have HB := n0_; have BK113 := n1_; have GW113 := n2_; have GE113 := n3_; clear n0_ n1_ n2_ n3_; clear hb hbox hg; have hcz18_0 : w17.cell? ⟨gb113, 0, none⟩ = some (.string a0_0) := (blk_cell BK113.out 0).trans rfl; have hcz18_1 : w17.cell? ⟨gb113, 1, none⟩ = some (.int .u32 a0_1) := (blk_cell BK113.out 1).trans rfl; have hcz18_2 : w17.cell? ⟨gb113, 2, none⟩ = some (.string a0_2) := (blk_cell BK113.out 2).trans rfl; have hfz18_0 := blk_frozen BK113.out 0; have hfz18_1 := blk_frozen BK113.out 1; have hfz18_2 := blk_frozen BK113.out 2) | (go_at_call 42; (with_reducible refine (spec_Has.calls k a0_0 0 false _ A6.out).mono ?_); rintro e w' ⟨rfl, ⟨nd, rfl⟩⟩) | (go_at_call 42; (with_reducible refine (spec_Has.calls k a0_0 47 false _ A10.out).mono ?_); rintro e w' ⟨rfl, ⟨nd, rfl⟩⟩) | (go_at_call 43; (with_reducible refine (spec_IsMode.calls a0_1 true _ A14.out).mono ?_); rintro e w' ⟨rfl, ⟨nd, rfl⟩⟩))
              go_ret
              exact ⟨by first | rfl | (simp [errW_none, errW_some] <;> rfl) | (simp [*, errW_none, errW_some] <;> rfl), by repeat (first | (with_reducible first | exact HB.out | apply below_alloc | apply pw_below_drewN | apply below_drew1 | refine below_set ?_ GE113.out) | exact HB.out)⟩
            · rw [if_neg c16] at H
              have c16b0 : (a0_1 == 33204) = false := beq_eq_false_iff_ne.mpr c16
              have c16b1 : (a0_1 != 33204) = true := bne_iff_ne.mpr c16
              replace H := Option.bind_eq_some_iff.mp H
              obtain ⟨t117, A190, H⟩ := H
              replace H : (some t117) = some r := H
              have A19 := Aside0.mk A190
              clear A190
              obtain rfl := Option.some.inj H
              go_enter Tryd.func20, Tryd.ntmps20
              go_wp2_with (first | ((with_reducible refine gate_dst (N := 1) rfl ?_); (try (refine gate_guard (by rfl) ?_; dsimp only)); refine box_event ?hg (N := 1) ?hd (cs := #[.string a0_0, .int .u32 a0_1, .string a0_2]) (t := 44) ?hr ?_; (case hd => rfl); (case hg => rfl); (case hr => first | (go_simp; done) | (go_simp; rfl)); intro gb113 hg w20 hbox hb; have n0_ := Aside0.mk (below_step (by repeat (first | (with_reducible first | exact HB.out | apply below_alloc | apply pw_below_drewN | apply below_drew1) | exact HB.out)) hb); have n1_ := Aside0.mk (hbox); have n2_ := Aside0.mk ((by rw [hg]; exact (below_size (by repeat (first | (with_reducible first | exact HB.out | apply below_alloc | apply pw_below_drewN | apply below_drew1) | exact HB.out))) : w.heap.size ≤ gb113)); have n3_ := Aside0.mk ((by rw [hg]; exact (below_size (by repeat (first | (with_reducible first | exact HB.out | apply below_alloc | apply pw_below_drewN | apply below_drew1) | exact HB.out))) : w.heap.size ≤ gb113)); clear HB; have HB := n0_; have BK113 := n1_; have GW113 := n2_; have GE113 := n3_; clear n0_ n1_ n2_ n3_; clear hb hbox hg; have hcz21_0 : w20.cell? ⟨gb113, 0, none⟩ = some (.string a0_0) := (blk_cell BK113.out 0).trans rfl; have hcz21_1 : w20.cell? ⟨gb113, 1, none⟩ = some (.int .u32 a0_1) := (blk_cell BK113.out 1).trans rfl; have hcz21_2 : w20.cell? ⟨gb113, 2, none⟩ = some (.string a0_2) := (blk_cell BK113.out 2).trans rfl; have hfz21_0 := blk_frozen BK113.out 0; have hfz21_1 := blk_frozen BK113.out 1; have hfz21_2 := blk_frozen BK113.out 2) | (go_at_call 42; (with_reducible refine (spec_Has.calls k a0_0 0 false _ A6.out).mono ?_); rintro e w' ⟨rfl, ⟨nd, rfl⟩⟩) | (go_at_call 42; (with_reducible refine (spec_Has.calls k a0_0 47 false _ A10.out).mono ?_); rintro e w' ⟨rfl, ⟨nd, rfl⟩⟩) | (go_at_call 43; (with_reducible refine (spec_IsMode.calls a0_1 true _ A14.out).mono ?_); rintro e w' ⟨rfl, ⟨nd, rfl⟩⟩) | (go_at_call 28; (with_reducible refine (spec_IsName40.calls k a0_2 t117 _ A19.out).mono ?_); rintro e w' ⟨rfl, ⟨nd, rfl⟩⟩))
              go_ret
              exact ⟨by first | rfl | (simp [errW_none, errW_some] <;> rfl) | (simp [*, errW_none, errW_some] <;> rfl), by repeat (first | (with_reducible first | exact HB.out | apply below_alloc | apply pw_below_drewN | apply below_drew1 | refine below_set ?_ GE113.out) | exact HB.out)⟩
          · replace c15 := Bool.eq_false_iff.mpr c15
            subst c15
            have H1 : (some false) = some r := by rw [if_neg (show ¬ (false = true) by decide)] at H; exact H
            clear H
            have H := H1
            clear H1
            obtain rfl := Option.some.inj H
            go_enter Tryd.func20, Tryd.ntmps20
            go_wp2_with (first | ((with_reducible refine gate_dst (N := 1) rfl ?_); (try (refine gate_guard (by rfl) ?_; dsimp only)); refine box_event ?hg (N := 1) ?hd (cs := #[.string a0_0, .int .u32 a0_1, .string a0_2]) (t := 44) ?hr ?_; (case hd => rfl); (case hg => rfl); (case hr => first | (go_simp; done) | (go_simp; rfl)); intro gb113 hg w22 hbox hb; have n0_ := Aside0.mk (below_step (by repeat (first | (with_reducible first | exact HB.out | apply below_alloc | apply pw_below_drewN | apply below_drew1) | exact HB.out)) hb); have n1_ := Aside0.mk (hbox); have n2_ := Aside0.mk ((by rw [hg]; exact (below_size (by repeat (first | (with_reducible first | exact HB.out | apply below_alloc | apply pw_below_drewN | apply below_drew1) | exact HB.out))) : w.heap.size ≤ gb113)); have n3_ := Aside0.mk ((by rw [hg]; exact (below_size (by repeat (first | (with_reducible first | exact HB.out | apply below_alloc | apply pw_below_drewN | apply below_drew1) | exact HB.out))) : w.heap.size ≤ gb113)); clear HB; have HB := n0_; have BK113 := n1_; have GW113 := n2_; have GE113 := n3_; clear n0_ n1_ n2_ n3_; clear hb hbox hg; have hcz23_0 : w22.cell? ⟨gb113, 0, none⟩ = some (.string a0_0) := (blk_cell BK113.out 0).trans rfl; have hcz23_1 : w22.cell? ⟨gb113, 1, none⟩ = some (.int .u32 a0_1) := (blk_cell BK113.out 1).trans rfl; have hcz23_2 : w22.cell? ⟨gb113, 2, none⟩ = some (.string a0_2) := (blk_cell BK113.out 2).trans rfl; have hfz23_0 := blk_frozen BK113.out 0; have hfz23_1 := blk_frozen BK113.out 1; have hfz23_2 := blk_frozen BK113.out 2) | (go_at_call 42; (with_reducible refine (spec_Has.calls k a0_0 0 false _ A6.out).mono ?_); rintro e w' ⟨rfl, ⟨nd, rfl⟩⟩) | (go_at_call 42; (with_reducible refine (spec_Has.calls k a0_0 47 false _ A10.out).mono ?_); rintro e w' ⟨rfl, ⟨nd, rfl⟩⟩) | (go_at_call 43; (with_reducible refine (spec_IsMode.calls a0_1 false _ A14.out).mono ?_); rintro e w' ⟨rfl, ⟨nd, rfl⟩⟩))
            go_ret
            exact ⟨by first | rfl | (simp [errW_none, errW_some] <;> rfl) | (simp [*, errW_none, errW_some] <;> rfl), by repeat (first | (with_reducible first | exact HB.out | apply below_alloc | apply pw_below_drewN | apply below_drew1 | refine below_set ?_ GE113.out) | exact HB.out)⟩
    · rw [if_neg c5] at H
      have c5b0 : decide ((a0_0.size : Int) ≤ 4096) = false := decide_eq_false c5
      have c5b1 : decide (a0_0.size ≤ 4096) = false := decide_eq_false (by omega)
      clear c5
      obtain rfl := Option.some.inj H
      go_enter Tryd.func20, Tryd.ntmps20
      go_wp2_with (first | ((with_reducible refine gate_dst (N := 1) rfl ?_); (try (refine gate_guard (by rfl) ?_; dsimp only)); refine box_event ?hg (N := 1) ?hd (cs := #[.string a0_0, .int .u32 a0_1, .string a0_2]) (t := 44) ?hr ?_; (case hd => rfl); (case hg => rfl); (case hr => first | (go_simp; done) | (go_simp; rfl)); intro gb113 hg w24 hbox hb; have n0_ := Aside0.mk (below_step (by repeat (first | (with_reducible first | exact HB.out | apply below_alloc | apply pw_below_drewN | apply below_drew1) | exact HB.out)) hb); have n1_ := Aside0.mk (hbox); have n2_ := Aside0.mk ((by rw [hg]; exact (below_size (by repeat (first | (with_reducible first | exact HB.out | apply below_alloc | apply pw_below_drewN | apply below_drew1) | exact HB.out))) : w.heap.size ≤ gb113)); have n3_ := Aside0.mk ((by rw [hg]; exact (below_size (by repeat (first | (with_reducible first | exact HB.out | apply below_alloc | apply pw_below_drewN | apply below_drew1) | exact HB.out))) : w.heap.size ≤ gb113)); clear HB; have HB := n0_; have BK113 := n1_; have GW113 := n2_; have GE113 := n3_; clear n0_ n1_ n2_ n3_; clear hb hbox hg; have hcz25_0 : w24.cell? ⟨gb113, 0, none⟩ = some (.string a0_0) := (blk_cell BK113.out 0).trans rfl; have hcz25_1 : w24.cell? ⟨gb113, 1, none⟩ = some (.int .u32 a0_1) := (blk_cell BK113.out 1).trans rfl; have hcz25_2 : w24.cell? ⟨gb113, 2, none⟩ = some (.string a0_2) := (blk_cell BK113.out 2).trans rfl; have hfz25_0 := blk_frozen BK113.out 0; have hfz25_1 := blk_frozen BK113.out 1; have hfz25_2 := blk_frozen BK113.out 2))
      go_ret
      exact ⟨by first | rfl | (simp [errW_none, errW_some] <;> rfl) | (simp [*, errW_none, errW_some] <;> rfl), by repeat (first | (with_reducible first | exact HB.out | apply below_alloc | apply pw_below_drewN | apply below_drew1 | refine below_set ?_ GE113.out) | exact HB.out)⟩

/-! ### spec_sortName: function 21 -/
def spec_sortName.f (a0_0 : ByteArray) (a0_1 : Int) (a0_2 : ByteArray) : Option (ByteArray) := if a0_1 = 16384 then (if a0_0.size + 1 ≤ 9223372036854775807 then (some (a0_0 ++ (⟨#[47]⟩ : ByteArray))) else (none)) else (some a0_0)
set_option maxHeartbeats 8000000 in
set_option maxRecDepth 100000 in
theorem spec_sortName.calls (a0_0 : ByteArray) (a0_1 : Int) (a0_2 : ByteArray) (r : ByteArray) (w : World) (h : spec_sortName.f a0_0 a0_1 a0_2 = some r) :
    Calls Tryd.prog 21 #[.agg #[.string a0_0, .int .u32 a0_1, .string a0_2]] w fun e w' => e = .returned (.string r) ∧ Below w.heap.size w w' := by
  have hu44 := Tryd.underlying44
  have HB := Aside0.mk (Below.refl w.heap.size w)
  have H : (if a0_1 = 16384 then (if a0_0.size + 1 ≤ 9223372036854775807 then (some (a0_0 ++ (⟨#[47]⟩ : ByteArray))) else (none)) else (some a0_0)) = some r := h
  clear h
  by_cases c2 : a0_1 = 16384
  · rw [if_pos c2] at H
    have c2b0 : (a0_1 == 16384) = true := beq_iff_eq.mpr c2
    have c2b1 : (a0_1 != 16384) = false := bne_eq_false_iff_eq.mpr c2
    clear c2
    by_cases c3 : a0_0.size + 1 ≤ 9223372036854775807
    · rw [if_pos c3] at H
      have c3b0 := eq_true c3
      have c3b1 : decide (a0_0.size + 1 ≤ 9223372036854775807) = true := decide_eq_true c3
      try have c3b2 : (9223372036854775807 < a0_0.size + 1) = False := eq_false (Nat.not_lt.2 c3)
      obtain rfl := Option.some.inj H
      go_enter Tryd.func21, Tryd.ntmps21
      go_wp2_with (first | ((with_reducible refine gate_dst (N := 1) rfl ?_); refine box_event ?hg (N := 1) ?hd (cs := #[.string a0_0, .int .u32 a0_1, .string a0_2]) (t := 44) ?hr ?_; (case hd => rfl); (case hg => rfl); (case hr => first | (go_simp; done) | (go_simp; rfl)); intro gb118 hg w4 hbox hb; have n0_ := Aside0.mk (below_step (by repeat (first | (with_reducible first | exact HB.out | apply below_alloc | apply pw_below_drewN | apply below_drew1) | exact HB.out)) hb); have n1_ := Aside0.mk (hbox); have n2_ := Aside0.mk ((by rw [hg]; exact (below_size (by repeat (first | (with_reducible first | exact HB.out | apply below_alloc | apply pw_below_drewN | apply below_drew1) | exact HB.out))) : w.heap.size ≤ gb118)); have n3_ := Aside0.mk ((by rw [hg]; exact (below_size (by repeat (first | (with_reducible first | exact HB.out | apply below_alloc | apply pw_below_drewN | apply below_drew1) | exact HB.out))) : w.heap.size ≤ gb118)); clear HB; have HB := n0_; have BK118 := n1_; have GW118 := n2_; have GE118 := n3_; clear n0_ n1_ n2_ n3_; clear hb hbox hg; have hcz5_0 : w4.cell? ⟨gb118, 0, none⟩ = some (.string a0_0) := (blk_cell BK118.out 0).trans rfl; have hcz5_1 : w4.cell? ⟨gb118, 1, none⟩ = some (.int .u32 a0_1) := (blk_cell BK118.out 1).trans rfl; have hcz5_2 : w4.cell? ⟨gb118, 2, none⟩ = some (.string a0_2) := (blk_cell BK118.out 2).trans rfl; have hfz5_0 := blk_frozen BK118.out 0; have hfz5_1 := blk_frozen BK118.out 1; have hfz5_2 := blk_frozen BK118.out 2))
      go_ret
      exact ⟨by first | rfl | (simp [errW_none, errW_some] <;> rfl) | (simp [*, errW_none, errW_some] <;> rfl), by repeat (first | (with_reducible first | exact HB.out | apply below_alloc | apply pw_below_drewN | apply below_drew1 | refine below_set ?_ GE118.out) | exact HB.out)⟩
    · rw [if_neg c3] at H
      exact absurd H (by simp)
  · rw [if_neg c2] at H
    have c2b0 : (a0_1 == 16384) = false := beq_eq_false_iff_ne.mpr c2
    have c2b1 : (a0_1 != 16384) = true := bne_iff_ne.mpr c2
    obtain rfl := Option.some.inj H
    go_enter Tryd.func21, Tryd.ntmps21
    go_wp2_with (first | ((with_reducible refine gate_dst (N := 1) rfl ?_); refine box_event ?hg (N := 1) ?hd (cs := #[.string a0_0, .int .u32 a0_1, .string a0_2]) (t := 44) ?hr ?_; (case hd => rfl); (case hg => rfl); (case hr => first | (go_simp; done) | (go_simp; rfl)); intro gb118 hg w6 hbox hb; have n0_ := Aside0.mk (below_step (by repeat (first | (with_reducible first | exact HB.out | apply below_alloc | apply pw_below_drewN | apply below_drew1) | exact HB.out)) hb); have n1_ := Aside0.mk (hbox); have n2_ := Aside0.mk ((by rw [hg]; exact (below_size (by repeat (first | (with_reducible first | exact HB.out | apply below_alloc | apply pw_below_drewN | apply below_drew1) | exact HB.out))) : w.heap.size ≤ gb118)); have n3_ := Aside0.mk ((by rw [hg]; exact (below_size (by repeat (first | (with_reducible first | exact HB.out | apply below_alloc | apply pw_below_drewN | apply below_drew1) | exact HB.out))) : w.heap.size ≤ gb118)); clear HB; have HB := n0_; have BK118 := n1_; have GW118 := n2_; have GE118 := n3_; clear n0_ n1_ n2_ n3_; clear hb hbox hg; have hcz7_0 : w6.cell? ⟨gb118, 0, none⟩ = some (.string a0_0) := (blk_cell BK118.out 0).trans rfl; have hcz7_1 : w6.cell? ⟨gb118, 1, none⟩ = some (.int .u32 a0_1) := (blk_cell BK118.out 1).trans rfl; have hcz7_2 : w6.cell? ⟨gb118, 2, none⟩ = some (.string a0_2) := (blk_cell BK118.out 2).trans rfl; have hfz7_0 := blk_frozen BK118.out 0; have hfz7_1 := blk_frozen BK118.out 1; have hfz7_2 := blk_frozen BK118.out 2))
    go_ret
    exact ⟨by first | rfl | (simp [errW_none, errW_some] <;> rfl) | (simp [*, errW_none, errW_some] <;> rfl), by repeat (first | (with_reducible first | exact HB.out | apply below_alloc | apply pw_below_drewN | apply below_drew1 | refine below_set ?_ GE118.out) | exact HB.out)⟩

end Go.Proofs.YtddnepddilbikaaDoor.QAll
