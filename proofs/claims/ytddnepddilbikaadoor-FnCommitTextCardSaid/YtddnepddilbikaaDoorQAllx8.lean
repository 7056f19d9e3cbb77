-- WRITTEN BY A PROGRAM OF THIS SESSION, out of the loaded program, with words of the kit
import Derived.Test.YtddnepddilbikaaDoorQAllx0
import Derived.Test.YtddnepddilbikaaDoorQAllx1
import Derived.Test.YtddnepddilbikaaDoorQAllx4
import Derived.Test.YtddnepddilbikaaDoorQAllx7
namespace Go.Proofs.YtddnepddilbikaaDoor.QAll
open Go.RowKit Go.Proofs.YtddnepddilbikaaDoorW.PrintWords Go.Proofs.YtddnepddilbikaaDoorW.PrintLast Go.Proofs.YtddnepddilbikaaDoorW.PrintMore
attribute [local go_sem] max2_int min2_int max_two min_two max_three min_three max_four min_four   -- for this text's walks alone
set_option linter.unusedVariables false
set_option linter.unusedSimpArgs false

/-! ### spec_IsCommit: function 16 -/
def spec_IsCommit.l0 : Nat → List ByteArray → Int → Int → ByteArray → List ByteArray → ByteArray → ByteArray → Int → Int → ByteArray → ByteArray → Int → Int → ByteArray → ByteArray → ByteArray → ByteArray → Option (Bool)
  | 0, _, _, _, _, _, _, _, _, _, _, _, _, _, _, _, _, _ => none
  | k + 1, x6, x7, x8, x183000, x183001, x183002, x183003, x183004, x183005, x183006, x183007, x183008, x183009, x183010, x183011, x183012, x183013 => if x8 < x7 then (if 0 ≤ x8 then (if x8 < (x6.length : Int) then ((spec_IsName40.f k (rdOf ByteArray.empty x6 x8)).bind fun t184 => (if t184 = true then (spec_IsCommit.l0 k x6 x7 (wrap64 (x8 + 1)) x183000 x183001 x183002 x183003 x183004 x183005 x183006 x183007 x183008 x183009 x183010 x183011 x183012 x183013) else (some false))) else (none)) else (none)) else (if (x183001.length : Int) ≤ 1000 then (if (x183013.size : Int) ≤ 1000000 then ((spec_IsName40.f k x183000).bind fun t185 => (if t185 = true then ((spec_IsWho.f k x183002 x183003 x183004 x183005).bind fun t186 => (if t186 = true then ((spec_IsWho.f k x183006 x183007 x183008 x183009).bind fun t187 => (if t187 = true then (if x183010.toList = ([] : List UInt8) then ((spec_plainEncoding.f x183000 x183001 x183002 x183003 x183004 x183005 x183006 x183007 x183008 x183009 x183010 x183011 x183012 x183013).bind fun t188 => (if t188 = true then ((spec_IsSign.f k x183011).bind fun t189 => (some t189)) else (some false))) else (some false)) else (some false))) else (some false))) else (some false))) else (some false)) else (some false))
def spec_IsCommit.f (k : Nat) (a0_0 : ByteArray) (l0_1 : List ByteArray) (a0_2 : ByteArray) (a0_3 : ByteArray) (a0_4 : Int) (a0_5 : Int) (a0_6 : ByteArray) (a0_7 : ByteArray) (a0_8 : Int) (a0_9 : Int) (a0_10 : ByteArray) (a0_11 : ByteArray) (a0_12 : ByteArray) (a0_13 : ByteArray) : Option (Bool) := spec_IsCommit.l0 k l0_1 (l0_1.length : Int) 0 a0_0 l0_1 a0_2 a0_3 a0_4 a0_5 a0_6 a0_7 a0_8 a0_9 a0_10 a0_11 a0_12 a0_13
theorem spec_IsCommit.mono_l : ∀ k, (∀ y0 y1 y2 y3 y4 y5 y6 y7 y8 y9 y10 y11 y12 y13 y14 y15 y16, LeO (spec_IsCommit.l0 k y0 y1 y2 y3 y4 y5 y6 y7 y8 y9 y10 y11 y12 y13 y14 y15 y16) (spec_IsCommit.l0 (k + 1) y0 y1 y2 y3 y4 y5 y6 y7 y8 y9 y10 y11 y12 y13 y14 y15 y16))
  | 0 => fun _ _ _ _ _ _ _ _ _ _ _ _ _ _ _ _ _ r h => by simp [spec_IsCommit.l0] at h
  | k + 1 => by
    have ih0 := spec_IsCommit.mono_l k
    · intro y0 y1 y2 y3 y4 y5 y6 y7 y8 y9 y10 y11 y12 y13 y14 y15 y16
      unfold spec_IsCommit.l0
      repeat' first
      | (with_reducible exact ih0 _ _ _ _ _ _ _ _ _ _ _ _ _ _ _ _ _)
      | (with_reducible exact spec_IsName40.mono _ _)
      | (with_reducible exact spec_IsSign.mono _ _)
      | (with_reducible exact spec_IsWho.mono _ _ _ _ _)
      | (with_reducible exact LeO.refl _)
      | (with_reducible exact LeO.none _)
      | (with_reducible refine LeO.ite ?_ ?_)
      | (with_reducible refine LeO.bind ?_ (fun _ => ?_))
      | exact ih0 _ _ _ _ _ _ _ _ _ _ _ _ _ _ _ _ _
      | exact spec_IsName40.mono _ _
      | exact spec_IsSign.mono _ _
      | exact spec_IsWho.mono _ _ _ _ _
      | exact LeO.none _
      | refine LeO.ite ?_ ?_
      | refine LeO.bind ?_ (fun _ => ?_)
theorem spec_IsCommit.mono : ∀ a0 a1 a2 a3 a4 a5 a6 a7 a8 a9 a10 a11 a12 a13 k, LeO (spec_IsCommit.f k a0 a1 a2 a3 a4 a5 a6 a7 a8 a9 a10 a11 a12 a13) (spec_IsCommit.f (k + 1) a0 a1 a2 a3 a4 a5 a6 a7 a8 a9 a10 a11 a12 a13) := by
  intro a0 a1 a2 a3 a4 a5 a6 a7 a8 a9 a10 a11 a12 a13 k
  have ih0 := spec_IsCommit.mono_l k
  unfold spec_IsCommit.f
  repeat' first
      | (with_reducible exact ih0 _ _ _ _ _ _ _ _ _ _ _ _ _ _ _ _ _)
      | (with_reducible exact spec_IsName40.mono _ _)
      | (with_reducible exact spec_IsSign.mono _ _)
      | (with_reducible exact spec_IsWho.mono _ _ _ _ _)
      | (with_reducible exact LeO.refl _)
      | (with_reducible exact LeO.none _)
      | (with_reducible refine LeO.ite ?_ ?_)
      | (with_reducible refine LeO.bind ?_ (fun _ => ?_))
      | exact ih0 _ _ _ _ _ _ _ _ _ _ _ _ _ _ _ _ _
      | exact spec_IsName40.mono _ _
      | exact spec_IsSign.mono _ _
      | exact spec_IsWho.mono _ _ _ _ _
      | exact LeO.none _
      | refine LeO.ite ?_ ?_
      | refine LeO.bind ?_ (fun _ => ?_)
set_option maxHeartbeats 8000000 in
set_option maxRecDepth 100000 in
theorem spec_IsCommit.calls (k : Nat) (a0_0 : ByteArray) (A0_1 : Option Addr) (c0_1 : Nat) (l0_1 : List ByteArray) (a0_2 : ByteArray) (a0_3 : ByteArray) (a0_4 : Int) (a0_5 : Int) (a0_6 : ByteArray) (a0_7 : ByteArray) (a0_8 : Int) (a0_9 : Int) (a0_10 : ByteArray) (a0_11 : ByteArray) (a0_12 : ByteArray) (a0_13 : ByteArray) (r : Bool) (w : World) (hr0_1 : Kd.C Kd.string w A0_1 l0_1.length l0_1) (hc0_1 : l0_1.length ≤ c0_1) (h : spec_IsCommit.f k a0_0 l0_1 a0_2 a0_3 a0_4 a0_5 a0_6 a0_7 a0_8 a0_9 a0_10 a0_11 a0_12 a0_13 = some r) :
    Calls Tryd.prog 16 #[.agg #[.string a0_0, .slice A0_1 l0_1.length c0_1, .string a0_2, .string a0_3, .int .i64 a0_4, .int .i64 a0_5, .string a0_6, .string a0_7, .int .i64 a0_8, .int .i64 a0_9, .string a0_10, .string a0_11, .string a0_12, .string a0_13]] w fun e w' => e = .returned (.bool r) ∧ Below w.heap.size w w' := by
  have hu38 := Tryd.underlying38
  have hu30 := Tryd.underlying30
  have HR0_1 := Aside0.mk hr0_1
  have HC0_1 := Aside0.mk hc0_1
  clear hr0_1 hc0_1
  have HB := Aside0.mk (Below.refl w.heap.size w)
  have H : (spec_IsCommit.l0 k l0_1 (l0_1.length : Int) 0 a0_0 l0_1 a0_2 a0_3 a0_4 a0_5 a0_6 a0_7 a0_8 a0_9 a0_10 a0_11 a0_12 a0_13) = some r := h
  clear h
  have H' := Aside0.mk H
  clear H
  go_enter Tryd.func16, Tryd.ntmps16
  go_wp2_with (first | ((with_reducible refine gate_dst (N := 1) rfl ?_); (try (refine gate_guard (by rfl) ?_; dsimp only)); refine box_event ?hg (N := 1) ?hd (cs := #[.string a0_0, .slice A0_1 l0_1.length c0_1, .string a0_2, .string a0_3, .int .i64 a0_4, .int .i64 a0_5, .string a0_6, .string a0_7, .int .i64 a0_8, .int .i64 a0_9, .string a0_10, .string a0_11, .string a0_12, .string a0_13]) (t := 38) ?hr ?_; (case hd => rfl); (case hg => rfl); (case hr => first | (go_simp; done) | (go_simp; rfl)); intro gb182 hg w2 hbox hb; have n0_ := Aside0.mk (below_step (by repeat (first | (with_reducible first | exact HB.out | apply below_alloc | apply pw_below_drewN | apply below_drew1) | exact HB.out)) hb); have n1_ := Aside0.mk (hbox); have n2_ := Aside0.mk ((by rw [hg]; exact (below_size (by repeat (first | (with_reducible first | exact HB.out | apply below_alloc | apply pw_below_drewN | apply below_drew1) | exact HB.out))) : w.heap.size ≤ gb182)); have n3_ := Aside0.mk ((by rw [hg]; exact (below_size (by repeat (first | (with_reducible first | exact HB.out | apply below_alloc | apply pw_below_drewN | apply below_drew1) | exact HB.out))) : w.heap.size ≤ gb182)); clear HB; have HB := n0_; have BK182 := n1_; have GW182 := n2_; have GE182 := n3_; clear n0_ n1_ n2_ n3_; clear hb hbox hg; have hcz3_0 : w2.cell? ⟨gb182, 0, none⟩ = some (.string a0_0) := (blk_cell BK182.out 0).trans rfl; have hcz3_1 : w2.cell? ⟨gb182, 1, none⟩ = some (.slice A0_1 l0_1.length c0_1) := (blk_cell BK182.out 1).trans rfl; have hcz3_2 : w2.cell? ⟨gb182, 2, none⟩ = some (.string a0_2) := (blk_cell BK182.out 2).trans rfl; have hcz3_3 : w2.cell? ⟨gb182, 3, none⟩ = some (.string a0_3) := (blk_cell BK182.out 3).trans rfl; have hcz3_4 : w2.cell? ⟨gb182, 4, none⟩ = some (.int .i64 a0_4) := (blk_cell BK182.out 4).trans rfl; have hcz3_5 : w2.cell? ⟨gb182, 5, none⟩ = some (.int .i64 a0_5) := (blk_cell BK182.out 5).trans rfl; have hcz3_6 : w2.cell? ⟨gb182, 6, none⟩ = some (.string a0_6) := (blk_cell BK182.out 6).trans rfl; have hcz3_7 : w2.cell? ⟨gb182, 7, none⟩ = some (.string a0_7) := (blk_cell BK182.out 7).trans rfl; have hcz3_8 : w2.cell? ⟨gb182, 8, none⟩ = some (.int .i64 a0_8) := (blk_cell BK182.out 8).trans rfl; have hcz3_9 : w2.cell? ⟨gb182, 9, none⟩ = some (.int .i64 a0_9) := (blk_cell BK182.out 9).trans rfl; have hcz3_10 : w2.cell? ⟨gb182, 10, none⟩ = some (.string a0_10) := (blk_cell BK182.out 10).trans rfl; have hcz3_11 : w2.cell? ⟨gb182, 11, none⟩ = some (.string a0_11) := (blk_cell BK182.out 11).trans rfl; have hcz3_12 : w2.cell? ⟨gb182, 12, none⟩ = some (.string a0_12) := (blk_cell BK182.out 12).trans rfl; have hcz3_13 : w2.cell? ⟨gb182, 13, none⟩ = some (.string a0_13) := (blk_cell BK182.out 13).trans rfl; have hfz3_0 := blk_frozen BK182.out 0; have hfz3_1 := blk_frozen BK182.out 1; have hfz3_2 := blk_frozen BK182.out 2; have hfz3_3 := blk_frozen BK182.out 3; have hfz3_4 := blk_frozen BK182.out 4; have hfz3_5 := blk_frozen BK182.out 5; have hfz3_6 := blk_frozen BK182.out 6; have hfz3_7 := blk_frozen BK182.out 7; have hfz3_8 := blk_frozen BK182.out 8; have hfz3_9 := blk_frozen BK182.out 9; have hfz3_10 := blk_frozen BK182.out 10; have hfz3_11 := blk_frozen BK182.out 11; have hfz3_12 := blk_frozen BK182.out 12; have hfz3_13 := blk_frozen BK182.out 13))
  go_loopg [8] k (fun kq v8 w' => ∃ (x8_1 : Int), v8 = .int .i64 x8_1 ∧ Aside0 (spec_IsCommit.l0 kq l0_1 (l0_1.length : Int) x8_1 a0_0 l0_1 a0_2 a0_3 a0_4 a0_5 a0_6 a0_7 a0_8 a0_9 a0_10 a0_11 a0_12 a0_13 = some r) ∧ Aside0 (kq ≤ k) ∧ Aside0 (w'.heap[gb182]? = some (.cells #[.string a0_0, (.slice A0_1 l0_1.length c0_1), .string a0_2, .string a0_3, .int .i64 a0_4, .int .i64 a0_5, .string a0_6, .string a0_7, .int .i64 a0_8, .int .i64 a0_9, .string a0_10, .string a0_11, .string a0_12, .string a0_13] 38 (0, 0))) ∧ Aside0 (Below w.heap.size w w'))
  case atStart => exact ⟨(0), (by first | rfl | (simp; done) | (simp [*]; done)), H', ⟨Nat.le_refl _⟩, ⟨by (with_reducible repeat (first | refine blk_drewN ?_ _ | refine blk_drew ?_ | refine blk_alloc ?_ _)); exact BK182.out⟩, ⟨by repeat (first | (with_reducible first | exact HB.out | apply below_alloc | apply pw_below_drewN | apply below_drew1 | refine below_set ?_ GE182.out) | exact HB.out)⟩⟩
  case round =>
    clear H'
    try clear c1
    try clear p2
    try clear hcz3_0
    try clear hcz3_1
    try clear hcz3_10
    try clear hcz3_11
    try clear hcz3_12
    try clear hcz3_13
    try clear hcz3_2
    try clear hcz3_3
    try clear hcz3_4
    try clear hcz3_5
    try clear hcz3_6
    try clear hcz3_7
    try clear hcz3_8
    try clear hcz3_9
    try clear hfz3_0
    try clear hfz3_1
    try clear hfz3_10
    try clear hfz3_11
    try clear hfz3_12
    try clear hfz3_13
    try clear hfz3_2
    try clear hfz3_3
    try clear hfz3_4
    try clear hfz3_5
    try clear hfz3_6
    try clear hfz3_7
    try clear hfz3_8
    try clear hfz3_9
    obtain ⟨x8_1, rfl, HA, HK1, BK182, HB⟩ := hrel
    cases gk with
    | zero => exact absurd HA.out (by simp [spec_IsCommit.l0])
    | succ k1 =>
      have H := HA.out
      clear HA
      simp only [spec_IsCommit.l0] at H
      by_cases c4 : x8_1 < (l0_1.length : Int)
      · rw [if_pos c4] at H
        have c4b0 : decide (x8_1 < (l0_1.length : Int)) = true := decide_eq_true c4
        clear c4
        by_cases c5 : 0 ≤ x8_1
        · rw [if_pos c5] at H
          have c5b0 : decide (0 ≤ x8_1) = true := decide_eq_true c5
          clear c5
          by_cases c6 : x8_1 < (l0_1.length : Int)
          · rw [if_pos c6] at H
            have c6b0 : decide (x8_1 < (l0_1.length : Int)) = true := decide_eq_true c6
            clear c6
            replace H := Option.bind_eq_some_iff.mp H
            obtain ⟨t184, A70, H⟩ := H
            replace H : (if t184 = true then (spec_IsCommit.l0 k1 l0_1 (l0_1.length : Int) (wrap64 (x8_1 + 1)) a0_0 l0_1 a0_2 a0_3 a0_4 a0_5 a0_6 a0_7 a0_8 a0_9 a0_10 a0_11 a0_12 a0_13) else (some false)) = some r := H
            have A7 := Aside0.mk A70
            clear A70
            by_cases c8 : t184 = true
            · subst c8
              have H1 : (spec_IsCommit.l0 k1 l0_1 (l0_1.length : Int) (wrap64 (x8_1 + 1)) a0_0 l0_1 a0_2 a0_3 a0_4 a0_5 a0_6 a0_7 a0_8 a0_9 a0_10 a0_11 a0_12 a0_13) = some r := by rw [if_pos rfl] at H; exact H
              clear H
              have H := H1
              clear H1
              have H' := Aside0.mk H
              clear H
              have p183 : 0 ≤ (x8_1 : Int) := of_decide_eq_true (by first | (with_reducible assumption) | assumption)
              have q183 : x8_1 < (l0_1.length : Int) := of_decide_eq_true (by first | (with_reducible assumption) | assumption)
              obtain ⟨ad183, e183, hx183_0⟩ := Kd.at_string HR0_1.out x8_1 p183 q183
              cases e183
              replace hx183_0 := (HB.out.cell (World.block_lt_of_cell? w _ hx183_0)).trans hx183_0
              replace p183 := eq_true p183
              replace q183 := eq_true q183
              go_wp2_with (first | ((with_reducible refine gate_callee (f := 28) rfl ?_); refine goesL_ (some 13) rfl rfl Tryd.func28 (by kernel_rfl) rfl #[.string (rdOf ByteArray.empty l0_1 x8_1)] rfl (by (try simp only [List.map_toArray, List.map_cons, List.map_nil]); first | done | rfl | (simp only [List.length_drop, List.length_take]; rfl)) ?_; (with_reducible refine (spec_IsName40.calls k1 (rdOf ByteArray.empty l0_1 x8_1) true _ A7.out).mono ?_); rintro e w' ⟨rfl, ⟨nd, rfl⟩⟩; refine ⟨_, rfl, ?_⟩))
              go_roundg k1
              case measure => have := HK1.out; omega
              case rel => exact ⟨(wrap64 (x8_1 + 1)), (by first | rfl | (simp; done) | (simp [*]; done)), H', ⟨by have := HK1.out; omega⟩, ⟨by (with_reducible repeat (first | refine blk_drewN ?_ _ | refine blk_drew ?_ | refine blk_alloc ?_ _)); exact BK182.out⟩, ⟨by repeat (first | (with_reducible first | exact HB.out | apply below_alloc | apply pw_below_drewN | apply below_drew1 | refine below_set ?_ GE182.out) | exact HB.out)⟩⟩
            · replace c8 := Bool.eq_false_iff.mpr c8
              subst c8
              have H1 : (some false) = some r := by rw [if_neg (show ¬ (false = true) by decide)] at H; exact H
              clear H
              have H := H1
              clear H1
              obtain rfl := Option.some.inj H
              have p183 : 0 ≤ (x8_1 : Int) := of_decide_eq_true (by first | (with_reducible assumption) | assumption)
              have q183 : x8_1 < (l0_1.length : Int) := of_decide_eq_true (by first | (with_reducible assumption) | assumption)
              obtain ⟨ad183, e183, hx183_0⟩ := Kd.at_string HR0_1.out x8_1 p183 q183
              cases e183
              replace hx183_0 := (HB.out.cell (World.block_lt_of_cell? w _ hx183_0)).trans hx183_0
              replace p183 := eq_true p183
              replace q183 := eq_true q183
              go_wp2_with (first | ((with_reducible refine gate_callee (f := 28) rfl ?_); refine goesL_ (some 13) rfl rfl Tryd.func28 (by kernel_rfl) rfl #[.string (rdOf ByteArray.empty l0_1 x8_1)] rfl (by (try simp only [List.map_toArray, List.map_cons, List.map_nil]); first | done | rfl | (simp only [List.length_drop, List.length_take]; rfl)) ?_; (with_reducible refine (spec_IsName40.calls k1 (rdOf ByteArray.empty l0_1 x8_1) false _ A7.out).mono ?_); rintro e w' ⟨rfl, ⟨nd, rfl⟩⟩; refine ⟨_, rfl, ?_⟩))
              go_ret
              exact ⟨by first | rfl | (simp [errW_none, errW_some] <;> rfl) | (simp [*, errW_none, errW_some] <;> rfl), by repeat (first | (with_reducible first | exact HB.out | apply below_alloc | apply pw_below_drewN | apply below_drew1 | refine below_set ?_ GE182.out) | exact HB.out)⟩
          · rw [if_neg c6] at H
            exact absurd H (by simp)
        · rw [if_neg c5] at H
          exact absurd H (by simp)
      · rw [if_neg c4] at H
        have c4b0 : decide (x8_1 < (l0_1.length : Int)) = false := decide_eq_false c4
        clear c4
        by_cases c9 : (l0_1.length : Int) ≤ 1000
        · rw [if_pos c9] at H
          have c9b0 : decide ((l0_1.length : Int) ≤ 1000) = true := decide_eq_true c9
          have c9b1 : decide (l0_1.length ≤ 1000) = true := decide_eq_true (by omega)
          clear c9
          by_cases c10 : (a0_13.size : Int) ≤ 1000000
          · rw [if_pos c10] at H
            have c10b0 : decide ((a0_13.size : Int) ≤ 1000000) = true := decide_eq_true c10
            have c10b1 : decide (a0_13.size ≤ 1000000) = true := decide_eq_true (by omega)
            clear c10
            replace H := Option.bind_eq_some_iff.mp H
            obtain ⟨t185, A110, H⟩ := H
            replace H : (if t185 = true then ((spec_IsWho.f k1 a0_2 a0_3 a0_4 a0_5).bind fun t186 => (if t186 = true then ((spec_IsWho.f k1 a0_6 a0_7 a0_8 a0_9).bind fun t187 => (if t187 = true then (if a0_10.toList = ([] : List UInt8) then ((spec_plainEncoding.f a0_0 l0_1 a0_2 a0_3 a0_4 a0_5 a0_6 a0_7 a0_8 a0_9 a0_10 a0_11 a0_12 a0_13).bind fun t188 => (if t188 = true then ((spec_IsSign.f k1 a0_11).bind fun t189 => (some t189)) else (some false))) else (some false)) else (some false))) else (some false))) else (some false)) = some r := H
            have A11 := Aside0.mk A110
            clear A110
            by_cases c12 : t185 = true
            · subst c12
              have H1 : ((spec_IsWho.f k1 a0_2 a0_3 a0_4 a0_5).bind fun t186 => (if t186 = true then ((spec_IsWho.f k1 a0_6 a0_7 a0_8 a0_9).bind fun t187 => (if t187 = true then (if a0_10.toList = ([] : List UInt8) then ((spec_plainEncoding.f a0_0 l0_1 a0_2 a0_3 a0_4 a0_5 a0_6 a0_7 a0_8 a0_9 a0_10 a0_11 a0_12 a0_13).bind fun t188 => (if t188 = true then ((spec_IsSign.f k1 a0_11).bind fun t189 => (some t189)) else (some false))) else (some false)) else (some false))) else (some false))) = some r := by rw [if_pos rfl] at H; exact H
              clear H
              have H := H1
              clear H1
              replace H := Option.bind_eq_some_iff.mp H
              obtain ⟨t186, A130, H⟩ := H
              replace H : (if t186 = true then ((spec_IsWho.f k1 a0_6 a0_7 a0_8 a0_9).bind fun t187 => (if t187 = true then (if a0_10.toList = ([] : List UInt8) then ((spec_plainEncoding.f a0_0 l0_1 a0_2 a0_3 a0_4 a0_5 a0_6 a0_7 a0_8 a0_9 a0_10 a0_11 a0_12 a0_13).bind fun t188 => (if t188 = true then ((spec_IsSign.f k1 a0_11).bind fun t189 => (some t189)) else (some false))) else (some false)) else (some false))) else (some false)) = some r := H
              have A13 := Aside0.mk A130
              clear A130
              by_cases c14 : t186 = true
              · subst c14
                have H1 : ((spec_IsWho.f k1 a0_6 a0_7 a0_8 a0_9).bind fun t187 => (if t187 = true then (if a0_10.toList = ([] : List UInt8) then ((spec_plainEncoding.f a0_0 l0_1 a0_2 a0_3 a0_4 a0_5 a0_6 a0_7 a0_8 a0_9 a0_10 a0_11 a0_12 a0_13).bind fun t188 => (if t188 = true then ((spec_IsSign.f k1 a0_11).bind fun t189 => (some t189)) else (some false))) else (some false)) else (some false))) = some r := by rw [if_pos rfl] at H; exact H
                clear H
                have H := H1
                clear H1
                replace H := Option.bind_eq_some_iff.mp H
                obtain ⟨t187, A150, H⟩ := H
                replace H : (if t187 = true then (if a0_10.toList = ([] : List UInt8) then ((spec_plainEncoding.f a0_0 l0_1 a0_2 a0_3 a0_4 a0_5 a0_6 a0_7 a0_8 a0_9 a0_10 a0_11 a0_12 a0_13).bind fun t188 => (if t188 = true then ((spec_IsSign.f k1 a0_11).bind fun t189 => (some t189)) else (some false))) else (some false)) else (some false)) = some r := H
                have A15 := Aside0.mk A150
                clear A150
                by_cases c16 : t187 = true
                · subst c16
                  have H1 : (if a0_10.toList = ([] : List UInt8) then ((spec_plainEncoding.f a0_0 l0_1 a0_2 a0_3 a0_4 a0_5 a0_6 a0_7 a0_8 a0_9 a0_10 a0_11 a0_12 a0_13).bind fun t188 => (if t188 = true then ((spec_IsSign.f k1 a0_11).bind fun t189 => (some t189)) else (some false))) else (some false)) = some r := by rw [if_pos rfl] at H; exact H
                  clear H
                  have H := H1
                  clear H1
                  by_cases c17 : a0_10.toList = ([] : List UInt8)
                  · rw [if_pos c17] at H
                    have c17b0 : (a0_10.toList == ([] : List UInt8)) = true := beq_iff_eq.mpr c17
                    have c17b1 : (a0_10.toList != ([] : List UInt8)) = false := bne_eq_false_iff_eq.mpr c17
                    clear c17
                    replace H := Option.bind_eq_some_iff.mp H
                    obtain ⟨t188, A180, H⟩ := H
                    replace H : (if t188 = true then ((spec_IsSign.f k1 a0_11).bind fun t189 => (some t189)) else (some false)) = some r := H
                    have A18 := Aside0.mk A180
                    clear A180
                    by_cases c19 : t188 = true
                    · subst c19
                      have H1 : ((spec_IsSign.f k1 a0_11).bind fun t189 => (some t189)) = some r := by rw [if_pos rfl] at H; exact H
                      clear H
                      have H := H1
                      clear H1
                      replace H := Option.bind_eq_some_iff.mp H
                      obtain ⟨t189, A200, H⟩ := H
                      replace H : (some t189) = some r := H
                      have A20 := Aside0.mk A200
                      clear A200
                      obtain rfl := Option.some.inj H
                      have hcz21_0 : wr.cell? ⟨gb182, 0, none⟩ = some (.string a0_0) := (blk_cell BK182.out 0).trans rfl
                      have hcz21_1 : wr.cell? ⟨gb182, 1, none⟩ = some (.slice A0_1 l0_1.length c0_1) := (blk_cell BK182.out 1).trans rfl
                      have hcz21_2 : wr.cell? ⟨gb182, 2, none⟩ = some (.string a0_2) := (blk_cell BK182.out 2).trans rfl
                      have hcz21_3 : wr.cell? ⟨gb182, 3, none⟩ = some (.string a0_3) := (blk_cell BK182.out 3).trans rfl
                      have hcz21_4 : wr.cell? ⟨gb182, 4, none⟩ = some (.int .i64 a0_4) := (blk_cell BK182.out 4).trans rfl
                      have hcz21_5 : wr.cell? ⟨gb182, 5, none⟩ = some (.int .i64 a0_5) := (blk_cell BK182.out 5).trans rfl
                      have hcz21_6 : wr.cell? ⟨gb182, 6, none⟩ = some (.string a0_6) := (blk_cell BK182.out 6).trans rfl
                      have hcz21_7 : wr.cell? ⟨gb182, 7, none⟩ = some (.string a0_7) := (blk_cell BK182.out 7).trans rfl
                      have hcz21_8 : wr.cell? ⟨gb182, 8, none⟩ = some (.int .i64 a0_8) := (blk_cell BK182.out 8).trans rfl
                      have hcz21_9 : wr.cell? ⟨gb182, 9, none⟩ = some (.int .i64 a0_9) := (blk_cell BK182.out 9).trans rfl
                      have hcz21_10 : wr.cell? ⟨gb182, 10, none⟩ = some (.string a0_10) := (blk_cell BK182.out 10).trans rfl
                      have hcz21_11 : wr.cell? ⟨gb182, 11, none⟩ = some (.string a0_11) := (blk_cell BK182.out 11).trans rfl
                      have hcz21_12 : wr.cell? ⟨gb182, 12, none⟩ = some (.string a0_12) := (blk_cell BK182.out 12).trans rfl
                      have hcz21_13 : wr.cell? ⟨gb182, 13, none⟩ = some (.string a0_13) := (blk_cell BK182.out 13).trans rfl
                      have hfz21_0 := blk_frozen BK182.out 0
                      have hfz21_1 := blk_frozen BK182.out 1
                      have hfz21_2 := blk_frozen BK182.out 2
                      have hfz21_3 := blk_frozen BK182.out 3
                      have hfz21_4 := blk_frozen BK182.out 4
                      have hfz21_5 := blk_frozen BK182.out 5
                      have hfz21_6 := blk_frozen BK182.out 6
                      have hfz21_7 := blk_frozen BK182.out 7
                      have hfz21_8 := blk_frozen BK182.out 8
                      have hfz21_9 := blk_frozen BK182.out 9
                      have hfz21_10 := blk_frozen BK182.out 10
                      have hfz21_11 := blk_frozen BK182.out 11
                      have hfz21_12 := blk_frozen BK182.out 12
                      have hfz21_13 := blk_frozen BK182.out 13
                      go_wp2_with (first | (go_at_call 28; (with_reducible refine (spec_IsName40.calls k1 a0_0 true _ A11.out).mono ?_); rintro e w' ⟨rfl, ⟨nd, rfl⟩⟩) | (go_at_call 31; (with_reducible refine (spec_IsWho.calls k1 a0_2 a0_3 a0_4 a0_5 true _ A13.out).mono ?_); rintro e w22 ⟨rfl, hb⟩; have n0_ := Aside0.mk (blk_below (g := gb182) (o := .cells #[.string a0_0, .slice A0_1 l0_1.length c0_1, .string a0_2, .string a0_3, .int .i64 a0_4, .int .i64 a0_5, .string a0_6, .string a0_7, .int .i64 a0_8, .int .i64 a0_9, .string a0_10, .string a0_11, .string a0_12, .string a0_13] 38 (0, 0)) (by (with_reducible repeat (first | refine blk_drewN ?_ _ | refine blk_drew ?_ | refine blk_alloc ?_ _)); exact BK182.out) hb); have n1_ := Aside0.mk (below_step (by repeat (first | (with_reducible first | exact HB.out | apply below_alloc | apply pw_below_drewN | apply below_drew1 | refine below_set ?_ GE182.out) | exact HB.out)) hb); clear BK182; clear HB; have BK182 := n0_; have HB := n1_; clear n0_ n1_; (try clear hb); (try clear hb2); (try clear hk); (try clear hi); have hcz23_0 : w22.cell? ⟨gb182, 0, none⟩ = some (.string a0_0) := (blk_cell BK182.out 0).trans rfl; have hcz23_1 : w22.cell? ⟨gb182, 1, none⟩ = some (.slice A0_1 l0_1.length c0_1) := (blk_cell BK182.out 1).trans rfl; have hcz23_2 : w22.cell? ⟨gb182, 2, none⟩ = some (.string a0_2) := (blk_cell BK182.out 2).trans rfl; have hcz23_3 : w22.cell? ⟨gb182, 3, none⟩ = some (.string a0_3) := (blk_cell BK182.out 3).trans rfl; have hcz23_4 : w22.cell? ⟨gb182, 4, none⟩ = some (.int .i64 a0_4) := (blk_cell BK182.out 4).trans rfl; have hcz23_5 : w22.cell? ⟨gb182, 5, none⟩ = some (.int .i64 a0_5) := (blk_cell BK182.out 5).trans rfl; have hcz23_6 : w22.cell? ⟨gb182, 6, none⟩ = some (.string a0_6) := (blk_cell BK182.out 6).trans rfl; have hcz23_7 : w22.cell? ⟨gb182, 7, none⟩ = some (.string a0_7) := (blk_cell BK182.out 7).trans rfl; have hcz23_8 : w22.cell? ⟨gb182, 8, none⟩ = some (.int .i64 a0_8) := (blk_cell BK182.out 8).trans rfl; have hcz23_9 : w22.cell? ⟨gb182, 9, none⟩ = some (.int .i64 a0_9) := (blk_cell BK182.out 9).trans rfl; have hcz23_10 : w22.cell? ⟨gb182, 10, none⟩ = some (.string a0_10) := (blk_cell BK182.out 10).trans rfl; have hcz23_11 : w22.cell? ⟨gb182, 11, none⟩ = some (.string a0_11) := (blk_cell BK182.out 11).trans rfl; have hcz23_12 : w22.cell? ⟨gb182, 12, none⟩ = some (.string a0_12) := (blk_cell BK182.out 12).trans rfl; have hcz23_13 : w22.cell? ⟨gb182, 13, none⟩ = some (.string a0_13) := (blk_cell BK182.out 13).trans rfl; have hfz23_0 := blk_frozen BK182.out 0; have hfz23_1 := blk_frozen BK182.out 1; have hfz23_2 := blk_frozen BK182.out 2; have hfz23_3 := blk_frozen BK182.out 3; have hfz23_4 := blk_frozen BK182.out 4; have hfz23_5 := blk_frozen BK182.out 5; have hfz23_6 := blk_frozen BK182.out 6; have hfz23_7 := blk_frozen BK182.out 7; have hfz23_8 := blk_frozen BK182.out 8; have hfz23_9 := blk_frozen BK182.out 9; have hfz23_10 := blk_frozen BK182.out 10; have hfz23_11 := blk_frozen BK182.out 11; have hfz23_12 := blk_frozen BK182.out 12; have hfz23_13 := blk_frozen BK182.out 13) | (go_at_call 31; (with_reducible refine (spec_IsWho.calls k1 a0_6 a0_7 a0_8 a0_9 true _ A15.out).mono ?_); rintro e w24 ⟨rfl, hb⟩; have n0_ := Aside0.mk (blk_below (g := gb182) (o := .cells #[.string a0_0, .slice A0_1 l0_1.length c0_1, .string a0_2, .string a0_3, .int .i64 a0_4, .int .i64 a0_5, .string a0_6, .string a0_7, .int .i64 a0_8, .int .i64 a0_9, .string a0_10, .string a0_11, .string a0_12, .string a0_13] 38 (0, 0)) (by (with_reducible repeat (first | refine blk_drewN ?_ _ | refine blk_drew ?_ | refine blk_alloc ?_ _)); exact BK182.out) hb); have n1_ := Aside0.mk (below_step (by repeat (first | (with_reducible first | exact HB.out | apply below_alloc | apply pw_below_drewN | apply below_drew1 | refine below_set ?_ GE182.out) | exact HB.out)) hb); clear BK182; clear HB; have BK182 := n0_; have HB := n1_; clear n0_ n1_; (try clear hb); (try clear hb2); (try clear hk); (try clear hi); have hcz25_0 : w24.cell? ⟨gb182, 0, none⟩ = some (.string a0_0) := (blk_cell BK182.out 0).trans rfl; have hcz25_1 : w24.cell? ⟨gb182, 1, none⟩ = some (.slice A0_1 l0_1.length c0_1) := (blk_cell BK182.out 1).trans rfl; have hcz25_2 : w24.cell? ⟨gb182, 2, none⟩ = some (.string a0_2) := (blk_cell BK182.out 2).trans rfl; have hcz25_3 : w24.cell? ⟨gb182, 3, none⟩ = some (.string a0_3) := (blk_cell BK182.out 3).trans rfl; have hcz25_4 : w24.cell? ⟨gb182, 4, none⟩ = some (.int .i64 a0_4) := (blk_cell BK182.out 4).trans rfl; have hcz25_5 : w24.cell? ⟨gb182, 5, none⟩ = some (.int .i64 a0_5) := (blk_cell BK182.out 5).trans rfl; have hcz25_6 : w24.cell? ⟨gb182, 6, none⟩ = some (.string a0_6) := (blk_cell BK182.out 6).trans rfl; have hcz25_7 : w24.cell? ⟨gb182, 7, none⟩ = some (.string a0_7) := (blk_cell BK182.out 7).trans rfl; have hcz25_8 : w24.cell? ⟨gb182, 8, none⟩ = some (.int .i64 a0_8) := (blk_cell BK182.out 8).trans rfl; have hcz25_9 : w24.cell? ⟨gb182, 9, none⟩ = some (.int .i64 a0_9) := (blk_cell BK182.out 9).trans rfl; have hcz25_10 : w24.cell? ⟨gb182, 10, none⟩ = some (.string a0_10) := (blk_cell BK182.out 10).trans rfl; have hcz25_11 : w24.cell? ⟨gb182, 11, none⟩ = some (.string a0_11) := (blk_cell BK182.out 11).trans rfl; have hcz25_12 : w24.cell? ⟨gb182, 12, none⟩ = some (.string a0_12) := (blk_cell BK182.out 12).trans rfl; have hcz25_13 : w24.cell? ⟨gb182, 13, none⟩ = some (.string a0_13) := (blk_cell BK182.out 13).trans rfl; have hfz25_0 := blk_frozen BK182.out 0; have hfz25_1 := blk_frozen BK182.out 1; have hfz25_2 := blk_frozen BK182.out 2; have hfz25_3 := blk_frozen BK182.out 3; have hfz25_4 := blk_frozen BK182.out 4; have hfz25_5 := blk_frozen BK182.out 5; have hfz25_6 := blk_frozen BK182.out 6; have hfz25_7 := blk_frozen BK182.out 7; have hfz25_8 := blk_frozen BK182.out 8; have hfz25_9 := blk_frozen BK182.out 9; have hfz25_10 := blk_frozen BK182.out 10; have hfz25_11 := blk_frozen BK182.out 11; have hfz25_12 := blk_frozen BK182.out 12; have hfz25_13 := blk_frozen BK182.out 13) | (go_at_call 37; (with_reducible refine (spec_plainEncoding.calls a0_0 _ _ l0_1 a0_2 a0_3 a0_4 a0_5 a0_6 a0_7 a0_8 a0_9 a0_10 a0_11 a0_12 a0_13 true _ ?side1 ?side2 A18.out).mono ?_); (case side1 => repeat (first | exact (Kd.C_below HR0_1.out HB.out) | (with_reducible refine Kd.C_alloc ?_ _) | (with_reducible refine Kd.C_drewN ?_ _) | (with_reducible refine Kd.C_drew ?_))); (case side2 => exact HC0_1.out); rintro e w26 ⟨rfl, hb⟩; have n0_ := Aside0.mk (blk_below (g := gb182) (o := .cells #[.string a0_0, .slice A0_1 l0_1.length c0_1, .string a0_2, .string a0_3, .int .i64 a0_4, .int .i64 a0_5, .string a0_6, .string a0_7, .int .i64 a0_8, .int .i64 a0_9, .string a0_10, .string a0_11, .string a0_12, .string a0_13] 38 (0, 0)) (by (with_reducible repeat (first | refine blk_drewN ?_ _ | refine blk_drew ?_ | refine blk_alloc ?_ _)); exact BK182.out) hb); have n1_ := Aside0.mk (below_step (by repeat (first | (with_reducible first | exact HB.out | apply below_alloc | apply pw_below_drewN | apply below_drew1 | refine below_set ?_ GE182.out) | exact HB.out)) hb); clear BK182; clear HB; have BK182 := n0_; have HB := n1_; clear n0_ n1_; (try clear hb); (try clear hb2); (try clear hk); (try clear hi); have hcz27_0 : w26.cell? ⟨gb182, 0, none⟩ = some (.string a0_0) := (blk_cell BK182.out 0).trans rfl; have hcz27_1 : w26.cell? ⟨gb182, 1, none⟩ = some (.slice A0_1 l0_1.length c0_1) := (blk_cell BK182.out 1).trans rfl; have hcz27_2 : w26.cell? ⟨gb182, 2, none⟩ = some (.string a0_2) := (blk_cell BK182.out 2).trans rfl; have hcz27_3 : w26.cell? ⟨gb182, 3, none⟩ = some (.string a0_3) := (blk_cell BK182.out 3).trans rfl; have hcz27_4 : w26.cell? ⟨gb182, 4, none⟩ = some (.int .i64 a0_4) := (blk_cell BK182.out 4).trans rfl; have hcz27_5 : w26.cell? ⟨gb182, 5, none⟩ = some (.int .i64 a0_5) := (blk_cell BK182.out 5).trans rfl; have hcz27_6 : w26.cell? ⟨gb182, 6, none⟩ = some (.string a0_6) := (blk_cell BK182.out 6).trans rfl; have hcz27_7 : w26.cell? ⟨gb182, 7, none⟩ = some (.string a0_7) := (blk_cell BK182.out 7).trans rfl; have hcz27_8 : w26.cell? ⟨gb182, 8, none⟩ = some (.int .i64 a0_8) := (blk_cell BK182.out 8).trans rfl; have hcz27_9 : w26.cell? ⟨gb182, 9, none⟩ = some (.int .i64 a0_9) := (blk_cell BK182.out 9).trans rfl; have hcz27_10 : w26.cell? ⟨gb182, 10, none⟩ = some (.string a0_10) := (blk_cell BK182.out 10).trans rfl; have hcz27_11 : w26.cell? ⟨gb182, 11, none⟩ = some (.string a0_11) := (blk_cell BK182.out 11).trans rfl; have hcz27_12 : w26.cell? ⟨gb182, 12, none⟩ = some (.string a0_12) := (blk_cell BK182.out 12).trans rfl; have hcz27_13 : w26.cell? ⟨gb182, 13, none⟩ = some (.string a0_13) := (blk_cell BK182.out 13).trans rfl; have hfz27_0 := blk_frozen BK182.out 0; have hfz27_1 := blk_frozen BK182.out 1; have hfz27_2 := blk_frozen BK182.out 2; have hfz27_3 := blk_frozen BK182.out 3; have hfz27_4 := blk_frozen BK182.out 4; have hfz27_5 := blk_frozen BK182.out 5; have hfz27_6 := blk_frozen BK182.out 6; have hfz27_7 := blk_frozen BK182.out 7; have hfz27_8 := blk_frozen BK182.out 8; have hfz27_9 := blk_frozen BK182.out 9; have hfz27_10 := blk_frozen BK182.out 10; have hfz27_11 := blk_frozen BK182.out 11; have hfz27_12 := blk_frozen BK182.out 12; have hfz27_13 := blk_frozen BK182.out 13) | (go_at_call 38; (with_reducible refine (spec_IsSign.calls k1 a0_11 t189 _ A20.out).mono ?_); rintro e w28 ⟨rfl, hb⟩; have n0_ := Aside0.mk (blk_below (g := gb182) (o := .cells #[.string a0_0, .slice A0_1 l0_1.length c0_1, .string a0_2, .string a0_3, .int .i64 a0_4, .int .i64 a0_5, .string a0_6, .string a0_7, .int .i64 a0_8, .int .i64 a0_9, .string a0_10, .string a0_11, .string a0_12, .string a0_13] 38 (0, 0)) (by (with_reducible repeat (first | refine blk_drewN ?_ _ | refine blk_drew ?_ | refine blk_alloc ?_ _)); exact BK182.out) hb); have n1_ := Aside0.mk (below_step (by repeat (first | (with_reducible first | exact HB.out | apply below_alloc | apply pw_below_drewN | apply below_drew1 | refine below_set ?_ GE182.out) | exact HB.out)) hb); clear BK182; clear HB; have BK182 := n0_; have HB := n1_; clear n0_ n1_; (try clear hb); (try clear hb2); (try clear hk); (try clear hi)))
                      go_ret
                      exact ⟨by first | rfl | (simp [errW_none, errW_some] <;> rfl) | (simp [*, errW_none, errW_some] <;> rfl), by repeat (first | (with_reducible first | exact HB.out | apply below_alloc | apply pw_below_drewN | apply below_drew1 | refine below_set ?_ GE182.out) | exact HB.out)⟩
                    · replace c19 := Bool.eq_false_iff.mpr c19
                      subst c19
                      have H1 : (some false) = some r := by rw [if_neg (show ¬ (false = true) by decide)] at H; exact H
                      clear H
                      have H := H1
                      clear H1
                      obtain rfl := Option.some.inj H
                      have hcz29_0 : wr.cell? ⟨gb182, 0, none⟩ = some (.string a0_0) := (blk_cell BK182.out 0).trans rfl
                      have hcz29_1 : wr.cell? ⟨gb182, 1, none⟩ = some (.slice A0_1 l0_1.length c0_1) := (blk_cell BK182.out 1).trans rfl
                      have hcz29_2 : wr.cell? ⟨gb182, 2, none⟩ = some (.string a0_2) := (blk_cell BK182.out 2).trans rfl
                      have hcz29_3 : wr.cell? ⟨gb182, 3, none⟩ = some (.string a0_3) := (blk_cell BK182.out 3).trans rfl
                      have hcz29_4 : wr.cell? ⟨gb182, 4, none⟩ = some (.int .i64 a0_4) := (blk_cell BK182.out 4).trans rfl
                      have hcz29_5 : wr.cell? ⟨gb182, 5, none⟩ = some (.int .i64 a0_5) := (blk_cell BK182.out 5).trans rfl
                      have hcz29_6 : wr.cell? ⟨gb182, 6, none⟩ = some (.string a0_6) := (blk_cell BK182.out 6).trans rfl
                      have hcz29_7 : wr.cell? ⟨gb182, 7, none⟩ = some (.string a0_7) := (blk_cell BK182.out 7).trans rfl
                      have hcz29_8 : wr.cell? ⟨gb182, 8, none⟩ = some (.int .i64 a0_8) := (blk_cell BK182.out 8).trans rfl
                      have hcz29_9 : wr.cell? ⟨gb182, 9, none⟩ = some (.int .i64 a0_9) := (blk_cell BK182.out 9).trans rfl
                      have hcz29_10 : wr.cell? ⟨gb182, 10, none⟩ = some (.string a0_10) := (blk_cell BK182.out 10).trans rfl
                      have hcz29_11 : wr.cell? ⟨gb182, 11, none⟩ = some (.string a0_11) := (blk_cell BK182.out 11).trans rfl
                      have hcz29_12 : wr.cell? ⟨gb182, 12, none⟩ = some (.string a0_12) := (blk_cell BK182.out 12).trans rfl
                      have hcz29_13 : wr.cell? ⟨gb182, 13, none⟩ = some (.string a0_13) := (blk_cell BK182.out 13).trans rfl
                      have hfz29_0 := blk_frozen BK182.out 0
                      have hfz29_1 := blk_frozen BK182.out 1
                      have hfz29_2 := blk_frozen BK182.out 2
                      have hfz29_3 := blk_frozen BK182.out 3
                      have hfz29_4 := blk_frozen BK182.out 4
                      have hfz29_5 := blk_frozen BK182.out 5
                      have hfz29_6 := blk_frozen BK182.out 6
                      have hfz29_7 := blk_frozen BK182.out 7
                      have hfz29_8 := blk_frozen BK182.out 8
                      have hfz29_9 := blk_frozen BK182.out 9
                      have hfz29_10 := blk_frozen BK182.out 10
                      have hfz29_11 := blk_frozen BK182.out 11
                      have hfz29_12 := blk_frozen BK182.out 12
                      have hfz29_13 := blk_frozen BK182.out 13
                      go_wp2_with (first | (go_at_call 28; (with_reducible refine (spec_IsName40.calls k1 a0_0 true _ A11.out).mono ?_); rintro e w' ⟨rfl, ⟨nd, rfl⟩⟩) | (go_at_call 31; (with_reducible refine (spec_IsWho.calls k1 a0_2 a0_3 a0_4 a0_5 true _ A13.out).mono ?_); rintro e w30 ⟨rfl, hb⟩; have n0_ := Aside0.mk (blk_below (g := gb182) (o := .cells #[.string a0_0, .slice A0_1 l0_1.length c0_1, .string a0_2, .string a0_3, .int .i64 a0_4, .int .i64 a0_5, .string a0_6, .string a0_7, .int .i64 a0_8, .int .i64 a0_9, .string a0_10, .string a0_11, .string a0_12, .string a0_13] 38 (0, 0)) (by (with_reducible repeat (first | refine blk_drewN ?_ _ | refine blk_drew ?_ | refine blk_alloc ?_ _)); exact BK182.out) hb); have n1_ := Aside0.mk (below_step (by repeat (first | (with_reducible first | exact HB.out | apply below_alloc | apply pw_below_drewN | apply below_drew1 | refine below_set ?_ GE182.out) | exact HB.out)) hb); clear BK182; clear HB; have BK182 := n0_; have HB := n1_; clear n0_ n1_; (try clear hb); (try clear hb2); (try clear hk); (try clear hi); have hcz31_0 : w30.cell? ⟨gb182, 0, none⟩ = some (.string a0_0) := (blk_cell BK182.out 0).trans rfl; have hcz31_1 : w30.cell? ⟨gb182, 1, none⟩ = some (.slice A0_1 l0_1.length c0_1) := (blk_cell BK182.out 1).trans rfl; have hcz31_2 : w30.cell? ⟨gb182, 2, none⟩ = some (.string a0_2) := (blk_cell BK182.out 2).trans rfl; have hcz31_3 : w30.cell? ⟨gb182, 3, none⟩ = some (.string a0_3) := (blk_cell BK182.out 3).trans rfl; have hcz31_4 : w30.cell? ⟨gb182, 4, none⟩ = some (.int .i64 a0_4) := (blk_cell BK182.out 4).trans rfl; have hcz31_5 : w30.cell? ⟨gb182, 5, none⟩ = some (.int .i64 a0_5) := (blk_cell BK182.out 5).trans rfl; have hcz31_6 : w30.cell? ⟨gb182, 6, none⟩ = some (.string a0_6) := (blk_cell BK182.out 6).trans rfl; have hcz31_7 : w30.cell? ⟨gb182, 7, none⟩ = some (.string a0_7) := (blk_cell BK182.out 7).trans rfl; have hcz31_8 : w30.cell? ⟨gb182, 8, none⟩ = some (.int .i64 a0_8) := (blk_cell BK182.out 8).trans rfl; have hcz31_9 : w30.cell? ⟨gb182, 9, none⟩ = some (.int .i64 a0_9) := (blk_cell BK182.out 9).trans rfl; have hcz31_10 : w30.cell? ⟨gb182, 10, none⟩ = some (.string a0_10) := (blk_cell BK182.out 10).trans rfl; have hcz31_11 : w30.cell? ⟨gb182, 11, none⟩ = some (.string a0_11) := (blk_cell BK182.out 11).trans rfl; have hcz31_12 : w30.cell? ⟨gb182, 12, none⟩ = some (.string a0_12) := (blk_cell BK182.out 12).trans rfl; have hcz31_13 : w30.cell? ⟨gb182, 13, none⟩ = some (.string a0_13) := (blk_cell BK182.out 13).trans rfl; have hfz31_0 := blk_frozen BK182.out 0; have hfz31_1 := blk_frozen BK182.out 1; have hfz31_2 := blk_frozen BK182.out 2; have hfz31_3 := blk_frozen BK182.out 3; have hfz31_4 := blk_frozen BK182.out 4; have hfz31_5 := blk_frozen BK182.out 5; have hfz31_6 := blk_frozen BK182.out 6; have hfz31_7 := blk_frozen BK182.out 7; have hfz31_8 := blk_frozen BK182.out 8; have hfz31_9 := blk_frozen BK182.out 9; have hfz31_10 := blk_frozen BK182.out 10; have hfz31_11 := blk_frozen BK182.out 11; have hfz31_12 := blk_frozen BK182.out 12; have hfz31_13 := blk_frozen BK182.out 13) | (go_at_call 31; (with_reducible refine (spec_IsWho.calls k1 a0_6 a0_7 a0_8 a0_9 true _ A15.out).mono ?_); rintro e w32 ⟨rfl, hb⟩; have n0_ := Aside0.mk (blk_below (g := gb182) (o := .cells #[.string a0_0, .slice A0_1 l0_1.length c0_1, .string a0_2, .string a0_3, .int .i64 a0_4, .int .i64 a0_5, .string a0_6, .string a0_7, .int .i64 a0_8, .int .i64 a0_9, .string a0_10, .string a0_11, .string a0_12, .string a0_13] 38 (0, 0)) (by (with_reducible repeat (first | refine blk_drewN ?_ _ | refine blk_drew ?_ | refine blk_alloc ?_ _)); exact BK182.out) hb); have n1_ := Aside0.mk (below_step (by repeat (first | (with_reducible first | exact HB.out | apply below_alloc | apply pw_below_drewN | apply below_drew1 | refine below_set ?_ GE182.out) | exact HB.out)) hb); clear BK182; clear HB; have BK182 := n0_; have HB := n1_; clear n0_ n1_; (try clear hb); (try clear hb2); (try clear hk); (try clear hi); have hcz33_0 : w32.cell? ⟨gb182, 0, none⟩ = some (.string a0_0) := (blk_cell BK182.out 0).trans rfl; have hcz33_1 : w32.cell? ⟨gb182, 1, none⟩ = some (.slice A0_1 l0_1.length c0_1) := (blk_cell BK182.out 1).trans rfl; have hcz33_2 : w32.cell? ⟨gb182, 2, none⟩ = some (.string a0_2) := (blk_cell BK182.out 2).trans rfl; have hcz33_3 : w32.cell? ⟨gb182, 3, none⟩ = some (.string a0_3) := (blk_cell BK182.out 3).trans rfl; have hcz33_4 : w32.cell? ⟨gb182, 4, none⟩ = some (.int .i64 a0_4) := (blk_cell BK182.out 4).trans rfl; have hcz33_5 : w32.cell? ⟨gb182, 5, none⟩ = some (.int .i64 a0_5) := (blk_cell BK182.out 5).trans rfl; have hcz33_6 : w32.cell? ⟨gb182, 6, none⟩ = some (.string a0_6) := (blk_cell BK182.out 6).trans rfl; have hcz33_7 : w32.cell? ⟨gb182, 7, none⟩ = some (.string a0_7) := (blk_cell BK182.out 7).trans rfl; have hcz33_8 : w32.cell? ⟨gb182, 8, none⟩ = some (.int .i64 a0_8) := (blk_cell BK182.out 8).trans rfl; have hcz33_9 : w32.cell? ⟨gb182, 9, none⟩ = some (.int .i64 a0_9) := (blk_cell BK182.out 9).trans rfl; have hcz33_10 : w32.cell? ⟨gb182, 10, none⟩ = some (.string a0_10) := (blk_cell BK182.out 10).trans rfl; have hcz33_11 : w32.cell? ⟨gb182, 11, none⟩ = some (.string a0_11) := (blk_cell BK182.out 11).trans rfl; have hcz33_12 : w32.cell? ⟨gb182, 12, none⟩ = some (.string a0_12) := (blk_cell BK182.out 12).trans rfl; have hcz33_13 : w32.cell? ⟨gb182, 13, none⟩ = some (.string a0_13) := (blk_cell BK182.out 13).trans rfl; have hfz33_0 := blk_frozen BK182.out 0; have hfz33_1 := blk_frozen BK182.out 1; have hfz33_2 := blk_frozen BK182.out 2; have hfz33_3 := blk_frozen BK182.out 3; have hfz33_4 := blk_frozen BK182.out 4; have hfz33_5 := blk_frozen BK182.out 5; have hfz33_6 := blk_frozen BK182.out 6; have hfz33_7 := blk_frozen BK182.out 7; have hfz33_8 := blk_frozen BK182.out 8; have hfz33_9 := blk_frozen BK182.out 9; have hfz33_10 := blk_frozen BK182.out 10; have hfz33_11 := blk_frozen BK182.out 11; have hfz33_12 := blk_frozen BK182.out 12; have hfz33_13 := blk_frozen BK182.out 13) | (go_at_call 37; (with_reducible refine (spec_plainEncoding.calls a0_0 _ _ l0_1 a0_2 a0_3 a0_4 a0_5 a0_6 a0_7 a0_8 a0_9 a0_10 a0_11 a0_12 a0_13 false _ ?side1 ?side2 A18.out).mono ?_); (case side1 => repeat (first | exact (Kd.C_below HR0_1.out HB.out) | (with_reducible refine Kd.C_alloc ?_ _) | (with_reducible refine Kd.C_drewN ?_ _) | (with_reducible refine Kd.C_drew ?_))); (case side2 => exact HC0_1.out); rintro e w34 ⟨rfl, hb⟩; have n0_ := Aside0.mk (blk_below (g := gb182) (o := .cells #[.string a0_0, .slice A0_1 l0_1.length c0_1, .string a0_2, .string a0_3, .int .i64 a0_4, .int .i64 a0_5, .string a0_6, .string a0_7, .int .i64 a0_8, .int .i64 a0_9, .string a0_10, .string a0_11, .string a0_12, .string a0_13] 38 (0, 0)) (by (with_reducible repeat (first | refine blk_drewN ?_ _ | refine blk_drew ?_ | refine blk_alloc ?_ _)); exact BK182.out) hb); have n1_ := Aside0.mk (below_step (by repeat (first | (with_reducible first | exact HB.out | apply below_alloc | apply pw_below_drewN | apply below_drew1 | refine below_set ?_ GE182.out) | exact HB.out)) hb); clear BK182; clear HB; have BK182 := n0_; have HB := n1_; clear n0_ n1_; (try clear hb); (try clear hb2); (try clear hk); (try clear hi)))
                      go_ret
                      exact ⟨by first | rfl | (simp [errW_none, errW_some] <;> rfl) | (simp [*, errW_none, errW_some] <;> rfl), by repeat (first | (with_reducible first | exact HB.out | apply below_alloc | apply pw_below_drewN | apply below_drew1 | refine below_set ?_ GE182.out) | exact HB.out)⟩
                  · rw [if_neg c17] at H
                    have c17b0 : (a0_10.toList == ([] : List UInt8)) = false := beq_eq_false_iff_ne.mpr c17
                    have c17b1 : (a0_10.toList != ([] : List UInt8)) = true := bne_iff_ne.mpr c17
                    obtain rfl := Option.some.inj H
                    have hcz35_0 : wr.cell? ⟨gb182, 0, none⟩ = some (.string a0_0) := (blk_cell BK182.out 0).trans rfl
                    have hcz35_1 : wr.cell? ⟨gb182, 1, none⟩ = some (.slice A0_1 l0_1.length c0_1) := (blk_cell BK182.out 1).trans rfl
                    have hcz35_2 : wr.cell? ⟨gb182, 2, none⟩ = some (.string a0_2) := (blk_cell BK182.out 2).trans rfl
                    have hcz35_3 : wr.cell? ⟨gb182, 3, none⟩ = some (.string a0_3) := (blk_cell BK182.out 3).trans rfl
                    have hcz35_4 : wr.cell? ⟨gb182, 4, none⟩ = some (.int .i64 a0_4) := (blk_cell BK182.out 4).trans rfl
                    have hcz35_5 : wr.cell? ⟨gb182, 5, none⟩ = some (.int .i64 a0_5) := (blk_cell BK182.out 5).trans rfl
                    have hcz35_6 : wr.cell? ⟨gb182, 6, none⟩ = some (.string a0_6) := (blk_cell BK182.out 6).trans rfl
                    have hcz35_7 : wr.cell? ⟨gb182, 7, none⟩ = some (.string a0_7) := (blk_cell BK182.out 7).trans rfl
                    have hcz35_8 : wr.cell? ⟨gb182, 8, none⟩ = some (.int .i64 a0_8) := (blk_cell BK182.out 8).trans rfl
                    have hcz35_9 : wr.cell? ⟨gb182, 9, none⟩ = some (.int .i64 a0_9) := (blk_cell BK182.out 9).trans rfl
                    have hcz35_10 : wr.cell? ⟨gb182, 10, none⟩ = some (.string a0_10) := (blk_cell BK182.out 10).trans rfl
                    have hcz35_11 : wr.cell? ⟨gb182, 11, none⟩ = some (.string a0_11) := (blk_cell BK182.out 11).trans rfl
                    have hcz35_12 : wr.cell? ⟨gb182, 12, none⟩ = some (.string a0_12) := (blk_cell BK182.out 12).trans rfl
                    have hcz35_13 : wr.cell? ⟨gb182, 13, none⟩ = some (.string a0_13) := (blk_cell BK182.out 13).trans rfl
                    have hfz35_0 := blk_frozen BK182.out 0
                    have hfz35_1 := blk_frozen BK182.out 1
                    have hfz35_2 := blk_frozen BK182.out 2
                    have hfz35_3 := blk_frozen BK182.out 3
                    have hfz35_4 := blk_frozen BK182.out 4
                    have hfz35_5 := blk_frozen BK182.out 5
                    have hfz35_6 := blk_frozen BK182.out 6
                    have hfz35_7 := blk_frozen BK182.out 7
                    have hfz35_8 := blk_frozen BK182.out 8
                    have hfz35_9 := blk_frozen BK182.out 9
                    have hfz35_10 := blk_frozen BK182.out 10
                    have hfz35_11 := blk_frozen BK182.out 11
                    have hfz35_12 := blk_frozen BK182.out 12
                    have hfz35_13 := blk_frozen BK182.out 13
                    go_wp2_with (first | (go_at_call 28; (with_reducible refine (spec_IsName40.calls k1 a0_0 true _ A11.out).mono ?_); rintro e w' ⟨rfl, ⟨nd, rfl⟩⟩) | (go_at_call 31; (with_reducible refine (spec_IsWho.calls k1 a0_2 a0_3 a0_4 a0_5 true _ A13.out).mono ?_); rintro e w36 ⟨rfl, hb⟩; have n0_ := Aside0.mk (blk_below (g := gb182) (o := .cells #[.string a0_0, .slice A0_1 l0_1.length c0_1, .string a0_2, .string a0_3, .int .i64 a0_4, .int .i64 a0_5, .string a0_6, .string a0_7, .int .i64 a0_8, .int .i64 a0_9, .string a0_10, .string a0_11, .string a0_12, .string a0_13] 38 (0, 0)) (by (with_reducible repeat (first | refine blk_drewN ?_ _ | refine blk_drew ?_ | refine blk_alloc ?_ _)); exact BK182.out) hb); have n1_ := Aside0.mk (below_step (by repeat (first | (with_reducible first | exact HB.out | apply below_alloc | apply pw_below_drewN | apply below_drew1 | refine below_set ?_ GE182.out) | exact HB.out)) hb); clear BK182; clear HB; have BK182 := n0_; have HB := n1_; clear n0_ n1_; (try clear hb); (try clear hb2); (try clear hk); (try clear hi); have hcz37_0 : w36.cell? ⟨gb182, 0, none⟩ = some (.string a0_0) := (blk_cell BK182.out 0).trans rfl; have hcz37_1 : w36.cell? ⟨gb182, 1, none⟩ = some (.slice A0_1 l0_1.length c0_1) := (blk_cell BK182.out 1).trans rfl; have hcz37_2 : w36.cell? ⟨gb182, 2, none⟩ = some (.string a0_2) := (blk_cell BK182.out 2).trans rfl; have hcz37_3 : w36.cell? ⟨gb182, 3, none⟩ = some (.string a0_3) := (blk_cell BK182.out 3).trans rfl; have hcz37_4 : w36.cell? ⟨gb182, 4, none⟩ = some (.int .i64 a0_4) := (blk_cell BK182.out 4).trans rfl; have hcz37_5 : w36.cell? ⟨gb182, 5, none⟩ = some (.int .i64 a0_5) := (blk_cell BK182.out 5).trans rfl; have hcz37_6 : w36.cell? ⟨gb182, 6, none⟩ = some (.string a0_6) := (blk_cell BK182.out 6).trans rfl; have hcz37_7 : w36.cell? ⟨gb182, 7, none⟩ = some (.string a0_7) := (blk_cell BK182.out 7).trans rfl; have hcz37_8 : w36.cell? ⟨gb182, 8, none⟩ = some (.int .i64 a0_8) := (blk_cell BK182.out 8).trans rfl; have hcz37_9 : w36.cell? ⟨gb182, 9, none⟩ = some (.int .i64 a0_9) := (blk_cell BK182.out 9).trans rfl; have hcz37_10 : w36.cell? ⟨gb182, 10, none⟩ = some (.string a0_10) := (blk_cell BK182.out 10).trans rfl; have hcz37_11 : w36.cell? ⟨gb182, 11, none⟩ = some (.string a0_11) := (blk_cell BK182.out 11).trans rfl; have hcz37_12 : w36.cell? ⟨gb182, 12, none⟩ = some (.string a0_12) := (blk_cell BK182.out 12).trans rfl; have hcz37_13 : w36.cell? ⟨gb182, 13, none⟩ = some (.string a0_13) := (blk_cell BK182.out 13).trans rfl; have hfz37_0 := blk_frozen BK182.out 0; have hfz37_1 := blk_frozen BK182.out 1; have hfz37_2 := blk_frozen BK182.out 2; have hfz37_3 := blk_frozen BK182.out 3; have hfz37_4 := blk_frozen BK182.out 4; have hfz37_5 := blk_frozen BK182.out 5; have hfz37_6 := blk_frozen BK182.out 6; have hfz37_7 := blk_frozen BK182.out 7; have hfz37_8 := blk_frozen BK182.out 8; have hfz37_9 := blk_frozen BK182.out 9; have hfz37_10 := blk_frozen BK182.out 10; have hfz37_11 := blk_frozen BK182.out 11; have hfz37_12 := blk_frozen BK182.out 12; have hfz37_13 := blk_frozen BK182.out 13) | (go_at_call 31; (with_reducible refine (spec_IsWho.calls k1 a0_6 a0_7 a0_8 a0_9 true _ A15.out).mono ?_); rintro e w38 ⟨rfl, hb⟩; have n0_ := Aside0.mk (blk_below (g := gb182) (o := .cells #[.string a0_0, .slice A0_1 l0_1.length c0_1, .string a0_2, .string a0_3, .int .i64 a0_4, .int .i64 a0_5, .string a0_6, .string a0_7, .int .i64 a0_8, .int .i64 a0_9, .string a0_10, .string a0_11, .string a0_12, .string a0_13] 38 (0, 0)) (by (with_reducible repeat (first | refine blk_drewN ?_ _ | refine blk_drew ?_ | refine blk_alloc ?_ _)); exact BK182.out) hb); have n1_ := Aside0.mk (below_step (by repeat (first | (with_reducible first | exact HB.out | apply below_alloc | apply pw_below_drewN | apply below_drew1 | refine below_set ?_ GE182.out) | exact HB.out)) hb); clear BK182; clear HB; have BK182 := n0_; have HB := n1_; clear n0_ n1_; (try clear hb); (try clear hb2); (try clear hk); (try clear hi); have hcz39_0 : w38.cell? ⟨gb182, 0, none⟩ = some (.string a0_0) := (blk_cell BK182.out 0).trans rfl; have hcz39_1 : w38.cell? ⟨gb182, 1, none⟩ = some (.slice A0_1 l0_1.length c0_1) := (blk_cell BK182.out 1).trans rfl; have hcz39_2 : w38.cell? ⟨gb182, 2, none⟩ = some (.string a0_2) := (blk_cell BK182.out 2).trans rfl; have hcz39_3 : w38.cell? ⟨gb182, 3, none⟩ = some (.string a0_3) := (blk_cell BK182.out 3).trans rfl; have hcz39_4 : w38.cell? ⟨gb182, 4, none⟩ = some (.int .i64 a0_4) := (blk_cell BK182.out 4).trans rfl; have hcz39_5 : w38.cell? ⟨gb182, 5, none⟩ = some (.int .i64 a0_5) := (blk_cell BK182.out 5).trans rfl; have hcz39_6 : w38.cell? ⟨gb182, 6, none⟩ = some (.string a0_6) := (blk_cell BK182.out 6).trans rfl; have hcz39_7 : w38.cell? ⟨gb182, 7, none⟩ = some (.string a0_7) := (blk_cell BK182.out 7).trans rfl; have hcz39_8 : w38.cell? ⟨gb182, 8, none⟩ = some (.int .i64 a0_8) := (blk_cell BK182.out 8).trans rfl; have hcz39_9 : w38.cell? ⟨gb182, 9, none⟩ = some (.int .i64 a0_9) := (blk_cell BK182.out 9).trans rfl; have hcz39_10 : w38.cell? ⟨gb182, 10, none⟩ = some (.string a0_10) := (blk_cell BK182.out 10).trans rfl; have hcz39_11 : w38.cell? ⟨gb182, 11, none⟩ = some (.string a0_11) := (blk_cell BK182.out 11).trans rfl; have hcz39_12 : w38.cell? ⟨gb182, 12, none⟩ = some (.string a0_12) := (blk_cell BK182.out 12).trans rfl; have hcz39_13 : w38.cell? ⟨gb182, 13, none⟩ = some (.string a0_13) := (blk_cell BK182.out 13).trans rfl; have hfz39_0 := blk_frozen BK182.out 0; have hfz39_1 := blk_frozen BK182.out 1; have hfz39_2 := blk_frozen BK182.out 2; have hfz39_3 := blk_frozen BK182.out 3; have hfz39_4 := blk_frozen BK182.out 4; have hfz39_5 := blk_frozen BK182.out 5; have hfz39_6 := blk_frozen BK182.out 6; have hfz39_7 := blk_frozen BK182.out 7; have hfz39_8 := blk_frozen BK182.out 8; have hfz39_9 := blk_frozen BK182.out 9; have hfz39_10 := blk_frozen BK182.out 10; have hfz39_11 := blk_frozen BK182.out 11; have hfz39_12 := blk_frozen BK182.out 12; have hfz39_13 := blk_frozen BK182.out 13))
                    go_ret
                    exact ⟨by first | rfl | (simp [errW_none, errW_some] <;> rfl) | (simp [*, errW_none, errW_some] <;> rfl), by repeat (first | (with_reducible first | exact HB.out | apply below_alloc | apply pw_below_drewN | apply below_drew1 | refine below_set ?_ GE182.out) | exact HB.out)⟩
                · replace c16 := Bool.eq_false_iff.mpr c16
                  subst c16
                  have H1 : (some false) = some r := by rw [if_neg (show ¬ (false = true) by decide)] at H; exact H
                  clear H
                  have H := H1
                  clear H1
                  obtain rfl := Option.some.inj H
                  have hcz40_0 : wr.cell? ⟨gb182, 0, none⟩ = some (.string a0_0) := (blk_cell BK182.out 0).trans rfl
                  have hcz40_1 : wr.cell? ⟨gb182, 1, none⟩ = some (.slice A0_1 l0_1.length c0_1) := (blk_cell BK182.out 1).trans rfl
                  have hcz40_2 : wr.cell? ⟨gb182, 2, none⟩ = some (.string a0_2) := (blk_cell BK182.out 2).trans rfl
                  have hcz40_3 : wr.cell? ⟨gb182, 3, none⟩ = some (.string a0_3) := (blk_cell BK182.out 3).trans rfl
                  have hcz40_4 : wr.cell? ⟨gb182, 4, none⟩ = some (.int .i64 a0_4) := (blk_cell BK182.out 4).trans rfl
                  have hcz40_5 : wr.cell? ⟨gb182, 5, none⟩ = some (.int .i64 a0_5) := (blk_cell BK182.out 5).trans rfl
                  have hcz40_6 : wr.cell? ⟨gb182, 6, none⟩ = some (.string a0_6) := (blk_cell BK182.out 6).trans rfl
                  have hcz40_7 : wr.cell? ⟨gb182, 7, none⟩ = some (.string a0_7) := (blk_cell BK182.out 7).trans rfl
                  have hcz40_8 : wr.cell? ⟨gb182, 8, none⟩ = some (.int .i64 a0_8) := (blk_cell BK182.out 8).trans rfl
                  have hcz40_9 : wr.cell? ⟨gb182, 9, none⟩ = some (.int .i64 a0_9) := (blk_cell BK182.out 9).trans rfl
                  have hcz40_10 : wr.cell? ⟨gb182, 10, none⟩ = some (.string a0_10) := (blk_cell BK182.out 10).trans rfl
                  have hcz40_11 : wr.cell? ⟨gb182, 11, none⟩ = some (.string a0_11) := (blk_cell BK182.out 11).trans rfl
                  have hcz40_12 : wr.cell? ⟨gb182, 12, none⟩ = some (.string a0_12) := (blk_cell BK182.out 12).trans rfl
                  have hcz40_13 : wr.cell? ⟨gb182, 13, none⟩ = some (.string a0_13) := (blk_cell BK182.out 13).trans rfl
                  have hfz40_0 := blk_frozen BK182.out 0
                  have hfz40_1 := blk_frozen BK182.out 1
                  have hfz40_2 := blk_frozen BK182.out 2
                  have hfz40_3 := blk_frozen BK182.out 3
                  have hfz40_4 := blk_frozen BK182.out 4
                  have hfz40_5 := blk_frozen BK182.out 5
                  have hfz40_6 := blk_frozen BK182.out 6
                  have hfz40_7 := blk_frozen BK182.out 7
                  have hfz40_8 := blk_frozen BK182.out 8
                  have hfz40_9 := blk_frozen BK182.out 9
                  have hfz40_10 := blk_frozen BK182.out 10
                  have hfz40_11 := blk_frozen BK182.out 11
                  have hfz40_12 := blk_frozen BK182.out 12
                  have hfz40_13 := blk_frozen BK182.out 13
                  go_wp2_with (first | (go_at_call 28; (with_reducible refine (spec_IsName40.calls k1 a0_0 true _ A11.out).mono ?_); rintro e w' ⟨rfl, ⟨nd, rfl⟩⟩) | (go_at_call 31; (with_reducible refine (spec_IsWho.calls k1 a0_2 a0_3 a0_4 a0_5 true _ A13.out).mono ?_); rintro e w41 ⟨rfl, hb⟩; have n0_ := Aside0.mk (blk_below (g := gb182) (o := .cells #[.string a0_0, .slice A0_1 l0_1.length c0_1, .string a0_2, .string a0_3, .int .i64 a0_4, .int .i64 a0_5, .string a0_6, .string a0_7, .int .i64 a0_8, .int .i64 a0_9, .string a0_10, .string a0_11, .string a0_12, .string a0_13] 38 (0, 0)) (by (with_reducible repeat (first | refine blk_drewN ?_ _ | refine blk_drew ?_ | refine blk_alloc ?_ _)); exact BK182.out) hb); have n1_ := Aside0.mk (below_step (by repeat (first | (with_reducible first | exact HB.out | apply below_alloc | apply pw_below_drewN | apply below_drew1 | refine below_set ?_ GE182.out) | exact HB.out)) hb); clear BK182; clear HB; have BK182 := n0_; have HB := n1_; clear n0_ n1_; (try clear hb); (try clear hb2); (try clear hk); (try clear hi); have hcz42_0 : w41.cell? ⟨gb182, 0, none⟩ = some (.string a0_0) := (blk_cell BK182.out 0).trans rfl; have hcz42_1 : w41.cell? ⟨gb182, 1, none⟩ = some (.slice A0_1 l0_1.length c0_1) := (blk_cell BK182.out 1).trans rfl; have hcz42_2 : w41.cell? ⟨gb182, 2, none⟩ = some (.string a0_2) := (blk_cell BK182.out 2).trans rfl; have hcz42_3 : w41.cell? ⟨gb182, 3, none⟩ = some (.string a0_3) := (blk_cell BK182.out 3).trans rfl; have hcz42_4 : w41.cell? ⟨gb182, 4, none⟩ = some (.int .i64 a0_4) := (blk_cell BK182.out 4).trans rfl; have hcz42_5 : w41.cell? ⟨gb182, 5, none⟩ = some (.int .i64 a0_5) := (blk_cell BK182.out 5).trans rfl; have hcz42_6 : w41.cell? ⟨gb182, 6, none⟩ = some (.string a0_6) := (blk_cell BK182.out 6).trans rfl; have hcz42_7 : w41.cell? ⟨gb182, 7, none⟩ = some (.string a0_7) := (blk_cell BK182.out 7).trans rfl; have hcz42_8 : w41.cell? ⟨gb182, 8, none⟩ = some (.int .i64 a0_8) := (blk_cell BK182.out 8).trans rfl; have hcz42_9 : w41.cell? ⟨gb182, 9, none⟩ = some (.int .i64 a0_9) := (blk_cell BK182.out 9).trans rfl; have hcz42_10 : w41.cell? ⟨gb182, 10, none⟩ = some (.string a0_10) := (blk_cell BK182.out 10).trans rfl; have hcz42_11 : w41.cell? ⟨gb182, 11, none⟩ = some (.string a0_11) := (blk_cell BK182.out 11).trans rfl; have hcz42_12 : w41.cell? ⟨gb182, 12, none⟩ = some (.string a0_12) := (blk_cell BK182.out 12).trans rfl; have hcz42_13 : w41.cell? ⟨gb182, 13, none⟩ = some (.string a0_13) := (blk_cell BK182.out 13).trans rfl; have hfz42_0 := blk_frozen BK182.out 0; have hfz42_1 := blk_frozen BK182.out 1; have hfz42_2 := blk_frozen BK182.out 2; have hfz42_3 := blk_frozen BK182.out 3; have hfz42_4 := blk_frozen BK182.out 4; have hfz42_5 := blk_frozen BK182.out 5; have hfz42_6 := blk_frozen BK182.out 6; have hfz42_7 := blk_frozen BK182.out 7; have hfz42_8 := blk_frozen BK182.out 8; have hfz42_9 := blk_frozen BK182.out 9; have hfz42_10 := blk_frozen BK182.out 10; have hfz42_11 := blk_frozen BK182.out 11; have hfz42_12 := blk_frozen BK182.out 12; have hfz42_13 := blk_frozen BK182.out 13) | (go_at_call 31; (with_reducible refine (spec_IsWho.calls k1 a0_6 a0_7 a0_8 a0_9 false _ A15.out).mono ?_); rintro e w43 ⟨rfl, hb⟩; have n0_ := Aside0.mk (blk_below (g := gb182) (o := .cells #[.string a0_0, .slice A0_1 l0_1.length c0_1, .string a0_2, .string a0_3, .int .i64 a0_4, .int .i64 a0_5, .string a0_6, .string a0_7, .int .i64 a0_8, .int .i64 a0_9, .string a0_10, .string a0_11, .string a0_12, .string a0_13] 38 (0, 0)) (by (with_reducible repeat (first | refine blk_drewN ?_ _ | refine blk_drew ?_ | refine blk_alloc ?_ _)); exact BK182.out) hb); have n1_ := Aside0.mk (below_step (by repeat (first | (with_reducible first | exact HB.out | apply below_alloc | apply pw_below_drewN | apply below_drew1 | refine below_set ?_ GE182.out) | exact HB.out)) hb); clear BK182; clear HB; have BK182 := n0_; have HB := n1_; clear n0_ n1_; (try clear hb); (try clear hb2); (try clear hk); (try clear hi)))
                  go_ret
                  exact ⟨by first | rfl | (simp [errW_none, errW_some] <;> rfl) | (simp [*, errW_none, errW_some] <;> rfl), by repeat (first | (with_reducible first | exact HB.out | apply below_alloc | apply pw_below_drewN | apply below_drew1 | refine below_set ?_ GE182.out) | exact HB.out)⟩
              · replace c14 := Bool.eq_false_iff.mpr c14
                subst c14
                have H1 : (some false) = some r := by rw [if_neg (show ¬ (false = true) by decide)] at H; exact H
                clear H
                have H := H1
                clear H1
                obtain rfl := Option.some.inj H
                have hcz44_0 : wr.cell? ⟨gb182, 0, none⟩ = some (.string a0_0) := (blk_cell BK182.out 0).trans rfl
                have hcz44_1 : wr.cell? ⟨gb182, 1, none⟩ = some (.slice A0_1 l0_1.length c0_1) := (blk_cell BK182.out 1).trans rfl
                have hcz44_2 : wr.cell? ⟨gb182, 2, none⟩ = some (.string a0_2) := (blk_cell BK182.out 2).trans rfl
                have hcz44_3 : wr.cell? ⟨gb182, 3, none⟩ = some (.string a0_3) := (blk_cell BK182.out 3).trans rfl
                have hcz44_4 : wr.cell? ⟨gb182, 4, none⟩ = some (.int .i64 a0_4) := (blk_cell BK182.out 4).trans rfl
                have hcz44_5 : wr.cell? ⟨gb182, 5, none⟩ = some (.int .i64 a0_5) := (blk_cell BK182.out 5).trans rfl
                have hcz44_6 : wr.cell? ⟨gb182, 6, none⟩ = some (.string a0_6) := (blk_cell BK182.out 6).trans rfl
                have hcz44_7 : wr.cell? ⟨gb182, 7, none⟩ = some (.string a0_7) := (blk_cell BK182.out 7).trans rfl
                have hcz44_8 : wr.cell? ⟨gb182, 8, none⟩ = some (.int .i64 a0_8) := (blk_cell BK182.out 8).trans rfl
                have hcz44_9 : wr.cell? ⟨gb182, 9, none⟩ = some (.int .i64 a0_9) := (blk_cell BK182.out 9).trans rfl
                have hcz44_10 : wr.cell? ⟨gb182, 10, none⟩ = some (.string a0_10) := (blk_cell BK182.out 10).trans rfl
                have hcz44_11 : wr.cell? ⟨gb182, 11, none⟩ = some (.string a0_11) := (blk_cell BK182.out 11).trans rfl
                have hcz44_12 : wr.cell? ⟨gb182, 12, none⟩ = some (.string a0_12) := (blk_cell BK182.out 12).trans rfl
                have hcz44_13 : wr.cell? ⟨gb182, 13, none⟩ = some (.string a0_13) := (blk_cell BK182.out 13).trans rfl
                have hfz44_0 := blk_frozen BK182.out 0
                have hfz44_1 := blk_frozen BK182.out 1
                have hfz44_2 := blk_frozen BK182.out 2
                have hfz44_3 := blk_frozen BK182.out 3
                have hfz44_4 := blk_frozen BK182.out 4
                have hfz44_5 := blk_frozen BK182.out 5
                have hfz44_6 := blk_frozen BK182.out 6
                have hfz44_7 := blk_frozen BK182.out 7
                have hfz44_8 := blk_frozen BK182.out 8
                have hfz44_9 := blk_frozen BK182.out 9
                have hfz44_10 := blk_frozen BK182.out 10
                have hfz44_11 := blk_frozen BK182.out 11
                have hfz44_12 := blk_frozen BK182.out 12
                have hfz44_13 := blk_frozen BK182.out 13
                go_wp2_with (first | (go_at_call 28; (with_reducible refine (spec_IsName40.calls k1 a0_0 true _ A11.out).mono ?_); rintro e w' ⟨rfl, ⟨nd, rfl⟩⟩) | (go_at_call 31; (with_reducible refine (spec_IsWho.calls k1 a0_2 a0_3 a0_4 a0_5 false _ A13.out).mono ?_); rintro e w45 ⟨rfl, hb⟩; have n0_ := Aside0.mk (blk_below (g := gb182) (o := .cells #[.string a0_0, .slice A0_1 l0_1.length c0_1, .string a0_2, .string a0_3, .int .i64 a0_4, .int .i64 a0_5, .string a0_6, .string a0_7, .int .i64 a0_8, .int .i64 a0_9, .string a0_10, .string a0_11, .string a0_12, .string a0_13] 38 (0, 0)) (by (with_reducible repeat (first | refine blk_drewN ?_ _ | refine blk_drew ?_ | refine blk_alloc ?_ _)); exact BK182.out) hb); have n1_ := Aside0.mk (below_step (by repeat (first | (with_reducible first | exact HB.out | apply below_alloc | apply pw_below_drewN | apply below_drew1 | refine below_set ?_ GE182.out) | exact HB.out)) hb); clear BK182; clear HB; have BK182 := n0_; have HB := n1_; clear n0_ n1_; (try clear hb); (try clear hb2); (try clear hk); (try clear hi)))
                go_ret
                exact ⟨by first | rfl | (simp [errW_none, errW_some] <;> rfl) | (simp [*, errW_none, errW_some] <;> rfl), by repeat (first | (with_reducible first | exact HB.out | apply below_alloc | apply pw_below_drewN | apply below_drew1 | refine below_set ?_ GE182.out) | exact HB.out)⟩
            · replace c12 := Bool.eq_false_iff.mpr c12
              subst c12
              have H1 : (some false) = some r := by rw [if_neg (show ¬ (false = true) by decide)] at H; exact H
              clear H
              have H := H1
              clear H1
              obtain rfl := Option.some.inj H
              have hcz46_0 : wr.cell? ⟨gb182, 0, none⟩ = some (.string a0_0) := (blk_cell BK182.out 0).trans rfl
              have hcz46_1 : wr.cell? ⟨gb182, 1, none⟩ = some (.slice A0_1 l0_1.length c0_1) := (blk_cell BK182.out 1).trans rfl
              have hcz46_2 : wr.cell? ⟨gb182, 2, none⟩ = some (.string a0_2) := (blk_cell BK182.out 2).trans rfl
              have hcz46_3 : wr.cell? ⟨gb182, 3, none⟩ = some (.string a0_3) := (blk_cell BK182.out 3).trans rfl
              have hcz46_4 : wr.cell? ⟨gb182, 4, none⟩ = some (.int .i64 a0_4) := (blk_cell BK182.out 4).trans rfl
              have hcz46_5 : wr.cell? ⟨gb182, 5, none⟩ = some (.int .i64 a0_5) := (blk_cell BK182.out 5).trans rfl
              have hcz46_6 : wr.cell? ⟨gb182, 6, none⟩ = some (.string a0_6) := (blk_cell BK182.out 6).trans rfl
              have hcz46_7 : wr.cell? ⟨gb182, 7, none⟩ = some (.string a0_7) := (blk_cell BK182.out 7).trans rfl
              have hcz46_8 : wr.cell? ⟨gb182, 8, none⟩ = some (.int .i64 a0_8) := (blk_cell BK182.out 8).trans rfl
              have hcz46_9 : wr.cell? ⟨gb182, 9, none⟩ = some (.int .i64 a0_9) := (blk_cell BK182.out 9).trans rfl
              have hcz46_10 : wr.cell? ⟨gb182, 10, none⟩ = some (.string a0_10) := (blk_cell BK182.out 10).trans rfl
              have hcz46_11 : wr.cell? ⟨gb182, 11, none⟩ = some (.string a0_11) := (blk_cell BK182.out 11).trans rfl
              have hcz46_12 : wr.cell? ⟨gb182, 12, none⟩ = some (.string a0_12) := (blk_cell BK182.out 12).trans rfl
              have hcz46_13 : wr.cell? ⟨gb182, 13, none⟩ = some (.string a0_13) := (blk_cell BK182.out 13).trans rfl
              have hfz46_0 := blk_frozen BK182.out 0
              have hfz46_1 := blk_frozen BK182.out 1
              have hfz46_2 := blk_frozen BK182.out 2
              have hfz46_3 := blk_frozen BK182.out 3
              have hfz46_4 := blk_frozen BK182.out 4
              have hfz46_5 := blk_frozen BK182.out 5
              have hfz46_6 := blk_frozen BK182.out 6
              have hfz46_7 := blk_frozen BK182.out 7
              have hfz46_8 := blk_frozen BK182.out 8
              have hfz46_9 := blk_frozen BK182.out 9
              have hfz46_10 := blk_frozen BK182.out 10
              have hfz46_11 := blk_frozen BK182.out 11
              have hfz46_12 := blk_frozen BK182.out 12
              have hfz46_13 := blk_frozen BK182.out 13
              go_wp2_with (first | (go_at_call 28; (with_reducible refine (spec_IsName40.calls k1 a0_0 false _ A11.out).mono ?_); rintro e w' ⟨rfl, ⟨nd, rfl⟩⟩))
              go_ret
              exact ⟨by first | rfl | (simp [errW_none, errW_some] <;> rfl) | (simp [*, errW_none, errW_some] <;> rfl), by repeat (first | (with_reducible first | exact HB.out | apply below_alloc | apply pw_below_drewN | apply below_drew1 | refine below_set ?_ GE182.out) | exact HB.out)⟩
          · rw [if_neg c10] at H
            have c10b0 : decide ((a0_13.size : Int) ≤ 1000000) = false := decide_eq_false c10
            have c10b1 : decide (a0_13.size ≤ 1000000) = false := decide_eq_false (by omega)
            clear c10
            obtain rfl := Option.some.inj H
            have hcz47_0 : wr.cell? ⟨gb182, 0, none⟩ = some (.string a0_0) := (blk_cell BK182.out 0).trans rfl
            have hcz47_1 : wr.cell? ⟨gb182, 1, none⟩ = some (.slice A0_1 l0_1.length c0_1) := (blk_cell BK182.out 1).trans rfl
            have hcz47_2 : wr.cell? ⟨gb182, 2, none⟩ = some (.string a0_2) := (blk_cell BK182.out 2).trans rfl
            have hcz47_3 : wr.cell? ⟨gb182, 3, none⟩ = some (.string a0_3) := (blk_cell BK182.out 3).trans rfl
            have hcz47_4 : wr.cell? ⟨gb182, 4, none⟩ = some (.int .i64 a0_4) := (blk_cell BK182.out 4).trans rfl
            have hcz47_5 : wr.cell? ⟨gb182, 5, none⟩ = some (.int .i64 a0_5) := (blk_cell BK182.out 5).trans rfl
            have hcz47_6 : wr.cell? ⟨gb182, 6, none⟩ = some (.string a0_6) := (blk_cell BK182.out 6).trans rfl
            have hcz47_7 : wr.cell? ⟨gb182, 7, none⟩ = some (.string a0_7) := (blk_cell BK182.out 7).trans rfl
            have hcz47_8 : wr.cell? ⟨gb182, 8, none⟩ = some (.int .i64 a0_8) := (blk_cell BK182.out 8).trans rfl
            have hcz47_9 : wr.cell? ⟨gb182, 9, none⟩ = some (.int .i64 a0_9) := (blk_cell BK182.out 9).trans rfl
            have hcz47_10 : wr.cell? ⟨gb182, 10, none⟩ = some (.string a0_10) := (blk_cell BK182.out 10).trans rfl
            have hcz47_11 : wr.cell? ⟨gb182, 11, none⟩ = some (.string a0_11) := (blk_cell BK182.out 11).trans rfl
            have hcz47_12 : wr.cell? ⟨gb182, 12, none⟩ = some (.string a0_12) := (blk_cell BK182.out 12).trans rfl
            have hcz47_13 : wr.cell? ⟨gb182, 13, none⟩ = some (.string a0_13) := (blk_cell BK182.out 13).trans rfl
            have hfz47_0 := blk_frozen BK182.out 0
            have hfz47_1 := blk_frozen BK182.out 1
            have hfz47_2 := blk_frozen BK182.out 2
            have hfz47_3 := blk_frozen BK182.out 3
            have hfz47_4 := blk_frozen BK182.out 4
            have hfz47_5 := blk_frozen BK182.out 5
            have hfz47_6 := blk_frozen BK182.out 6
            have hfz47_7 := blk_frozen BK182.out 7
            have hfz47_8 := blk_frozen BK182.out 8
            have hfz47_9 := blk_frozen BK182.out 9
            have hfz47_10 := blk_frozen BK182.out 10
            have hfz47_11 := blk_frozen BK182.out 11
            have hfz47_12 := blk_frozen BK182.out 12
            have hfz47_13 := blk_frozen BK182.out 13
            go_wp2
            go_ret
            exact ⟨by first | rfl | (simp [errW_none, errW_some] <;> rfl) | (simp [*, errW_none, errW_some] <;> rfl), by repeat (first | (with_reducible first | exact HB.out | apply below_alloc | apply pw_below_drewN | apply below_drew1 | refine below_set ?_ GE182.out) | exact HB.out)⟩
        · rw [if_neg c9] at H
          have c9b0 : decide ((l0_1.length : Int) ≤ 1000) = false := decide_eq_false c9
          have c9b1 : decide (l0_1.length ≤ 1000) = false := decide_eq_false (by omega)
          clear c9
          obtain rfl := Option.some.inj H
          have hcz48_0 : wr.cell? ⟨gb182, 0, none⟩ = some (.string a0_0) := (blk_cell BK182.out 0).trans rfl
          have hcz48_1 : wr.cell? ⟨gb182, 1, none⟩ = some (.slice A0_1 l0_1.length c0_1) := (blk_cell BK182.out 1).trans rfl
          have hcz48_2 : wr.cell? ⟨gb182, 2, none⟩ = some (.string a0_2) := (blk_cell BK182.out 2).trans rfl
          have hcz48_3 : wr.cell? ⟨gb182, 3, none⟩ = some (.string a0_3) := (blk_cell BK182.out 3).trans rfl
          have hcz48_4 : wr.cell? ⟨gb182, 4, none⟩ = some (.int .i64 a0_4) := (blk_cell BK182.out 4).trans rfl
          have hcz48_5 : wr.cell? ⟨gb182, 5, none⟩ = some (.int .i64 a0_5) := (blk_cell BK182.out 5).trans rfl
          have hcz48_6 : wr.cell? ⟨gb182, 6, none⟩ = some (.string a0_6) := (blk_cell BK182.out 6).trans rfl
          have hcz48_7 : wr.cell? ⟨gb182, 7, none⟩ = some (.string a0_7) := (blk_cell BK182.out 7).trans rfl
          have hcz48_8 : wr.cell? ⟨gb182, 8, none⟩ = some (.int .i64 a0_8) := (blk_cell BK182.out 8).trans rfl
          have hcz48_9 : wr.cell? ⟨gb182, 9, none⟩ = some (.int .i64 a0_9) := (blk_cell BK182.out 9).trans rfl
          have hcz48_10 : wr.cell? ⟨gb182, 10, none⟩ = some (.string a0_10) := (blk_cell BK182.out 10).trans rfl
          have hcz48_11 : wr.cell? ⟨gb182, 11, none⟩ = some (.string a0_11) := (blk_cell BK182.out 11).trans rfl
          have hcz48_12 : wr.cell? ⟨gb182, 12, none⟩ = some (.string a0_12) := (blk_cell BK182.out 12).trans rfl
          have hcz48_13 : wr.cell? ⟨gb182, 13, none⟩ = some (.string a0_13) := (blk_cell BK182.out 13).trans rfl
          have hfz48_0 := blk_frozen BK182.out 0
          have hfz48_1 := blk_frozen BK182.out 1
          have hfz48_2 := blk_frozen BK182.out 2
          have hfz48_3 := blk_frozen BK182.out 3
          have hfz48_4 := blk_frozen BK182.out 4
          have hfz48_5 := blk_frozen BK182.out 5
          have hfz48_6 := blk_frozen BK182.out 6
          have hfz48_7 := blk_frozen BK182.out 7
          have hfz48_8 := blk_frozen BK182.out 8
          have hfz48_9 := blk_frozen BK182.out 9
          have hfz48_10 := blk_frozen BK182.out 10
          have hfz48_11 := blk_frozen BK182.out 11
          have hfz48_12 := blk_frozen BK182.out 12
          have hfz48_13 := blk_frozen BK182.out 13
          go_wp2
          go_ret
          exact ⟨by first | rfl | (simp [errW_none, errW_some] <;> rfl) | (simp [*, errW_none, errW_some] <;> rfl), by repeat (first | (with_reducible first | exact HB.out | apply below_alloc | apply pw_below_drewN | apply below_drew1 | refine below_set ?_ GE182.out) | exact HB.out)⟩

end Go.Proofs.YtddnepddilbikaaDoor.QAll
