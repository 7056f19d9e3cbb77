-- WRITTEN BY A PROGRAM OF THIS SESSION, out of the loaded program, with words of the kit
import Derived.Test.YtddnepddilbikaaDoorQAllx0
import Derived.Test.YtddnepddilbikaaDoorQAllx6
import Derived.Test.YtddnepddilbikaaDoorQAllx7
namespace Go.Proofs.YtddnepddilbikaaDoor.QAll
open Go.RowKit Go.Proofs.YtddnepddilbikaaDoorW.PrintWords Go.Proofs.YtddnepddilbikaaDoorW.PrintLast Go.Proofs.YtddnepddilbikaaDoorW.PrintMore
attribute [local go_sem] max2_int min2_int max_two min_two max_three min_three max_four min_four   -- for this text's walks alone
set_option linter.unusedVariables false
set_option linter.unusedSimpArgs false

/-! ### spec_CommitText: function 18 -/
mutual
def spec_CommitText.l0 : Nat → ByteArray → List ByteArray → Int → Int → ByteArray → List ByteArray → ByteArray → ByteArray → Int → Int → ByteArray → ByteArray → Int → Int → ByteArray → ByteArray → ByteArray → ByteArray → Option (ByteArray)
  | 0, _, _, _, _, _, _, _, _, _, _, _, _, _, _, _, _, _, _ => none
  | k + 1, x3, x13, x14, x15, x191000, x191001, x191002, x191003, x191004, x191005, x191006, x191007, x191008, x191009, x191010, x191011, x191012, x191013 => if x15 < x14 then (if 0 ≤ x15 then (if x15 < (x13.length : Int) then (if 7 + (rdOf ByteArray.empty x13 x15).size ≤ 9223372036854775807 then (if ((⟨#[112, 97, 114, 101, 110, 116, 32]⟩ : ByteArray) ++ (rdOf ByteArray.empty x13 x15)).size + 1 ≤ 9223372036854775807 then (if x3.size + (((⟨#[112, 97, 114, 101, 110, 116, 32]⟩ : ByteArray) ++ (rdOf ByteArray.empty x13 x15)) ++ (⟨#[10]⟩ : ByteArray)).size ≤ 9223372036854775807 then (spec_CommitText.l0 k (x3 ++ (((⟨#[112, 97, 114, 101, 110, 116, 32]⟩ : ByteArray) ++ (rdOf ByteArray.empty x13 x15)) ++ (⟨#[10]⟩ : ByteArray))) x13 x14 (wrap64 (x15 + 1)) x191000 x191001 x191002 x191003 x191004 x191005 x191006 x191007 x191008 x191009 x191010 x191011 x191012 x191013) else (none)) else (none)) else (none)) else (none)) else (none)) else ((spec_WhoText.f x191002 x191003 x191004 x191005).bind fun t192 => (if 7 + t192.size ≤ 9223372036854775807 then (if ((⟨#[97, 117, 116, 104, 111, 114, 32]⟩ : ByteArray) ++ t192).size + 11 ≤ 9223372036854775807 then ((spec_WhoText.f x191006 x191007 x191008 x191009).bind fun t193 => (if (((⟨#[97, 117, 116, 104, 111, 114, 32]⟩ : ByteArray) ++ t192) ++ (⟨#[10, 99, 111, 109, 109, 105, 116, 116, 101, 114, 32]⟩ : ByteArray)).size + t193.size ≤ 9223372036854775807 then (if ((((⟨#[97, 117, 116, 104, 111, 114, 32]⟩ : ByteArray) ++ t192) ++ (⟨#[10, 99, 111, 109, 109, 105, 116, 116, 101, 114, 32]⟩ : ByteArray)) ++ t193).size + 1 ≤ 9223372036854775807 then (if x3.size + (((((⟨#[97, 117, 116, 104, 111, 114, 32]⟩ : ByteArray) ++ t192) ++ (⟨#[10, 99, 111, 109, 109, 105, 116, 116, 101, 114, 32]⟩ : ByteArray)) ++ t193) ++ (⟨#[10]⟩ : ByteArray)).size ≤ 9223372036854775807 then ((spec_Lines.f k x191011).bind fun t194 => (spec_CommitText.l1 k (x3 ++ (((((⟨#[97, 117, 116, 104, 111, 114, 32]⟩ : ByteArray) ++ t192) ++ (⟨#[10, 99, 111, 109, 109, 105, 116, 116, 101, 114, 32]⟩ : ByteArray)) ++ t193) ++ (⟨#[10]⟩ : ByteArray))) t194 (t194.length : Int) 0 x191000 x191001 x191002 x191003 x191004 x191005 x191006 x191007 x191008 x191009 x191010 x191011 x191012 x191013)) else (none)) else (none)) else (none))) else (none)) else (none)))
def spec_CommitText.l1 : Nat → ByteArray → List ByteArray → Int → Int → ByteArray → List ByteArray → ByteArray → ByteArray → Int → Int → ByteArray → ByteArray → Int → Int → ByteArray → ByteArray → ByteArray → ByteArray → Option (ByteArray)
  | 0, _, _, _, _, _, _, _, _, _, _, _, _, _, _, _, _, _, _ => none
  | k + 1, x3, x39, x40, x41, x191000, x191001, x191002, x191003, x191004, x191005, x191006, x191007, x191008, x191009, x191010, x191011, x191012, x191013 => if x41 < x40 then (if 0 ≤ x41 then (if x41 < (x39.length : Int) then (if x41 = 0 then (if x3.size + 6 ≤ 9223372036854775807 then (if 1 + (rdOf ByteArray.empty x39 x41).size ≤ 9223372036854775807 then (if ((⟨#[32]⟩ : ByteArray) ++ (rdOf ByteArray.empty x39 x41)).size + 1 ≤ 9223372036854775807 then (if (x3 ++ (⟨#[103, 112, 103, 115, 105, 103]⟩ : ByteArray)).size + (((⟨#[32]⟩ : ByteArray) ++ (rdOf ByteArray.empty x39 x41)) ++ (⟨#[10]⟩ : ByteArray)).size ≤ 9223372036854775807 then (spec_CommitText.l1 k ((x3 ++ (⟨#[103, 112, 103, 115, 105, 103]⟩ : ByteArray)) ++ (((⟨#[32]⟩ : ByteArray) ++ (rdOf ByteArray.empty x39 x41)) ++ (⟨#[10]⟩ : ByteArray))) x39 x40 (wrap64 (x41 + 1)) x191000 x191001 x191002 x191003 x191004 x191005 x191006 x191007 x191008 x191009 x191010 x191011 x191012 x191013) else (none)) else (none)) else (none)) else (none)) else (if 1 + (rdOf ByteArray.empty x39 x41).size ≤ 9223372036854775807 then (if ((⟨#[32]⟩ : ByteArray) ++ (rdOf ByteArray.empty x39 x41)).size + 1 ≤ 9223372036854775807 then (if x3.size + (((⟨#[32]⟩ : ByteArray) ++ (rdOf ByteArray.empty x39 x41)) ++ (⟨#[10]⟩ : ByteArray)).size ≤ 9223372036854775807 then (spec_CommitText.l1 k (x3 ++ (((⟨#[32]⟩ : ByteArray) ++ (rdOf ByteArray.empty x39 x41)) ++ (⟨#[10]⟩ : ByteArray))) x39 x40 (wrap64 (x41 + 1)) x191000 x191001 x191002 x191003 x191004 x191005 x191006 x191007 x191008 x191009 x191010 x191011 x191012 x191013) else (none)) else (none)) else (none))) else (none)) else (none)) else (if x3.size + 1 ≤ 9223372036854775807 then (if (x3 ++ (⟨#[10]⟩ : ByteArray)).size + x191013.size ≤ 9223372036854775807 then (some ((x3 ++ (⟨#[10]⟩ : ByteArray)) ++ x191013)) else (none)) else (none))
end
def spec_CommitText.f (k : Nat) (a0_0 : ByteArray) (l0_1 : List ByteArray) (a0_2 : ByteArray) (a0_3 : ByteArray) (a0_4 : Int) (a0_5 : Int) (a0_6 : ByteArray) (a0_7 : ByteArray) (a0_8 : Int) (a0_9 : Int) (a0_10 : ByteArray) (a0_11 : ByteArray) (a0_12 : ByteArray) (a0_13 : ByteArray) : Option (ByteArray) := if 5 + a0_0.size ≤ 9223372036854775807 then (if ((⟨#[116, 114, 101, 101, 32]⟩ : ByteArray) ++ a0_0).size + 1 ≤ 9223372036854775807 then (spec_CommitText.l0 k (((⟨#[116, 114, 101, 101, 32]⟩ : ByteArray) ++ a0_0) ++ (⟨#[10]⟩ : ByteArray)) l0_1 (l0_1.length : Int) 0 a0_0 l0_1 a0_2 a0_3 a0_4 a0_5 a0_6 a0_7 a0_8 a0_9 a0_10 a0_11 a0_12 a0_13) else (none)) else (none)
theorem spec_CommitText.mono_l : ∀ k, (∀ y0 y1 y2 y3 y4 y5 y6 y7 y8 y9 y10 y11 y12 y13 y14 y15 y16 y17, LeO (spec_CommitText.l0 k y0 y1 y2 y3 y4 y5 y6 y7 y8 y9 y10 y11 y12 y13 y14 y15 y16 y17) (spec_CommitText.l0 (k + 1) y0 y1 y2 y3 y4 y5 y6 y7 y8 y9 y10 y11 y12 y13 y14 y15 y16 y17)) ∧ (∀ y0 y1 y2 y3 y4 y5 y6 y7 y8 y9 y10 y11 y12 y13 y14 y15 y16 y17, LeO (spec_CommitText.l1 k y0 y1 y2 y3 y4 y5 y6 y7 y8 y9 y10 y11 y12 y13 y14 y15 y16 y17) (spec_CommitText.l1 (k + 1) y0 y1 y2 y3 y4 y5 y6 y7 y8 y9 y10 y11 y12 y13 y14 y15 y16 y17))
  | 0 => ⟨fun _ _ _ _ _ _ _ _ _ _ _ _ _ _ _ _ _ _ r h => by simp [spec_CommitText.l0] at h, fun _ _ _ _ _ _ _ _ _ _ _ _ _ _ _ _ _ _ r h => by simp [spec_CommitText.l1] at h⟩
  | k + 1 => by
    obtain ⟨ih0, ih1⟩ := spec_CommitText.mono_l k
    refine ⟨?_, ?_⟩
    · intro y0 y1 y2 y3 y4 y5 y6 y7 y8 y9 y10 y11 y12 y13 y14 y15 y16 y17
      unfold spec_CommitText.l0
      repeat' first
      | (with_reducible exact ih0 _ _ _ _ _ _ _ _ _ _ _ _ _ _ _ _ _ _)
      | (with_reducible exact ih1 _ _ _ _ _ _ _ _ _ _ _ _ _ _ _ _ _ _)
      | (with_reducible exact spec_Lines.mono _ _)
      | (with_reducible exact LeO.refl _)
      | (with_reducible exact LeO.none _)
      | (with_reducible refine LeO.ite ?_ ?_)
      | (with_reducible refine LeO.bind ?_ (fun _ => ?_))
      | exact ih0 _ _ _ _ _ _ _ _ _ _ _ _ _ _ _ _ _ _
      | exact ih1 _ _ _ _ _ _ _ _ _ _ _ _ _ _ _ _ _ _
      | exact spec_Lines.mono _ _
      | exact LeO.none _
      | refine LeO.ite ?_ ?_
      | refine LeO.bind ?_ (fun _ => ?_)
    · intro y0 y1 y2 y3 y4 y5 y6 y7 y8 y9 y10 y11 y12 y13 y14 y15 y16 y17
      unfold spec_CommitText.l1
      repeat' first
      | (with_reducible exact ih0 _ _ _ _ _ _ _ _ _ _ _ _ _ _ _ _ _ _)
      | (with_reducible exact ih1 _ _ _ _ _ _ _ _ _ _ _ _ _ _ _ _ _ _)
      | (with_reducible exact spec_Lines.mono _ _)
      | (with_reducible exact LeO.refl _)
      | (with_reducible exact LeO.none _)
      | (with_reducible refine LeO.ite ?_ ?_)
      | (with_reducible refine LeO.bind ?_ (fun _ => ?_))
      | exact ih0 _ _ _ _ _ _ _ _ _ _ _ _ _ _ _ _ _ _
      | exact ih1 _ _ _ _ _ _ _ _ _ _ _ _ _ _ _ _ _ _
      | exact spec_Lines.mono _ _
      | exact LeO.none _
      | refine LeO.ite ?_ ?_
      | refine LeO.bind ?_ (fun _ => ?_)
theorem spec_CommitText.mono : ∀ a0 a1 a2 a3 a4 a5 a6 a7 a8 a9 a10 a11 a12 a13 k, LeO (spec_CommitText.f k a0 a1 a2 a3 a4 a5 a6 a7 a8 a9 a10 a11 a12 a13) (spec_CommitText.f (k + 1) a0 a1 a2 a3 a4 a5 a6 a7 a8 a9 a10 a11 a12 a13) := by
  intro a0 a1 a2 a3 a4 a5 a6 a7 a8 a9 a10 a11 a12 a13 k
  obtain ⟨ih0, ih1⟩ := spec_CommitText.mono_l k
  unfold spec_CommitText.f
  repeat' first
      | (with_reducible exact ih0 _ _ _ _ _ _ _ _ _ _ _ _ _ _ _ _ _ _)
      | (with_reducible exact ih1 _ _ _ _ _ _ _ _ _ _ _ _ _ _ _ _ _ _)
      | (with_reducible exact spec_Lines.mono _ _)
      | (with_reducible exact LeO.refl _)
      | (with_reducible exact LeO.none _)
      | (with_reducible refine LeO.ite ?_ ?_)
      | (with_reducible refine LeO.bind ?_ (fun _ => ?_))
      | exact ih0 _ _ _ _ _ _ _ _ _ _ _ _ _ _ _ _ _ _
      | exact ih1 _ _ _ _ _ _ _ _ _ _ _ _ _ _ _ _ _ _
      | exact spec_Lines.mono _ _
      | exact LeO.none _
      | refine LeO.ite ?_ ?_
      | refine LeO.bind ?_ (fun _ => ?_)
def spec_CommitText.T7 : Bool × List (List Nat × List Nat) := (true, [([], []), ([], []), ([1], [1]), ([2], [2]), ([3], [3]), ([4], [4]), ([], []), ([6], [6]), ([7, 3], [7]), ([5, 8], [5, 8]), ([9], [9]), ([0, 10], [0, 10]), ([11, 8, 0, 1, 2, 3, 4, 5, 6, 7, 8, 9, 10, 11], [0, 11])])
def spec_CommitText.B7 : List Nat := [0, 0, 2, 6, 14, 30, 0, 64, 206, 510, 1022, 2047, 4095]
theorem spec_CommitText.tab7 : rtab .any (opsOf Tryd.f18 7) = spec_CommitText.T7 := by kernel_rfl
theorem spec_CommitText.bits7 : waitsOk spec_CommitText.T7.2 spec_CommitText.B7 = true := by kernel_rfl
set_option maxHeartbeats 8000000 in
set_option maxRecDepth 100000 in
theorem spec_CommitText.calls (k : Nat) (a0_0 : ByteArray) (A0_1 : Option Addr) (c0_1 : Nat) (l0_1 : List ByteArray) (a0_2 : ByteArray) (a0_3 : ByteArray) (a0_4 : Int) (a0_5 : Int) (a0_6 : ByteArray) (a0_7 : ByteArray) (a0_8 : Int) (a0_9 : Int) (a0_10 : ByteArray) (a0_11 : ByteArray) (a0_12 : ByteArray) (a0_13 : ByteArray) (r : ByteArray) (w : World) (hr0_1 : Kd.C Kd.string w A0_1 l0_1.length l0_1) (hc0_1 : l0_1.length ≤ c0_1) (h : spec_CommitText.f k a0_0 l0_1 a0_2 a0_3 a0_4 a0_5 a0_6 a0_7 a0_8 a0_9 a0_10 a0_11 a0_12 a0_13 = some r) :
    Calls Tryd.prog 18 #[.agg #[.string a0_0, .slice A0_1 l0_1.length c0_1, .string a0_2, .string a0_3, .int .i64 a0_4, .int .i64 a0_5, .string a0_6, .string a0_7, .int .i64 a0_8, .int .i64 a0_9, .string a0_10, .string a0_11, .string a0_12, .string a0_13]] w fun e w' => e = .returned (.string r) ∧ Below w.heap.size w w' := by
  have hu38 := Tryd.underlying38
  have hu30 := Tryd.underlying30
  have HR0_1 := Aside0.mk hr0_1
  have HC0_1 := Aside0.mk hc0_1
  clear hr0_1 hc0_1
  have HB := Aside0.mk (Below.refl w.heap.size w)
  have H : (if 5 + a0_0.size ≤ 9223372036854775807 then (if ((⟨#[116, 114, 101, 101, 32]⟩ : ByteArray) ++ a0_0).size + 1 ≤ 9223372036854775807 then (spec_CommitText.l0 k (((⟨#[116, 114, 101, 101, 32]⟩ : ByteArray) ++ a0_0) ++ (⟨#[10]⟩ : ByteArray)) l0_1 (l0_1.length : Int) 0 a0_0 l0_1 a0_2 a0_3 a0_4 a0_5 a0_6 a0_7 a0_8 a0_9 a0_10 a0_11 a0_12 a0_13) else (none)) else (none)) = some r := h
  clear h
  by_cases c2 : 5 + a0_0.size ≤ 9223372036854775807
  · rw [if_pos c2] at H
    have c2b0 := eq_true c2
    have c2b1 : decide (5 + a0_0.size ≤ 9223372036854775807) = true := decide_eq_true c2
    try have c2b2 : (9223372036854775807 < 5 + a0_0.size) = False := eq_false (Nat.not_lt.2 c2)
    by_cases c3 : ((⟨#[116, 114, 101, 101, 32]⟩ : ByteArray) ++ a0_0).size + 1 ≤ 9223372036854775807
    · rw [if_pos c3] at H
      have c3b0 := eq_true c3
      try have c3b9_2 : (9223372036854775807 < 5 + a0_0.size) = False := eq_false (by have h_ := c3; simp only [ByteArray.size_append] at h_; have e0_ : (⟨#[116, 114, 101, 101, 32]⟩ : ByteArray).size = 5 := rfl; omega)
      try have c3b9_3 : (9223372036854775807 < 5 + a0_0.size + 1) = False := eq_false (by have h_ := c3; simp only [ByteArray.size_append] at h_; have e0_ : (⟨#[116, 114, 101, 101, 32]⟩ : ByteArray).size = 5 := rfl; omega)
      have c3b1 : decide (((⟨#[116, 114, 101, 101, 32]⟩ : ByteArray) ++ a0_0).size + 1 ≤ 9223372036854775807) = true := decide_eq_true c3
      try have c3b2 : (9223372036854775807 < ((⟨#[116, 114, 101, 101, 32]⟩ : ByteArray) ++ a0_0).size + 1) = False := eq_false (Nat.not_lt.2 c3)
      have H' := Aside0.mk H
      clear H
      go_enter Tryd.func18, Tryd.ntmps18
      go_wp2_with (first | ((with_reducible refine gate_dst (N := 1) rfl ?_); refine box_event ?hg (N := 1) ?hd (cs := #[.string a0_0, .slice A0_1 l0_1.length c0_1, .string a0_2, .string a0_3, .int .i64 a0_4, .int .i64 a0_5, .string a0_6, .string a0_7, .int .i64 a0_8, .int .i64 a0_9, .string a0_10, .string a0_11, .string a0_12, .string a0_13]) (t := 38) ?hr ?_; (case hd => rfl); (case hg => rfl); (case hr => first | (go_simp; done) | (go_simp; rfl)); intro gb190 hg w4 hbox hb; have n0_ := Aside0.mk (below_step (by repeat (first | (with_reducible first | exact HB.out | apply below_alloc | apply pw_below_drewN | apply below_drew1) | exact HB.out)) hb); have n1_ := Aside0.mk (hbox); have n2_ := Aside0.mk ((by rw [hg]; exact (below_size (by repeat (first | (with_reducible first | exact HB.out | apply below_alloc | apply pw_below_drewN | apply below_drew1) | exact HB.out))) : w.heap.size ≤ gb190)); have n3_ := Aside0.mk ((by rw [hg]; exact (below_size (by repeat (first | (with_reducible first | exact HB.out | apply below_alloc | apply pw_below_drewN | apply below_drew1) | exact HB.out))) : w.heap.size ≤ gb190)); clear HB; have HB := n0_; have BK190 := n1_; have GW190 := n2_; have GE190 := n3_; clear n0_ n1_ n2_ n3_; clear hb hbox hg; have hcz5_0 : w4.cell? ⟨gb190, 0, none⟩ = some (.string a0_0) := (blk_cell BK190.out 0).trans rfl; have hcz5_1 : w4.cell? ⟨gb190, 1, none⟩ = some (.slice A0_1 l0_1.length c0_1) := (blk_cell BK190.out 1).trans rfl; have hcz5_2 : w4.cell? ⟨gb190, 2, none⟩ = some (.string a0_2) := (blk_cell BK190.out 2).trans rfl; have hcz5_3 : w4.cell? ⟨gb190, 3, none⟩ = some (.string a0_3) := (blk_cell BK190.out 3).trans rfl; have hcz5_4 : w4.cell? ⟨gb190, 4, none⟩ = some (.int .i64 a0_4) := (blk_cell BK190.out 4).trans rfl; have hcz5_5 : w4.cell? ⟨gb190, 5, none⟩ = some (.int .i64 a0_5) := (blk_cell BK190.out 5).trans rfl; have hcz5_6 : w4.cell? ⟨gb190, 6, none⟩ = some (.string a0_6) := (blk_cell BK190.out 6).trans rfl; have hcz5_7 : w4.cell? ⟨gb190, 7, none⟩ = some (.string a0_7) := (blk_cell BK190.out 7).trans rfl; have hcz5_8 : w4.cell? ⟨gb190, 8, none⟩ = some (.int .i64 a0_8) := (blk_cell BK190.out 8).trans rfl; have hcz5_9 : w4.cell? ⟨gb190, 9, none⟩ = some (.int .i64 a0_9) := (blk_cell BK190.out 9).trans rfl; have hcz5_10 : w4.cell? ⟨gb190, 10, none⟩ = some (.string a0_10) := (blk_cell BK190.out 10).trans rfl; have hcz5_11 : w4.cell? ⟨gb190, 11, none⟩ = some (.string a0_11) := (blk_cell BK190.out 11).trans rfl; have hcz5_12 : w4.cell? ⟨gb190, 12, none⟩ = some (.string a0_12) := (blk_cell BK190.out 12).trans rfl; have hcz5_13 : w4.cell? ⟨gb190, 13, none⟩ = some (.string a0_13) := (blk_cell BK190.out 13).trans rfl; have hfz5_0 := blk_frozen BK190.out 0; have hfz5_1 := blk_frozen BK190.out 1; have hfz5_2 := blk_frozen BK190.out 2; have hfz5_3 := blk_frozen BK190.out 3; have hfz5_4 := blk_frozen BK190.out 4; have hfz5_5 := blk_frozen BK190.out 5; have hfz5_6 := blk_frozen BK190.out 6; have hfz5_7 := blk_frozen BK190.out 7; have hfz5_8 := blk_frozen BK190.out 8; have hfz5_9 := blk_frozen BK190.out 9; have hfz5_10 := blk_frozen BK190.out 10; have hfz5_11 := blk_frozen BK190.out 11; have hfz5_12 := blk_frozen BK190.out 12; have hfz5_13 := blk_frozen BK190.out 13))
      go_loopg [3, 15] k (fun kq v3 v15 w' => ∃ (x3_1 : ByteArray) (x15_1 : Int), v3 = .string x3_1 ∧ v15 = .int .i64 x15_1 ∧ Aside0 (spec_CommitText.l0 kq x3_1 l0_1 (l0_1.length : Int) x15_1 a0_0 l0_1 a0_2 a0_3 a0_4 a0_5 a0_6 a0_7 a0_8 a0_9 a0_10 a0_11 a0_12 a0_13 = some r) ∧ Aside0 (kq ≤ k) ∧ Aside0 (w'.heap[gb190]? = some (.cells #[.string a0_0, (.slice A0_1 l0_1.length c0_1), .string a0_2, .string a0_3, .int .i64 a0_4, .int .i64 a0_5, .string a0_6, .string a0_7, .int .i64 a0_8, .int .i64 a0_9, .string a0_10, .string a0_11, .string a0_12, .string a0_13] 38 (0, 0))) ∧ Aside0 (Below w.heap.size w w'))
      case atStart => exact ⟨(((⟨#[116, 114, 101, 101, 32]⟩ : ByteArray) ++ a0_0) ++ (⟨#[10]⟩ : ByteArray)), (0), (by first | rfl | (simp; done) | (simp [*]; done)), (by first | rfl | (simp; done) | (simp [*]; done)), H', ⟨Nat.le_refl _⟩, ⟨by (with_reducible repeat (first | refine blk_drewN ?_ _ | refine blk_drew ?_ | refine blk_alloc ?_ _)); exact BK190.out⟩, ⟨by repeat (first | (with_reducible first | exact HB.out | apply below_alloc | apply pw_below_drewN | apply below_drew1 | refine below_set ?_ GE190.out) | exact HB.out)⟩⟩
      case round =>
        clear H'
        try clear c1
        try clear c2
        try clear c2b0
        try clear c2b1
        try clear c2b2
        try clear p2
        try clear c3
        try clear c3b0
        try clear c3b1
        try clear c3b2
        try clear hcz5_0
        try clear hcz5_1
        try clear hcz5_10
        try clear hcz5_11
        try clear hcz5_12
        try clear hcz5_13
        try clear hcz5_2
        try clear hcz5_3
        try clear hcz5_4
        try clear hcz5_5
        try clear hcz5_6
        try clear hcz5_7
        try clear hcz5_8
        try clear hcz5_9
        try clear hfz5_0
        try clear hfz5_1
        try clear hfz5_10
        try clear hfz5_11
        try clear hfz5_12
        try clear hfz5_13
        try clear hfz5_2
        try clear hfz5_3
        try clear hfz5_4
        try clear hfz5_5
        try clear hfz5_6
        try clear hfz5_7
        try clear hfz5_8
        try clear hfz5_9
        obtain ⟨x3_1, x15_1, rfl, rfl, HA, HK1, BK190, HB⟩ := hrel
        cases gk with
        | zero => exact absurd HA.out (by simp [spec_CommitText.l0])
        | succ k1 =>
          have H := HA.out
          clear HA
          simp only [spec_CommitText.l0] at H
          by_cases c6 : x15_1 < (l0_1.length : Int)
          · rw [if_pos c6] at H
            have c6b0 : decide (x15_1 < (l0_1.length : Int)) = true := decide_eq_true c6
            clear c6
            by_cases c7 : 0 ≤ x15_1
            · rw [if_pos c7] at H
              have c7b0 : decide (0 ≤ x15_1) = true := decide_eq_true c7
              clear c7
              by_cases c8 : x15_1 < (l0_1.length : Int)
              · rw [if_pos c8] at H
                have c8b0 : decide (x15_1 < (l0_1.length : Int)) = true := decide_eq_true c8
                clear c8
                by_cases c9 : 7 + (rdOf ByteArray.empty l0_1 x15_1).size ≤ 9223372036854775807
                · rw [if_pos c9] at H
                  have c9b0 := eq_true c9
                  have c9b1 : decide (7 + (rdOf ByteArray.empty l0_1 x15_1).size ≤ 9223372036854775807) = true := decide_eq_true c9
                  try have c9b2 : (9223372036854775807 < 7 + (rdOf ByteArray.empty l0_1 x15_1).size) = False := eq_false (Nat.not_lt.2 c9)
                  by_cases c10 : ((⟨#[112, 97, 114, 101, 110, 116, 32]⟩ : ByteArray) ++ (rdOf ByteArray.empty l0_1 x15_1)).size + 1 ≤ 9223372036854775807
                  · rw [if_pos c10] at H
                    have c10b0 := eq_true c10
                    try have c10b9_2 : (9223372036854775807 < 7 + (rdOf ByteArray.empty l0_1 x15_1).size) = False := eq_false (by have h_ := c10; simp only [ByteArray.size_append] at h_; have e0_ : (⟨#[112, 97, 114, 101, 110, 116, 32]⟩ : ByteArray).size = 7 := rfl; omega)
                    try have c10b9_3 : (9223372036854775807 < 7 + (rdOf ByteArray.empty l0_1 x15_1).size + 1) = False := eq_false (by have h_ := c10; simp only [ByteArray.size_append] at h_; have e0_ : (⟨#[112, 97, 114, 101, 110, 116, 32]⟩ : ByteArray).size = 7 := rfl; omega)
                    have c10b1 : decide (((⟨#[112, 97, 114, 101, 110, 116, 32]⟩ : ByteArray) ++ (rdOf ByteArray.empty l0_1 x15_1)).size + 1 ≤ 9223372036854775807) = true := decide_eq_true c10
                    try have c10b2 : (9223372036854775807 < ((⟨#[112, 97, 114, 101, 110, 116, 32]⟩ : ByteArray) ++ (rdOf ByteArray.empty l0_1 x15_1)).size + 1) = False := eq_false (Nat.not_lt.2 c10)
                    by_cases c11 : x3_1.size + (((⟨#[112, 97, 114, 101, 110, 116, 32]⟩ : ByteArray) ++ (rdOf ByteArray.empty l0_1 x15_1)) ++ (⟨#[10]⟩ : ByteArray)).size ≤ 9223372036854775807
                    · rw [if_pos c11] at H
                      have c11b0 := eq_true c11
                      try have c11b9_g : (9223372036854775807 < x3_1.size + (7 + (rdOf ByteArray.empty l0_1 x15_1).size + 1)) = False := eq_false (by have h_ := c11; simp only [ByteArray.size_append] at h_; have e0_ : (⟨#[112, 97, 114, 101, 110, 116, 32]⟩ : ByteArray).size = 7 := rfl; have e1_ : (⟨#[10]⟩ : ByteArray).size = 1 := rfl; omega)
                      try have c11b9_2 : (9223372036854775807 < x3_1.size + 7) = False := eq_false (by have h_ := c11; simp only [ByteArray.size_append] at h_; have e0_ : (⟨#[112, 97, 114, 101, 110, 116, 32]⟩ : ByteArray).size = 7 := rfl; have e1_ : (⟨#[10]⟩ : ByteArray).size = 1 := rfl; omega)
                      try have c11b9_3 : (9223372036854775807 < x3_1.size + 7 + (rdOf ByteArray.empty l0_1 x15_1).size) = False := eq_false (by have h_ := c11; simp only [ByteArray.size_append] at h_; have e0_ : (⟨#[112, 97, 114, 101, 110, 116, 32]⟩ : ByteArray).size = 7 := rfl; have e1_ : (⟨#[10]⟩ : ByteArray).size = 1 := rfl; omega)
                      try have c11b9_4 : (9223372036854775807 < x3_1.size + 7 + (rdOf ByteArray.empty l0_1 x15_1).size + 1) = False := eq_false (by have h_ := c11; simp only [ByteArray.size_append] at h_; have e0_ : (⟨#[112, 97, 114, 101, 110, 116, 32]⟩ : ByteArray).size = 7 := rfl; have e1_ : (⟨#[10]⟩ : ByteArray).size = 1 := rfl; omega)
                      have c11b1 : decide (x3_1.size + (((⟨#[112, 97, 114, 101, 110, 116, 32]⟩ : ByteArray) ++ (rdOf ByteArray.empty l0_1 x15_1)) ++ (⟨#[10]⟩ : ByteArray)).size ≤ 9223372036854775807) = true := decide_eq_true c11
                      try have c11b2 : (9223372036854775807 < x3_1.size + (((⟨#[112, 97, 114, 101, 110, 116, 32]⟩ : ByteArray) ++ (rdOf ByteArray.empty l0_1 x15_1)) ++ (⟨#[10]⟩ : ByteArray)).size) = False := eq_false (Nat.not_lt.2 c11)
                      have H' := Aside0.mk H
                      clear H
                      have p191 : 0 ≤ (x15_1 : Int) := of_decide_eq_true (by first | (with_reducible assumption) | assumption)
                      have q191 : x15_1 < (l0_1.length : Int) := of_decide_eq_true (by first | (with_reducible assumption) | assumption)
                      obtain ⟨ad191, e191, hx191_0⟩ := Kd.at_string HR0_1.out x15_1 p191 q191
                      cases e191
                      replace hx191_0 := (HB.out.cell (World.block_lt_of_cell? w _ hx191_0)).trans hx191_0
                      replace p191 := eq_true p191
                      replace q191 := eq_true q191
                      go_wp2
                      go_roundg k1
                      case measure => have := HK1.out; omega
                      case rel => exact ⟨(x3_1 ++ (((⟨#[112, 97, 114, 101, 110, 116, 32]⟩ : ByteArray) ++ (rdOf ByteArray.empty l0_1 x15_1)) ++ (⟨#[10]⟩ : ByteArray))), (wrap64 (x15_1 + 1)), (by first | rfl | (simp; done) | (simp [*]; done)), (by first | rfl | (simp; done) | (simp [*]; done)), H', ⟨by have := HK1.out; omega⟩, ⟨by (with_reducible repeat (first | refine blk_drewN ?_ _ | refine blk_drew ?_ | refine blk_alloc ?_ _)); exact BK190.out⟩, ⟨by repeat (first | (with_reducible first | exact HB.out | apply below_alloc | apply pw_below_drewN | apply below_drew1 | refine below_set ?_ GE190.out) | exact HB.out)⟩⟩
                    · rw [if_neg c11] at H
                      exact absurd H (by simp)
                  · rw [if_neg c10] at H
                    exact absurd H (by simp)
                · rw [if_neg c9] at H
                  exact absurd H (by simp)
              · rw [if_neg c8] at H
                exact absurd H (by simp)
            · rw [if_neg c7] at H
              exact absurd H (by simp)
          · rw [if_neg c6] at H
            have c6b0 : decide (x15_1 < (l0_1.length : Int)) = false := decide_eq_false c6
            clear c6
            replace H := Option.bind_eq_some_iff.mp H
            obtain ⟨t192, A120, H⟩ := H
            replace H : (if 7 + t192.size ≤ 9223372036854775807 then (if ((⟨#[97, 117, 116, 104, 111, 114, 32]⟩ : ByteArray) ++ t192).size + 11 ≤ 9223372036854775807 then ((spec_WhoText.f a0_6 a0_7 a0_8 a0_9).bind fun t193 => (if (((⟨#[97, 117, 116, 104, 111, 114, 32]⟩ : ByteArray) ++ t192) ++ (⟨#[10, 99, 111, 109, 109, 105, 116, 116, 101, 114, 32]⟩ : ByteArray)).size + t193.size ≤ 9223372036854775807 then (if ((((⟨#[97, 117, 116, 104, 111, 114, 32]⟩ : ByteArray) ++ t192) ++ (⟨#[10, 99, 111, 109, 109, 105, 116, 116, 101, 114, 32]⟩ : ByteArray)) ++ t193).size + 1 ≤ 9223372036854775807 then (if x3_1.size + (((((⟨#[97, 117, 116, 104, 111, 114, 32]⟩ : ByteArray) ++ t192) ++ (⟨#[10, 99, 111, 109, 109, 105, 116, 116, 101, 114, 32]⟩ : ByteArray)) ++ t193) ++ (⟨#[10]⟩ : ByteArray)).size ≤ 9223372036854775807 then ((spec_Lines.f k1 a0_11).bind fun t194 => (spec_CommitText.l1 k1 (x3_1 ++ (((((⟨#[97, 117, 116, 104, 111, 114, 32]⟩ : ByteArray) ++ t192) ++ (⟨#[10, 99, 111, 109, 109, 105, 116, 116, 101, 114, 32]⟩ : ByteArray)) ++ t193) ++ (⟨#[10]⟩ : ByteArray))) t194 (t194.length : Int) 0 a0_0 l0_1 a0_2 a0_3 a0_4 a0_5 a0_6 a0_7 a0_8 a0_9 a0_10 a0_11 a0_12 a0_13)) else (none)) else (none)) else (none))) else (none)) else (none)) = some r := H
            have A12 := Aside0.mk A120
            clear A120
            by_cases c13 : 7 + t192.size ≤ 9223372036854775807
            · rw [if_pos c13] at H
              have c13b0 := eq_true c13
              have c13b1 : decide (7 + t192.size ≤ 9223372036854775807) = true := decide_eq_true c13
              try have c13b2 : (9223372036854775807 < 7 + t192.size) = False := eq_false (Nat.not_lt.2 c13)
              by_cases c14 : ((⟨#[97, 117, 116, 104, 111, 114, 32]⟩ : ByteArray) ++ t192).size + 11 ≤ 9223372036854775807
              · rw [if_pos c14] at H
                have c14b0 := eq_true c14
                try have c14b9_2 : (9223372036854775807 < 7 + t192.size) = False := eq_false (by have h_ := c14; simp only [ByteArray.size_append] at h_; have e0_ : (⟨#[97, 117, 116, 104, 111, 114, 32]⟩ : ByteArray).size = 7 := rfl; omega)
                try have c14b9_3 : (9223372036854775807 < 7 + t192.size + 11) = False := eq_false (by have h_ := c14; simp only [ByteArray.size_append] at h_; have e0_ : (⟨#[97, 117, 116, 104, 111, 114, 32]⟩ : ByteArray).size = 7 := rfl; omega)
                have c14b1 : decide (((⟨#[97, 117, 116, 104, 111, 114, 32]⟩ : ByteArray) ++ t192).size + 11 ≤ 9223372036854775807) = true := decide_eq_true c14
                try have c14b2 : (9223372036854775807 < ((⟨#[97, 117, 116, 104, 111, 114, 32]⟩ : ByteArray) ++ t192).size + 11) = False := eq_false (Nat.not_lt.2 c14)
                replace H := Option.bind_eq_some_iff.mp H
                obtain ⟨t193, A150, H⟩ := H
                replace H : (if (((⟨#[97, 117, 116, 104, 111, 114, 32]⟩ : ByteArray) ++ t192) ++ (⟨#[10, 99, 111, 109, 109, 105, 116, 116, 101, 114, 32]⟩ : ByteArray)).size + t193.size ≤ 9223372036854775807 then (if ((((⟨#[97, 117, 116, 104, 111, 114, 32]⟩ : ByteArray) ++ t192) ++ (⟨#[10, 99, 111, 109, 109, 105, 116, 116, 101, 114, 32]⟩ : ByteArray)) ++ t193).size + 1 ≤ 9223372036854775807 then (if x3_1.size + (((((⟨#[97, 117, 116, 104, 111, 114, 32]⟩ : ByteArray) ++ t192) ++ (⟨#[10, 99, 111, 109, 109, 105, 116, 116, 101, 114, 32]⟩ : ByteArray)) ++ t193) ++ (⟨#[10]⟩ : ByteArray)).size ≤ 9223372036854775807 then ((spec_Lines.f k1 a0_11).bind fun t194 => (spec_CommitText.l1 k1 (x3_1 ++ (((((⟨#[97, 117, 116, 104, 111, 114, 32]⟩ : ByteArray) ++ t192) ++ (⟨#[10, 99, 111, 109, 109, 105, 116, 116, 101, 114, 32]⟩ : ByteArray)) ++ t193) ++ (⟨#[10]⟩ : ByteArray))) t194 (t194.length : Int) 0 a0_0 l0_1 a0_2 a0_3 a0_4 a0_5 a0_6 a0_7 a0_8 a0_9 a0_10 a0_11 a0_12 a0_13)) else (none)) else (none)) else (none)) = some r := H
                have A15 := Aside0.mk A150
                clear A150
                by_cases c16 : (((⟨#[97, 117, 116, 104, 111, 114, 32]⟩ : ByteArray) ++ t192) ++ (⟨#[10, 99, 111, 109, 109, 105, 116, 116, 101, 114, 32]⟩ : ByteArray)).size + t193.size ≤ 9223372036854775807
                · rw [if_pos c16] at H
                  have c16b0 := eq_true c16
                  try have c16b9_2 : (9223372036854775807 < 7 + t192.size) = False := eq_false (by have h_ := c16; simp only [ByteArray.size_append] at h_; have e0_ : (⟨#[97, 117, 116, 104, 111, 114, 32]⟩ : ByteArray).size = 7 := rfl; have e1_ : (⟨#[10, 99, 111, 109, 109, 105, 116, 116, 101, 114, 32]⟩ : ByteArray).size = 11 := rfl; omega)
                  try have c16b9_3 : (9223372036854775807 < 7 + t192.size + 11) = False := eq_false (by have h_ := c16; simp only [ByteArray.size_append] at h_; have e0_ : (⟨#[97, 117, 116, 104, 111, 114, 32]⟩ : ByteArray).size = 7 := rfl; have e1_ : (⟨#[10, 99, 111, 109, 109, 105, 116, 116, 101, 114, 32]⟩ : ByteArray).size = 11 := rfl; omega)
                  try have c16b9_4 : (9223372036854775807 < 7 + t192.size + 11 + t193.size) = False := eq_false (by have h_ := c16; simp only [ByteArray.size_append] at h_; have e0_ : (⟨#[97, 117, 116, 104, 111, 114, 32]⟩ : ByteArray).size = 7 := rfl; have e1_ : (⟨#[10, 99, 111, 109, 109, 105, 116, 116, 101, 114, 32]⟩ : ByteArray).size = 11 := rfl; omega)
                  have c16b1 : decide ((((⟨#[97, 117, 116, 104, 111, 114, 32]⟩ : ByteArray) ++ t192) ++ (⟨#[10, 99, 111, 109, 109, 105, 116, 116, 101, 114, 32]⟩ : ByteArray)).size + t193.size ≤ 9223372036854775807) = true := decide_eq_true c16
                  try have c16b2 : (9223372036854775807 < (((⟨#[97, 117, 116, 104, 111, 114, 32]⟩ : ByteArray) ++ t192) ++ (⟨#[10, 99, 111, 109, 109, 105, 116, 116, 101, 114, 32]⟩ : ByteArray)).size + t193.size) = False := eq_false (Nat.not_lt.2 c16)
                  by_cases c17 : ((((⟨#[97, 117, 116, 104, 111, 114, 32]⟩ : ByteArray) ++ t192) ++ (⟨#[10, 99, 111, 109, 109, 105, 116, 116, 101, 114, 32]⟩ : ByteArray)) ++ t193).size + 1 ≤ 9223372036854775807
                  · rw [if_pos c17] at H
                    have c17b0 := eq_true c17
                    try have c17b9_2 : (9223372036854775807 < 7 + t192.size) = False := eq_false (by have h_ := c17; simp only [ByteArray.size_append] at h_; have e0_ : (⟨#[97, 117, 116, 104, 111, 114, 32]⟩ : ByteArray).size = 7 := rfl; have e1_ : (⟨#[10, 99, 111, 109, 109, 105, 116, 116, 101, 114, 32]⟩ : ByteArray).size = 11 := rfl; omega)
                    try have c17b9_3 : (9223372036854775807 < 7 + t192.size + 11) = False := eq_false (by have h_ := c17; simp only [ByteArray.size_append] at h_; have e0_ : (⟨#[97, 117, 116, 104, 111, 114, 32]⟩ : ByteArray).size = 7 := rfl; have e1_ : (⟨#[10, 99, 111, 109, 109, 105, 116, 116, 101, 114, 32]⟩ : ByteArray).size = 11 := rfl; omega)
                    try have c17b9_4 : (9223372036854775807 < 7 + t192.size + 11 + t193.size) = False := eq_false (by have h_ := c17; simp only [ByteArray.size_append] at h_; have e0_ : (⟨#[97, 117, 116, 104, 111, 114, 32]⟩ : ByteArray).size = 7 := rfl; have e1_ : (⟨#[10, 99, 111, 109, 109, 105, 116, 116, 101, 114, 32]⟩ : ByteArray).size = 11 := rfl; omega)
                    try have c17b9_5 : (9223372036854775807 < 7 + t192.size + 11 + t193.size + 1) = False := eq_false (by have h_ := c17; simp only [ByteArray.size_append] at h_; have e0_ : (⟨#[97, 117, 116, 104, 111, 114, 32]⟩ : ByteArray).size = 7 := rfl; have e1_ : (⟨#[10, 99, 111, 109, 109, 105, 116, 116, 101, 114, 32]⟩ : ByteArray).size = 11 := rfl; omega)
                    have c17b1 : decide (((((⟨#[97, 117, 116, 104, 111, 114, 32]⟩ : ByteArray) ++ t192) ++ (⟨#[10, 99, 111, 109, 109, 105, 116, 116, 101, 114, 32]⟩ : ByteArray)) ++ t193).size + 1 ≤ 9223372036854775807) = true := decide_eq_true c17
                    try have c17b2 : (9223372036854775807 < ((((⟨#[97, 117, 116, 104, 111, 114, 32]⟩ : ByteArray) ++ t192) ++ (⟨#[10, 99, 111, 109, 109, 105, 116, 116, 101, 114, 32]⟩ : ByteArray)) ++ t193).size + 1) = False := eq_false (Nat.not_lt.2 c17)
                    by_cases c18 : x3_1.size + (((((⟨#[97, 117, 116, 104, 111, 114, 32]⟩ : ByteArray) ++ t192) ++ (⟨#[10, 99, 111, 109, 109, 105, 116, 116, 101, 114, 32]⟩ : ByteArray)) ++ t193) ++ (⟨#[10]⟩ : ByteArray)).size ≤ 9223372036854775807
                    · rw [if_pos c18] at H
                      have c18b0 := eq_true c18
                      try have c18b9_g : (9223372036854775807 < x3_1.size + (7 + t192.size + 11 + t193.size + 1)) = False := eq_false (by have h_ := c18; simp only [ByteArray.size_append] at h_; have e0_ : (⟨#[97, 117, 116, 104, 111, 114, 32]⟩ : ByteArray).size = 7 := rfl; have e1_ : (⟨#[10, 99, 111, 109, 109, 105, 116, 116, 101, 114, 32]⟩ : ByteArray).size = 11 := rfl; have e2_ : (⟨#[10]⟩ : ByteArray).size = 1 := rfl; omega)
                      try have c18b9_2 : (9223372036854775807 < x3_1.size + 7) = False := eq_false (by have h_ := c18; simp only [ByteArray.size_append] at h_; have e0_ : (⟨#[97, 117, 116, 104, 111, 114, 32]⟩ : ByteArray).size = 7 := rfl; have e1_ : (⟨#[10, 99, 111, 109, 109, 105, 116, 116, 101, 114, 32]⟩ : ByteArray).size = 11 := rfl; have e2_ : (⟨#[10]⟩ : ByteArray).size = 1 := rfl; omega)
                      try have c18b9_3 : (9223372036854775807 < x3_1.size + 7 + t192.size) = False := eq_false (by have h_ := c18; simp only [ByteArray.size_append] at h_; have e0_ : (⟨#[97, 117, 116, 104, 111, 114, 32]⟩ : ByteArray).size = 7 := rfl; have e1_ : (⟨#[10, 99, 111, 109, 109, 105, 116, 116, 101, 114, 32]⟩ : ByteArray).size = 11 := rfl; have e2_ : (⟨#[10]⟩ : ByteArray).size = 1 := rfl; omega)
                      try have c18b9_4 : (9223372036854775807 < x3_1.size + 7 + t192.size + 11) = False := eq_false (by have h_ := c18; simp only [ByteArray.size_append] at h_; have e0_ : (⟨#[97, 117, 116, 104, 111, 114, 32]⟩ : ByteArray).size = 7 := rfl; have e1_ : (⟨#[10, 99, 111, 109, 109, 105, 116, 116, 101, 114, 32]⟩ : ByteArray).size = 11 := rfl; have e2_ : (⟨#[10]⟩ : ByteArray).size = 1 := rfl; omega)
                      try have c18b9_5 : (9223372036854775807 < x3_1.size + 7 + t192.size + 11 + t193.size) = False := eq_false (by have h_ := c18; simp only [ByteArray.size_append] at h_; have e0_ : (⟨#[97, 117, 116, 104, 111, 114, 32]⟩ : ByteArray).size = 7 := rfl; have e1_ : (⟨#[10, 99, 111, 109, 109, 105, 116, 116, 101, 114, 32]⟩ : ByteArray).size = 11 := rfl; have e2_ : (⟨#[10]⟩ : ByteArray).size = 1 := rfl; omega)
                      try have c18b9_6 : (9223372036854775807 < x3_1.size + 7 + t192.size + 11 + t193.size + 1) = False := eq_false (by have h_ := c18; simp only [ByteArray.size_append] at h_; have e0_ : (⟨#[97, 117, 116, 104, 111, 114, 32]⟩ : ByteArray).size = 7 := rfl; have e1_ : (⟨#[10, 99, 111, 109, 109, 105, 116, 116, 101, 114, 32]⟩ : ByteArray).size = 11 := rfl; have e2_ : (⟨#[10]⟩ : ByteArray).size = 1 := rfl; omega)
                      have c18b1 : decide (x3_1.size + (((((⟨#[97, 117, 116, 104, 111, 114, 32]⟩ : ByteArray) ++ t192) ++ (⟨#[10, 99, 111, 109, 109, 105, 116, 116, 101, 114, 32]⟩ : ByteArray)) ++ t193) ++ (⟨#[10]⟩ : ByteArray)).size ≤ 9223372036854775807) = true := decide_eq_true c18
                      try have c18b2 : (9223372036854775807 < x3_1.size + (((((⟨#[97, 117, 116, 104, 111, 114, 32]⟩ : ByteArray) ++ t192) ++ (⟨#[10, 99, 111, 109, 109, 105, 116, 116, 101, 114, 32]⟩ : ByteArray)) ++ t193) ++ (⟨#[10]⟩ : ByteArray)).size) = False := eq_false (Nat.not_lt.2 c18)
                      replace H := Option.bind_eq_some_iff.mp H
                      obtain ⟨t194, A190, H⟩ := H
                      replace H : (spec_CommitText.l1 k1 (x3_1 ++ (((((⟨#[97, 117, 116, 104, 111, 114, 32]⟩ : ByteArray) ++ t192) ++ (⟨#[10, 99, 111, 109, 109, 105, 116, 116, 101, 114, 32]⟩ : ByteArray)) ++ t193) ++ (⟨#[10]⟩ : ByteArray))) t194 (t194.length : Int) 0 a0_0 l0_1 a0_2 a0_3 a0_4 a0_5 a0_6 a0_7 a0_8 a0_9 a0_10 a0_11 a0_12 a0_13) = some r := H
                      have A19 := Aside0.mk A190
                      clear A190
                      have H' := Aside0.mk H
                      clear H
                      try go_wp2
                      have n0_ := Aside0.mk (blk_drew BK190.out)
                      have n1_ := Aside0.mk (below_drew1 HB.out)
                      clear BK190
                      clear HB
                      have BK190 := n0_
                      have HB := n1_
                      clear n0_ n1_
                      refine start_ (n := 13) (S := fun w' => w'.cell? ⟨gb190, 0, none⟩ = some (.string a0_0) ∧ w'.cell? ⟨gb190, 1, none⟩ = some (.slice A0_1 l0_1.length c0_1) ∧ w'.cell? ⟨gb190, 2, none⟩ = some (.string a0_2) ∧ w'.cell? ⟨gb190, 3, none⟩ = some (.string a0_3) ∧ w'.cell? ⟨gb190, 4, none⟩ = some (.int .i64 a0_4) ∧ w'.cell? ⟨gb190, 5, none⟩ = some (.int .i64 a0_5) ∧ w'.cell? ⟨gb190, 6, none⟩ = some (.string a0_6) ∧ w'.cell? ⟨gb190, 7, none⟩ = some (.string a0_7) ∧ w'.cell? ⟨gb190, 8, none⟩ = some (.int .i64 a0_8) ∧ w'.cell? ⟨gb190, 9, none⟩ = some (.int .i64 a0_9) ∧ w'.cell? ⟨gb190, 10, none⟩ = some (.string a0_10) ∧ w'.cell? ⟨gb190, 11, none⟩ = some (.string a0_11) ∧ w'.cell? ⟨gb190, 12, none⟩ = some (.string a0_12) ∧ w'.cell? ⟨gb190, 13, none⟩ = some (.string a0_13)) (ds := []) #[false, false, false, false, false, false, false, false, false, false, false, false, false] (by kernel_rfl) rfl rfl ⟨(blk_cell BK190.out 0).trans rfl, (blk_cell BK190.out 1).trans rfl, (blk_cell BK190.out 2).trans rfl, (blk_cell BK190.out 3).trans rfl, (blk_cell BK190.out 4).trans rfl, (blk_cell BK190.out 5).trans rfl, (blk_cell BK190.out 6).trans rfl, (blk_cell BK190.out 7).trans rfl, (blk_cell BK190.out 8).trans rfl, (blk_cell BK190.out 9).trans rfl, (blk_cell BK190.out 10).trans rfl, (blk_cell BK190.out 11).trans rfl, (blk_cell BK190.out 12).trans rfl, (blk_cell BK190.out 13).trans rfl⟩ (fun hHeld => ?_); refine with_tabW spec_CommitText.tab7 spec_CommitText.bits7 (fun HT_ HW_ => ?_)
                      generalize wr.drew = w20 at BK190 HB hHeld ⊢
                      refine pure_ (i := 0) (N := some 25) (v := ?_) (a' := ?_) #[true, false, false, false, false, false, false, false, false, false, false, false, false] rfl rfl (any_of HT_.out (by kernel_rfl)) (fun _ _ _ h => h) (Or.inl ⟨by rfl, ?_⟩) ?_ ?_
                      rotate_left
                      · intro w'
                        go_simp
                        with_reducible rfl
                      rotate_left
                      · simp only [Act.put, List.setIfInBounds_toArray, List.set_cons_zero, List.set_cons_succ, i64_w, i32_w]
                        rfl
                      refine pure_ (i := 1) (N := some 26) (v := ?_) (a' := ?_) #[true, true, false, false, false, false, false, false, false, false, false, false, false] rfl rfl (any_of HT_.out (by kernel_rfl)) (fun _ _ _ h => h) (Or.inl ⟨by rfl, ?_⟩) ?_ ?_
                      rotate_left
                      · intro w'
                        go_simp
                        with_reducible rfl
                      rotate_left
                      · simp only [Act.put, List.setIfInBounds_toArray, List.set_cons_zero, List.set_cons_succ, i64_w, i32_w]
                        rfl
                      refine pure_ (i := 6) (N := some 31) (v := ?_) (a' := ?_) #[true, true, false, false, false, false, true, false, false, false, false, false, false] rfl rfl (any_of HT_.out (by kernel_rfl)) (fun _ _ _ h => h) (Or.inl ⟨by rfl, ?_⟩) ?_ ?_
                      rotate_left
                      · intro w'
                        go_simp
                        with_reducible rfl
                      rotate_left
                      · simp only [Act.put, List.setIfInBounds_toArray, List.set_cons_zero, List.set_cons_succ, i64_w, i32_w]
                        rfl
                      refine take_ (i := 2) (N := some 27) (v := ?_) (a' := ?_) #[true, true, true, false, false, false, true, false, false, false, false, false, false] rfl rfl (take_ofW HT_.out HW_.out (by kernel_rfl)) (fun _ _ _ h => h) (Or.inl ⟨by rfl, ?_⟩) hHeld ?_ ?_
                      rotate_left
                      · rintro w' ⟨s0, s1, s2, s3, s4, s5, s6, s7, s8, s9, s10, s11, s12, s13⟩
                        go_simp
                        with_reducible rfl
                      rotate_left
                      · simp only [Act.put, List.setIfInBounds_toArray, List.set_cons_zero, List.set_cons_succ, i64_w, i32_w]
                        rfl
                      refine take_ (i := 7) (N := some 32) (v := ?_) (a' := ?_) #[true, true, true, false, false, false, true, true, false, false, false, false, false] rfl rfl (take_ofW HT_.out HW_.out (by kernel_rfl)) (fun _ _ _ h => h) (Or.inl ⟨by rfl, ?_⟩) hHeld ?_ ?_
                      rotate_left
                      · rintro w' ⟨s0, s1, s2, s3, s4, s5, s6, s7, s8, s9, s10, s11, s12, s13⟩
                        go_simp
                        with_reducible rfl
                      rotate_left
                      · simp only [Act.put, List.setIfInBounds_toArray, List.set_cons_zero, List.set_cons_succ, i64_w, i32_w]
                        rfl
                      refine one_ (i := 3) (N := some 28) #[true, true, true, true, false, false, true, true, false, false, false, false, false] rfl rfl (one_of HT_.out (by kernel_rfl)) (by decide) (fun K hK => ?_)
                      refine goes_ Tryd.func35 (by kernel_rfl) rfl #[.agg #[.string a0_2, .string a0_3, .int .i64 a0_4, .int .i64 a0_5]] (by rfl) rfl rfl (by (try simp only [List.map_toArray, List.map_cons, List.map_nil]); first | done | rfl | (simp only [List.length_drop, List.length_take]; rfl)) ?_
                      with_reducible refine (spec_WhoText.calls a0_2 a0_3 a0_4 a0_5 t192 _ A12.out).mono ?_
                      rintro e w21 ⟨rfl, hb⟩
                      refine ⟨_, rfl, ?_⟩
                      have n0_ := Aside0.mk (blk_below (g := gb190) (o := .cells #[.string a0_0, .slice A0_1 l0_1.length c0_1, .string a0_2, .string a0_3, .int .i64 a0_4, .int .i64 a0_5, .string a0_6, .string a0_7, .int .i64 a0_8, .int .i64 a0_9, .string a0_10, .string a0_11, .string a0_12, .string a0_13] 38 (0, 0)) (by (with_reducible repeat (first | refine blk_drewN ?_ _ | refine blk_drew ?_ | refine blk_alloc ?_ _)); exact BK190.out) hb)
                      have n1_ := Aside0.mk (below_step (by repeat (first | (with_reducible first | exact HB.out | apply below_alloc | apply pw_below_drewN | apply below_drew1 | refine below_set ?_ GE190.out) | exact HB.out)) hb)
                      clear BK190
                      clear HB
                      have BK190 := n0_
                      have HB := n1_
                      clear n0_ n1_
                      (try clear hb)
                      (try clear hb2)
                      (try clear hk)
                      (try clear hi)
                      refine hK.out _ _ ⟨(blk_cell BK190.out 0).trans rfl, (blk_cell BK190.out 1).trans rfl, (blk_cell BK190.out 2).trans rfl, (blk_cell BK190.out 3).trans rfl, (blk_cell BK190.out 4).trans rfl, (blk_cell BK190.out 5).trans rfl, (blk_cell BK190.out 6).trans rfl, (blk_cell BK190.out 7).trans rfl, (blk_cell BK190.out 8).trans rfl, (blk_cell BK190.out 9).trans rfl, (blk_cell BK190.out 10).trans rfl, (blk_cell BK190.out 11).trans rfl, (blk_cell BK190.out 12).trans rfl, (blk_cell BK190.out 13).trans rfl⟩ (fun hHeld => ?_)
                      clear hK K
                      refine norm_ (a' := ?_) ?_ ?_
                      rotate_left
                      · show Act.put _ (some 28) _ = _
                        simp only [Act.put, List.setIfInBounds_toArray, List.set_cons_zero, List.set_cons_succ, i64_w, i32_w]
                        rfl
                      refine pure_ (i := 4) (N := some 29) (v := ?_) (a' := ?_) #[true, true, true, true, true, false, true, true, false, false, false, false, false] rfl rfl (any_of HT_.out (by kernel_rfl)) (fun _ _ _ h => h) (Or.inl ⟨by rfl, ?_⟩) ?_ ?_
                      rotate_left
                      · intro w'
                        go_simp
                        with_reducible rfl
                      rotate_left
                      · simp only [Act.put, List.setIfInBounds_toArray, List.set_cons_zero, List.set_cons_succ, i64_w, i32_w]
                        rfl
                      refine pure_ (i := 5) (N := some 30) (v := ?_) (a' := ?_) #[true, true, true, true, true, true, true, true, false, false, false, false, false] rfl rfl (any_of HT_.out (by kernel_rfl)) (fun _ _ _ h => h) (Or.inl ⟨by rfl, ?_⟩) ?_ ?_
                      rotate_left
                      · intro w'
                        go_simp
                        with_reducible rfl
                      rotate_left
                      · simp only [Act.put, List.setIfInBounds_toArray, List.set_cons_zero, List.set_cons_succ, i64_w, i32_w]
                        rfl
                      refine one_ (i := 8) (N := some 33) #[true, true, true, true, true, true, true, true, true, false, false, false, false] rfl rfl (one_of HT_.out (by kernel_rfl)) (by decide) (fun K hK => ?_)
                      refine goes_ Tryd.func35 (by kernel_rfl) rfl #[.agg #[.string a0_6, .string a0_7, .int .i64 a0_8, .int .i64 a0_9]] (by rfl) rfl rfl (by (try simp only [List.map_toArray, List.map_cons, List.map_nil]); first | done | rfl | (simp only [List.length_drop, List.length_take]; rfl)) ?_
                      with_reducible refine (spec_WhoText.calls a0_6 a0_7 a0_8 a0_9 t193 _ A15.out).mono ?_
                      rintro e w22 ⟨rfl, hb⟩
                      refine ⟨_, rfl, ?_⟩
                      have n0_ := Aside0.mk (blk_below (g := gb190) (o := .cells #[.string a0_0, .slice A0_1 l0_1.length c0_1, .string a0_2, .string a0_3, .int .i64 a0_4, .int .i64 a0_5, .string a0_6, .string a0_7, .int .i64 a0_8, .int .i64 a0_9, .string a0_10, .string a0_11, .string a0_12, .string a0_13] 38 (0, 0)) (by (with_reducible repeat (first | refine blk_drewN ?_ _ | refine blk_drew ?_ | refine blk_alloc ?_ _)); exact BK190.out) hb)
                      have n1_ := Aside0.mk (below_step (by repeat (first | (with_reducible first | exact HB.out | apply below_alloc | apply pw_below_drewN | apply below_drew1 | refine below_set ?_ GE190.out) | exact HB.out)) hb)
                      clear BK190
                      clear HB
                      have BK190 := n0_
                      have HB := n1_
                      clear n0_ n1_
                      (try clear hb)
                      (try clear hb2)
                      (try clear hk)
                      (try clear hi)
                      refine hK.out _ _ ⟨(blk_cell BK190.out 0).trans rfl, (blk_cell BK190.out 1).trans rfl, (blk_cell BK190.out 2).trans rfl, (blk_cell BK190.out 3).trans rfl, (blk_cell BK190.out 4).trans rfl, (blk_cell BK190.out 5).trans rfl, (blk_cell BK190.out 6).trans rfl, (blk_cell BK190.out 7).trans rfl, (blk_cell BK190.out 8).trans rfl, (blk_cell BK190.out 9).trans rfl, (blk_cell BK190.out 10).trans rfl, (blk_cell BK190.out 11).trans rfl, (blk_cell BK190.out 12).trans rfl, (blk_cell BK190.out 13).trans rfl⟩ (fun hHeld => ?_)
                      clear hK K
                      refine norm_ (a' := ?_) ?_ ?_
                      rotate_left
                      · show Act.put _ (some 33) _ = _
                        simp only [Act.put, List.setIfInBounds_toArray, List.set_cons_zero, List.set_cons_succ, i64_w, i32_w]
                        rfl
                      refine pure_ (i := 9) (N := some 34) (v := ?_) (a' := ?_) #[true, true, true, true, true, true, true, true, true, true, false, false, false] rfl rfl (any_of HT_.out (by kernel_rfl)) (fun _ _ _ h => h) (Or.inl ⟨by rfl, ?_⟩) ?_ ?_
                      rotate_left
                      · intro w'
                        go_simp
                        with_reducible rfl
                      rotate_left
                      · simp only [Act.put, List.setIfInBounds_toArray, List.set_cons_zero, List.set_cons_succ, i64_w, i32_w]
                        rfl
                      refine pure_ (i := 10) (N := some 35) (v := ?_) (a' := ?_) #[true, true, true, true, true, true, true, true, true, true, true, false, false] rfl rfl (any_of HT_.out (by kernel_rfl)) (fun _ _ _ h => h) (Or.inl ⟨by rfl, ?_⟩) ?_ ?_
                      rotate_left
                      · intro w'
                        go_simp
                        with_reducible rfl
                      rotate_left
                      · simp only [Act.put, List.setIfInBounds_toArray, List.set_cons_zero, List.set_cons_succ, i64_w, i32_w]
                        rfl
                      refine pure_ (i := 11) (N := some 36) (v := ?_) (a' := ?_) #[true, true, true, true, true, true, true, true, true, true, true, true, false] rfl rfl (any_of HT_.out (by kernel_rfl)) (fun _ _ _ h => h) (Or.inl ⟨by rfl, ?_⟩) ?_ ?_
                      rotate_left
                      · intro w'
                        go_simp
                        with_reducible rfl
                      rotate_left
                      · simp only [Act.put, List.setIfInBounds_toArray, List.set_cons_zero, List.set_cons_succ, i64_w, i32_w]
                        rfl
                      refine pure_ (i := 12) (N := some 3) (v := ?_) (a' := ?_) #[true, true, true, true, true, true, true, true, true, true, true, true, true] rfl rfl (any_of HT_.out (by kernel_rfl)) (fun _ _ _ h => h) (Or.inl ⟨by rfl, ?_⟩) ?_ ?_
                      rotate_left
                      · intro w'
                        go_simp
                        with_reducible rfl
                      rotate_left
                      · simp only [Act.put, List.setIfInBounds_toArray, List.set_cons_zero, List.set_cons_succ, i64_w, i32_w]
                        rfl
                      refine done_ (done_of HT_.out (by kernel_rfl)) ?_
                      have hcz23_0 : w22.cell? ⟨gb190, 0, none⟩ = some (.string a0_0) := (blk_cell BK190.out 0).trans rfl
                      have hcz23_1 : w22.cell? ⟨gb190, 1, none⟩ = some (.slice A0_1 l0_1.length c0_1) := (blk_cell BK190.out 1).trans rfl
                      have hcz23_2 : w22.cell? ⟨gb190, 2, none⟩ = some (.string a0_2) := (blk_cell BK190.out 2).trans rfl
                      have hcz23_3 : w22.cell? ⟨gb190, 3, none⟩ = some (.string a0_3) := (blk_cell BK190.out 3).trans rfl
                      have hcz23_4 : w22.cell? ⟨gb190, 4, none⟩ = some (.int .i64 a0_4) := (blk_cell BK190.out 4).trans rfl
                      have hcz23_5 : w22.cell? ⟨gb190, 5, none⟩ = some (.int .i64 a0_5) := (blk_cell BK190.out 5).trans rfl
                      have hcz23_6 : w22.cell? ⟨gb190, 6, none⟩ = some (.string a0_6) := (blk_cell BK190.out 6).trans rfl
                      have hcz23_7 : w22.cell? ⟨gb190, 7, none⟩ = some (.string a0_7) := (blk_cell BK190.out 7).trans rfl
                      have hcz23_8 : w22.cell? ⟨gb190, 8, none⟩ = some (.int .i64 a0_8) := (blk_cell BK190.out 8).trans rfl
                      have hcz23_9 : w22.cell? ⟨gb190, 9, none⟩ = some (.int .i64 a0_9) := (blk_cell BK190.out 9).trans rfl
                      have hcz23_10 : w22.cell? ⟨gb190, 10, none⟩ = some (.string a0_10) := (blk_cell BK190.out 10).trans rfl
                      have hcz23_11 : w22.cell? ⟨gb190, 11, none⟩ = some (.string a0_11) := (blk_cell BK190.out 11).trans rfl
                      have hcz23_12 : w22.cell? ⟨gb190, 12, none⟩ = some (.string a0_12) := (blk_cell BK190.out 12).trans rfl
                      have hcz23_13 : w22.cell? ⟨gb190, 13, none⟩ = some (.string a0_13) := (blk_cell BK190.out 13).trans rfl
                      have hfz23_0 := blk_frozen BK190.out 0
                      have hfz23_1 := blk_frozen BK190.out 1
                      have hfz23_2 := blk_frozen BK190.out 2
                      have hfz23_3 := blk_frozen BK190.out 3
                      have hfz23_4 := blk_frozen BK190.out 4
                      have hfz23_5 := blk_frozen BK190.out 5
                      have hfz23_6 := blk_frozen BK190.out 6
                      have hfz23_7 := blk_frozen BK190.out 7
                      have hfz23_8 := blk_frozen BK190.out 8
                      have hfz23_9 := blk_frozen BK190.out 9
                      have hfz23_10 := blk_frozen BK190.out 10
                      have hfz23_11 := blk_frozen BK190.out 11
                      have hfz23_12 := blk_frozen BK190.out 12
                      have hfz23_13 := blk_frozen BK190.out 13
                      try go_wp2_with (first | ((with_reducible refine gate_callee (f := 41) rfl ?_); refine goesL_ (some 39) rfl rfl Tryd.func41 (by kernel_rfl) rfl #[.string a0_11] rfl (by (try simp only [List.map_toArray, List.map_cons, List.map_nil]); first | done | rfl | (simp only [List.length_drop, List.length_take]; rfl)) ?_; (with_reducible refine (spec_Lines.calls k1 a0_11 t194 _ A19.out).mono ?_); rintro e w24 ⟨v195, rfl, ho0, hb⟩; refine ⟨_, rfl, ?_⟩; have n0_ := Aside0.mk (Kd.R_lower ho0 (below_size (by repeat (first | (with_reducible first | exact HB.out | apply below_alloc | apply pw_below_drewN | apply below_drew1 | refine below_set ?_ GE190.out) | exact HB.out)))); have n1_ := Aside0.mk (blk_below (g := gb190) (o := .cells #[.string a0_0, .slice A0_1 l0_1.length c0_1, .string a0_2, .string a0_3, .int .i64 a0_4, .int .i64 a0_5, .string a0_6, .string a0_7, .int .i64 a0_8, .int .i64 a0_9, .string a0_10, .string a0_11, .string a0_12, .string a0_13] 38 (0, 0)) (by (with_reducible repeat (first | refine blk_drewN ?_ _ | refine blk_drew ?_ | refine blk_alloc ?_ _)); exact BK190.out) hb); have n2_ := Aside0.mk (below_step (by repeat (first | (with_reducible first | exact HB.out | apply below_alloc | apply pw_below_drewN | apply below_drew1 | refine below_set ?_ GE190.out) | exact HB.out)) hb); clear BK190; clear HB; have HO196 := n0_; have BK190 := n1_; have HB := n2_; clear n0_ n1_ n2_; (try clear hb); (try clear hb2); (try clear hk); (try clear hi); (try clear ho0); obtain ⟨Ao25, co25, eo25⟩ := Kd.R_slice HO196.out; subst eo25))
                      go_loopg [3, 41] k1 (fun kq v3 v41 w' => ∃ (x3_2 : ByteArray) (x41_2 : Int), v3 = .string x3_2 ∧ v41 = .int .i64 x41_2 ∧ Aside0 (spec_CommitText.l1 kq x3_2 t194 (t194.length : Int) x41_2 a0_0 l0_1 a0_2 a0_3 a0_4 a0_5 a0_6 a0_7 a0_8 a0_9 a0_10 a0_11 a0_12 a0_13 = some r) ∧ Aside0 (kq ≤ k1) ∧ Aside0 (Kd.R Kd.string 9 w' w.heap.size (fun _ => True) (.slice Ao25 t194.length co25) t194) ∧ Aside0 (w'.heap[gb190]? = some (.cells #[.string a0_0, (.slice A0_1 l0_1.length c0_1), .string a0_2, .string a0_3, .int .i64 a0_4, .int .i64 a0_5, .string a0_6, .string a0_7, .int .i64 a0_8, .int .i64 a0_9, .string a0_10, .string a0_11, .string a0_12, .string a0_13] 38 (0, 0))) ∧ Aside0 (Below w.heap.size w w'))
                      case atStart => exact ⟨(x3_1 ++ (((((⟨#[97, 117, 116, 104, 111, 114, 32]⟩ : ByteArray) ++ t192) ++ (⟨#[10, 99, 111, 109, 109, 105, 116, 116, 101, 114, 32]⟩ : ByteArray)) ++ t193) ++ (⟨#[10]⟩ : ByteArray))), (0), (by first | rfl | (simp; done) | (simp [*]; done)), (by first | rfl | (simp; done) | (simp [*]; done)), H', ⟨Nat.le_refl _⟩, ⟨by (with_reducible repeat (first | apply Kd.R_alloc | apply Kd.R_drewN | apply Kd.R_drew)); exact HO196.out⟩, ⟨by (with_reducible repeat (first | refine blk_drewN ?_ _ | refine blk_drew ?_ | refine blk_alloc ?_ _)); exact BK190.out⟩, ⟨by repeat (first | (with_reducible first | exact HB.out | apply below_alloc | apply pw_below_drewN | apply below_drew1 | refine below_set ?_ GE190.out) | exact HB.out)⟩⟩
                      case round =>
                        clear H'
                        try clear c1
                        try clear p1
                        try clear q1
                        try clear hx1
                        try clear c2
                        try clear c2b0
                        try clear c2b1
                        try clear c2b2
                        try clear p2
                        try clear c3
                        try clear c3b0
                        try clear c3b1
                        try clear c3b2
                        try clear c4
                        try clear c6
                        try clear c6b0
                        try clear p6
                        try clear c7
                        try clear c7b0
                        try clear c8
                        try clear c8b0
                        try clear c9
                        try clear c9b0
                        try clear c9b1
                        try clear c9b2
                        try clear c10
                        try clear c10b0
                        try clear c10b1
                        try clear c10b2
                        try clear c11
                        try clear c11b0
                        try clear c11b1
                        try clear c11b2
                        try clear c13
                        try clear c13b0
                        try clear c13b1
                        try clear c13b2
                        try clear c14
                        try clear c14b0
                        try clear c14b1
                        try clear c14b2
                        try clear c16
                        try clear c16b0
                        try clear c16b1
                        try clear c16b2
                        try clear c17
                        try clear c17b0
                        try clear c17b1
                        try clear c17b2
                        try clear c18
                        try clear c18b0
                        try clear c18b1
                        try clear c18b2
                        try clear p19
                        try clear q19
                        try clear hx19
                        try clear hcz23_0
                        try clear hcz23_1
                        try clear hcz23_10
                        try clear hcz23_11
                        try clear hcz23_12
                        try clear hcz23_13
                        try clear hcz23_2
                        try clear hcz23_3
                        try clear hcz23_4
                        try clear hcz23_5
                        try clear hcz23_6
                        try clear hcz23_7
                        try clear hcz23_8
                        try clear hcz23_9
                        try clear hcz5_0
                        try clear hcz5_1
                        try clear hcz5_10
                        try clear hcz5_11
                        try clear hcz5_12
                        try clear hcz5_13
                        try clear hcz5_2
                        try clear hcz5_3
                        try clear hcz5_4
                        try clear hcz5_5
                        try clear hcz5_6
                        try clear hcz5_7
                        try clear hcz5_8
                        try clear hcz5_9
                        try clear hfz23_0
                        try clear hfz23_1
                        try clear hfz23_10
                        try clear hfz23_11
                        try clear hfz23_12
                        try clear hfz23_13
                        try clear hfz23_2
                        try clear hfz23_3
                        try clear hfz23_4
                        try clear hfz23_5
                        try clear hfz23_6
                        try clear hfz23_7
                        try clear hfz23_8
                        try clear hfz23_9
                        try clear hfz5_0
                        try clear hfz5_1
                        try clear hfz5_10
                        try clear hfz5_11
                        try clear hfz5_12
                        try clear hfz5_13
                        try clear hfz5_2
                        try clear hfz5_3
                        try clear hfz5_4
                        try clear hfz5_5
                        try clear hfz5_6
                        try clear hfz5_7
                        try clear hfz5_8
                        try clear hfz5_9
                        try clear hx191_0
                        try clear p191
                        try clear p2
                        try clear q191
                        obtain ⟨x3_2, x41_2, rfl, rfl, HA, HK2, HO_39, BK190, HB⟩ := hrel
                        cases gk with
                        | zero => exact absurd HA.out (by simp [spec_CommitText.l1])
                        | succ k2 =>
                          have H := HA.out
                          clear HA
                          simp only [spec_CommitText.l1] at H
                          by_cases c26 : x41_2 < (t194.length : Int)
                          · rw [if_pos c26] at H
                            have c26b0 : decide (x41_2 < (t194.length : Int)) = true := decide_eq_true c26
                            clear c26
                            by_cases c27 : 0 ≤ x41_2
                            · rw [if_pos c27] at H
                              have c27b0 : decide (0 ≤ x41_2) = true := decide_eq_true c27
                              clear c27
                              by_cases c28 : x41_2 < (t194.length : Int)
                              · rw [if_pos c28] at H
                                have c28b0 : decide (x41_2 < (t194.length : Int)) = true := decide_eq_true c28
                                clear c28
                                by_cases c29 : x41_2 = 0
                                · rw [if_pos c29] at H
                                  have c29b0 : (x41_2 == 0) = true := beq_iff_eq.mpr c29
                                  have c29b1 : (x41_2 != 0) = false := bne_eq_false_iff_eq.mpr c29
                                  clear c29
                                  by_cases c30 : x3_2.size + 6 ≤ 9223372036854775807
                                  · rw [if_pos c30] at H
                                    have c30b0 := eq_true c30
                                    have c30b1 : decide (x3_2.size + 6 ≤ 9223372036854775807) = true := decide_eq_true c30
                                    try have c30b2 : (9223372036854775807 < x3_2.size + 6) = False := eq_false (Nat.not_lt.2 c30)
                                    by_cases c31 : 1 + (rdOf ByteArray.empty t194 x41_2).size ≤ 9223372036854775807
                                    · rw [if_pos c31] at H
                                      have c31b0 := eq_true c31
                                      have c31b1 : decide (1 + (rdOf ByteArray.empty t194 x41_2).size ≤ 9223372036854775807) = true := decide_eq_true c31
                                      try have c31b2 : (9223372036854775807 < 1 + (rdOf ByteArray.empty t194 x41_2).size) = False := eq_false (Nat.not_lt.2 c31)
                                      by_cases c32 : ((⟨#[32]⟩ : ByteArray) ++ (rdOf ByteArray.empty t194 x41_2)).size + 1 ≤ 9223372036854775807
                                      · rw [if_pos c32] at H
                                        have c32b0 := eq_true c32
                                        try have c32b9_2 : (9223372036854775807 < 1 + (rdOf ByteArray.empty t194 x41_2).size) = False := eq_false (by have h_ := c32; simp only [ByteArray.size_append] at h_; have e0_ : (⟨#[32]⟩ : ByteArray).size = 1 := rfl; omega)
                                        try have c32b9_3 : (9223372036854775807 < 1 + (rdOf ByteArray.empty t194 x41_2).size + 1) = False := eq_false (by have h_ := c32; simp only [ByteArray.size_append] at h_; have e0_ : (⟨#[32]⟩ : ByteArray).size = 1 := rfl; omega)
                                        have c32b1 : decide (((⟨#[32]⟩ : ByteArray) ++ (rdOf ByteArray.empty t194 x41_2)).size + 1 ≤ 9223372036854775807) = true := decide_eq_true c32
                                        try have c32b2 : (9223372036854775807 < ((⟨#[32]⟩ : ByteArray) ++ (rdOf ByteArray.empty t194 x41_2)).size + 1) = False := eq_false (Nat.not_lt.2 c32)
                                        by_cases c33 : (x3_2 ++ (⟨#[103, 112, 103, 115, 105, 103]⟩ : ByteArray)).size + (((⟨#[32]⟩ : ByteArray) ++ (rdOf ByteArray.empty t194 x41_2)) ++ (⟨#[10]⟩ : ByteArray)).size ≤ 9223372036854775807
                                        · rw [if_pos c33] at H
                                          have c33b0 := eq_true c33
                                          try have c33b9_g : (9223372036854775807 < x3_2.size + 6 + (1 + (rdOf ByteArray.empty t194 x41_2).size + 1)) = False := eq_false (by have h_ := c33; simp only [ByteArray.size_append] at h_; have e0_ : (⟨#[103, 112, 103, 115, 105, 103]⟩ : ByteArray).size = 6 := rfl; have e1_ : (⟨#[32]⟩ : ByteArray).size = 1 := rfl; have e2_ : (⟨#[10]⟩ : ByteArray).size = 1 := rfl; omega)
                                          try have c33b9_2 : (9223372036854775807 < x3_2.size + 6) = False := eq_false (by have h_ := c33; simp only [ByteArray.size_append] at h_; have e0_ : (⟨#[103, 112, 103, 115, 105, 103]⟩ : ByteArray).size = 6 := rfl; have e1_ : (⟨#[32]⟩ : ByteArray).size = 1 := rfl; have e2_ : (⟨#[10]⟩ : ByteArray).size = 1 := rfl; omega)
                                          try have c33b9_3 : (9223372036854775807 < x3_2.size + 6 + 1) = False := eq_false (by have h_ := c33; simp only [ByteArray.size_append] at h_; have e0_ : (⟨#[103, 112, 103, 115, 105, 103]⟩ : ByteArray).size = 6 := rfl; have e1_ : (⟨#[32]⟩ : ByteArray).size = 1 := rfl; have e2_ : (⟨#[10]⟩ : ByteArray).size = 1 := rfl; omega)
                                          try have c33b9_4 : (9223372036854775807 < x3_2.size + 6 + 1 + (rdOf ByteArray.empty t194 x41_2).size) = False := eq_false (by have h_ := c33; simp only [ByteArray.size_append] at h_; have e0_ : (⟨#[103, 112, 103, 115, 105, 103]⟩ : ByteArray).size = 6 := rfl; have e1_ : (⟨#[32]⟩ : ByteArray).size = 1 := rfl; have e2_ : (⟨#[10]⟩ : ByteArray).size = 1 := rfl; omega)
                                          try have c33b9_5 : (9223372036854775807 < x3_2.size + 6 + 1 + (rdOf ByteArray.empty t194 x41_2).size + 1) = False := eq_false (by have h_ := c33; simp only [ByteArray.size_append] at h_; have e0_ : (⟨#[103, 112, 103, 115, 105, 103]⟩ : ByteArray).size = 6 := rfl; have e1_ : (⟨#[32]⟩ : ByteArray).size = 1 := rfl; have e2_ : (⟨#[10]⟩ : ByteArray).size = 1 := rfl; omega)
                                          have c33b1 : decide ((x3_2 ++ (⟨#[103, 112, 103, 115, 105, 103]⟩ : ByteArray)).size + (((⟨#[32]⟩ : ByteArray) ++ (rdOf ByteArray.empty t194 x41_2)) ++ (⟨#[10]⟩ : ByteArray)).size ≤ 9223372036854775807) = true := decide_eq_true c33
                                          try have c33b2 : (9223372036854775807 < (x3_2 ++ (⟨#[103, 112, 103, 115, 105, 103]⟩ : ByteArray)).size + (((⟨#[32]⟩ : ByteArray) ++ (rdOf ByteArray.empty t194 x41_2)) ++ (⟨#[10]⟩ : ByteArray)).size) = False := eq_false (Nat.not_lt.2 c33)
                                          have H' := Aside0.mk H
                                          clear H
                                          have p197 : 0 ≤ (x41_2 : Int) := of_decide_eq_true (by first | (with_reducible assumption) | assumption)
                                          have q197 : x41_2 < (t194.length : Int) := of_decide_eq_true (by first | (with_reducible assumption) | assumption)
                                          obtain ⟨ad197, e197, hx197_0⟩ := Kd.at_string (Kd.R_reads' HO_39.out).2.2 x41_2 p197 q197
                                          cases e197
                                          replace p197 := eq_true p197
                                          replace q197 := eq_true q197
                                          go_wp2
                                          go_roundg k2
                                          case measure => have := HK1.out; have := HK2.out; omega
                                          case rel => exact ⟨((x3_2 ++ (⟨#[103, 112, 103, 115, 105, 103]⟩ : ByteArray)) ++ (((⟨#[32]⟩ : ByteArray) ++ (rdOf ByteArray.empty t194 x41_2)) ++ (⟨#[10]⟩ : ByteArray))), (wrap64 (x41_2 + 1)), (by first | rfl | (simp; done) | (simp [*]; done)), (by first | rfl | (simp; done) | (simp [*]; done)), H', ⟨by have := HK1.out; have := HK2.out; omega⟩, ⟨by (with_reducible repeat (first | apply Kd.R_alloc | apply Kd.R_drewN | apply Kd.R_drew)); exact HO_39.out⟩, ⟨by (with_reducible repeat (first | refine blk_drewN ?_ _ | refine blk_drew ?_ | refine blk_alloc ?_ _)); exact BK190.out⟩, ⟨by repeat (first | (with_reducible first | exact HB.out | apply below_alloc | apply pw_below_drewN | apply below_drew1 | refine below_set ?_ GE190.out) | exact HB.out)⟩⟩
                                        · rw [if_neg c33] at H
                                          exact absurd H (by simp)
                                      · rw [if_neg c32] at H
                                        exact absurd H (by simp)
                                    · rw [if_neg c31] at H
                                      exact absurd H (by simp)
                                  · rw [if_neg c30] at H
                                    exact absurd H (by simp)
                                · rw [if_neg c29] at H
                                  have c29b0 : (x41_2 == 0) = false := beq_eq_false_iff_ne.mpr c29
                                  have c29b1 : (x41_2 != 0) = true := bne_iff_ne.mpr c29
                                  by_cases c34 : 1 + (rdOf ByteArray.empty t194 x41_2).size ≤ 9223372036854775807
                                  · rw [if_pos c34] at H
                                    have c34b0 := eq_true c34
                                    have c34b1 : decide (1 + (rdOf ByteArray.empty t194 x41_2).size ≤ 9223372036854775807) = true := decide_eq_true c34
                                    try have c34b2 : (9223372036854775807 < 1 + (rdOf ByteArray.empty t194 x41_2).size) = False := eq_false (Nat.not_lt.2 c34)
                                    by_cases c35 : ((⟨#[32]⟩ : ByteArray) ++ (rdOf ByteArray.empty t194 x41_2)).size + 1 ≤ 9223372036854775807
                                    · rw [if_pos c35] at H
                                      have c35b0 := eq_true c35
                                      try have c35b9_2 : (9223372036854775807 < 1 + (rdOf ByteArray.empty t194 x41_2).size) = False := eq_false (by have h_ := c35; simp only [ByteArray.size_append] at h_; have e0_ : (⟨#[32]⟩ : ByteArray).size = 1 := rfl; omega)
                                      try have c35b9_3 : (9223372036854775807 < 1 + (rdOf ByteArray.empty t194 x41_2).size + 1) = False := eq_false (by have h_ := c35; simp only [ByteArray.size_append] at h_; have e0_ : (⟨#[32]⟩ : ByteArray).size = 1 := rfl; omega)
                                      have c35b1 : decide (((⟨#[32]⟩ : ByteArray) ++ (rdOf ByteArray.empty t194 x41_2)).size + 1 ≤ 9223372036854775807) = true := decide_eq_true c35
                                      try have c35b2 : (9223372036854775807 < ((⟨#[32]⟩ : ByteArray) ++ (rdOf ByteArray.empty t194 x41_2)).size + 1) = False := eq_false (Nat.not_lt.2 c35)
                                      by_cases c36 : x3_2.size + (((⟨#[32]⟩ : ByteArray) ++ (rdOf ByteArray.empty t194 x41_2)) ++ (⟨#[10]⟩ : ByteArray)).size ≤ 9223372036854775807
                                      · rw [if_pos c36] at H
                                        have c36b0 := eq_true c36
                                        try have c36b9_g : (9223372036854775807 < x3_2.size + (1 + (rdOf ByteArray.empty t194 x41_2).size + 1)) = False := eq_false (by have h_ := c36; simp only [ByteArray.size_append] at h_; have e0_ : (⟨#[32]⟩ : ByteArray).size = 1 := rfl; have e1_ : (⟨#[10]⟩ : ByteArray).size = 1 := rfl; omega)
                                        try have c36b9_2 : (9223372036854775807 < x3_2.size + 1) = False := eq_false (by have h_ := c36; simp only [ByteArray.size_append] at h_; have e0_ : (⟨#[32]⟩ : ByteArray).size = 1 := rfl; have e1_ : (⟨#[10]⟩ : ByteArray).size = 1 := rfl; omega)
                                        try have c36b9_3 : (9223372036854775807 < x3_2.size + 1 + (rdOf ByteArray.empty t194 x41_2).size) = False := eq_false (by have h_ := c36; simp only [ByteArray.size_append] at h_; have e0_ : (⟨#[32]⟩ : ByteArray).size = 1 := rfl; have e1_ : (⟨#[10]⟩ : ByteArray).size = 1 := rfl; omega)
                                        try have c36b9_4 : (9223372036854775807 < x3_2.size + 1 + (rdOf ByteArray.empty t194 x41_2).size + 1) = False := eq_false (by have h_ := c36; simp only [ByteArray.size_append] at h_; have e0_ : (⟨#[32]⟩ : ByteArray).size = 1 := rfl; have e1_ : (⟨#[10]⟩ : ByteArray).size = 1 := rfl; omega)
                                        have c36b1 : decide (x3_2.size + (((⟨#[32]⟩ : ByteArray) ++ (rdOf ByteArray.empty t194 x41_2)) ++ (⟨#[10]⟩ : ByteArray)).size ≤ 9223372036854775807) = true := decide_eq_true c36
                                        try have c36b2 : (9223372036854775807 < x3_2.size + (((⟨#[32]⟩ : ByteArray) ++ (rdOf ByteArray.empty t194 x41_2)) ++ (⟨#[10]⟩ : ByteArray)).size) = False := eq_false (Nat.not_lt.2 c36)
                                        have H' := Aside0.mk H
                                        clear H
                                        have p197 : 0 ≤ (x41_2 : Int) := of_decide_eq_true (by first | (with_reducible assumption) | assumption)
                                        have q197 : x41_2 < (t194.length : Int) := of_decide_eq_true (by first | (with_reducible assumption) | assumption)
                                        obtain ⟨ad197, e197, hx197_0⟩ := Kd.at_string (Kd.R_reads' HO_39.out).2.2 x41_2 p197 q197
                                        cases e197
                                        replace p197 := eq_true p197
                                        replace q197 := eq_true q197
                                        go_wp2
                                        go_roundg k2
                                        case measure => have := HK1.out; have := HK2.out; omega
                                        case rel => exact ⟨(x3_2 ++ (((⟨#[32]⟩ : ByteArray) ++ (rdOf ByteArray.empty t194 x41_2)) ++ (⟨#[10]⟩ : ByteArray))), (wrap64 (x41_2 + 1)), (by first | rfl | (simp; done) | (simp [*]; done)), (by first | rfl | (simp; done) | (simp [*]; done)), H', ⟨by have := HK1.out; have := HK2.out; omega⟩, ⟨by (with_reducible repeat (first | apply Kd.R_alloc | apply Kd.R_drewN | apply Kd.R_drew)); exact HO_39.out⟩, ⟨by (with_reducible repeat (first | refine blk_drewN ?_ _ | refine blk_drew ?_ | refine blk_alloc ?_ _)); exact BK190.out⟩, ⟨by repeat (first | (with_reducible first | exact HB.out | apply below_alloc | apply pw_below_drewN | apply below_drew1 | refine below_set ?_ GE190.out) | exact HB.out)⟩⟩
                                      · rw [if_neg c36] at H
                                        exact absurd H (by simp)
                                    · rw [if_neg c35] at H
                                      exact absurd H (by simp)
                                  · rw [if_neg c34] at H
                                    exact absurd H (by simp)
                              · rw [if_neg c28] at H
                                exact absurd H (by simp)
                            · rw [if_neg c27] at H
                              exact absurd H (by simp)
                          · rw [if_neg c26] at H
                            have c26b0 : decide (x41_2 < (t194.length : Int)) = false := decide_eq_false c26
                            clear c26
                            by_cases c37 : x3_2.size + 1 ≤ 9223372036854775807
                            · rw [if_pos c37] at H
                              have c37b0 := eq_true c37
                              have c37b1 : decide (x3_2.size + 1 ≤ 9223372036854775807) = true := decide_eq_true c37
                              try have c37b2 : (9223372036854775807 < x3_2.size + 1) = False := eq_false (Nat.not_lt.2 c37)
                              by_cases c38 : (x3_2 ++ (⟨#[10]⟩ : ByteArray)).size + a0_13.size ≤ 9223372036854775807
                              · rw [if_pos c38] at H
                                have c38b0 := eq_true c38
                                try have c38b9_2 : (9223372036854775807 < x3_2.size + 1) = False := eq_false (by have h_ := c38; simp only [ByteArray.size_append] at h_; have e0_ : (⟨#[10]⟩ : ByteArray).size = 1 := rfl; omega)
                                try have c38b9_3 : (9223372036854775807 < x3_2.size + 1 + a0_13.size) = False := eq_false (by have h_ := c38; simp only [ByteArray.size_append] at h_; have e0_ : (⟨#[10]⟩ : ByteArray).size = 1 := rfl; omega)
                                have c38b1 : decide ((x3_2 ++ (⟨#[10]⟩ : ByteArray)).size + a0_13.size ≤ 9223372036854775807) = true := decide_eq_true c38
                                try have c38b2 : (9223372036854775807 < (x3_2 ++ (⟨#[10]⟩ : ByteArray)).size + a0_13.size) = False := eq_false (Nat.not_lt.2 c38)
                                obtain rfl := Option.some.inj H
                                have hcz39_0 : wr.cell? ⟨gb190, 0, none⟩ = some (.string a0_0) := (blk_cell BK190.out 0).trans rfl
                                have hcz39_1 : wr.cell? ⟨gb190, 1, none⟩ = some (.slice A0_1 l0_1.length c0_1) := (blk_cell BK190.out 1).trans rfl
                                have hcz39_2 : wr.cell? ⟨gb190, 2, none⟩ = some (.string a0_2) := (blk_cell BK190.out 2).trans rfl
                                have hcz39_3 : wr.cell? ⟨gb190, 3, none⟩ = some (.string a0_3) := (blk_cell BK190.out 3).trans rfl
                                have hcz39_4 : wr.cell? ⟨gb190, 4, none⟩ = some (.int .i64 a0_4) := (blk_cell BK190.out 4).trans rfl
                                have hcz39_5 : wr.cell? ⟨gb190, 5, none⟩ = some (.int .i64 a0_5) := (blk_cell BK190.out 5).trans rfl
                                have hcz39_6 : wr.cell? ⟨gb190, 6, none⟩ = some (.string a0_6) := (blk_cell BK190.out 6).trans rfl
                                have hcz39_7 : wr.cell? ⟨gb190, 7, none⟩ = some (.string a0_7) := (blk_cell BK190.out 7).trans rfl
                                have hcz39_8 : wr.cell? ⟨gb190, 8, none⟩ = some (.int .i64 a0_8) := (blk_cell BK190.out 8).trans rfl
                                have hcz39_9 : wr.cell? ⟨gb190, 9, none⟩ = some (.int .i64 a0_9) := (blk_cell BK190.out 9).trans rfl
                                have hcz39_10 : wr.cell? ⟨gb190, 10, none⟩ = some (.string a0_10) := (blk_cell BK190.out 10).trans rfl
                                have hcz39_11 : wr.cell? ⟨gb190, 11, none⟩ = some (.string a0_11) := (blk_cell BK190.out 11).trans rfl
                                have hcz39_12 : wr.cell? ⟨gb190, 12, none⟩ = some (.string a0_12) := (blk_cell BK190.out 12).trans rfl
                                have hcz39_13 : wr.cell? ⟨gb190, 13, none⟩ = some (.string a0_13) := (blk_cell BK190.out 13).trans rfl
                                have hfz39_0 := blk_frozen BK190.out 0
                                have hfz39_1 := blk_frozen BK190.out 1
                                have hfz39_2 := blk_frozen BK190.out 2
                                have hfz39_3 := blk_frozen BK190.out 3
                                have hfz39_4 := blk_frozen BK190.out 4
                                have hfz39_5 := blk_frozen BK190.out 5
                                have hfz39_6 := blk_frozen BK190.out 6
                                have hfz39_7 := blk_frozen BK190.out 7
                                have hfz39_8 := blk_frozen BK190.out 8
                                have hfz39_9 := blk_frozen BK190.out 9
                                have hfz39_10 := blk_frozen BK190.out 10
                                have hfz39_11 := blk_frozen BK190.out 11
                                have hfz39_12 := blk_frozen BK190.out 12
                                have hfz39_13 := blk_frozen BK190.out 13
                                go_wp2
                                go_ret
                                exact ⟨by first | rfl | (simp [errW_none, errW_some] <;> rfl) | (simp [*, errW_none, errW_some] <;> rfl), by repeat (first | (with_reducible first | exact HB.out | apply below_alloc | apply pw_below_drewN | apply below_drew1 | refine below_set ?_ GE190.out) | exact HB.out)⟩
                              · rw [if_neg c38] at H
                                exact absurd H (by simp)
                            · rw [if_neg c37] at H
                              exact absurd H (by simp)
                    · rw [if_neg c18] at H
                      exact absurd H (by simp)
                  · rw [if_neg c17] at H
                    exact absurd H (by simp)
                · rw [if_neg c16] at H
                  exact absurd H (by simp)
              · rw [if_neg c14] at H
                exact absurd H (by simp)
            · rw [if_neg c13] at H
              exact absurd H (by simp)
    · rw [if_neg c3] at H
      exact absurd H (by simp)
  · rw [if_neg c2] at H
    exact absurd H (by simp)

end Go.Proofs.YtddnepddilbikaaDoor.QAll
