-- WRITTEN BY A PROGRAM OF THIS SESSION, out of the loaded program, with words of the kit
import Derived.Test.YtddnepddilbikaaDoorQAllx0
namespace Go.Proofs.YtddnepddilbikaaDoor.QAll
open Go.RowKit Go.Proofs.YtddnepddilbikaaDoorW.PrintWords Go.Proofs.YtddnepddilbikaaDoorW.PrintLast Go.Proofs.YtddnepddilbikaaDoorW.PrintMore
attribute [local go_sem] max2_int min2_int max_two min_two max_three min_three max_four min_four   -- for this text's walks alone
set_option linter.unusedVariables false
set_option linter.unusedSimpArgs false

/-! ### laws_obBytes: function 9 -/
def laws_obBytes.f (l0 : List Int) (l1 : List Int) : Option (Bool) := some ((strOfNums l0).toList == (strOfNums l1).toList)
set_option maxHeartbeats 8000000 in
set_option maxRecDepth 100000 in
theorem laws_obBytes.calls (A0 : Option Addr) (c0 : Nat) (l0 : List Int) (A1 : Option Addr) (c1 : Nat) (l1 : List Int) (r : Bool) (w : World) (hr0 : Kd.C (Kd.int .u8) w A0 l0.length l0) (hc0 : l0.length ≤ c0) (hr1 : Kd.C (Kd.int .u8) w A1 l1.length l1) (hc1 : l1.length ≤ c1) (h : laws_obBytes.f l0 l1 = some r) :
    Calls Tryd.prog 9 #[.slice A0 l0.length c0, .slice A1 l1.length c1] w fun e w' => e = .returned (.bool r) ∧ Drawn0 w w' := by
  have HR0 := Aside0.mk hr0
  have HC0 := Aside0.mk hc0
  clear hr0 hc0
  have HR1 := Aside0.mk hr1
  have HC1 := Aside0.mk hc1
  clear hr1 hc1
  have H : (some ((strOfNums l0).toList == (strOfNums l1).toList)) = some r := h
  clear h
  obtain rfl := Option.some.inj H
  have hcv3 := Kd.C_string (P := Tryd.prog) (A := A0) (c := c0) Tryd.underlying24 Tryd.underlying5 Tryd.underlying9 HR0.out
  have hcv4 := Kd.C_string (P := Tryd.prog) (A := A1) (c := c1) Tryd.underlying24 Tryd.underlying5 Tryd.underlying9 HR1.out
  go_enter Tryd.func9, Tryd.ntmps9
  go_wp2
  go_ret
  exact ⟨by first | rfl | (simp; done) | (simp [*]; done), by repeat (first | exact Drawn0.refl _ | apply Drawn0.step)⟩

/-- THE ONE PURE STATEMENT of laws_obBytes: yours. -/
def laws_obBytes.Pure : Prop := ∀ (l0 : List Int) (l1 : List Int), l0.length ≤ maxLen → l0.length * 1 ≤ 140737488351232 → (∀ x ∈ l0, (Lit.int .u8 x).wf = true) → l1.length ≤ maxLen → l1.length * 1 ≤ 140737488351232 → (∀ x ∈ l1, (Lit.int .u8 x).wf = true) → laws_obBytes.f l0 l1 = some true
theorem laws_obBytes.walk (P : laws_obBytes.Pure) (a0 : Option Addr) (len0 cap0 : Nat) (z0 : List Int) (a1 : Option Addr) (len1 cap1 : Nat) (z1 : List Int) (w : World) (w0 : (a0 = none ∧ len0 = 0 ∧ cap0 = 0 ∧ z0 = []) ∨ ∃ x, a0 = some x ∧ len0 ≤ cap0 ∧ cap0 ≤ maxLen ∧ z0.length = cap0 ∧ (∀ i, i < z0.length → w.cell? (x.add i) = some (.int .u8 (z0.getD i 0))) ∧ ∀ n ∈ z0, (Lit.int .u8 n).wf = true) (y0 : len0 * 1 ≤ 140737488351232) (w1 : (a1 = none ∧ len1 = 0 ∧ cap1 = 0 ∧ z1 = []) ∨ ∃ x, a1 = some x ∧ len1 ≤ cap1 ∧ cap1 ≤ maxLen ∧ z1.length = cap1 ∧ (∀ i, i < z1.length → w.cell? (x.add i) = some (.int .u8 (z1.getD i 0))) ∧ ∀ n ∈ z1, (Lit.int .u8 n).wf = true) (y1 : len1 * 1 ≤ 140737488351232) :
    Calls Tryd.prog 9 #[.slice a0 len0 cap0, .slice a1 len1 cap1] w fun e w' => e = .returned (.bool true) ∧ Below w.heap.size w w' := by
  obtain ⟨l0, rfl, hr0, hm0, hw0, hc0⟩ := ReadsInt.ofRowC w0
  obtain ⟨l1, rfl, hr1, hm1, hw1, hc1⟩ := ReadsInt.ofRowC w1
  have h := P l0 l1 hm0 y0 hw0 hm1 y1 hw1
  refine (laws_obBytes.calls _ _ l0 _ _ l1 true w (Kd.C_of_reads (d := (0 : Int)) (h1 := fun _ => rfl) hr0) hc0 (Kd.C_of_reads (d := (0 : Int)) (h1 := fun _ => rfl) hr1) hc1 h).mono ?_
  rintro e w' ⟨rfl, hd⟩
  exact ⟨rfl, hd.below⟩

/-! ### zztime_Unix: function 53 -/
def zztime_Unix.f (a0 : Int) (a1 : Int) : Option (Int × Int × Int) := if (Int.tmod a1 1000000000) < 0 then (some (wrap64 ((wrap64 ((wrap64 (a0 + (wrap64 (Int.tdiv a1 1000000000)))) - 1)) + 62135596800), wrap64 ((Int.tmod a1 1000000000) + 1000000000), 0)) else (some (wrap64 ((wrap64 (a0 + (wrap64 (Int.tdiv a1 1000000000)))) + 62135596800), Int.tmod a1 1000000000, 0))
/-! ### zztime_Time_In: function 54 -/
def zztime_Time_In.f (a0_0 : Int) (a0_1 : Int) (a0_2 : Int) (a1_0 : Int) : Option (Int × Int × Int) := some (a0_0, a0_1, a1_0)
/-! ### zztime_FixedZone: function 55 -/
def zztime_FixedZone.f (a0 : ByteArray) (a1 : Int) : Option (Int) := some a1
/-! ### impl_signatureOf: function 33 -/
def impl_signatureOf.f (a0_0 : ByteArray) (a0_1 : ByteArray) (a0_2 : Int) (a0_3 : Int) : Option (ByteArray × ByteArray × Int × Int × Int) := (zztime_Unix.f a0_2 0).bind fun bt205 => ((zztime_FixedZone.f (⟨#[]⟩ : ByteArray) a0_3).bind fun t208 => ((zztime_Time_In.f bt205.1 bt205.2.1 bt205.2.2 t208).bind fun bt209 => (some (a0_0, a0_1, bt209.1, bt209.2.1, bt209.2.2))))
def impl_signatureOf.T1 : Bool × List (List Nat × List Nat) := (true, [([], []), ([0], [0]), ([], []), ([2], [2]), ([], []), ([4], [4]), ([5], [5]), ([], []), ([7], [7]), ([8, 6], [8]), ([6, 9, 9], [6, 9]), ([1, 3, 10], [1, 3, 10]), ([11, 10, 0, 1, 2, 3, 4, 5, 6, 7, 8, 9, 10, 11], [11])])
def impl_signatureOf.B1 : List Nat := [0, 1, 0, 4, 0, 16, 48, 0, 128, 496, 1008, 2047, 4095]
theorem impl_signatureOf.tab1 : rtab .any (opsOf Tryd.f33 1) = impl_signatureOf.T1 := by kernel_rfl
theorem impl_signatureOf.bits1 : waitsOk impl_signatureOf.T1.2 impl_signatureOf.B1 = true := by kernel_rfl
/-! ### zztime_Time_IsZero: function 80 -/
def zztime_Time_IsZero.f (a0_0 : Int) (a0_1 : Int) (a0_2 : Int) : Option (Bool) := if a0_0 = 0 then (some (a0_1 == 0)) else (some false)
set_option maxHeartbeats 8000000 in
set_option maxRecDepth 100000 in
theorem zztime_Time_IsZero.calls (a0_0 : Int) (a0_1 : Int) (a0_2 : Int) (r : Bool) (w : World) (h : zztime_Time_IsZero.f a0_0 a0_1 a0_2 = some r) :
    Calls Tryd.prog 80 #[.agg #[.int .i64 a0_0, .int .i64 a0_1, .int .i64 a0_2]] w fun e w' => e = .returned (.bool r) ∧ Below w.heap.size w w' := by
  have hu73 := Tryd.underlying73
  have HB := Aside0.mk (Below.refl w.heap.size w)
  have H : (if a0_0 = 0 then (some (a0_1 == 0)) else (some false)) = some r := h
  clear h
  by_cases c2 : a0_0 = 0
  · rw [if_pos c2] at H
    have c2b0 : (a0_0 == 0) = true := beq_iff_eq.mpr c2
    have c2b1 : (a0_0 != 0) = false := bne_eq_false_iff_eq.mpr c2
    clear c2
    obtain rfl := Option.some.inj H
    go_enter Tryd.func80, Tryd.ntmps80
    go_wp2_with (first | ((with_reducible refine gate_dst (N := 1) rfl ?_); refine box_event ?hg (N := 1) ?hd (cs := #[.int .i64 a0_0, .int .i64 a0_1, .int .i64 a0_2]) (t := 73) ?hr ?_; (case hd => rfl); (case hg => rfl); (case hr => first | (go_simp; done) | (go_simp; rfl)); intro gb212 hg w3 hbox hb; have n0_ := Aside0.mk (below_step (by repeat (first | (with_reducible first | exact HB.out | apply below_alloc | apply pw_below_drewN | apply below_drew1) | exact HB.out)) hb); have n1_ := Aside0.mk (hbox); have n2_ := Aside0.mk ((by rw [hg]; exact (below_size (by repeat (first | (with_reducible first | exact HB.out | apply below_alloc | apply pw_below_drewN | apply below_drew1) | exact HB.out))) : w.heap.size ≤ gb212)); have n3_ := Aside0.mk ((by rw [hg]; exact (below_size (by repeat (first | (with_reducible first | exact HB.out | apply below_alloc | apply pw_below_drewN | apply below_drew1) | exact HB.out))) : w.heap.size ≤ gb212)); clear HB; have HB := n0_; have BK212 := n1_; have GW212 := n2_; have GE212 := n3_; clear n0_ n1_ n2_ n3_; clear hb hbox hg; have hcz4_0 : w3.cell? ⟨gb212, 0, none⟩ = some (.int .i64 a0_0) := (blk_cell BK212.out 0).trans rfl; have hcz4_1 : w3.cell? ⟨gb212, 1, none⟩ = some (.int .i64 a0_1) := (blk_cell BK212.out 1).trans rfl; have hcz4_2 : w3.cell? ⟨gb212, 2, none⟩ = some (.int .i64 a0_2) := (blk_cell BK212.out 2).trans rfl; have hfz4_0 := blk_frozen BK212.out 0; have hfz4_1 := blk_frozen BK212.out 1; have hfz4_2 := blk_frozen BK212.out 2))
    go_ret
    exact ⟨by first | rfl | (simp [errW_none, errW_some] <;> rfl) | (simp [*, errW_none, errW_some] <;> rfl), by repeat (first | (with_reducible first | exact HB.out | apply below_alloc | apply pw_below_drewN | apply below_drew1 | refine below_set ?_ GE212.out) | exact HB.out)⟩
  · rw [if_neg c2] at H
    have c2b0 : (a0_0 == 0) = false := beq_eq_false_iff_ne.mpr c2
    have c2b1 : (a0_0 != 0) = true := bne_iff_ne.mpr c2
    obtain rfl := Option.some.inj H
    go_enter Tryd.func80, Tryd.ntmps80
    go_wp2_with (first | ((with_reducible refine gate_dst (N := 1) rfl ?_); refine box_event ?hg (N := 1) ?hd (cs := #[.int .i64 a0_0, .int .i64 a0_1, .int .i64 a0_2]) (t := 73) ?hr ?_; (case hd => rfl); (case hg => rfl); (case hr => first | (go_simp; done) | (go_simp; rfl)); intro gb212 hg w5 hbox hb; have n0_ := Aside0.mk (below_step (by repeat (first | (with_reducible first | exact HB.out | apply below_alloc | apply pw_below_drewN | apply below_drew1) | exact HB.out)) hb); have n1_ := Aside0.mk (hbox); have n2_ := Aside0.mk ((by rw [hg]; exact (below_size (by repeat (first | (with_reducible first | exact HB.out | apply below_alloc | apply pw_below_drewN | apply below_drew1) | exact HB.out))) : w.heap.size ≤ gb212)); have n3_ := Aside0.mk ((by rw [hg]; exact (below_size (by repeat (first | (with_reducible first | exact HB.out | apply below_alloc | apply pw_below_drewN | apply below_drew1) | exact HB.out))) : w.heap.size ≤ gb212)); clear HB; have HB := n0_; have BK212 := n1_; have GW212 := n2_; have GE212 := n3_; clear n0_ n1_ n2_ n3_; clear hb hbox hg; have hcz6_0 : w5.cell? ⟨gb212, 0, none⟩ = some (.int .i64 a0_0) := (blk_cell BK212.out 0).trans rfl; have hcz6_1 : w5.cell? ⟨gb212, 1, none⟩ = some (.int .i64 a0_1) := (blk_cell BK212.out 1).trans rfl; have hcz6_2 : w5.cell? ⟨gb212, 2, none⟩ = some (.int .i64 a0_2) := (blk_cell BK212.out 2).trans rfl; have hfz6_0 := blk_frozen BK212.out 0; have hfz6_1 := blk_frozen BK212.out 1; have hfz6_2 := blk_frozen BK212.out 2))
    go_ret
    exact ⟨by first | rfl | (simp [errW_none, errW_some] <;> rfl) | (simp [*, errW_none, errW_some] <;> rfl), by repeat (first | (with_reducible first | exact HB.out | apply below_alloc | apply pw_below_drewN | apply below_drew1 | refine below_set ?_ GE212.out) | exact HB.out)⟩

/-! ### object_isZeroSignature: function 66 -/
def object_isZeroSignature.f (a0_0 : ByteArray) (a0_1 : ByteArray) (a0_2 : Int) (a0_3 : Int) (a0_4 : Int) : Option (Bool) := if a0_0.toList = ([] : List UInt8) then (if a0_1.toList = ([] : List UInt8) then ((zztime_Time_IsZero.f a0_2 a0_3 a0_4).bind fun t214 => (some t214)) else (some false)) else (some false)
set_option maxHeartbeats 8000000 in
set_option maxRecDepth 100000 in
theorem object_isZeroSignature.calls (a0_0 : ByteArray) (a0_1 : ByteArray) (a0_2 : Int) (a0_3 : Int) (a0_4 : Int) (r : Bool) (w : World) (h : object_isZeroSignature.f a0_0 a0_1 a0_2 a0_3 a0_4 = some r) :
    Calls Tryd.prog 66 #[.agg #[.string a0_0, .string a0_1, .int .i64 a0_2, .int .i64 a0_3, .int .i64 a0_4]] w fun e w' => e = .returned (.bool r) ∧ Below w.heap.size w w' := by
  have hu75 := Tryd.underlying75
  have hu73 := Tryd.underlying73
  have HB := Aside0.mk (Below.refl w.heap.size w)
  have H : (if a0_0.toList = ([] : List UInt8) then (if a0_1.toList = ([] : List UInt8) then ((zztime_Time_IsZero.f a0_2 a0_3 a0_4).bind fun t214 => (some t214)) else (some false)) else (some false)) = some r := h
  clear h
  by_cases c2 : a0_0.toList = ([] : List UInt8)
  · rw [if_pos c2] at H
    have c2b0 : (a0_0.toList == ([] : List UInt8)) = true := beq_iff_eq.mpr c2
    have c2b1 : (a0_0.toList != ([] : List UInt8)) = false := bne_eq_false_iff_eq.mpr c2
    clear c2
    by_cases c3 : a0_1.toList = ([] : List UInt8)
    · rw [if_pos c3] at H
      have c3b0 : (a0_1.toList == ([] : List UInt8)) = true := beq_iff_eq.mpr c3
      have c3b1 : (a0_1.toList != ([] : List UInt8)) = false := bne_eq_false_iff_eq.mpr c3
      clear c3
      replace H := Option.bind_eq_some_iff.mp H
      obtain ⟨t214, A40, H⟩ := H
      replace H : (some t214) = some r := H
      have A4 := Aside0.mk A40
      clear A40
      obtain rfl := Option.some.inj H
      go_enter Tryd.func66, Tryd.ntmps66
      go_wp2_with (first | ((with_reducible refine gate_dst (N := 1) rfl ?_); refine box_event ?hg (N := 1) ?hd (cs := #[.string a0_0, .string a0_1, .int .i64 a0_2, .int .i64 a0_3, .int .i64 a0_4]) (t := 75) ?hr ?_; (case hd => rfl); (case hg => rfl); (case hr => first | (go_simp; done) | (go_simp; rfl)); intro gb213 hg w5 hbox hb; have n0_ := Aside0.mk (below_step (by repeat (first | (with_reducible first | exact HB.out | apply below_alloc | apply pw_below_drewN | apply below_drew1) | exact HB.out)) hb); have n1_ := Aside0.mk (hbox); have n2_ := Aside0.mk ((by rw [hg]; exact (below_size (by repeat (first | (with_reducible first | exact HB.out | apply below_alloc | apply pw_below_drewN | apply below_drew1) | exact HB.out))) : w.heap.size ≤ gb213)); have n3_ := Aside0.mk ((by rw [hg]; exact (below_size (by repeat (first | (with_reducible first | exact HB.out | apply below_alloc | apply pw_below_drewN | apply below_drew1) | exact HB.out))) : w.heap.size ≤ gb213)); clear HB; have HB := n0_; have BK213 := n1_; have GW213 := n2_; have GE213 := n3_; clear n0_ n1_ n2_ n3_; clear hb hbox hg; have hcz6_0 : w5.cell? ⟨gb213, 0, none⟩ = some (.string a0_0) := (blk_cell BK213.out 0).trans rfl; have hcz6_1 : w5.cell? ⟨gb213, 1, none⟩ = some (.string a0_1) := (blk_cell BK213.out 1).trans rfl; have hcz6_2 : w5.cell? ⟨gb213, 2, none⟩ = some (.int .i64 a0_2) := (blk_cell BK213.out 2).trans rfl; have hcz6_3 : w5.cell? ⟨gb213, 3, none⟩ = some (.int .i64 a0_3) := (blk_cell BK213.out 3).trans rfl; have hcz6_4 : w5.cell? ⟨gb213, 4, none⟩ = some (.int .i64 a0_4) := (blk_cell BK213.out 4).trans rfl; have hfz6_0 := blk_frozen BK213.out 0; have hfz6_1 := blk_frozen BK213.out 1; have hfz6_2 := blk_frozen BK213.out 2; have hfz6_3 := blk_frozen BK213.out 3; have hfz6_4 := blk_frozen BK213.out 4) | (go_at_call 80; (with_reducible refine (zztime_Time_IsZero.calls a0_2 a0_3 a0_4 t214 _ A4.out).mono ?_); rintro e w7 ⟨rfl, hb⟩; have n0_ := Aside0.mk (blk_below (g := gb213) (o := .cells #[.string a0_0, .string a0_1, .int .i64 a0_2, .int .i64 a0_3, .int .i64 a0_4] 75 (0, 0)) (by (with_reducible repeat (first | refine blk_drewN ?_ _ | refine blk_drew ?_ | refine blk_alloc ?_ _)); exact BK213.out) hb); have n1_ := Aside0.mk (below_step (by repeat (first | (with_reducible first | exact HB.out | apply below_alloc | apply pw_below_drewN | apply below_drew1 | refine below_set ?_ GE213.out) | exact HB.out)) hb); clear BK213; clear HB; have BK213 := n0_; have HB := n1_; clear n0_ n1_; (try clear hb); (try clear hb2); (try clear hk); (try clear hi)))
      go_ret
      exact ⟨by first | rfl | (simp [errW_none, errW_some] <;> rfl) | (simp [*, errW_none, errW_some] <;> rfl), by repeat (first | (with_reducible first | exact HB.out | apply below_alloc | apply pw_below_drewN | apply below_drew1 | refine below_set ?_ GE213.out) | exact HB.out)⟩
    · rw [if_neg c3] at H
      have c3b0 : (a0_1.toList == ([] : List UInt8)) = false := beq_eq_false_iff_ne.mpr c3
      have c3b1 : (a0_1.toList != ([] : List UInt8)) = true := bne_iff_ne.mpr c3
      obtain rfl := Option.some.inj H
      go_enter Tryd.func66, Tryd.ntmps66
      go_wp2_with (first | ((with_reducible refine gate_dst (N := 1) rfl ?_); refine box_event ?hg (N := 1) ?hd (cs := #[.string a0_0, .string a0_1, .int .i64 a0_2, .int .i64 a0_3, .int .i64 a0_4]) (t := 75) ?hr ?_; (case hd => rfl); (case hg => rfl); (case hr => first | (go_simp; done) | (go_simp; rfl)); intro gb213 hg w8 hbox hb; have n0_ := Aside0.mk (below_step (by repeat (first | (with_reducible first | exact HB.out | apply below_alloc | apply pw_below_drewN | apply below_drew1) | exact HB.out)) hb); have n1_ := Aside0.mk (hbox); have n2_ := Aside0.mk ((by rw [hg]; exact (below_size (by repeat (first | (with_reducible first | exact HB.out | apply below_alloc | apply pw_below_drewN | apply below_drew1) | exact HB.out))) : w.heap.size ≤ gb213)); have n3_ := Aside0.mk ((by rw [hg]; exact (below_size (by repeat (first | (with_reducible first | exact HB.out | apply below_alloc | apply pw_below_drewN | apply below_drew1) | exact HB.out))) : w.heap.size ≤ gb213)); clear HB; have HB := n0_; have BK213 := n1_; have GW213 := n2_; have GE213 := n3_; clear n0_ n1_ n2_ n3_; clear hb hbox hg; have hcz9_0 : w8.cell? ⟨gb213, 0, none⟩ = some (.string a0_0) := (blk_cell BK213.out 0).trans rfl; have hcz9_1 : w8.cell? ⟨gb213, 1, none⟩ = some (.string a0_1) := (blk_cell BK213.out 1).trans rfl; have hcz9_2 : w8.cell? ⟨gb213, 2, none⟩ = some (.int .i64 a0_2) := (blk_cell BK213.out 2).trans rfl; have hcz9_3 : w8.cell? ⟨gb213, 3, none⟩ = some (.int .i64 a0_3) := (blk_cell BK213.out 3).trans rfl; have hcz9_4 : w8.cell? ⟨gb213, 4, none⟩ = some (.int .i64 a0_4) := (blk_cell BK213.out 4).trans rfl; have hfz9_0 := blk_frozen BK213.out 0; have hfz9_1 := blk_frozen BK213.out 1; have hfz9_2 := blk_frozen BK213.out 2; have hfz9_3 := blk_frozen BK213.out 3; have hfz9_4 := blk_frozen BK213.out 4))
      go_ret
      exact ⟨by first | rfl | (simp [errW_none, errW_some] <;> rfl) | (simp [*, errW_none, errW_some] <;> rfl), by repeat (first | (with_reducible first | exact HB.out | apply below_alloc | apply pw_below_drewN | apply below_drew1 | refine below_set ?_ GE213.out) | exact HB.out)⟩
  · rw [if_neg c2] at H
    have c2b0 : (a0_0.toList == ([] : List UInt8)) = false := beq_eq_false_iff_ne.mpr c2
    have c2b1 : (a0_0.toList != ([] : List UInt8)) = true := bne_iff_ne.mpr c2
    obtain rfl := Option.some.inj H
    go_enter Tryd.func66, Tryd.ntmps66
    go_wp2_with (first | ((with_reducible refine gate_dst (N := 1) rfl ?_); refine box_event ?hg (N := 1) ?hd (cs := #[.string a0_0, .string a0_1, .int .i64 a0_2, .int .i64 a0_3, .int .i64 a0_4]) (t := 75) ?hr ?_; (case hd => rfl); (case hg => rfl); (case hr => first | (go_simp; done) | (go_simp; rfl)); intro gb213 hg w10 hbox hb; have n0_ := Aside0.mk (below_step (by repeat (first | (with_reducible first | exact HB.out | apply below_alloc | apply pw_below_drewN | apply below_drew1) | exact HB.out)) hb); have n1_ := Aside0.mk (hbox); have n2_ := Aside0.mk ((by rw [hg]; exact (below_size (by repeat (first | (with_reducible first | exact HB.out | apply below_alloc | apply pw_below_drewN | apply below_drew1) | exact HB.out))) : w.heap.size ≤ gb213)); have n3_ := Aside0.mk ((by rw [hg]; exact (below_size (by repeat (first | (with_reducible first | exact HB.out | apply below_alloc | apply pw_below_drewN | apply below_drew1) | exact HB.out))) : w.heap.size ≤ gb213)); clear HB; have HB := n0_; have BK213 := n1_; have GW213 := n2_; have GE213 := n3_; clear n0_ n1_ n2_ n3_; clear hb hbox hg; have hcz11_0 : w10.cell? ⟨gb213, 0, none⟩ = some (.string a0_0) := (blk_cell BK213.out 0).trans rfl; have hcz11_1 : w10.cell? ⟨gb213, 1, none⟩ = some (.string a0_1) := (blk_cell BK213.out 1).trans rfl; have hcz11_2 : w10.cell? ⟨gb213, 2, none⟩ = some (.int .i64 a0_2) := (blk_cell BK213.out 2).trans rfl; have hcz11_3 : w10.cell? ⟨gb213, 3, none⟩ = some (.int .i64 a0_3) := (blk_cell BK213.out 3).trans rfl; have hcz11_4 : w10.cell? ⟨gb213, 4, none⟩ = some (.int .i64 a0_4) := (blk_cell BK213.out 4).trans rfl; have hfz11_0 := blk_frozen BK213.out 0; have hfz11_1 := blk_frozen BK213.out 1; have hfz11_2 := blk_frozen BK213.out 2; have hfz11_3 := blk_frozen BK213.out 3; have hfz11_4 := blk_frozen BK213.out 4))
    go_ret
    exact ⟨by first | rfl | (simp [errW_none, errW_some] <;> rfl) | (simp [*, errW_none, errW_some] <;> rfl), by repeat (first | (with_reducible first | exact HB.out | apply below_alloc | apply pw_below_drewN | apply below_drew1 | refine below_set ?_ GE213.out) | exact HB.out)⟩

end Go.Proofs.YtddnepddilbikaaDoor.QAll
