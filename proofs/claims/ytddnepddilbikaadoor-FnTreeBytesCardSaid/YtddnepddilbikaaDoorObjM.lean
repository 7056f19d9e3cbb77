/- strconv.FormatUint at base 8, walked. -/
import Derived.Test.YtddnepddilbikaaDoorExtO
import Derived.Test.YtddnepddilbikaaDoorQAllx0
import Derived.Deep.MidRow
import Derived.Test.YtddnepddilbikaaDoorObjA
import Derived.Laws.MathBits
set_option linter.unusedVariables false
set_option linter.unusedSimpArgs false
namespace Go.Proofs.YtddnepddilbikaaDoor.ObjM
open Go.RowKit Go.Proofs.YtddnepddilbikaaDoorW.PrintWords Go.Proofs.YtddnepddilbikaaDoorW.PrintLast Go.Proofs.YtddnepddilbikaaDoor.QAll ExtO

set_option maxHeartbeats 4000000 in
set_option maxRecDepth 100000 in
theorem powTwo (w : World) : Calls Tryd.prog 90 #[.int .i64 8] w fun e w' => e = .returned (.bool true) ∧ w' = w := by
  go_enter Tryd.func90, Tryd.ntmps90
  go_wp2
  go_ret
  exact ⟨rfl, rfl⟩
theorem k1 : IntKind.u64.wrap (-8) = 18446744073709551608 := by decide +kernel
theorem k2 : bits BinOp.and IntKind.u64 8 18446744073709551608 = 8 := by decide +kernel
theorem k3 : IntKind.u64.wrap (8 * 285870213051353865) = 2286961704410830920 := by decide +kernel
theorem k4 : (2286961704410830920 : Int) / 288230376151711744 = 7 := by decide +kernel
set_option maxHeartbeats 4000000 in
set_option maxRecDepth 100000 in
theorem tz64 (w : World) (hc : w.cell? ⟨6, 7, none⟩ = some (.int .u8 3)) : Calls Tryd.prog 101 #[.int .u64 8] w fun e w' => e = .returned (.int .i64 3) ∧ w' = w := by
  have h1 := k1
  have h2 := k2
  have h3 := k3
  have h4 := k4
  go_enter Tryd.func101, Tryd.ntmps101
  go_wp2
  go_ret
  exact ⟨rfl, rfl⟩
set_option maxHeartbeats 4000000 in
set_option maxRecDepth 100000 in
theorem tz (w : World) (hc : w.cell? ⟨6, 7, none⟩ = some (.int .u8 3)) : Calls Tryd.prog 91 #[.int .u64 8] w fun e w' => e = .returned (.int .i64 3) ∧ w' = w := by
  have HT := Aside0.mk (tz64 w hc)
  clear hc
  go_enter Tryd.func91, Tryd.ntmps91
  go_wp2_with (first
    | (go_at_call 101
       (with_reducible refine HT.out.mono ?_)
       rintro x w1 ⟨rfl, rfl⟩)
    | fail)
  go_ret
  exact ⟨rfl, rfl⟩
def digs : ByteArray := ⟨#[48, 49, 50, 51, 52, 53, 54, 55, 56, 57, 97, 98, 99, 100, 101, 102, 103, 104, 105, 106, 107, 108, 109, 110, 111, 112, 113, 114, 115, 116, 117, 118, 119, 120, 121, 122]⟩
theorem and7 (z : Int) (h0 : 0 ≤ z) (h1 : z < 18446744073709551616) : bits .and .u64 z 7 = z % 8 := by go_bits2
theorem ob_small : ∀ (k n : Nat), n < 8 ^ (k + 1) → (ob n).size ≤ k + 1 := by
  intro k
  induction k with
  | zero =>
    intro n h
    rw [ob, if_pos (by simpa using h), Lib.size_eq, enc8 n (by simpa using h)]
    simp
  | succ k ih =>
    intro n h
    rw [ob]
    split
    · rename_i h8
      rw [Lib.size_eq, enc8 n h8]
      simp
    · rename_i h8
      have h1 : n / 8 < 8 ^ (k + 1) := Nat.div_lt_of_lt_mul (by rw [Nat.pow_succ] at h; omega)
      have := ih (n / 8) h1
      have h2 : (Utf8.encode (48 + ((n % 8 : Nat) : Int))).size = 1 := by rw [Lib.size_eq, enc8 (n % 8) (by omega)]; rfl
      rw [ByteArray.size_append]
      omega
theorem ob_step (n : Nat) (h : 8 ≤ n) : (ob n).data.toList = (ob (n / 8)).data.toList ++ [UInt8.ofNat (48 + n % 8)] := by
  rw [ob, if_neg (by omega), ByteArray.data_append, Array.toList_append, enc8 (n % 8) (by omega)]
theorem ob_last (n : Nat) (h : n < 8) : (ob n).data.toList = [UInt8.ofNat (48 + n)] := by
  rw [ob, if_pos h, enc8 n h]
theorem dig8 (z : Int) (h0 : 0 ≤ z) (h1 : z < 8) (W : World) : (Instr.index 9 (.string digs) (.int .u64 z)).run Tryd.prog W = .ok (.int .u8 (48 + z)) W := by
  rcases (show z = 0 ∨ z = 1 ∨ z = 2 ∨ z = 3 ∨ z = 4 ∨ z = 5 ∨ z = 6 ∨ z = 7 by omega) with rfl | rfl | rfl | rfl | rfl | rfl | rfl | rfl <;> (go_simp; rfl)
theorem slA (ab i : Nat) (h : i < 65) (W : World) : (Instr.sliceAt 171 (.pointer (some ⟨ab, 0, none⟩)) (some (.int .i64 (i : Int))) none none).run Tryd.prog W = .ok (.slice (some ⟨ab, i, none⟩) (65 - i) (65 - i)) W := by
  obtain ⟨i5, hi, _, hsz, _⟩ := info_parts (show (Tryd.prog.info? 5).map (fun i => (i.zero, i.size, i.bytes)) = some (some (.int .u8 0), 1, 1) by kernel_rfl)
  have hl : Tryd.prog.arrayLen 171 = 65 := by kernel_rfl
  have he : Tryd.prog.elem 171 = 5 := by kernel_rfl
  have hadd : (⟨ab, 0, none⟩ : Addr).add i = ⟨ab, i, none⟩ := by unfold Addr.add; split <;> simp_all
  have hne : ¬ 65 = i := by omega
  rw [run_sliceAt_array_l W 171 ⟨ab, 0, none⟩ (by rw [hl, he]; exact Tryd.underlying171) .i64 (i : Int) (Int.natCast_nonneg _) (by rw [hl]; omega), he, hl]
  simp [sizeOf, typeInfo, hi, hsz, slicedAt, Result.andThen, hadd, hne]
theorem digL (r : Int) (h0 : 0 ≤ r) (h1 : r < 8) : ∀ h : r.toNat < (⟨#[48, 49, 50, 51, 52, 53, 54, 55, 56, 57, 97, 98, 99, 100, 101, 102, 103, 104, 105, 106, 107, 108, 109, 110, 111, 112, 113, 114, 115, 116, 117, 118, 119, 120, 121, 122]⟩ : ByteArray).size, (((⟨#[48, 49, 50, 51, 52, 53, 54, 55, 56, 57, 97, 98, 99, 100, 101, 102, 103, 104, 105, 106, 107, 108, 109, 110, 111, 112, 113, 114, 115, 116, 117, 118, 119, 120, 121, 122]⟩ : ByteArray)[r.toNat]'h).toNat : Int) = 48 + r := by
  rcases (show r = 0 ∨ r = 1 ∨ r = 2 ∨ r = 3 ∨ r = 4 ∨ r = 5 ∨ r = 6 ∨ r = 7 by omega) with rfl | rfl | rfl | rfl | rfl | rfl | rfl | rfl <;> (intro h; rfl)
/-- The digits that have been written. -/
def vals (l : List UInt8) : List Value := l.map fun c => .int .u8 (c.toNat : Int)
/-- Where the writing stands: u is left, the digits sfx stand from the place i on. -/
structure Fb (U : Nat) (w W : World) (ab : Nat) (cur : List Value) (u i : Nat) (sfx : List UInt8) : Prop where
  h : W.heap[ab]? = some (.cells cur.toArray 171 (0, 0))
  l : cur.length = 65
  d : cur.drop i = vals sfx
  n : i + sfx.length = 65
  o : (ob U).data.toList = (ob u).data.toList ++ sfx
  b : Below w.heap.size w W
theorem ob_pos (n : Nat) : 1 ≤ (ob n).size := by
  by_cases h : n < 8
  · rw [Lib.size_eq, ob_last n h]; simp
  · rw [Lib.size_eq, ob_step n (by omega), List.length_append]; simp
set_option maxHeartbeats 8000000 in
set_option maxRecDepth 100000 in
theorem formatBits (U : Nat) (hU : U ≤ 4294967295) (w : World) (hc : ∀ W, Below w.heap.size w W → W.cell? ⟨6, 7, none⟩ = some (.int .u8 3)) :
    Calls Tryd.prog 78 #[.slice none 0 0, .int .u64 (U : Int), .int .i64 8, .bool false, .bool false] w fun e w' => e = .returned (.tuple #[.slice none 0 0, .string (ob U)]) ∧ Below w.heap.size w w' := by
  have HC := Aside0.mk hc
  have HP := fun W => Aside0.mk (powTwo W)
  have h8 : (8 : Nat) ^ (10 + 1) = 8589934592 := by decide
  have hsz : (ob U).size ≤ 11 := ob_small 10 U (by rw [h8]; omega)
  have HSZ := Aside0.mk hsz
  have HUB := Aside0.mk hU
  have hB0 := below_alloc (Below.refl w.heap.size w) (.cells #[.int .u8 0, .int .u8 0, .int .u8 0, .int .u8 0, .int .u8 0, .int .u8 0, .int .u8 0, .int .u8 0, .int .u8 0, .int .u8 0, .int .u8 0, .int .u8 0, .int .u8 0, .int .u8 0, .int .u8 0, .int .u8 0, .int .u8 0, .int .u8 0, .int .u8 0, .int .u8 0, .int .u8 0, .int .u8 0, .int .u8 0, .int .u8 0, .int .u8 0, .int .u8 0, .int .u8 0, .int .u8 0, .int .u8 0, .int .u8 0, .int .u8 0, .int .u8 0, .int .u8 0, .int .u8 0, .int .u8 0, .int .u8 0, .int .u8 0, .int .u8 0, .int .u8 0, .int .u8 0, .int .u8 0, .int .u8 0, .int .u8 0, .int .u8 0, .int .u8 0, .int .u8 0, .int .u8 0, .int .u8 0, .int .u8 0, .int .u8 0, .int .u8 0, .int .u8 0, .int .u8 0, .int .u8 0, .int .u8 0, .int .u8 0, .int .u8 0, .int .u8 0, .int .u8 0, .int .u8 0, .int .u8 0, .int .u8 0, .int .u8 0, .int .u8 0, .int .u8 0] 171)
  have HB0 := Aside0.mk hB0
  have HT : Aside0 (∀ W, Below w.heap.size w W → Calls Tryd.prog 91 #[.int .u64 8] W fun e w' => e = .returned (.int .i64 3) ∧ w' = W) := ⟨fun W hW => tz W (HC.out W hW)⟩
  obtain ⟨z0, hz0⟩ : ∃ z0 : Int, z0 = (U : Int) := ⟨_, rfl⟩
  rw [← hz0]
  have HZ0 := Aside0.mk hz0
  clear hc hsz hB0 hz0 hU h8
  go_enter Tryd.func78, Tryd.ntmps78
  go_wp2_with (first
    | (go_at_call 90
       (with_reducible refine (HP _).out.mono ?_)
       rintro x w1 ⟨rfl, hw1⟩
       have HW1 := Aside0.mk hw1
       clear hw1)
    | (go_at_call 91
       (refine (HT.out _ ?hb).mono ?_)
       (case hb => rw [HW1.out]; exact HB0.out)
       rintro x w2 ⟨rfl, hw2⟩
       have HW2 := Aside0.mk hw2
       clear hw2)
    | fail)
  have HST : Aside0 (Fb U w w2 w.heap.size [.int .u8 0, .int .u8 0, .int .u8 0, .int .u8 0, .int .u8 0, .int .u8 0, .int .u8 0, .int .u8 0, .int .u8 0, .int .u8 0, .int .u8 0, .int .u8 0, .int .u8 0, .int .u8 0, .int .u8 0, .int .u8 0, .int .u8 0, .int .u8 0, .int .u8 0, .int .u8 0, .int .u8 0, .int .u8 0, .int .u8 0, .int .u8 0, .int .u8 0, .int .u8 0, .int .u8 0, .int .u8 0, .int .u8 0, .int .u8 0, .int .u8 0, .int .u8 0, .int .u8 0, .int .u8 0, .int .u8 0, .int .u8 0, .int .u8 0, .int .u8 0, .int .u8 0, .int .u8 0, .int .u8 0, .int .u8 0, .int .u8 0, .int .u8 0, .int .u8 0, .int .u8 0, .int .u8 0, .int .u8 0, .int .u8 0, .int .u8 0, .int .u8 0, .int .u8 0, .int .u8 0, .int .u8 0, .int .u8 0, .int .u8 0, .int .u8 0, .int .u8 0, .int .u8 0, .int .u8 0, .int .u8 0, .int .u8 0, .int .u8 0, .int .u8 0, .int .u8 0] U 65 []) := ⟨by
    rw [HW2.out, HW1.out]
    exact ⟨blk_new _ _, rfl, rfl, rfl, by rw [List.append_nil], HB0.out⟩⟩
  clear HW1 HW2 HT HP HB0
  obtain ⟨ab, hab⟩ : ∃ ab, ab = w.heap.size := ⟨_, rfl⟩
  rw [← hab] at HST
  simp only [← hab]
  have HAB := Aside0.mk hab
  clear hab
  go_loopg [1, 13] U (fun gk v1 v13 w' => ∃ (u i : Nat) (cur : List Value) (sfx : List UInt8), v1 = .int .u64 (u : Int) ∧ v13 = .int .i64 (i : Int) ∧ Aside0 (u ≤ gk) ∧ Aside0 (u ≤ U) ∧ Aside0 (Fb U w w' ab cur u i sfx))
  case atStart => exact ⟨U, 65, _, [], by rw [HZ0.out], rfl, ⟨Nat.le_refl _⟩, ⟨Nat.le_refl _⟩, HST⟩
  case round =>
    obtain ⟨u, i, cur, sfx, rfl, rfl, HK, HUU, HF⟩ := hrel
    clear HST
    have hfb := HF.out
    have hi : 55 ≤ i ∧ i ≤ 65 := by
      have h1 := hfb.o
      have h2 := congrArg List.length h1
      rw [List.length_append] at h2
      have h3 := HSZ.out
      rw [Lib.size_eq] at h3
      have h4 := hfb.n
      have h5 : 1 ≤ (ob u).data.toList.length := by
        rw [← Lib.size_eq]
        exact ob_pos u
      omega
    obtain ⟨i1, rfl⟩ : ∃ i1, i = i1 + 1 := ⟨i - 1, by omega⟩
    have hi1 : (i1 : Int) < 65 := by omega
    have hil : i1 < cur.length := by have := hfb.l; omega
    obtain ⟨cv, hcv0⟩ : ∃ cv, cur[i1]? = some cv := ⟨_, List.getElem?_eq_getElem hil⟩
    have hcell : wr.cell? ⟨ab, i1, none⟩ = some cv := (blk_cell hfb.h i1).trans (by rw [List.getElem?_toArray, hcv0])
    clear hcv0
    have hfroz := Lib.frozen_of_heap hfb.h i1
    have hu0 : u ≤ 4294967295 := Nat.le_trans HUU.out HUB.out
    by_cases hlt : 8 ≤ u
    · obtain ⟨r, hr⟩ : ∃ r : Int, r = ((u % 8 : Nat) : Int) := ⟨_, rfl⟩
      have hr0 : 0 ≤ r := by omega
      have hr8 : r < 8 := by omega
      have hand : bits .and .u64 (u : Int) 7 = r := by rw [and7 (u : Int) (by omega) (by omega), hr]; omega
      have hix := digL r hr0 hr8
      have hux : (8 : Int) ≤ (u : Int) := by omega
      obtain ⟨q, hq⟩ : ∃ q : Int, q = (u : Int) / 8 := ⟨_, rfl⟩
      have hqq := hq.symm
      have hnext : Aside0 (Fb U w (wr.setCell ⟨ab, i1, none⟩ (.int .u8 (48 + r))) ab (cur.set i1 (.int .u8 (48 + r))) (u / 8) i1 (UInt8.ofNat (48 + u % 8) :: sfx)) := ⟨by
        have hv : Value.int .u8 (48 + r) = .int .u8 ((UInt8.ofNat (48 + u % 8)).toNat : Int) := by
          rw [UInt8.toNat_ofNat', Nat.mod_eq_of_lt (by omega), hr]
          congr 1
        refine ⟨?_, by rw [List.length_set]; exact hfb.l, ?_, by have := hfb.n; rw [List.length_cons]; omega, ?_, hfb.b.setCell (p := ⟨ab, i1, none⟩) (by rw [HAB.out]; exact Nat.le_refl _) _⟩
        · have h := Lib.heap_setCell_same (i := i1) hfb.h (.int .u8 (48 + r))
          rw [h, List.setIfInBounds_toArray]
        · rw [List.drop_eq_getElem_cons (by rw [List.length_set]; exact hil), List.getElem_set_self, List.drop_set_of_lt (by omega), hfb.d, hv]
          rfl
        · rw [hfb.o, ob_step u hlt, List.append_assoc]
          rfl⟩
      have HK2 : Aside0 (q = ((u / 8 : Nat) : Int) ∧ u / 8 < gk ∧ u / 8 ≤ U) := ⟨by have := HK.out; have := HUU.out; omega⟩
      clear hr hq hfb hlt hu0 hi hil
      go_wp2
      go_roundg (u / 8)
      case measure => exact HK2.out.2.1
      case rel => exact ⟨u / 8, i1, _, _, by rw [HK2.out.1], rfl, ⟨Nat.le_refl _⟩, ⟨HK2.out.2.2⟩, hnext⟩
    · have hu8 : u < 8 := by omega
      obtain ⟨r, hr⟩ : ∃ r : Int, r = (u : Int) := ⟨_, rfl⟩
      have hr0 : 0 ≤ r := by omega
      have hr8 : r < 8 := by omega
      have hix := digL r hr0 hr8
      rw [← hr]
      have hnext : Fb U w (wr.setCell ⟨ab, i1, none⟩ (.int .u8 (48 + r))) ab (cur.set i1 (.int .u8 (48 + r))) 0 i1 (UInt8.ofNat (48 + u) :: sfx) ∨ True := Or.inr trivial
      have hrow := Lib.heap_setCell_same (i := i1) hfb.h (.int .u8 (48 + r))
      have hout : (ob U).data.toList = UInt8.ofNat (48 + u) :: sfx := by rw [hfb.o, ob_last u hu8]; rfl
      have hdrop : (cur.set i1 (.int .u8 (48 + r))).drop i1 = vals (ob U).data.toList := by
        have hv : Value.int .u8 (48 + r) = .int .u8 ((UInt8.ofNat (48 + u)).toNat : Int) := by
          rw [UInt8.toNat_ofNat', Nat.mod_eq_of_lt (by omega), hr]
          congr 1
        rw [List.drop_eq_getElem_cons (by rw [List.length_set]; exact hil), List.getElem_set_self, List.drop_set_of_lt (by omega), hfb.d, hv, hout]
        rfl
      have hlen : 65 - i1 = (ob U).size := by
        have := hfb.n
        rw [Lib.size_eq, hout, List.length_cons]
        omega
      have hcv : ∀ c, (convert 24 9 (.slice (some ⟨ab, i1, none⟩) (65 - i1) c)).run Tryd.prog (wr.setCell ⟨ab, i1, none⟩ (.int .u8 (48 + r))) = .ok (.string (ob U)) (wr.setCell ⟨ab, i1, none⟩ (.int .u8 (48 + r))) := fun c => by
        have hC : Kd.C (Kd.int .u8) (wr.setCell ⟨ab, i1, none⟩ (.int .u8 (48 + r))) (some ⟨ab, i1, none⟩) (ObjA.nums (ob U)).length (ObjA.nums (ob U)) := by
          refine ObjA.C_blk (cur := cur.set i1 (.int .u8 (48 + r))) (t := 171) (by rw [hrow, List.setIfInBounds_toArray]) (by rw [ObjA.nums_len]; omega) (fun j x hx => ?_)
          rw [← List.getElem?_drop, hdrop]
          unfold vals
          unfold ObjA.nums at hx
          rw [List.getElem?_map] at hx ⊢
          obtain ⟨cc, hcc, rfl⟩ := Option.map_eq_some_iff.1 hx
          rw [hcc]
          rfl
        rw [hlen, ← ObjA.nums_len]
        refine (Kd.C_string (P := Tryd.prog) Tryd.underlying24 Tryd.underlying5 Tryd.underlying9 hC).trans ?_
        have e : strOfNums (ObjA.nums (ob U)) = ob U := by
          unfold strOfNums ObjA.nums
          rw [List.map_map]
          have e : ((fun n : Int => UInt8.ofNat n.toNat) ∘ fun c : UInt8 => (c.toNat : Int)) = id := by
            funext c
            simp
          rw [e, List.map_id]
        rw [e]
      have hsl := fun W => slA ab i1 (by omega) W
      have HBF := Aside0.mk (hfb.b.setCell (p := ⟨ab, i1, none⟩) (by rw [HAB.out]; exact Nat.le_refl _) (.int .u8 (48 + r)))
      clear hr hfb hlt hu0 hi hil hrow hout hdrop hlen hnext hu8
      go_wp2
      go_ret2
      exact ⟨rfl, HBF.out⟩
set_option maxHeartbeats 8000000 in
set_option maxRecDepth 100000 in
theorem formatUint0 (U : Nat) (hU : U ≤ 4294967295) (w : World) (hc : ∀ W, Below w.heap.size w W → W.cell? ⟨6, 7, none⟩ = some (.int .u8 3)) :
    Calls Tryd.prog 61 #[.int .u64 (U : Int), .int .i64 8] w fun e w' => e = .returned (.string (ob U)) ∧ Below w.heap.size w w' := by
  have HF := Aside0.mk (formatBits U hU w hc)
  clear hc hU
  go_enter Tryd.func61, Tryd.ntmps61
  go_wp2_with (first
    | (go_at_call 78
       (with_reducible refine HF.out.mono ?_)
       rintro x w1 ⟨rfl, hb⟩
       have HB := Aside0.mk hb
       clear hb)
    | fail)
  go_ret
  exact ⟨rfl, HB.out⟩
set_option maxHeartbeats 8000000 in
set_option maxRecDepth 100000 in
theorem formatUint (U : Nat) (hU : U ≤ 4294967295) (w : World) (hc : ∀ W, Below w.heap.size w W → W.cell? ⟨6, 7, none⟩ = some (.int .u8 3)) :
    Calls Tryd.prog 49 #[.int .u64 (U : Int), .int .i64 8] w fun e w' => e = .returned (.string (ob U)) ∧ Below w.heap.size w w' := by
  have HF := Aside0.mk (formatUint0 U hU w hc)
  clear hc hU
  go_enter Tryd.func49, Tryd.ntmps49
  go_wp2_with (first
    | (go_at_call 61
       (with_reducible refine HF.out.mono ?_)
       rintro x w1 ⟨rfl, hb⟩
       have HB := Aside0.mk hb
       clear hb)
    | fail)
  go_ret
  exact ⟨rfl, HB.out⟩
end Go.Proofs.YtddnepddilbikaaDoor.ObjM
