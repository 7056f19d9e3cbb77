/- pktline.asciiHex16 walked. -/
import Derived.Test.YtponeoodgfgejaaDoorQAllx1
import Derived.Test.YtponeoodgfgejaaDoorPureP
import Derived.Test.YtponeoodgfgejaaDoorShelf
set_option linter.unusedVariables false
set_option linter.unusedSimpArgs false
namespace Go.Proofs.YtponeoodgfgejaaDoor.PbkA
open Go.RowKit Go.Proofs.YtponeoodgfgejaaDoorW.PrintWords Go.Proofs.YtponeoodgfgejaaDoor.QAll PureP

theorem nib_f : ∀ x : Fin 16, pktline_byteToASCIIHex.f (x.val : Int) = some (hd x.val) := by decide +kernel
theorem nib_f' (x : Nat) (h : x < 16) : pktline_byteToASCIIHex.f (x : Int) = some (hd x) := nib_f ⟨x, h⟩
theorem i64w (n : Int) (h0 : 0 ≤ n) (h1 : n < 2 ^ 63) : IntKind.i64.wrap n = n := by rw [IntKind.wrap_i64]; omega
theorem and_i64 (a b : Nat) (ha : a < 2 ^ 63) (hb : b < 2 ^ 63) : bits .and .i64 (a : Int) (b : Int) = ((a &&& b : Nat) : Int) := (bits_nat .i64 63 (by decide) i64w a b ha hb).1
theorem mask (n k m : Nat) : (n &&& (15 * 2 ^ k)) / 2 ^ k = n / 2 ^ k % 16 := by
  rw [← Nat.shiftRight_eq_div_pow, Nat.shiftRight_and_distrib, Nat.shiftRight_eq_div_pow, Nat.shiftRight_eq_div_pow, Nat.mul_div_cancel _ (Nat.pow_pos (by omega)), show (15 : Nat) = 2 ^ 4 - 1 from rfl, Nat.and_two_pow_sub_one_eq_mod]
/-- A nibble of n, as the code masks and shifts it. -/
theorem nibble (n k c : Nat) (hn : n < 65536) (hc : c = 15 * 2 ^ k) (hk : c < 65536) : ∃ A : Nat, bits .and .i64 (n : Int) (c : Int) = (A : Int) ∧ A ≤ 65535 ∧ A / 2 ^ k = n / 2 ^ k % 16 := by
  refine ⟨n &&& c, and_i64 n c (by omega) (by omega), ?_, by rw [hc]; exact mask n k 0⟩
  have : n &&& c ≤ n := Nat.and_le_left
  omega
theorem heapN (w : World) (n : Nat) : (w.drewN n).heap = w.heap := rfl
/-- The row of four is laid, and what was there is as it was. -/
structure H4 (w w1 : World) (cs : Array Value) : Prop where
  row : w1.heap[w.heap.size]? = some (.cells cs 94 (0, 0))
  low : Below w.heap.size w w1
theorem H4.drawn {w w1 w2 : World} {cs : Array Value} (h : H4 w w1 cs) (hd : Drawn0 w1 w2) : H4 w w2 cs := by
  obtain ⟨⟨n, rfl⟩⟩ := hd
  exact ⟨h.row, h.low.trans ⟨rfl, rfl, rfl, Nat.le_refl _, fun _ _ => rfl⟩⟩
theorem H4.set {w w1 : World} {cs : Array Value} (h : H4 w w1 cs) (i : Nat) (v : Value) : H4 w (w1.setCell ⟨w.heap.size, i, none⟩ v) (cs.setIfInBounds i v) :=
  ⟨Lib.heap_setCell_same h.row v, h.low.trans ⟨rfl, rfl, rfl, by simp [World.setCell], fun k hk => Below.heap_setCell w1 ⟨w.heap.size, i, none⟩ v k (by show k ≠ w.heap.size; omega)⟩⟩
theorem H4.cell {w w1 : World} {cs : Array Value} (h : H4 w w1 cs) (i : Nat) (v : Value) (hv : cs[i]? = some v) : w1.cell? ⟨w.heap.size, i, none⟩ = some v := by
  rw [Lib.cell_of_heap h.row]; exact hv
theorem H4.froz {w w1 : World} {cs : Array Value} (h : H4 w w1 cs) (i : Nat) : w1.frozen? ⟨w.heap.size, i, none⟩ = false := Lib.frozen_of_heap h.row i
set_option maxHeartbeats 8000000 in
set_option maxRecDepth 100000 in
theorem hex16 (n : Nat) (hn : n < 65536) (w : World) :
    Calls Tryd.prog 69 #[.int .i64 (n : Int)] w fun e w' => e = .returned (.slice (some ⟨w.heap.size, 0, none⟩) 4 4) ∧ w'.heap[w.heap.size]? = some (.cells #[.int .u8 (hd (n / 4096 % 16)), .int .u8 (hd (n / 256 % 16)), .int .u8 (hd (n / 16 % 16)), .int .u8 (hd (n % 16))] 94 (0, 0)) ∧ Below w.heap.size w w' := by
  obtain ⟨A, a1, a2, a3⟩ := nibble n 12 61440 hn rfl (by decide)
  obtain ⟨B, b1, b2, b3⟩ := nibble n 8 3840 hn rfl (by decide)
  obtain ⟨C, c1, c2, c3⟩ := nibble n 4 240 hn rfl (by decide)
  obtain ⟨D, d1, d2, d3⟩ := nibble n 0 15 hn rfl (by decide)
  have a1 : bits .and .i64 (n : Int) 61440 = (A : Int) := a1
  have b1 : bits .and .i64 (n : Int) 3840 = (B : Int) := b1
  have c1 : bits .and .i64 (n : Int) 240 = (C : Int) := c1
  have d1 : bits .and .i64 (n : Int) 15 = (D : Int) := d1
  have hA : pktline_byteToASCIIHex.f ((A : Int) / 4096) = some (hd (n / 4096 % 16)) := by rw [show (A : Int) / 4096 = ((n / 4096 % 16 : Nat) : Int) by simp at a3; omega]; exact nib_f' _ (by omega)
  have hB : pktline_byteToASCIIHex.f ((B : Int) / 256) = some (hd (n / 256 % 16)) := by rw [show (B : Int) / 256 = ((n / 256 % 16 : Nat) : Int) by simp at b3; omega]; exact nib_f' _ (by omega)
  have hC : pktline_byteToASCIIHex.f ((C : Int) / 16) = some (hd (n / 16 % 16)) := by rw [show (C : Int) / 16 = ((n / 16 % 16 : Nat) : Int) by simp at c3; omega]; exact nib_f' _ (by omega)
  have hD : pktline_byteToASCIIHex.f (D : Int) = some (hd (n % 16)) := by rw [show (D : Int) = ((n % 16 : Nat) : Int) by simp at d3; omega]; exact nib_f' _ (by omega)
  have dlt : D < 16 := by simp at d3; omega
  have alt : A / 4096 < 16 := by simp at a3; omega
  have blt : B / 256 < 16 := by simp at b3; omega
  have clt : C / 16 < 16 := by simp at c3; omega
  generalize hd (n / 4096 % 16) = x0 at hA ⊢
  generalize hd (n / 256 % 16) = x1 at hB ⊢
  generalize hd (n / 16 % 16) = x2 at hC ⊢
  generalize hd (n % 16) = x3 at hD ⊢
  have HA := Aside0.mk hA
  have HB := Aside0.mk hB
  have HC := Aside0.mk hC
  have HD := Aside0.mk hD
  clear hA hB hC hD a3 b3 c3 d3
  go_enter Tryd.func69, Tryd.ntmps69
  have K0 : H4 w (w.alloc (.cells #[.int .u8 0, .int .u8 0, .int .u8 0, .int .u8 0] 94)) #[.int .u8 0, .int .u8 0, .int .u8 0, .int .u8 0] := ⟨heap_alloc_new w _, below_alloc (Below.refl _ _) _⟩
  have K0 := Aside0.mk K0
  go_wp2_with (first
    | (go_at_call 76
       (with_reducible refine (pktline_byteToASCIIHex.calls ((A : Int) / 4096) _ _ HA.out).mono ?_)
       rintro e w1 ⟨rfl, hd1⟩
       have K1 := Aside0.mk (K0.out.drawn hd1)
       have cc := K1.out.cell 0 _ rfl
       have cf := K1.out.froz 0
       clear hd1)
    | (go_at_call 76
       clear cc cf
       (with_reducible refine (pktline_byteToASCIIHex.calls ((B : Int) / 256) _ _ HB.out).mono ?_)
       rintro e w2 ⟨rfl, hd1⟩
       have K2 := Aside0.mk ((K1.out.set 0 (.int .u8 x0)).drawn hd1)
       have cc := K2.out.cell 1 _ rfl
       have cf := K2.out.froz 1
       clear hd1)
    | (go_at_call 76
       clear cc cf
       (with_reducible refine (pktline_byteToASCIIHex.calls ((C : Int) / 16) _ _ HC.out).mono ?_)
       rintro e w3 ⟨rfl, hd1⟩
       have K3 := Aside0.mk ((K2.out.set 1 (.int .u8 x1)).drawn hd1)
       have cc := K3.out.cell 2 _ rfl
       have cf := K3.out.froz 2
       clear hd1)
    | (go_at_call 76
       clear cc cf
       (with_reducible refine (pktline_byteToASCIIHex.calls (D : Int) _ _ HD.out).mono ?_)
       rintro e w4 ⟨rfl, hd1⟩
       have K4 := Aside0.mk ((K3.out.set 2 (.int .u8 x2)).drawn hd1)
       have cc := K4.out.cell 3 _ rfl
       have cf := K4.out.froz 3
       clear hd1)
    | fail)
  clear cc cf
  go_ret
  exact ⟨rfl, (K4.out.set 3 (.int .u8 x3)).row, (K4.out.set 3 (.int .u8 x3)).low⟩
end Go.Proofs.YtponeoodgfgejaaDoor.PbkA
