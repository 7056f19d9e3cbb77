/- Plain laws: what the specification's printed functions answer. -/
import Derived.Test.YtlkenmpbhchieaaDoorPureP
import Derived.Test.YtlkenmpbhchieaaDoorQAllx
import Derived.Laws.BitsLemmas
set_option linter.unusedVariables false
set_option linter.unusedSimpArgs false
namespace Go.Proofs.YtlkenmpbhchieaaDoor.PureQ
open Go.RowKit Go.Proofs.YtlkenmpbhchieaaDoorW.PrintWords Go.Proofs.YtlkenmpbhchieaaDoor.QAll Txt PureA HandC PureP

theorem wraps_i64 (n : Int) (h0 : 0 ≤ n) (h1 : n < 2 ^ 63) : IntKind.i64.wrap n = n := by rw [IntKind.wrap_i64]; omega
theorem and15 (x : Nat) (hx : x < 2 ^ 63) : Go.bits .and .i64 (x : Int) 15 = ((x % 16 : Nat) : Int) := by
  rw [show (15 : Int) = ((15 : Nat) : Int) from rfl, (bits_nat .i64 63 (by decide) wraps_i64 x 15 hx (by decide)).1]
  rw [show (15 : Nat) = 2 ^ 4 - 1 from rfl, Nat.and_two_pow_sub_one_eq_mod]
abbrev lit16 : ByteArray := ⟨#[48, 49, 50, 51, 52, 53, 54, 55, 56, 57, 97, 98, 99, 100, 101, 102]⟩
theorem bt_lit : ∀ x : Fin 16, bt lit16 ((x.val : Nat) : Int) = hd x.val := by decide +kernel
theorem hex_step (n s m : Nat) (acc : List Int) (hn : n < 65536) (ha : acc.length ≤ 4) (hs : s ≤ 12) : spec_Hex4.l0 (m + 1) (n : Int) acc (s : Int) = spec_Hex4.l0 m (n : Int) (acc ++ [hd (n / 2 ^ s % 16)]) ((s : Int) - 4) := by
  have h1 : shr .i64 (n : Int) (s : Int) = ((n / 2 ^ s : Nat) : Int) := by
    unfold shr
    rw [Int.toNat_natCast, Nat.min_eq_left (by show s ≤ 64; omega)]
    simp
  have h2 : n / 2 ^ s < 2 ^ 63 := Nat.lt_of_le_of_lt (Nat.div_le_self _ _) (by omega)
  have h3 : wrap64 ((s : Int) - 4) = (s : Int) - 4 := by unfold wrap64; omega
  rw [spec_Hex4.l0, h1, and15 _ h2, if_pos (by omega), if_pos (by omega), if_pos (by omega), if_pos (by omega), if_pos (by omega), h3]
  rw [show bt (⟨#[48, 49, 50, 51, 52, 53, 54, 55, 56, 57, 97, 98, 99, 100, 101, 102]⟩ : ByteArray) ((n / 2 ^ s % 16 : Nat) : Int) = hd (n / 2 ^ s % 16) from bt_lit ⟨n / 2 ^ s % 16, by omega⟩]
theorem hex4_f (n m : Nat) (hn : n < 65536) : spec_Hex4.f (m + 5) (n : Int) = some (hex4 n) := by
  unfold spec_Hex4.f
  rw [show (12 : Int) = ((12 : Nat) : Int) from rfl, hex_step n 12 (m + 4) [] hn (by simp) (by omega)]
  rw [show ((12 : Nat) : Int) - 4 = ((8 : Nat) : Int) from rfl, hex_step n 8 (m + 3) _ hn (by simp) (by omega)]
  rw [show ((8 : Nat) : Int) - 4 = ((4 : Nat) : Int) from rfl, hex_step n 4 (m + 2) _ hn (by simp) (by omega)]
  rw [show ((4 : Nat) : Int) - 4 = ((0 : Nat) : Int) from rfl, hex_step n 0 (m + 1) _ hn (by simp) (by omega)]
  rw [spec_Hex4.l0, if_neg (by omega)]
  unfold hex4
  simp
theorem line_f (p : List Int) (m : Nat) (hp : p.length ≤ 65516) : spec_Line.f (m + 5) p = some (lineOf p) := by
  unfold spec_Line.f lineOf
  by_cases h : p = []
  · subst h; rfl
  · have hl : 0 < p.length := List.length_pos_iff.2 h
    have hw : wrap64 ((p.length : Int) + 4) = ((p.length + 4 : Nat) : Int) := by unfold wrap64; omega
    rw [if_neg (by omega), if_neg h, hw, hex4_f _ _ (by omega)]
    show (if (hex4 (p.length + 4)).length + p.length < 140737488355328 then some (hex4 (p.length + 4) ++ p) else none) = _
    rw [if_pos (by show 4 + p.length < _; omega)]
#print axioms line_f
end Go.Proofs.YtlkenmpbhchieaaDoor.PureQ
