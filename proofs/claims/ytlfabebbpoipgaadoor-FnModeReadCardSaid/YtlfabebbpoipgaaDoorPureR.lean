/- FnModeRead answers true. Plain Lean. -/
import Derived.Test.YtlfabebbpoipgaaDoorExtU
import Derived.Test.YtlfabebbpoipgaaDoorQFnModeReadx4
import Derived.Laws.Bits128
set_option linter.unusedVariables false
set_option linter.unusedSimpArgs false
namespace Go.Proofs.YtlfabebbpoipgaaDoor.PureR
open Go.RowKit Go.Proofs.YtlfabebbpoipgaaDoorW.PrintWords Go.Proofs.YtlfabebbpoipgaaDoor.QFnModeRead HandU HandO HandM

theorem and7 (n : Int) : bits .and .i64 n 7 = n % 8 := by
  have h7 : (BitVec.ofInt 64 7).toNat = 2 ^ 3 - 1 := by decide
  have key : (BitVec.ofInt 64 n &&& BitVec.ofInt 64 7).toNat = (n % ((2 ^ 64 : Nat) : Int)).toNat % 2 ^ 3 := by
    rw [BitVec.toNat_and, BitVec.toNat_ofInt, h7, Nat.and_two_pow_sub_one_eq_mod]
  show IntKind.i64.wrap ((BitVec.ofInt 64 n &&& BitVec.ofInt 64 7).toNat : Nat) = n % 8
  rw [key, IntKind.wrap_i64]
  omega
theorem p8_append : ∀ (l1 l2 : List UInt8) (n : Nat), p8 (l1 ++ l2) n = (p8 l1 n).bind (fun m => p8 l2 m)
  | [], l2, n => rfl
  | c :: l1, l2, n => by
    rw [List.cons_append, p8, p8]
    split
    · exact p8_append l1 l2 _
    · rfl
theorem digit (d n : Nat) (hd : d < 8) (hn : n * 8 + d ≤ 4294967295) : p8 [UInt8.ofNat (48 + d)] n = some (n * 8 + d) := by
  have h : (UInt8.ofNat (48 + d)).toNat = 48 + d := by simp; omega
  rw [p8, h, if_pos ⟨by omega, by omega, by omega⟩, p8]
  congr 1
  omega
theorem p8_ob : ∀ n : Nat, n ≤ 4294967295 → p8 (ob n).data.toList 0 = some n ∧ (ob n).data.toList ≠ [] := by
  intro n
  induction n using Nat.strongRecOn with
  | ind n ih =>
    intro hn
    rw [ob]
    split
    · rename_i h
      rw [enc n h]
      exact ⟨by rw [digit n 0 h (by omega)]; simp, by simp⟩
    · rename_i h
      obtain ⟨h1, h2⟩ := ih (n / 8) (by omega) (by omega)
      have hl : (ob (n / 8) ++ Utf8.encode (48 + ((n % 8 : Nat) : Int))).data.toList = (ob (n / 8)).data.toList ++ [UInt8.ofNat (48 + n % 8)] := by
        rw [← enc (n % 8) (by omega)]
        simp
      rw [hl, p8_append, h1]
      refine ⟨?_, by simp⟩
      rw [Option.bind_some, digit (n % 8) (n / 8) (by omega) (by omega)]
      congr 1
      omega
theorem w64 (x : Int) (h0 : 0 ≤ x) (h1 : x ≤ 9223372036854775807) : wrap64 x = x := by unfold wrap64; omega
theorem zero_front (t : ByteArray) (v : Nat) (h : p8 t.data.toList 0 = some v) : p8 ((⟨#[48]⟩ : ByteArray) ++ t).data.toList 0 = some v := by
  have hl : ((⟨#[48]⟩ : ByteArray) ++ t).data.toList = 48 :: t.data.toList := by simp
  rw [hl, p8, if_pos ⟨by decide, by decide, by decide⟩]
  exact h
theorem loop (x0 : Int) (v : Nat) (hx : x0 = (v : Int)) : ∀ (d : Nat) (t : ByteArray) (i m : Int), 0 ≤ i → m ≤ 8 → (d : Int) = m - i → t.size ≤ 4294967296 + i.toNat → t.data.toList ≠ [] → p8 t.data.toList 0 = some v → ∃ k, laws_FnModeRead.l0 k x0 t m i = some true := by
  intro d
  induction d with
  | zero =>
    intro t i m hi hm hd ht hne hp
    refine ⟨1, ?_⟩
    rw [laws_FnModeRead.l0, if_neg (by omega)]
    have hf : impl_ModeOf.f t = some ((v : Int), true) := by
      unfold impl_ModeOf.f q8
      rw [if_pos (by omega), if_neg hne, hp]
      rfl
    rw [hf, Option.bind_some, if_pos rfl, hx]
    simp
  | succ d ih =>
    intro t i m hi hm hd ht hne hp
    have hs : ((⟨#[48]⟩ : ByteArray) ++ t).size = t.size + 1 := by rw [ByteArray.size_append, Nat.add_comm]; rfl
    obtain ⟨k, hk⟩ := ih ((⟨#[48]⟩ : ByteArray) ++ t) (i + 1) m (by omega) hm (by omega) (by rw [hs]; omega) (by simp) (zero_front t v hp)
    refine ⟨k + 1, ?_⟩
    rw [laws_FnModeRead.l0, if_pos (by omega), if_pos (by omega), w64 _ (by omega) (by omega)]
    exact hk
theorem law : laws_FnModeRead.Pure := by
  intro a0 a1 h0 h1
  have hw0 : 0 ≤ a0 ∧ a0 ≤ 4294967295 := by
    have h2 : (decide (IntKind.u32.min ≤ a0) && decide (a0 ≤ IntKind.u32.max)) = true := h0
    rw [Bool.and_eq_true, decide_eq_true_iff, decide_eq_true_iff] at h2
    have e1 : IntKind.u32.min = 0 := by decide
    have e2 : IntKind.u32.max = 4294967295 := by decide
    rw [e1, e2] at h2
    exact h2
  obtain ⟨hp, hne⟩ := p8_ob a0.toNat (by omega)
  have hz := ob_size a0.toNat
  obtain ⟨k, hk⟩ := loop a0 a0.toNat (by omega) (a1 % 8).toNat (ob a0.toNat) 0 (a1 % 8) (by omega) (by omega) (by omega) (by omega) hne hp
  refine ⟨k, ?_⟩
  unfold laws_FnModeRead.f
  rw [w64 _ (by omega) (by omega), and7]
  unfold spec_Octal.f
  rw [if_pos ⟨hw0.1, hw0.2⟩, Option.bind_some]
  exact hk
end Go.Proofs.YtlfabebbpoipgaaDoor.PureR
