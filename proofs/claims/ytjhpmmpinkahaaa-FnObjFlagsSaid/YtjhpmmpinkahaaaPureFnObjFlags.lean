/- For every number k, of the kind k & 0xffff % 100 (5 left out): TypeFlags tells 'valid' for 1 to 7 and 'delta' for 6 and 7. No further condition. -/
import Derived.Test.YtjhpmmpinkahaaaPFnObjFlagsx1
import Derived.Laws.BitsLemmas
namespace Go.Proofs.Ytjhpmmpinkahaaa.Pure
open Go.RowKit Go.Proofs.Ytjhpmmpinkahaaa.PFnObjFlags Go.Proofs.YtjhpmmpinkahaaaW.PrintWords Go.Proofs.YtjhpmmpinkahaaaW.PrintLast

theorem and65535 (n : Int) : bits .and .i64 n 65535 = n % 65536 := by
  have h : (BitVec.ofInt 64 65535).toNat = 2 ^ 16 - 1 := by decide
  have key : (BitVec.ofInt 64 n &&& BitVec.ofInt 64 65535).toNat = (n % ((2 ^ 64 : Nat) : Int)).toNat % 2 ^ 16 := by
    rw [BitVec.toNat_and, BitVec.toNat_ofInt, h, Nat.and_two_pow_sub_one_eq_mod]
  show IntKind.i64.wrap ((BitVec.ofInt 64 n &&& BitVec.ofInt 64 65535).toNat : Nat) = n % 65536
  rw [key, IntKind.wrap_i64]
  omega

theorem flags_of (x : Int) (h0 : 0 ≤ x) (h1 : x < 100) :
    (impl_TypeFlags.f x) = some (decide (1 ≤ x ∧ x ≤ 7), decide (x = 6 ∨ x = 7)) := by
  have hw : IntKind.i8.wrap x = x := by simp [IntKind.wrap, IntKind.bits, IntKind.signed]; omega
  unfold impl_TypeFlags.f plumbing_ObjectType_Valid.f plumbing_ObjectType_IsDelta.f
  rw [hw]
  by_cases a : x ≥ 1 <;> by_cases b : x = 7 <;> by_cases c : x = 6 <;> by_cases d : x ≤ 7 <;> simp [a, b, c, d] <;> omega

theorem FnObjFlags : laws_FnObjFlags.Pure := by
  intro a0 _
  unfold laws_FnObjFlags.f
  rw [and65535]
  have hx0 : 0 ≤ Int.tmod (a0 % 65536) 100 := Int.tmod_nonneg _ (by omega)
  have hx1 : Int.tmod (a0 % 65536) 100 < 100 := Int.tmod_lt_of_pos _ (by omega)
  generalize Int.tmod (a0 % 65536) 100 = x at hx0 hx1 ⊢
  by_cases h5 : x = 5
  · rw [if_pos h5]
  · rw [if_neg h5, flags_of x hx0 hx1]
    simp only [Option.bind_some]
    by_cases a : x ≥ 1 <;> by_cases b : x = 7 <;> by_cases c : x = 6 <;> by_cases d : x ≤ 7 <;> simp [a, b, c, d] <;> omega

end Go.Proofs.Ytjhpmmpinkahaaa.Pure
