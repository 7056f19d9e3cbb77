/- Hexadecimal digits of small letters, decoded and encoded again, are themselves. -/
import Derived.Lib.HexFns
import Derived.Lib.HexFns2
namespace Go.Proofs.YthjgfdjihlciaaaDoor.PureH
open Go.Lib
/-- A small hexadecimal digit. -/
def Dig (c : UInt8) : Prop := (48 ≤ c.toNat ∧ c.toNat ≤ 57) ∨ (97 ≤ c.toNat ∧ c.toNat ≤ 102)
set_option maxRecDepth 100000 in
theorem dig_fin : ∀ n : Fin 256, ((48 ≤ n.val ∧ n.val ≤ 57) ∨ (97 ≤ n.val ∧ n.val ≤ 102)) → (Hx.rev.data.toList[n.val]?.getD 255).toNat ≤ 15 ∧ (Hx.tab.data.toList[(Hx.rev.data.toList[n.val]?.getD 255).toNat]?.getD 0).toNat = n.val := by decide
theorem dig {c : UInt8} (h : Dig c) : Hx.v c ≤ 15 ∧ Hx.digit (Hx.v c) = c := by
  have := dig_fin ⟨c.toNat, c.toNat_lt⟩ h
  refine ⟨this.1, ?_⟩
  apply UInt8.toNat_inj.1
  exact this.2
theorem enc_dec : ∀ (n : Nat) (l : List UInt8), l.length = 2 * n → (∀ c ∈ l, Dig c) → Hx.encode (Hx.decode l).1 = l ∧ (Hx.decode l).2 = .ok ∧ (Hx.decode l).1.length = n
  | 0, l, h, _ => by
    have : l = [] := List.eq_nil_of_length_eq_zero (by omega)
    subst this
    rw [Hx.decode_nil]
    exact ⟨rfl, rfl, rfl⟩
  | n + 1, [], h, _ => by simp at h
  | n + 1, [c], h, _ => by simp at h; omega
  | n + 1, p :: q :: t, h, hd => by
    obtain ⟨hp1, hp2⟩ := dig (hd p (by simp))
    obtain ⟨hq1, hq2⟩ := dig (hd q (by simp))
    obtain ⟨e1, e2, e3⟩ := enc_dec n t (by simp at h; omega) (fun c hc => hd c (by simp [hc]))
    rw [Hx.decode_two, if_neg (by omega), if_neg (by omega)]
    have hb : (UInt8.ofNat (Hx.v p * 16 + Hx.v q)).toNat = Hx.v p * 16 + Hx.v q := by
      rw [UInt8.toNat_ofNat', Nat.mod_eq_of_lt (by omega)]
    refine ⟨?_, e2, by simp [e3]⟩
    rw [Hx.encode_cons, hb, e1, show (Hx.v p * 16 + Hx.v q) / 16 = Hx.v p by omega, show (Hx.v p * 16 + Hx.v q) % 16 = Hx.v q by omega, hp2, hq2]
end Go.Proofs.YthjgfdjihlciaaaDoor.PureH
