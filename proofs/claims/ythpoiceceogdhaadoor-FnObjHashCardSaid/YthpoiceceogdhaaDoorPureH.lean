/- Plain laws: spec.Hex is the encoding in base 16; kinds. -/
import Derived.Test.YthpoiceceogdhaaDoorQAllx1
import Derived.Test.YthpoiceceogdhaaDoorQAllx3
import Derived.Test.YthpoiceceogdhaaDoorHshE
set_option linter.unusedVariables false
set_option linter.unusedSimpArgs false
namespace Go.Proofs.YthpoiceceogdhaaDoor.PureH
open Go.RowKit Go.Proofs.YthpoiceceogdhaaDoorW.PrintWords Go.Proofs.YthpoiceceogdhaaDoor.QAll HshB HshE Go.Lib

def dgs : ByteArray := ⟨#[48, 49, 50, 51, 52, 53, 54, 55, 56, 57, 97, 98, 99, 100, 101, 102]⟩
def dgi (d : Nat) : Int := ((Hx.digit d).toNat : Int)
def hexI (l : List Nat) : List Int := l.flatMap fun x => [dgi (x / 16), dgi (x % 16)]
theorem bt_dig : ∀ d : Fin 16, bt dgs (d.val : Int) = ((Hx.digit d.val).toNat : Int) := by decide +kernel
theorem and15 : ∀ x : Fin 256, Go.bits .and .u8 (x.val : Int) 15 = ((x.val % 16 : Nat) : Int) := by decide +kernel
theorem and15' (x : Nat) (h : x < 256) : Go.bits .and .u8 (x : Int) 15 = ((x % 16 : Nat) : Int) := and15 ⟨x, h⟩
theorem bt_dig' (d : Nat) (h : d < 16) : bt (⟨#[48, 49, 50, 51, 52, 53, 54, 55, 56, 57, 97, 98, 99, 100, 101, 102]⟩ : ByteArray) (d : Int) = dgi d := bt_dig ⟨d, h⟩
theorem dgi_eq (d : Nat) : dgi d = ((Hx.digit d).toNat : Int) := rfl
attribute [irreducible] dgi
theorem hexI_cons (x : Nat) (l : List Nat) : hexI (x :: l) = [dgi (x / 16), dgi (x % 16)] ++ hexI l := by simp [hexI, List.flatMap_cons]
theorem hex_step (k : Nat) (x3 L : List Int) (N i : Int) (y : Nat) (hy : y < 256) (f1 : i < N) (f2 : 0 ≤ i) (f3 : i < (L.length : Int)) (hrd : rd L i = (y : Int)) (hlen : x3.length < 100000) :
    spec_Hex.l0 (k + 1) x3 L N i = spec_Hex.l0 k (x3 ++ [dgi (y / 16), dgi (y % 16)]) L N (wrap64 (i + 1)) := by
  have hd1 : (y : Int) / 16 = ((y / 16 : Nat) : Int) := by omega
  have f4 : 0 ≤ ((y / 16 : Nat) : Int) := by omega
  have f5 : ((y / 16 : Nat) : Int) < 16 := by omega
  have f6 : 0 ≤ ((y % 16 : Nat) : Int) := by omega
  have f7 : ((y % 16 : Nat) : Int) < 16 := by omega
  have f8 : x3.length + [dgi (y / 16), dgi (y % 16)].length < 140737488355328 := by show x3.length + 2 < _; omega
  have g1 : y / 16 < 16 := by omega
  have g2 : y % 16 < 16 := by omega
  rw [spec_Hex.l0, if_pos f1, if_pos f2, if_pos f3, hrd, hd1, and15' y hy, if_pos f4, if_pos f5, if_pos f6, if_pos f7, bt_dig' _ g1, bt_dig' _ g2, Option.bind_some, if_pos f8]
theorem hex_l0 (l : List Nat) (hm : ∀ x ∈ l, x < 256) (hl : l.length ≤ 1000) : ∀ (m i k : Nat) (x3 : List Int), i + m = l.length → m < k → x3.length + 2 * m < 100000 →
    spec_Hex.l0 k x3 (l.map (fun n : Nat => (n : Int))) (l.length : Int) (i : Int) = some (strOfNums (x3 ++ hexI (l.drop i))) := by
  intro m
  induction m with
  | zero =>
    intro i k x3 hi hk hx
    obtain ⟨k, rfl⟩ : ∃ k', k = k' + 1 := ⟨k - 1, by omega⟩
    have hn : ¬ (i : Int) < (l.length : Int) := by omega
    rw [spec_Hex.l0, if_neg hn, List.drop_of_length_le (by omega)]
    simp [hexI]
  | succ m ih =>
    intro i k x3 hi hk hx
    obtain ⟨k, rfl⟩ : ∃ k', k = k' + 1 := ⟨k - 1, by omega⟩
    have hil : i < l.length := by omega
    have hx256 := hm _ (List.getElem_mem hil)
    have hrd : rd (l.map (fun n : Nat => (n : Int))) (i : Int) = ((l[i] : Nat) : Int) := by
      unfold rd
      rw [Int.toNat_natCast, List.getD_eq_getElem?_getD, List.getElem?_map, List.getElem?_eq_getElem hil]
      rfl
    have hw : wrap64 ((i : Int) + 1) = ((i + 1 : Nat) : Int) := by unfold wrap64; omega
    have f1 : (i : Int) < (l.length : Int) := by omega
    have f3 : (i : Int) < ((l.map (fun n : Nat => (n : Int))).length : Int) := by rw [List.length_map]; exact f1
    have hlen : (x3 ++ [dgi (l[i] / 16), dgi (l[i] % 16)]).length + 2 * m < 100000 := by
      rw [List.length_append]
      show x3.length + 2 + 2 * m < 100000
      omega
    rw [hex_step k x3 _ _ _ l[i] hx256 f1 (Int.natCast_nonneg _) f3 hrd (by omega), hw, ih (i + 1) k _ (by omega) (by omega) hlen, List.append_assoc, ← hexI_cons, ← List.drop_eq_getElem_cons hil]
theorem str_hex (l : List Nat) (hm : ∀ x ∈ l, x < 256) : strOfNums (hexI l) = hexOf l := by
  have h : (strOfNums (hexI l)).data.toList = Hx.encode (l.map (fun x => UInt8.ofNat x)) := by
    rw [strOfNums_data]
    induction l with
    | nil => rfl
    | cons x t ih =>
      have hx := hm x (by simp)
      have e : (UInt8.ofNat x).toNat = x := by rw [UInt8.toNat_ofNat', Nat.mod_eq_of_lt (by omega)]
      rw [List.map_cons, Hx.encode_cons, e, ← ih (fun y hy => hm y (by simp [hy]))]
      rw [hexI_cons]
      simp [dgi_eq]
  unfold hexOf
  rw [← h]
theorem hex_f (l : List Nat) (hm : ∀ x ∈ l, x < 256) (hl : l.length = 20) : spec_Hex.f 30 (l.map (fun n : Nat => (n : Int))) = some (hexOf l) := by
  unfold spec_Hex.f
  rw [List.length_map]
  have := hex_l0 l hm (by omega) 20 0 30 [] (by omega) (by omega) (by simp)
  rw [List.drop_zero, List.nil_append, str_hex l hm] at this
  exact this
theorem and_lo (a : Int) : ∃ n : Nat, Go.bits .and .i64 a 16777215 = (n : Int) ∧ n < 16777216 := by
  refine ⟨(BitVec.ofInt 64 a &&& BitVec.ofInt 64 16777215).toNat, ?_, ?_⟩
  · have h : (BitVec.ofInt 64 a &&& BitVec.ofInt 64 16777215).toNat < 16777216 := by
      rw [BitVec.toNat_and]
      exact Nat.lt_of_le_of_lt Nat.and_le_right (by decide)
    have e : Go.bits .and .i64 a 16777215 = IntKind.i64.wrap ((BitVec.ofInt 64 a &&& BitVec.ofInt 64 16777215).toNat : Int) := rfl
    generalize (BitVec.ofInt 64 a &&& BitVec.ofInt 64 16777215).toNat = n at h e ⊢
    rw [e, IntKind.wrap_i64]
    omega
  · rw [BitVec.toNat_and]
    exact Nat.lt_of_le_of_lt Nat.and_le_right (by decide)
theorem obKind_f (a : Int) : ∃ t : Nat, laws_obKind.f a = some (t : Int) ∧ 1 ≤ t ∧ t ≤ 4 := by
  obtain ⟨n, hn, hl⟩ := and_lo a
  refine ⟨1 + n % 4, ?_, by omega, by omega⟩
  unfold laws_obKind.f
  rw [hn, Int.tmod_eq_emod_of_nonneg (by omega)]
  congr 1
  unfold wrap64
  omega
theorem obName_f (t : Nat) (h0 : 1 ≤ t) (h1 : t ≤ 4) : spec_ObName.f (t : Int) = some (nm t) := by
  obtain rfl | rfl | rfl | rfl : t = 1 ∨ t = 2 ∨ t = 3 ∨ t = 4 := by omega
  all_goals rfl
end Go.Proofs.YthpoiceceogdhaaDoor.PureH
