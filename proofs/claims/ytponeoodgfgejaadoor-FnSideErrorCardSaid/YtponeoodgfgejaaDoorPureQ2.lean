/- Plain laws: what the specification's printed functions answer. -/
import Derived.Test.YtponeoodgfgejaaDoorPureP
import Derived.Test.YtponeoodgfgejaaDoorQAllx
import Derived.Laws.BitsLemmas
set_option linter.unusedVariables false
set_option linter.unusedSimpArgs false
namespace Go.Proofs.YtponeoodgfgejaaDoor.PureQ2
open Go.RowKit Go.Proofs.YtponeoodgfgejaaDoorW.PrintWords Go.Proofs.YtponeoodgfgejaaDoor.QAll Txt PureA HandC PureP PureQ

theorem dig_step (x0 : List Int) (v : Int) (i : Nat) (b : Int) (m : Nat) (hi : i < 4) (hl : i < x0.length) (hb : x0.getD i 0 = b) (hd : Dg b) (h0 : 0 ≤ v) (h1 : v < 65536) : spec_readHex4.l0 (m + 3) x0 v (i : Int) = spec_readHex4.l0 m x0 (v * 16 + nib b) ((i : Int) + 1) := by
  have hr : rd x0 (i : Int) = b := hb
  have hn := nib_range hd
  have hw : wrap64 ((i : Int) + 1) = (i : Int) + 1 := by unfold wrap64; omega
  have hw2 : ∀ z : Int, 0 ≤ z → z < 16 → wrap64 (wrap64 (v * 16) + wrap64 z) = v * 16 + z := fun z a b => by unfold wrap64; omega
  rw [spec_readHex4.l0, if_pos (by omega), if_pos (by omega), if_pos (by omega), hr]
  rcases hd with ⟨q1, q2⟩ | ⟨q1, q2⟩
  · have e : nib b = b - 48 := by unfold nib; rw [if_neg (by omega)]
    rw [if_pos (by omega), spec_readHex4.j1, if_pos (decide_eq_true q2), spec_readHex4.j2, if_pos (decide_eq_true q2)]
    unfold spec_nibble.f
    rw [if_neg (by omega)]
    show spec_readHex4.l0 m x0 (wrap64 (wrap64 (v * 16) + wrap64 ((b - 48) % 256))) (wrap64 ((i : Int) + 1)) = _
    rw [Int.emod_eq_of_lt (by omega) (by omega), hw, hw2 _ (by omega) (by omega), e]
  · have e : nib b = b - 97 + 10 := by unfold nib; rw [if_pos q1]; omega
    rw [if_pos (by omega), spec_readHex4.j1, if_neg (by simp; omega), if_pos (by omega), spec_readHex4.j2, if_pos (decide_eq_true q2)]
    unfold spec_nibble.f
    rw [if_pos (by omega)]
    show spec_readHex4.l0 m x0 (wrap64 (wrap64 (v * 16) + wrap64 (((b - 97) % 256 + 10) % 256))) (wrap64 ((i : Int) + 1)) = _
    rw [Int.emod_eq_of_lt (by omega) (by omega), Int.emod_eq_of_lt (by omega) (by omega), hw, hw2 _ (by omega) (by omega), e]
theorem readHex_f (d0 d1 d2 d3 : Int) (t : List Int) (m : Nat) (h0 : Dg d0) (h1 : Dg d1) (h2 : Dg d2) (h3 : Dg d3) : spec_readHex4.f (m + 13) (d0 :: d1 :: d2 :: d3 :: t) = some (hexv d0 d1 d2 d3, 0) := by
  have r0 := nib_range h0
  have r1 := nib_range h1
  have r2 := nib_range h2
  have r3 := nib_range h3
  unfold spec_readHex4.f
  rw [show (0 : Int) = ((0 : Nat) : Int) from rfl]
  rw [dig_step _ _ 0 d0 (m + 10) (by omega) (by simp) rfl h0 (by omega) (by omega), show ((0 : Nat) : Int) + 1 = ((1 : Nat) : Int) from rfl]
  rw [dig_step _ _ 1 d1 (m + 7) (by omega) (by simp) rfl h1 (by omega) (by omega), show ((1 : Nat) : Int) + 1 = ((2 : Nat) : Int) from rfl]
  rw [dig_step _ _ 2 d2 (m + 4) (by omega) (by simp) rfl h2 (by omega) (by omega), show ((2 : Nat) : Int) + 1 = ((3 : Nat) : Int) from rfl]
  rw [dig_step _ _ 3 d3 (m + 1) (by omega) (by simp) rfl h3 (by omega) (by omega), show ((3 : Nat) : Int) + 1 = ((4 : Nat) : Int) from rfl]
  rw [spec_readHex4.l0, if_neg (by omega)]
  unfold hexv
  simp
theorem err_word : (strOfNums [69, 82, 82, 32]).toList = ([69, 82, 82, 32] : List UInt8) := by decide +kernel
theorem isErr_f (p : List Int) : spec_isErr.f p = some (decide (4 ≤ p.length ∧ (strOfNums (p.take 4)).toList = (strOfNums [69, 82, 82, 32]).toList)) := by
  unfold spec_isErr.f
  by_cases h : 4 ≤ p.length
  · rw [if_pos (by omega), if_pos (by omega), err_word]
    by_cases h2 : (strOfNums (p.take 4)).toList = ([69, 82, 82, 32] : List UInt8)
    · simp [h, h2]
    · simp [h, h2]
  · rw [if_neg (by omega)]
    simp [h]
theorem len_strOf (l : List Int) : (strOfNums l).toList.length = l.length := by
  rw [size_list]
  first | exact strOfNums_size l | simp [strOfNums]
theorem isErr_good (p : List Int) (h : PureP.Good p) : spec_isErr.f p = some false := by
  rw [isErr_f]
  simp [h.no]
theorem isErr_no (p : List Int) (h : spec_isErr.f p = some false) : ¬ (strOfNums (p.take 4)).toList = (strOfNums [69, 82, 82, 32]).toList := by
  rw [isErr_f] at h
  intro h2
  have h4 : 4 ≤ p.length := by
    have := congrArg List.length h2
    rw [len_strOf, len_strOf, List.length_take] at this
    simp at this
    omega
  simp [h4, h2] at h
end Go.Proofs.YtponeoodgfgejaaDoor.PureQ2
