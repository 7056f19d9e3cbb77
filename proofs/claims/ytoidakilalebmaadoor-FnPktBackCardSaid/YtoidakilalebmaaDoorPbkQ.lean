/- Plain laws: the guards of the law. -/
import Derived.Test.YtoidakilalebmaaDoorPbkE
set_option linter.unusedVariables false
set_option linter.unusedSimpArgs false
namespace Go.Proofs.YtoidakilalebmaaDoor.PbkQ
open Go.RowKit Go.Proofs.YtoidakilalebmaaDoorW.PrintWords Go.Proofs.YtoidakilalebmaaDoor.QAll Txt PureA HandC PureP

theorem err_word : (strOfNums [69, 82, 82, 32]).toList = ([69, 82, 82, 32] : List UInt8) := by decide +kernel
theorem isErr_f (p : List Int) : spec_isErr.f p = some (decide (4 ≤ p.length ∧ (strOfNums (p.take 4)).toList = (strOfNums [69, 82, 82, 32]).toList)) := by
  unfold spec_isErr.f
  by_cases h : 4 ≤ p.length
  · rw [if_pos (by omega), if_pos (by omega), err_word]
    by_cases h2 : (strOfNums (p.take 4)).toList = ([69, 82, 82, 32] : List UInt8)
    · simp [h, h2]
    · simp [h, h2]
  · rw [if_neg (by omega)]
    simp [h]
theorem len_strOf (l : List Int) : (strOfNums l).toList.length = l.length := by
  rw [size_list]
  first | exact strOfNums_size l | simp [strOfNums]
theorem isErr_good (p : List Int) (h : PureP.Good p) : spec_isErr.f p = some false := by
  rw [isErr_f]
  simp [h.no]
theorem isErr_no (p : List Int) (h : spec_isErr.f p = some false) : ¬ (strOfNums (p.take 4)).toList = (strOfNums [69, 82, 82, 32]).toList := by
  rw [isErr_f] at h
  intro h2
  have h4 : 4 ≤ p.length := by
    have := congrArg List.length h2
    rw [len_strOf, len_strOf, List.length_take] at this
    simp at this
    omega
  simp [h4, h2] at h
theorem good_loop (l : List (List Int)) (n : Nat) : ∀ i, i + n = l.length → l.length ≤ 2147483647 → ∃ r, Ev (fun k => spec_GoodLines.l0 k l l (l.length : Int) (i : Int)) r ∧ (r = true → l.length ≤ 1000 ∧ ∀ p ∈ l.drop i, PureP.Good p) := by
  induction n with
  | zero =>
    intro i h hl
    refine ⟨_, ev_now (fun m => by rw [spec_GoodLines.l0, if_neg (by omega)]), fun hr => ⟨by have := of_decide_eq_true hr; omega, fun p hp => by rw [List.drop_eq_nil_of_le (by omega)] at hp; cases hp⟩⟩
  | succ n ih =>
    intro i h hl
    obtain ⟨r, hev, hr⟩ := ih (i + 1) (by omega) hl
    have hw : wrap64 ((i : Int) + 1) = ((i + 1 : Nat) : Int) := by unfold wrap64; omega
    have hi : i < l.length := by omega
    have hg : rd_L1 l (i : Int) = l[i] := by
      show l.getD (i : Int).toNat [] = _
      rw [Int.toNat_natCast, List.getD_eq_getElem?_getD, List.getElem?_eq_getElem hi]
      rfl
    by_cases h1 : l[i].length ≤ 65516
    · by_cases h2 : spec_isErr.f l[i] = some false
      · refine ⟨r, ev_round hev (fun m hm => ?_), fun q => ⟨(hr q).1, fun p hp => ?_⟩⟩
        · rw [spec_GoodLines.l0, if_pos (by omega), if_pos (by omega), if_pos (by omega), hg, if_neg (by omega), h2]
          show (if false = true then some false else spec_GoodLines.l0 m l l (l.length : Int) (wrap64 ((i : Int) + 1))) = _
          rw [if_neg (by decide), hw, hm]
        · rw [List.drop_eq_getElem_cons hi] at hp
          rcases List.mem_cons.1 hp with rfl | hp
          · exact ⟨h1, isErr_no _ h2⟩
          · exact (hr q).2 p hp
      · refine ⟨false, ev_now (fun m => ?_), fun q => by cases q⟩
        have h3 : spec_isErr.f l[i] = some true := by
          rw [isErr_f] at h2 ⊢
          rw [Option.some.injEq] at h2 ⊢
          exact (Bool.not_eq_false _).mp h2
        rw [spec_GoodLines.l0, if_pos (by omega), if_pos (by omega), if_pos (by omega), hg, if_neg (by omega), h3]
        rfl
    · refine ⟨false, ev_now (fun m => ?_), fun q => by cases q⟩
      rw [spec_GoodLines.l0, if_pos (by omega), if_pos (by omega), if_pos (by omega), hg, if_pos (by omega)]
theorem good_f (l : List (List Int)) (hl : l.length ≤ 2147483647) : ∃ r, Ev (fun k => spec_GoodLines.f k l) r ∧ (r = true → l.length ≤ 1000 ∧ ∀ p ∈ l, PureP.Good p) := by
  have := good_loop l l.length 0 (by omega) hl
  simpa [spec_GoodLines.f] using this
theorem fits_loop (l : List (List Int)) (n : Nat) : ∀ i, i + n = l.length → l.length ≤ 2147483647 → ∃ r, Ev (fun k => laws_zzFits19.l0 k l (l.length : Int) (i : Int)) r := by
  induction n with
  | zero =>
    intro i h hl
    exact ⟨_, ev_now (fun m => by rw [laws_zzFits19.l0, if_neg (by omega)])⟩
  | succ n ih =>
    intro i h hl
    obtain ⟨r, hev⟩ := ih (i + 1) (by omega) hl
    have hw : wrap64 ((i : Int) + 1) = ((i + 1 : Nat) : Int) := by unfold wrap64; omega
    by_cases h1 : ((rd_L1 l (i : Int)).length : Int) > 2147483647
    · exact ⟨false, ev_now (fun m => by rw [laws_zzFits19.l0, if_pos (by omega), if_pos (by omega), if_pos (by omega), if_pos h1])⟩
    · exact ⟨r, ev_round hev (fun m hm => by rw [laws_zzFits19.l0, if_pos (by omega), if_pos (by omega), if_pos (by omega), if_neg h1, hw, hm])⟩
theorem fits_f (l : List (List Int)) : ∃ r, Ev (fun k => laws_zzFits19.f k l) r ∧ (r = true → l.length ≤ 2147483647) := by
  by_cases h : (l.length : Int) > 2147483647
  · exact ⟨false, ⟨0, fun k _ => by show laws_zzFits19.f k l = _; unfold laws_zzFits19.f; rw [if_pos h]⟩, fun q => by cases q⟩
  · obtain ⟨r, K, hK⟩ := fits_loop l l.length 0 (by omega) (by omega)
    exact ⟨r, ⟨K, fun k hk => by show laws_zzFits19.f k l = _; unfold laws_zzFits19.f; rw [if_neg h]; exact hK k hk⟩, fun _ => by omega⟩
end Go.Proofs.YtoidakilalebmaaDoor.PbkQ
