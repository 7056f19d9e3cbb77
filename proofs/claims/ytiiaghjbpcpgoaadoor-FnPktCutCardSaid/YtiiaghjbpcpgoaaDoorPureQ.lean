/- Plain laws: what the specification's printed functions answer. -/
import Derived.Test.YtiiaghjbpcpgoaaDoorPureP
import Derived.Test.YtiiaghjbpcpgoaaDoorQAllx2
import Derived.Laws.BitsLemmas
set_option linter.unusedVariables false
set_option linter.unusedSimpArgs false
namespace Go.Proofs.YtiiaghjbpcpgoaaDoor.PureQ
open Go.RowKit Go.Proofs.YtiiaghjbpcpgoaaDoorW.PrintWords Go.Proofs.YtiiaghjbpcpgoaaDoor.QAll Txt PureA HandC PureP

theorem wraps_i64 (n : Int) (h0 : 0 ≤ n) (h1 : n < 2 ^ 63) : IntKind.i64.wrap n = n := by rw [IntKind.wrap_i64]; omega
theorem and15 (x : Nat) (hx : x < 2 ^ 63) : Go.bits .and .i64 (x : Int) 15 = ((x % 16 : Nat) : Int) := by
  rw [show (15 : Int) = ((15 : Nat) : Int) from rfl, (bits_nat .i64 63 (by decide) wraps_i64 x 15 hx (by decide)).1]
  rw [show (15 : Nat) = 2 ^ 4 - 1 from rfl, Nat.and_two_pow_sub_one_eq_mod]
abbrev lit16 : ByteArray := ⟨#[48, 49, 50, 51, 52, 53, 54, 55, 56, 57, 97, 98, 99, 100, 101, 102]⟩
theorem bt_lit : ∀ x : Fin 16, bt lit16 ((x.val : Nat) : Int) = hd x.val := by decide +kernel
theorem hex_step (n s m : Nat) (acc : List Int) (hn : n < 65536) (ha : acc.length ≤ 4) (hs : s ≤ 12) : spec_Hex4.l0 (m + 1) (n : Int) acc (s : Int) = spec_Hex4.l0 m (n : Int) (acc ++ [hd (n / 2 ^ s % 16)]) ((s : Int) - 4) := by
  have h1 : shr .i64 (n : Int) (s : Int) = ((n / 2 ^ s : Nat) : Int) := by
    unfold shr
    rw [Int.toNat_natCast, Nat.min_eq_left (by show s ≤ 64; omega)]
    simp
  have h2 : n / 2 ^ s < 2 ^ 63 := Nat.lt_of_le_of_lt (Nat.div_le_self _ _) (by omega)
  have h3 : wrap64 ((s : Int) - 4) = (s : Int) - 4 := by unfold wrap64; omega
  rw [spec_Hex4.l0, h1, and15 _ h2, if_pos (by omega), if_pos (by omega), if_pos (by omega), if_pos (by omega), if_pos (by omega), h3]
  rw [show bt (⟨#[48, 49, 50, 51, 52, 53, 54, 55, 56, 57, 97, 98, 99, 100, 101, 102]⟩ : ByteArray) ((n / 2 ^ s % 16 : Nat) : Int) = hd (n / 2 ^ s % 16) from bt_lit ⟨n / 2 ^ s % 16, by omega⟩]
theorem hex4_f (n m : Nat) (hn : n < 65536) : spec_Hex4.f (m + 5) (n : Int) = some (hex4 n) := by
  unfold spec_Hex4.f
  rw [show (12 : Int) = ((12 : Nat) : Int) from rfl, hex_step n 12 (m + 4) [] hn (by simp) (by omega)]
  rw [show ((12 : Nat) : Int) - 4 = ((8 : Nat) : Int) from rfl, hex_step n 8 (m + 3) _ hn (by simp) (by omega)]
  rw [show ((8 : Nat) : Int) - 4 = ((4 : Nat) : Int) from rfl, hex_step n 4 (m + 2) _ hn (by simp) (by omega)]
  rw [show ((4 : Nat) : Int) - 4 = ((0 : Nat) : Int) from rfl, hex_step n 0 (m + 1) _ hn (by simp) (by omega)]
  rw [spec_Hex4.l0, if_neg (by omega)]
  unfold hex4
  simp
theorem line_f (p : List Int) (m : Nat) (hp : p.length ≤ 65516) : spec_Line.f (m + 5) p = some (lineOf p) := by
  unfold spec_Line.f lineOf
  by_cases h : p = []
  · subst h; rfl
  · have hl : 0 < p.length := List.length_pos_iff.2 h
    have hw : wrap64 ((p.length : Int) + 4) = ((p.length + 4 : Nat) : Int) := by unfold wrap64; omega
    rw [if_neg (by omega), if_neg h, hw, hex4_f _ _ (by omega)]
    show (if (hex4 (p.length + 4)).length + p.length < 140737488355328 then some (hex4 (p.length + 4) ++ p) else none) = _
    rw [if_pos (by show 4 + p.length < _; omega)]
theorem dig_step (x0 : List Int) (v : Int) (i : Nat) (b : Int) (m : Nat) (hi : i < 4) (hl : i < x0.length) (hb : x0.getD i 0 = b) (hd : Dg b) (h0 : 0 ≤ v) (h1 : v < 65536) : spec_readHex4.l0 (m + 3) x0 v (i : Int) = spec_readHex4.l0 m x0 (v * 16 + nib b) ((i : Int) + 1) := by
  have hr : rd x0 (i : Int) = b := hb
  have hn := nib_range hd
  have hw : wrap64 ((i : Int) + 1) = (i : Int) + 1 := by unfold wrap64; omega
  have hw2 : ∀ z : Int, 0 ≤ z → z < 16 → wrap64 (wrap64 (v * 16) + wrap64 z) = v * 16 + z := fun z a b => by unfold wrap64; omega
  rw [spec_readHex4.l0, if_pos (by omega), if_pos (by omega), if_pos (by omega), hr]
  rcases hd with ⟨q1, q2⟩ | ⟨q1, q2⟩
  · have e : nib b = b - 48 := by unfold nib; rw [if_neg (by omega)]
    rw [if_pos (by omega), spec_readHex4.j1, if_pos (decide_eq_true q2), spec_readHex4.j2, if_pos (decide_eq_true q2)]
    unfold spec_nibble.f
    rw [if_neg (by omega)]
    show spec_readHex4.l0 m x0 (wrap64 (wrap64 (v * 16) + wrap64 ((b - 48) % 256))) (wrap64 ((i : Int) + 1)) = _
    rw [Int.emod_eq_of_lt (by omega) (by omega), hw, hw2 _ (by omega) (by omega), e]
  · have e : nib b = b - 97 + 10 := by unfold nib; rw [if_pos q1]; omega
    rw [if_pos (by omega), spec_readHex4.j1, if_neg (by simp; omega), if_pos (by omega), spec_readHex4.j2, if_pos (decide_eq_true q2)]
    unfold spec_nibble.f
    rw [if_pos (by omega)]
    show spec_readHex4.l0 m x0 (wrap64 (wrap64 (v * 16) + wrap64 (((b - 97) % 256 + 10) % 256))) (wrap64 ((i : Int) + 1)) = _
    rw [Int.emod_eq_of_lt (by omega) (by omega), Int.emod_eq_of_lt (by omega) (by omega), hw, hw2 _ (by omega) (by omega), e]
theorem readHex_f (d0 d1 d2 d3 : Int) (t : List Int) (m : Nat) (h0 : Dg d0) (h1 : Dg d1) (h2 : Dg d2) (h3 : Dg d3) : spec_readHex4.f (m + 13) (d0 :: d1 :: d2 :: d3 :: t) = some (hexv d0 d1 d2 d3, 0) := by
  have r0 := nib_range h0
  have r1 := nib_range h1
  have r2 := nib_range h2
  have r3 := nib_range h3
  unfold spec_readHex4.f
  rw [show (0 : Int) = ((0 : Nat) : Int) from rfl]
  rw [dig_step _ _ 0 d0 (m + 10) (by omega) (by simp) rfl h0 (by omega) (by omega), show ((0 : Nat) : Int) + 1 = ((1 : Nat) : Int) from rfl]
  rw [dig_step _ _ 1 d1 (m + 7) (by omega) (by simp) rfl h1 (by omega) (by omega), show ((1 : Nat) : Int) + 1 = ((2 : Nat) : Int) from rfl]
  rw [dig_step _ _ 2 d2 (m + 4) (by omega) (by simp) rfl h2 (by omega) (by omega), show ((2 : Nat) : Int) + 1 = ((3 : Nat) : Int) from rfl]
  rw [dig_step _ _ 3 d3 (m + 1) (by omega) (by simp) rfl h3 (by omega) (by omega), show ((3 : Nat) : Int) + 1 = ((4 : Nat) : Int) from rfl]
  rw [spec_readHex4.l0, if_neg (by omega)]
  unfold hexv
  simp
theorem err_word : (strOfNums [69, 82, 82, 32]).toList = ([69, 82, 82, 32] : List UInt8) := by decide +kernel
theorem isErr_f (p : List Int) : spec_isErr.f p = some (decide (4 ≤ p.length ∧ (strOfNums (p.take 4)).toList = (strOfNums [69, 82, 82, 32]).toList)) := by
  unfold spec_isErr.f
  by_cases h : 4 ≤ p.length
  · rw [if_pos (by omega), if_pos (by omega), err_word]
    by_cases h2 : (strOfNums (p.take 4)).toList = ([69, 82, 82, 32] : List UInt8)
    · simp [h, h2]
    · simp [h, h2]
  · rw [if_neg (by omega)]
    simp [h]
theorem len_strOf (l : List Int) : (strOfNums l).toList.length = l.length := by
  rw [size_list]
  first | exact strOfNums_size l | simp [strOfNums]
theorem isErr_good (p : List Int) (h : PureP.Good p) : spec_isErr.f p = some false := by
  rw [isErr_f]
  simp [h.no]
theorem isErr_no (p : List Int) (h : spec_isErr.f p = some false) : ¬ (strOfNums (p.take 4)).toList = (strOfNums [69, 82, 82, 32]).toList := by
  rw [isErr_f] at h
  intro h2
  have h4 : 4 ≤ p.length := by
    have := congrArg List.length h2
    rw [len_strOf, len_strOf, List.length_take] at this
    simp at this
    omega
  simp [h4, h2] at h
theorem good_loop (l : List (List Int)) (n : Nat) : ∀ i, i + n = l.length → l.length ≤ 2147483647 → ∃ r, Ev (fun k => spec_GoodLines.l0 k l l (l.length : Int) (i : Int)) r ∧ (r = true → l.length ≤ 1000 ∧ ∀ p ∈ l.drop i, PureP.Good p) := by
  induction n with
  | zero =>
    intro i h hl
    refine ⟨_, ev_now (fun m => by rw [spec_GoodLines.l0, if_neg (by omega)]), fun hr => ⟨by have := of_decide_eq_true hr; omega, fun p hp => by rw [List.drop_eq_nil_of_le (by omega)] at hp; cases hp⟩⟩
  | succ n ih =>
    intro i h hl
    obtain ⟨r, hev, hr⟩ := ih (i + 1) (by omega) hl
    have hw : wrap64 ((i : Int) + 1) = ((i + 1 : Nat) : Int) := by unfold wrap64; omega
    have hi : i < l.length := by omega
    have hg : rd_L1 l (i : Int) = l[i] := by
      show l.getD (i : Int).toNat [] = _
      rw [Int.toNat_natCast, List.getD_eq_getElem?_getD, List.getElem?_eq_getElem hi]
      rfl
    by_cases h1 : l[i].length ≤ 65516
    · by_cases h2 : spec_isErr.f l[i] = some false
      · refine ⟨r, ev_round hev (fun m hm => ?_), fun q => ⟨(hr q).1, fun p hp => ?_⟩⟩
        · rw [spec_GoodLines.l0, if_pos (by omega), if_pos (by omega), if_pos (by omega), hg, if_neg (by omega), h2]
          show (if false = true then some false else spec_GoodLines.l0 m l l (l.length : Int) (wrap64 ((i : Int) + 1))) = _
          rw [if_neg (by decide), hw, hm]
        · rw [List.drop_eq_getElem_cons hi] at hp
          rcases List.mem_cons.1 hp with rfl | hp
          · exact ⟨h1, isErr_no _ h2⟩
          · exact (hr q).2 p hp
      · refine ⟨false, ev_now (fun m => ?_), fun q => by cases q⟩
        have h3 : spec_isErr.f l[i] = some true := by
          rw [isErr_f] at h2 ⊢
          rw [Option.some.injEq] at h2 ⊢
          exact (Bool.not_eq_false _).mp h2
        rw [spec_GoodLines.l0, if_pos (by omega), if_pos (by omega), if_pos (by omega), hg, if_neg (by omega), h3]
        rfl
    · refine ⟨false, ev_now (fun m => ?_), fun q => by cases q⟩
      rw [spec_GoodLines.l0, if_pos (by omega), if_pos (by omega), if_pos (by omega), hg, if_pos (by omega)]
theorem good_f (l : List (List Int)) (hl : l.length ≤ 2147483647) : ∃ r, Ev (fun k => spec_GoodLines.f k l) r ∧ (r = true → l.length ≤ 1000 ∧ ∀ p ∈ l, PureP.Good p) := by
  have := good_loop l l.length 0 (by omega) hl
  simpa [spec_GoodLines.f] using this
theorem fits_loop (l : List (List Int)) (n : Nat) : ∀ i, i + n = l.length → l.length ≤ 2147483647 → ∃ r, Ev (fun k => laws_zzFits19.l0 k l (l.length : Int) (i : Int)) r := by
  induction n with
  | zero =>
    intro i h hl
    exact ⟨_, ev_now (fun m => by rw [laws_zzFits19.l0, if_neg (by omega)])⟩
  | succ n ih =>
    intro i h hl
    obtain ⟨r, hev⟩ := ih (i + 1) (by omega) hl
    have hw : wrap64 ((i : Int) + 1) = ((i + 1 : Nat) : Int) := by unfold wrap64; omega
    by_cases h1 : ((rd_L1 l (i : Int)).length : Int) > 2147483647
    · exact ⟨false, ev_now (fun m => by rw [laws_zzFits19.l0, if_pos (by omega), if_pos (by omega), if_pos (by omega), if_pos h1])⟩
    · exact ⟨r, ev_round hev (fun m hm => by rw [laws_zzFits19.l0, if_pos (by omega), if_pos (by omega), if_pos (by omega), if_neg h1, hw, hm])⟩
theorem fits_f (l : List (List Int)) : ∃ r, Ev (fun k => laws_zzFits19.f k l) r ∧ (r = true → l.length ≤ 2147483647) := by
  by_cases h : (l.length : Int) > 2147483647
  · exact ⟨false, ⟨0, fun k _ => by show laws_zzFits19.f k l = _; unfold laws_zzFits19.f; rw [if_pos h]⟩, fun q => by cases q⟩
  · obtain ⟨r, K, hK⟩ := fits_loop l l.length 0 (by omega) (by omega)
    exact ⟨r, ⟨K, fun k hk => by show laws_zzFits19.f k l = _; unfold laws_zzFits19.f; rw [if_neg h]; exact hK k hk⟩, fun _ => by omega⟩
theorem same_loop (l : List (List Int)) (n : Nat) : ∀ i, i + n = l.length → l.length ≤ 2147483647 → Ev (fun k => spec_SameLines.l0 k l l (l.length : Int) (i : Int)) true := by
  induction n with
  | zero =>
    intro i h hl
    exact ev_now (fun m => by rw [spec_SameLines.l0, if_neg (by omega)])
  | succ n ih =>
    intro i h hl
    have hev := ih (i + 1) (by omega) hl
    have hw : wrap64 ((i : Int) + 1) = ((i + 1 : Nat) : Int) := by unfold wrap64; omega
    exact ev_round hev (fun m hm => by rw [spec_SameLines.l0, if_pos (by omega), if_pos (by omega), if_pos (by omega), if_pos (by omega), if_pos rfl, hw, hm])
theorem same_f (l : List (List Int)) (hl : l.length ≤ 2147483647) : Ev (fun k => spec_SameLines.f k l l) true := by
  have := same_loop l l.length 0 (by omega) hl
  simpa [spec_SameLines.f] using this
#print axioms line_f
#print axioms readHex_f
#print axioms good_f
#print axioms fits_f
#print axioms same_f
end Go.Proofs.YtiiaghjbpcpgoaaDoor.PureQ
