/- What the specification's tests say of files. -/
import Derived.Test.YtcokggnbgakonaaDoorHandJ
import Derived.Test.YtcokggnbgakonaaDoorTxt
import Derived.Test.YtcokggnbgakonaaDoorQAllx3
set_option linter.unusedVariables false
set_option linter.unusedSimpArgs false
namespace Go.Proofs.YtcokggnbgakonaaDoor.PureF
open Go.RowKit Go.Proofs.YtcokggnbgakonaaDoorW.PrintWords Go.Proofs.YtcokggnbgakonaaDoor.QAll Txt Go.Lib HandH HandF HandI HandJ

theorem ev_good {g f : Nat → Option Bool} {Q Q' : Prop} (h : ((∀ m, g (m + 1) = f m) ∧ (Q' → Q)) ∨ (∀ m, g (m + 1) = some false)) (k : ∃ b, Ev f b ∧ (b = true → Q')) : ∃ b, Ev g b ∧ (b = true → Q) := by
  rcases h with ⟨h, hq⟩ | h
  · obtain ⟨b, hb, hb2⟩ := k
    exact ⟨b, ev_round hb fun m hm => by rw [h m]; exact hm, fun e => hq (hb2 e)⟩
  · exact ⟨false, ev_now h, fun e => by cases e⟩

/-! ### texts -/
theorem small_l (s : ByteArray) (hs : s.size ≤ 2147483647) : ∀ (n i : Nat), i + n = s.size → ∃ b, Ev (fun k => spec_Small.l0 k s (s.size : Int) (i : Int)) b ∧ (b = true → True)
  | 0, i, h => by
    refine ⟨!(s.toList.isEmpty), ev_now fun m => ?_, fun _ => trivial⟩
    simp only [spec_Small.l0]
    rw [if_neg (by omega)]
  | n + 1, i, h => by
    refine ev_good ?_ (small_l s hs n (i + 1) (by omega))
    have w1 : wrap64 ((i : Int) + 1) = ((i + 1 : Nat) : Int) := by rw [w64 _ (by omega) (by omega)]; push_cast; rfl
    have hi1 : (i : Int) < (s.size : Int) := by omega
    have hi0 : (0 : Int) ≤ (i : Int) := by omega
    simp only [spec_Small.l0, hi1, hi0, w1, if_true]
    by_cases h1 : bt s (i : Int) ≥ 97 <;> by_cases h2 : bt s (i : Int) ≤ 122 <;> by_cases h3 : bt s (i : Int) ≥ 65 <;> by_cases h4 : bt s (i : Int) ≤ 90 <;> by_cases h5 : bt s (i : Int) ≥ 48 <;> by_cases h6 : bt s (i : Int) ≤ 57 <;> simp only [h1, h2, h3, h4, h5, h6, if_true, if_false, ite_self] <;> first | exact Or.inl ⟨fun _ => rfl, fun _ => trivial⟩ | exact Or.inl ⟨fun _ => trivial, fun _ => trivial⟩ | exact Or.inr fun _ => rfl | exact Or.inr fun _ => trivial | (simp; done)
theorem small (s : ByteArray) (hs : s.size ≤ 2147483647) : ∃ b, Ev (fun k => spec_Small.f k s) b := by
  obtain ⟨b, h, _⟩ := small_l s hs s.size 0 (by omega)
  exact ⟨b, h⟩

theorem fileName_l (s : ByteArray) (hs : s.size ≤ 2147483647) : ∀ (n i : Nat), i + n = s.size → ∃ b, Ev (fun k => spec_IsFileName.l0 k s (s.size : Int) (i : Int)) b ∧ (b = true → True)
  | 0, i, h => by
    by_cases he : s.toList = []
    · refine ⟨false, ev_now fun m => ?_, fun _ => trivial⟩
      simp only [spec_IsFileName.l0]
      rw [if_neg (by omega), if_pos he]
    · refine ⟨decide ((s.size : Int) < 4000), ev_now fun m => ?_, fun _ => trivial⟩
      simp only [spec_IsFileName.l0]
      rw [if_neg (by omega), if_neg he]
  | n + 1, i, h => by
    obtain ⟨b, hb, _⟩ := fileName_l s hs n (i + 1) (by omega)
    have w1 : wrap64 ((i : Int) + 1) = ((i + 1 : Nat) : Int) := by rw [w64 _ (by omega) (by omega)]; push_cast; rfl
    by_cases h1 : bt s (i : Int) = 47
    · by_cases h0 : (i : Int) = 0
      · refine ⟨false, ev_now fun m => ?_, fun _ => trivial⟩
        simp only [spec_IsFileName.l0]
        rw [if_pos (show (i : Int) < (s.size : Int) by omega), if_pos (show (0 : Int) ≤ (i : Int) by omega), if_pos (show (i : Int) < (s.size : Int) by omega), if_pos h1, if_pos h0]
      · have w2 : wrap64 ((i : Int) - 1) = (i : Int) - 1 := w64 _ (by omega) (by omega)
        by_cases h2 : (i : Int) = wrap64 ((s.size : Int) - 1)
        · refine ⟨false, ev_now fun m => ?_, fun _ => trivial⟩
          simp only [spec_IsFileName.l0]
          rw [if_pos (show (i : Int) < (s.size : Int) by omega), if_pos (show (0 : Int) ≤ (i : Int) by omega), if_pos (show (i : Int) < (s.size : Int) by omega), if_pos h1, if_neg h0, if_pos h2]
        · by_cases h3 : bt s ((i : Int) - 1) = 47
          · refine ⟨false, ev_now fun m => ?_, fun _ => trivial⟩
            simp only [spec_IsFileName.l0]
            rw [if_pos (show (i : Int) < (s.size : Int) by omega), if_pos (show (0 : Int) ≤ (i : Int) by omega), if_pos (show (i : Int) < (s.size : Int) by omega), if_pos h1, if_neg h0, if_neg h2, w2, if_pos (show (0 : Int) ≤ (i : Int) - 1 by omega), if_pos (show (i : Int) - 1 < (s.size : Int) by omega), if_pos h3]
          · refine ⟨b, ev_round hb fun m hm => ?_, fun _ => trivial⟩
            simp only [spec_IsFileName.l0]
            rw [if_pos (show (i : Int) < (s.size : Int) by omega), if_pos (show (0 : Int) ≤ (i : Int) by omega), if_pos (show (i : Int) < (s.size : Int) by omega), if_pos h1, if_neg h0, if_neg h2, w2, if_pos (show (0 : Int) ≤ (i : Int) - 1 by omega), if_pos (show (i : Int) - 1 < (s.size : Int) by omega), if_neg h3, w1]
            exact hm
    · obtain ⟨b2, K2, hb2⟩ := small (s.extract ((i : Int)).toNat (((i + 1 : Nat) : Int)).toNat) (by rw [ByteArray.size_extract]; omega)
      obtain ⟨K, hb⟩ := hb
      replace hb : ∀ n, n ≥ K → spec_IsFileName.l0 n s (s.size : Int) ((i + 1 : Nat) : Int) = some b := hb
      replace hb2 : ∀ n, n ≥ K2 → spec_Small.f n (s.extract ((i : Int)).toNat (((i + 1 : Nat) : Int)).toNat) = some b2 := hb2
      have step : ∀ m, m ≥ K2 → spec_IsFileName.l0 (m + 1) s (s.size : Int) (i : Int) = (if b2 = true then spec_IsFileName.l0 m s (s.size : Int) ((i + 1 : Nat) : Int) else if bt s (i : Int) = 45 then spec_IsFileName.l0 m s (s.size : Int) ((i + 1 : Nat) : Int) else if bt s (i : Int) = 95 then spec_IsFileName.l0 m s (s.size : Int) ((i + 1 : Nat) : Int) else some false) := by
        intro m hm
        simp only [spec_IsFileName.l0]
        rw [if_pos (show (i : Int) < (s.size : Int) by omega), if_pos (show (0 : Int) ≤ (i : Int) by omega), if_pos (show (i : Int) < (s.size : Int) by omega), if_neg h1, w1, if_pos (show (i : Int) ≤ ((i + 1 : Nat) : Int) by omega), if_pos (show ((i + 1 : Nat) : Int) ≤ (s.size : Int) by omega), hb2 m hm]
        rfl
      by_cases h4 : b2 = true ∨ bt s (i : Int) = 45 ∨ bt s (i : Int) = 95
      · refine ⟨b, ⟨K + K2 + 1, fun n hn => ?_⟩, fun _ => trivial⟩
        obtain ⟨m, rfl⟩ : ∃ m, n = m + 1 := ⟨n - 1, by omega⟩
        show spec_IsFileName.l0 (m + 1) s (s.size : Int) (i : Int) = some b
        rw [step m (by omega), hb m (by omega)]
        rcases h4 with h4 | h4 | h4 <;> simp [h4]
      · refine ⟨false, ⟨K + K2 + 1, fun n hn => ?_⟩, fun _ => trivial⟩
        obtain ⟨m, rfl⟩ : ∃ m, n = m + 1 := ⟨n - 1, by omega⟩
        show spec_IsFileName.l0 (m + 1) s (s.size : Int) (i : Int) = some false
        rw [step m (by omega), if_neg (fun e => h4 (Or.inl e)), if_neg (fun e => h4 (Or.inr (Or.inl e))), if_neg (fun e => h4 (Or.inr (Or.inr e)))]
theorem fileName (s : ByteArray) (hs : s.size ≤ 2147483647) : ∃ b, Ev (fun k => spec_IsFileName.f k s) b := by
  obtain ⟨b, h, _⟩ := fileName_l s hs s.size 0 (by omega)
  exact ⟨b, h⟩

/-- Byte j of a text is a digit in base 16. -/
def DigAt (s : ByteArray) (j : Nat) : Prop := (48 ≤ bt s (j : Int) ∧ bt s (j : Int) ≤ 57) ∨ (97 ≤ bt s (j : Int) ∧ bt s (j : Int) ≤ 102)
theorem name40_l (s : ByteArray) (hs : s.size ≤ 2147483647) : ∀ (n i : Nat), i + n = s.size → ∃ b, Ev (fun k => spec_IsName40.l0 k s (s.size : Int) (i : Int)) b ∧ (b = true → s.size = 40 ∧ ∀ j, i ≤ j → j < s.size → DigAt s j)
  | 0, i, h => by
    refine ⟨((s.size : Int) == 40), ev_now fun m => ?_, fun hb => ?_⟩
    · simp only [spec_IsName40.l0]
      rw [if_neg (by omega)]
    · have : (s.size : Int) = 40 := by simpa using hb
      exact ⟨by omega, fun j h1 h2 => by omega⟩
  | n + 1, i, h => by
    have w1 : wrap64 ((i : Int) + 1) = ((i + 1 : Nat) : Int) := by rw [w64 _ (by omega) (by omega)]; push_cast; rfl
    refine ev_good (f := fun k => spec_IsName40.l0 k s (s.size : Int) ((i + 1 : Nat) : Int)) (Q' := s.size = 40 ∧ ∀ j, i + 1 ≤ j → j < s.size → DigAt s j) ?_ (name40_l s hs n (i + 1) (by omega))
    have more : DigAt s i → (s.size = 40 ∧ ∀ j, i + 1 ≤ j → j < s.size → DigAt s j) → s.size = 40 ∧ ∀ j, i ≤ j → j < s.size → DigAt s j := by
      rintro hd ⟨h40, ha⟩
      refine ⟨h40, fun j h1 h2 => ?_⟩
      rcases Nat.eq_or_lt_of_le h1 with rfl | h3
      · exact hd
      · exact ha j h3 h2
    have hi1 : (i : Int) < (s.size : Int) := by omega
    have hi0 : (0 : Int) ≤ (i : Int) := by omega
    simp only [spec_IsName40.l0, hi1, hi0, w1, if_true]
    by_cases h1 : bt s (i : Int) ≥ 48 <;> by_cases h2 : bt s (i : Int) ≤ 57 <;> by_cases h3 : bt s (i : Int) ≥ 97 <;> by_cases h4 : bt s (i : Int) ≤ 102 <;> simp only [h1, h2, h3, h4, if_true, if_false, ite_self] <;> first | exact Or.inl ⟨fun _ => trivial, more (Or.inl ⟨h1, h2⟩)⟩ | exact Or.inl ⟨fun _ => trivial, more (Or.inr ⟨h3, h4⟩)⟩ | exact Or.inr fun _ => rfl | exact Or.inr fun _ => trivial | exact Or.inl ⟨fun _ => rfl, more (Or.inl ⟨h1, h2⟩)⟩ | exact Or.inl ⟨fun _ => rfl, more (Or.inr ⟨h3, h4⟩)⟩
theorem name40 (s : ByteArray) (hs : s.size ≤ 2147483647) : ∃ b, Ev (fun k => spec_IsName40.f k s) b ∧ (b = true → s.size = 40 ∧ ∀ j, j < s.size → DigAt s j) := by
  obtain ⟨b, h, h2⟩ := name40_l s hs s.size 0 (by omega)
  exact ⟨b, h, fun e => ⟨(h2 e).1, fun j hj => (h2 e).2 j (Nat.zero_le _) hj⟩⟩
theorem digs (s : ByteArray) (h : ∀ j, j < s.size → DigAt s j) : ∀ c ∈ s.data.toList, PureH.Dig c := by
  intro c hc
  rw [← Lib.toList_data] at hc
  obtain ⟨j, hj⟩ := List.getElem?_of_mem hc
  have hl : j < s.size := by
    have := (List.getElem?_eq_some_iff.1 hj).1
    rwa [size_list] at this
  have hd := h j hl
  unfold DigAt at hd
  rw [bt_get s j c hj] at hd
  unfold PureH.Dig
  omega

/-! ### times -/
theorem timeOf_plain (a b : Int) (h1 : 1 ≤ a) (h2 : a < 4294967296) (h3 : 0 ≤ b) (h4 : b < 1000000000) : impl_timeOf.f a b = some (a + 62135596800, b, 0) := by
  unfold impl_timeOf.f zztime_Unix.f
  have e1 : Int.tmod b 1000000000 = b := Int.tmod_eq_of_lt h3 h4
  have e2 : Int.tdiv b 1000000000 = 0 := Int.tdiv_eq_zero_of_lt h3 h4
  have w0 : wrap64 (0 : Int) = 0 := w64 _ (by omega) (by omega)
  rw [if_neg (by omega), e1, e2, if_neg (by omega), w0, Int.add_zero, w64 a (by omega) (by omega), w64 (a + 62135596800) (by omega) (by omega)]
  rfl
theorem stampOf_plain (a b : Int) (h1 : 1 ≤ a) (h2 : a < 4294967296) : impl_stampOf.f (a + 62135596800) b 0 = some (a, b) := by
  unfold impl_stampOf.f zztime_Time_IsZero.f zztime_Time_Unix.f zztime_Time_Nanosecond.f
  rw [if_neg (by omega), w64 (a + 62135596800 - 62135596800) (by omega) (by omega)]
  simp
theorem stampOf_zero : impl_stampOf.f 0 0 0 = some (0, 0) := by decide

/-! ### the hash -/
theorem hb_range (s : ByteArray) (i : Nat) : 0 ≤ hb s i ∧ hb s i < 256 := by
  unfold hb
  have := ((dec s)[i]?.getD 0).toNat_lt
  omega
theorem hexOf_dec (s : ByteArray) (h40 : s.size = 40) (hd : ∀ c ∈ s.data.toList, PureH.Dig c) : (dec s).length = 20 ∧ hexOf (hb s) = s := by
  obtain ⟨e1, e2, e3⟩ := PureH.enc_dec 20 s.data.toList (by rw [← Lib.size_eq]; omega) hd
  have hl : (dec s).length = 20 := e3
  refine ⟨hl, ?_⟩
  have hm : Lib.bytesOf ((List.range 20).map (hb s)) = dec s := by
    apply List.ext_getElem?
    intro i
    unfold Lib.bytesOf
    rw [List.getElem?_map, List.getElem?_map]
    rcases Nat.lt_or_ge i 20 with hi | hi
    · rw [List.getElem?_range hi, List.getElem?_eq_getElem (by rw [hl]; exact hi)]
      show some (UInt8.ofNat (hb s i).toNat) = some ((dec s)[i]'(by rw [hl]; exact hi))
      unfold hb
      rw [List.getElem?_eq_getElem (by rw [hl]; exact hi)]
      simp
    · rw [List.getElem?_eq_none (by simpa using hi), List.getElem?_eq_none (by rw [hl]; exact hi)]
      rfl
  unfold hexOf
  rw [hm]
  have : Hx.encode (dec s) = s.data.toList := e1
  rw [this]

/-! ### files -/
theorem isFile_l (x : S31) (hs8 : x.f8.size ≤ 2147483647) (hs9 : x.f9.size ≤ 2147483647) : ∃ b, Ev (fun k => spec_IsPlainFile.f k x.f0.f0 x.f0.f1 x.f1.f0 x.f1.f1 x.f2 x.f3 x.f4 x.f5 x.f6 x.f7 x.f8 x.f9 x.f10 x.f11 x.f12) b ∧
    (b = true → (1 ≤ x.f0.f0 ∧ x.f0.f0 < 4294967296 ∧ 0 ≤ x.f0.f1 ∧ x.f0.f1 < 1000000000) ∧ (1 ≤ x.f1.f0 ∧ x.f1.f0 < 4294967296 ∧ 0 ≤ x.f1.f1 ∧ x.f1.f1 < 1000000000) ∧ x.f8.size = 40 ∧ ∀ j, j < x.f8.size → DigAt x.f8 j) := by
  obtain ⟨b9, K9, h9⟩ := fileName x.f9 hs9
  obtain ⟨b8, ⟨K8, h8⟩, h8b⟩ := name40 x.f8 hs8
  replace h9 : ∀ n, n ≥ K9 → spec_IsFileName.f n x.f9 = some b9 := h9
  replace h8 : ∀ n, n ≥ K8 → spec_IsName40.f n x.f8 = some b8 := h8
  have g0 : rd_T28 [(⟨x.f0.f0, x.f0.f1⟩ : S28), ⟨x.f1.f0, x.f1.f1⟩] 0 = ⟨x.f0.f0, x.f0.f1⟩ := rfl
  have g1 : rd_T28 [(⟨x.f0.f0, x.f0.f1⟩ : S28), ⟨x.f1.f0, x.f1.f1⟩] 1 = ⟨x.f1.f0, x.f1.f1⟩ := rfl
  have w1 : wrap64 ((0 : Int) + 1) = 1 := w64 _ (by omega) (by omega)
  have w2 : wrap64 ((1 : Int) + 1) = 2 := w64 _ (by omega) (by omega)
  have hl : (([(⟨x.f0.f0, x.f0.f1⟩ : S28), ⟨x.f1.f0, x.f1.f1⟩] : List S28).length : Int) = 2 := rfl
  -- the loop's three rounds
  have r2 : ∀ m, m ≥ K8 + K9 → spec_IsFile.l0 (m + 1) [(⟨x.f0.f0, x.f0.f1⟩ : S28), ⟨x.f1.f0, x.f1.f1⟩] 2 2 x.f0.f0 x.f0.f1 x.f1.f0 x.f1.f1 x.f2 x.f3 x.f4 x.f5 x.f6 x.f7 x.f8 x.f9 x.f10 x.f11 x.f12 = (if b9 = true then (if b8 = true then (if x.f10 ≥ 0 then some (decide (x.f10 ≤ 3)) else some false) else some false) else some false) := by
    intro m hm
    simp only [spec_IsFile.l0]
    rw [if_neg (show ¬ (2 : Int) < 2 by decide), h9 m (by omega), h8 m (by omega)]
    rfl
  have r1 : ∀ m, spec_IsFile.l0 (m + 1) [(⟨x.f0.f0, x.f0.f1⟩ : S28), ⟨x.f1.f0, x.f1.f1⟩] 2 1 x.f0.f0 x.f0.f1 x.f1.f0 x.f1.f1 x.f2 x.f3 x.f4 x.f5 x.f6 x.f7 x.f8 x.f9 x.f10 x.f11 x.f12 = (if x.f1.f0 < 1 then some false else if x.f1.f0 ≥ 4294967296 then some false else if x.f1.f1 < 0 then some false else if x.f1.f1 ≥ 1000000000 then some false else spec_IsFile.l0 m [(⟨x.f0.f0, x.f0.f1⟩ : S28), ⟨x.f1.f0, x.f1.f1⟩] 2 2 x.f0.f0 x.f0.f1 x.f1.f0 x.f1.f1 x.f2 x.f3 x.f4 x.f5 x.f6 x.f7 x.f8 x.f9 x.f10 x.f11 x.f12) := by
    intro m
    simp only [spec_IsFile.l0]
    rw [if_pos (show (1 : Int) < 2 by decide), if_pos (show (0 : Int) ≤ 1 by decide), hl, if_pos (show (1 : Int) < 2 by decide), g1, w2]
  have r0 : ∀ m, spec_IsFile.l0 (m + 1) [(⟨x.f0.f0, x.f0.f1⟩ : S28), ⟨x.f1.f0, x.f1.f1⟩] 2 0 x.f0.f0 x.f0.f1 x.f1.f0 x.f1.f1 x.f2 x.f3 x.f4 x.f5 x.f6 x.f7 x.f8 x.f9 x.f10 x.f11 x.f12 = (if x.f0.f0 < 1 then some false else if x.f0.f0 ≥ 4294967296 then some false else if x.f0.f1 < 0 then some false else if x.f0.f1 ≥ 1000000000 then some false else spec_IsFile.l0 m [(⟨x.f0.f0, x.f0.f1⟩ : S28), ⟨x.f1.f0, x.f1.f1⟩] 2 1 x.f0.f0 x.f0.f1 x.f1.f0 x.f1.f1 x.f2 x.f3 x.f4 x.f5 x.f6 x.f7 x.f8 x.f9 x.f10 x.f11 x.f12) := by
    intro m
    simp only [spec_IsFile.l0]
    rw [if_pos (show (0 : Int) < 2 by decide), if_pos (show (0 : Int) ≤ 0 by decide), hl, if_pos (show (0 : Int) < 2 by decide), g0, w1]
  have file : ∃ b, (∀ m, m ≥ K8 + K9 → spec_IsFile.f (m + 3) x.f0.f0 x.f0.f1 x.f1.f0 x.f1.f1 x.f2 x.f3 x.f4 x.f5 x.f6 x.f7 x.f8 x.f9 x.f10 x.f11 x.f12 = some b) ∧
      (b = true → (1 ≤ x.f0.f0 ∧ x.f0.f0 < 4294967296 ∧ 0 ≤ x.f0.f1 ∧ x.f0.f1 < 1000000000) ∧ (1 ≤ x.f1.f0 ∧ x.f1.f0 < 4294967296 ∧ 0 ≤ x.f1.f1 ∧ x.f1.f1 < 1000000000) ∧ x.f8.size = 40 ∧ ∀ j, j < x.f8.size → DigAt x.f8 j) := by
    have e : ∀ m, m ≥ K8 + K9 → spec_IsFile.f (m + 3) x.f0.f0 x.f0.f1 x.f1.f0 x.f1.f1 x.f2 x.f3 x.f4 x.f5 x.f6 x.f7 x.f8 x.f9 x.f10 x.f11 x.f12 = spec_IsFile.l0 (m + 2 + 1) [(⟨x.f0.f0, x.f0.f1⟩ : S28), ⟨x.f1.f0, x.f1.f1⟩] 2 0 x.f0.f0 x.f0.f1 x.f1.f0 x.f1.f1 x.f2 x.f3 x.f4 x.f5 x.f6 x.f7 x.f8 x.f9 x.f10 x.f11 x.f12 := fun m _ => rfl
    by_cases c0 : 1 ≤ x.f0.f0 ∧ x.f0.f0 < 4294967296 ∧ 0 ≤ x.f0.f1 ∧ x.f0.f1 < 1000000000
    · by_cases c1 : 1 ≤ x.f1.f0 ∧ x.f1.f0 < 4294967296 ∧ 0 ≤ x.f1.f1 ∧ x.f1.f1 < 1000000000
      · by_cases c2 : b8 = true
        · refine ⟨if b9 = true then (if x.f10 ≥ 0 then decide (x.f10 ≤ 3) else false) else false, fun m hm => ?_, fun _ => ⟨c0, c1, h8b c2⟩⟩
          rw [e m hm, r0, if_neg (by omega), if_neg (by omega), if_neg (by omega), if_neg (by omega), show m + 2 = m + 1 + 1 from rfl, r1, if_neg (by omega), if_neg (by omega), if_neg (by omega), if_neg (by omega), r2 m hm, if_pos c2]
          split
          · split <;> rfl
          · rfl
        · refine ⟨false, fun m hm => ?_, fun h => by cases h⟩
          rw [e m hm, r0, if_neg (by omega), if_neg (by omega), if_neg (by omega), if_neg (by omega), show m + 2 = m + 1 + 1 from rfl, r1, if_neg (by omega), if_neg (by omega), if_neg (by omega), if_neg (by omega), r2 m hm, if_neg c2]
          split <;> rfl
      · refine ⟨false, fun m hm => ?_, fun h => by cases h⟩
        rw [e m hm, r0, if_neg (by omega), if_neg (by omega), if_neg (by omega), if_neg (by omega), show m + 2 = m + 1 + 1 from rfl, r1]
        by_cases d1 : x.f1.f0 < 1
        · rw [if_pos d1]
        · rw [if_neg d1]
          by_cases d2 : x.f1.f0 ≥ 4294967296
          · rw [if_pos d2]
          · rw [if_neg d2]
            by_cases d3 : x.f1.f1 < 0
            · rw [if_pos d3]
            · rw [if_neg d3, if_pos (by omega)]
    · refine ⟨false, fun m hm => ?_, fun h => by cases h⟩
      rw [e m hm, r0]
      by_cases d1 : x.f0.f0 < 1
      · rw [if_pos d1]
      · rw [if_neg d1]
        by_cases d2 : x.f0.f0 ≥ 4294967296
        · rw [if_pos d2]
        · rw [if_neg d2]
          by_cases d3 : x.f0.f1 < 0
          · rw [if_pos d3]
          · rw [if_neg d3, if_pos (by omega)]
  obtain ⟨b, hb, hq⟩ := file
  by_cases c : b = true
  · refine ⟨if x.f11 = true then false else !x.f12, ⟨K8 + K9 + 3, fun n hn => ?_⟩, fun _ => hq c⟩
    obtain ⟨m, rfl⟩ : ∃ m, n = m + 3 := ⟨n - 3, by omega⟩
    show spec_IsPlainFile.f (m + 3) x.f0.f0 x.f0.f1 x.f1.f0 x.f1.f1 x.f2 x.f3 x.f4 x.f5 x.f6 x.f7 x.f8 x.f9 x.f10 x.f11 x.f12 = _
    unfold spec_IsPlainFile.f
    rw [hb m (by omega)]
    show (if b = true then (if x.f11 = true then some false else some (!x.f12)) else some false) = _
    rw [if_pos c]
    split <;> rfl
  · refine ⟨false, ⟨K8 + K9 + 3, fun n hn => ?_⟩, fun h => by cases h⟩
    obtain ⟨m, rfl⟩ : ∃ m, n = m + 3 := ⟨n - 3, by omega⟩
    show spec_IsPlainFile.f (m + 3) x.f0.f0 x.f0.f1 x.f1.f0 x.f1.f1 x.f2 x.f3 x.f4 x.f5 x.f6 x.f7 x.f8 x.f9 x.f10 x.f11 x.f12 = _
    unfold spec_IsPlainFile.f
    rw [hb m (by omega)]
    show (if b = true then (if x.f11 = true then some false else some (!x.f12)) else some false) = _
    rw [if_neg c]

/-- A file that may be written: what the walk asks of it. -/
structure Plain (x : S31) : Prop where
  fit : Fit x
  ent : EntOf (ent x) x
theorem plain (x : S31) (hs8 : x.f8.size ≤ 2147483647) (hs9 : x.f9.size ≤ 2147483647) : ∃ b, (∃ k, spec_IsPlainFile.f k x.f0.f0 x.f0.f1 x.f1.f0 x.f1.f1 x.f2 x.f3 x.f4 x.f5 x.f6 x.f7 x.f8 x.f9 x.f10 x.f11 x.f12 = some b) ∧ (b = true → Plain x) := by
  obtain ⟨b, ⟨K, hbk⟩, hq⟩ := isFile_l x hs8 hs9
  refine ⟨b, ⟨K, hbk K (Nat.le_refl _)⟩, fun e => ?_⟩
  obtain ⟨⟨a1, a2, a3, a4⟩, ⟨b1, b2, b3, b4⟩, h40, hd⟩ := hq e
  obtain ⟨hl, hh⟩ := hexOf_dec x.f8 h40 (digs x.f8 hd)
  refine ⟨⟨h40, hl, timeOf_plain _ _ a1 a2 a3 a4, timeOf_plain _ _ b1 b2 b3 b4⟩, hb x.f8, x.f9, _, _, _, _, _, _, x.f2, x.f3, x.f4, x.f5, x.f6, x.f7, x.f10, x.f11, x.f12, _, _, _, _, rfl, stampOf_plain _ _ a1 a2, stampOf_plain _ _ b1 b2, fun i _ => hb_range x.f8 i, ?_⟩
  rw [hh]
/-- The file that is told of a name alone. -/
def file0 (nm : ByteArray) : S31 := ⟨⟨0, 0⟩, ⟨0, 0⟩, 0, 0, 0, 0, 0, 0, hexOf (fun _ => 0), nm, 0, false, false⟩
theorem ent_file0 (nm : ByteArray) : EntOf (ent0 nm) (file0 nm) :=
  ⟨fun _ => 0, nm, 0, 0, 0, 0, 0, 0, 0, 0, 0, 0, 0, 0, 0, false, false, 0, 0, 0, 0, rfl, stampOf_zero, stampOf_zero, fun _ _ => ⟨Int.le_refl 0, by show (0 : Int) < 256; decide⟩, rfl⟩
#print axioms plain
end Go.Proofs.YtcokggnbgakonaaDoor.PureF
