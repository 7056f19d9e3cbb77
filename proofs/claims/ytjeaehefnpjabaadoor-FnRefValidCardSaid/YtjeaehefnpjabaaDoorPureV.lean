/- Plain laws of the small functions on texts that FnRefValid reaches: what they answer where all characters are letters and digits. -/
import Derived.Test.YtjeaehefnpjabaaDoorQFnRefValidx1
import Derived.Test.YtjeaehefnpjabaaDoorQFnRefValidx2
import Derived.Lib.Strings
set_option linter.unusedVariables false
set_option linter.unusedSimpArgs false
namespace Go.Proofs.YtjeaehefnpjabaaDoor.PureV
open Go.RowKit Go.Proofs.YtjeaehefnpjabaaDoor.QFnRefValid Go.Proofs.YtjeaehefnpjabaaDoorW.PrintWords

theorem w64 (x : Int) (h0 : 0 ≤ x) (h1 : x ≤ 9223372036854775807) : wrap64 x = x := by unfold wrap64; omega
theorem size_list (s : ByteArray) : s.toList.length = s.size := by rw [Lib.toList_data, Lib.size_eq]

/-! ### zzIndex -/
def At (l sub : List UInt8) (i : Nat) : Prop := (l.drop i).take sub.length = sub
theorem idx_loop (s sub : ByteArray) (hs : s.size ≤ 140737488351232) (hb : sub.size ≤ 140737488351232) (r : Int)
    (H : ∀ (i : Nat), (∀ j, j < i → ¬ (j + sub.size ≤ s.size ∧ At s.toList sub.toList j)) → (i + sub.size ≤ s.size ∧ At s.toList sub.toList i → r = i) ∧ (s.size < i + sub.size → r = -1)) (d : Nat) :
    ∀ (k i : Nat), (∀ j, j < i → ¬ (j + sub.size ≤ s.size ∧ At s.toList sub.toList j)) → i ≤ s.size + 1 → s.size + 1 - i = d → d < k → plumbing_zzIndex.l0 k s sub i = some r := by
  induction d with
  | zero =>
    intro k i hj hi hd hk
    obtain ⟨k, rfl⟩ : ∃ m, k = m + 1 := ⟨k - 1, by omega⟩
    simp only [plumbing_zzIndex.l0]
    rw [w64 _ (by omega) (by omega), if_neg (by omega), (H i hj).2 (by omega)]
  | succ d ih =>
    intro k i hj hi hd hk
    obtain ⟨k, rfl⟩ : ∃ m, k = m + 1 := ⟨k - 1, by omega⟩
    simp only [plumbing_zzIndex.l0]
    rw [w64 _ (by omega) (by omega)]
    by_cases hle : (i : Int) + sub.size ≤ s.size
    · rw [if_pos hle, if_pos (by omega), if_pos (by omega)]
      have he : (s.extract (i : Int).toNat ((i : Int) + sub.size).toNat).toList = (s.toList.drop i).take sub.toList.length := by
        rw [Lib.extract_toList, ← Lib.toList_data, size_list, Int.toNat_natCast]; congr 1; omega
      rw [he]
      by_cases hm : (s.toList.drop i).take sub.toList.length = sub.toList
      · rw [if_pos hm, ((H i hj).1 ⟨by omega, hm⟩)]
      · rw [if_neg hm, w64 _ (by omega) (by omega)]
        exact ih k (i + 1) (fun j hlt => by
          rcases Nat.lt_or_ge j i with h | h
          · exact hj j h
          · obtain rfl : j = i := by omega
            exact fun hh => hm hh.2) (by omega) (by omega) (by omega)
    · rw [if_neg hle, (H i hj).2 (by omega)]

theorem idx_none (s sub : ByteArray) (hs : s.size ≤ 140737488351232) (hb : sub.size ≤ 140737488351232) (h : ∀ j, j + sub.size ≤ s.size → ¬ At s.toList sub.toList j) (k : Nat) (hk : s.size + 1 < k) :
    plumbing_zzIndex.f k s sub = some (-1) :=
  idx_loop s sub hs hb (-1) (fun i hj => ⟨fun hh => absurd hh.2 (h i hh.1), fun _ => rfl⟩) (s.size + 1) k 0 (fun j hj => by omega) (by omega) (by omega) hk
theorem idx_some (s sub : ByteArray) (hs : s.size ≤ 140737488351232) (hb : sub.size ≤ 140737488351232) (i : Nat) (hi : i + sub.size ≤ s.size) (ha : At s.toList sub.toList i) (h : ∀ j, j < i → ¬ At s.toList sub.toList j) (k : Nat) (hk : s.size + 1 < k) :
    plumbing_zzIndex.f k s sub = some (i : Int) :=
  idx_loop s sub hs hb i (fun i' hj => by
    rcases Nat.lt_trichotomy i' i with hh | rfl | hh
    · exact ⟨fun q => absurd q.2 (h i' hh), fun q => by omega⟩
    · exact ⟨fun _ => rfl, fun q => by omega⟩
    · exact absurd ⟨hi, ha⟩ (hj i hh)) (s.size + 1) k 0 (fun j hj => by omega) (by omega) (by omega) hk

/-- Where the first character of the other text does not occur, it is nowhere. -/
theorem not_at {l : List UInt8} {c : UInt8} {r : List UInt8} (h : c ∉ l) (j : Nat) : ¬ At l (c :: r) j := by
  intro ha
  unfold At at ha
  have : c ∈ (l.drop j).take (c :: r).length := by rw [ha]; exact List.mem_cons_self
  exact h (List.mem_of_mem_drop (List.mem_of_mem_take this))

theorem contains_false (s sub : ByteArray) (c : UInt8) (r : List UInt8) (hs : s.size ≤ 140737488351232) (hb : sub.size ≤ 140737488351232) (he : sub.toList = c :: r) (h : c ∉ s.toList) (k : Nat) (hk : s.size + 1 < k) :
    plumbing_zzContains.f k s sub = some false := by
  unfold plumbing_zzContains.f
  rw [idx_none s sub hs hb (fun j _ => by rw [he]; exact not_at h j) k hk]
  rfl

/-! ### prefixes and suffixes -/
theorem prefix_val (s p : ByteArray) (hs : s.size ≤ 140737488351232) (hp : p.size ≤ 140737488351232) : strings_HasPrefix.f s p = some (decide (s.toList.take p.toList.length = p.toList)) := by
  unfold strings_HasPrefix.f stringslite_HasPrefix.f
  by_cases h : (s.size : Int) ≥ p.size
  · rw [if_pos h, if_pos (by omega), if_pos (by omega)]
    simp only [Option.bind_some]
    rw [Lib.extract_toList, size_list]
    simp only [Int.toNat_natCast, Nat.sub_zero, List.drop_zero, ← Lib.toList_data]
    congr 1
    by_cases e : List.take p.size s.toList = p.toList <;> simp [e]
  · rw [if_neg h]
    simp only [Option.bind_some]
    congr 1
    refine (decide_eq_false fun e => ?_).symm
    have : (s.toList.take p.toList.length).length = p.toList.length := by rw [e]
    rw [List.length_take, size_list, size_list] at this
    omega
theorem suffix_val (s p : ByteArray) (hs : s.size ≤ 140737488351232) (hp : p.size ≤ 140737488351232) : strings_HasSuffix.f s p = some (decide (p.size ≤ s.size ∧ s.toList.drop (s.size - p.size) = p.toList)) := by
  unfold strings_HasSuffix.f stringslite_HasSuffix.f
  by_cases h : (s.size : Int) ≥ p.size
  · have hw : wrap64 ((s.size : Int) - p.size) = (s.size : Int) - p.size := w64 _ (by omega) (by omega)
    rw [if_pos h, hw, if_pos (by omega), if_pos (by omega)]
    simp only [Option.bind_some]
    rw [Lib.extract_toList, ← Lib.toList_data]
    have e1 : ((s.size : Int) - p.size).toNat = s.size - p.size := by omega
    rw [e1]
    have e2 : List.take (s.size - (s.size - p.size)) (List.drop (s.size - p.size) s.toList) = List.drop (s.size - p.size) s.toList := by
      apply List.take_of_length_le; rw [List.length_drop, size_list]; omega
    rw [e2]
    congr 1
    have h' : p.size ≤ s.size := by omega
    by_cases e : List.drop (s.size - p.size) s.toList = p.toList <;> simp [e, h']
  · rw [if_neg h]
    simp only [Option.bind_some]
    congr 1
    exact (decide_eq_false fun e => by omega).symm
theorem prefix_false (s p : ByteArray) (c : UInt8) (r : List UInt8) (hs : s.size ≤ 140737488351232) (hp : p.size ≤ 140737488351232) (he : p.toList = c :: r) (h : c ∉ s.toList) : strings_HasPrefix.f s p = some false := by
  rw [prefix_val s p hs hp]
  congr 1
  refine decide_eq_false fun e => h ?_
  have : c ∈ s.toList.take p.toList.length := by rw [e, he]; exact List.mem_cons_self
  exact List.mem_of_mem_take this
theorem suffix_false (s p : ByteArray) (c : UInt8) (r : List UInt8) (hs : s.size ≤ 140737488351232) (hp : p.size ≤ 140737488351232) (he : p.toList = c :: r) (h : c ∉ s.toList) : strings_HasSuffix.f s p = some false := by
  rw [suffix_val s p hs hp]
  congr 1
  refine decide_eq_false fun e => h ?_
  have : c ∈ s.toList.drop (s.size - p.size) := by rw [e.2, he]; exact List.mem_cons_self
  exact List.mem_of_mem_drop this

/-! ### letters and digits -/
def An (c : UInt8) : Prop := 97 ≤ c.toNat ∧ c.toNat ≤ 122 ∨ 65 ≤ c.toNat ∧ c.toNat ≤ 90 ∨ 48 ≤ c.toNat ∧ c.toNat ≤ 57
structure Nice (s : ByteArray) : Prop where
  pos : 0 < s.size
  an : ∀ c ∈ s.toList, An c
theorem bt_mem (s : ByteArray) (i : Nat) (h : i < s.size) : ∃ c ∈ s.toList, bt s i = (c.toNat : Int) ∧ s.toList[i]? = some c := by
  have hl : i < s.toList.length := by rw [size_list]; exact h
  refine ⟨s.toList[i], List.getElem_mem hl, ?_, by simp [hl]⟩
  unfold bt
  rw [dif_pos (by simpa using h)]
  have : s.toList[i] = s.data.toList[i]'(by rw [← Lib.size_eq]; exact h) := by simp [Lib.toList_data]
  rw [this]
  simp
  rfl
theorem mem_bt {s : ByteArray} {c : UInt8} (h : c ∈ s.toList) : ∃ i : Nat, i < s.size ∧ bt s i = (c.toNat : Int) := by
  obtain ⟨i, hi, rfl⟩ := List.getElem_of_mem h
  have hi' : i < s.size := by rw [← size_list]; exact hi
  obtain ⟨c', _, e, e'⟩ := bt_mem s i hi'
  refine ⟨i, hi', ?_⟩
  rw [e]
  have : s.toList[i] = c' := by simpa [hi] using e'
  rw [this]

theorem control_loop (s : ByteArray) (hs : s.size ≤ 140737488351232) (ha : ∀ c ∈ s.toList, An c) (d : Nat) : ∀ (k i : Nat), i ≤ s.size → s.size - i = d → d < k → plumbing_zzControl.l0 k s i = some false := by
  induction d with
  | zero =>
    intro k i hi hd hk
    obtain ⟨k, rfl⟩ : ∃ m, k = m + 1 := ⟨k - 1, by omega⟩
    simp only [plumbing_zzControl.l0]
    rw [if_neg (by omega)]
  | succ d ih =>
    intro k i hi hd hk
    obtain ⟨k, rfl⟩ : ∃ m, k = m + 1 := ⟨k - 1, by omega⟩
    simp only [plumbing_zzControl.l0]
    obtain ⟨c, hc, e, _⟩ := bt_mem s i (by omega)
    have hA := ha c hc
    unfold An at hA
    rw [if_pos (by omega), if_pos (by omega), e, if_neg (by omega), if_neg (by omega), w64 _ (by omega) (by omega)]
    exact ih k (i + 1) (by omega) (by omega) (by omega)
theorem control_false (s : ByteArray) (hs : s.size ≤ 140737488351232) (ha : ∀ c ∈ s.toList, An c) (k : Nat) (hk : s.size < k) : plumbing_zzControl.f k s = some false :=
  control_loop s hs ha s.size k 0 (by omega) (by omega) hk

theorem an_iff (x : Int) (s : ByteArray) (c : UInt8) (e : x = (c.toNat : Int)) : An c ↔ (97 ≤ x ∧ x ≤ 122 ∨ 65 ≤ x ∧ x ≤ 90 ∨ 48 ≤ x ∧ x ≤ 57) := by subst e; unfold An; omega
/-- Small tells whether a text is nice. -/
theorem small_loop (s : ByteArray) (hs : s.size ≤ 9223372036854775807) (d : Nat) : ∀ (k i : Nat), i ≤ s.size → s.size - i = d → d < k →
    ∃ b, spec_Small.l0 k s s.size i = some b ∧ (b = true → 0 < s.size ∧ ∀ j : Nat, i ≤ j → j < s.size → (97 ≤ bt s j ∧ bt s j ≤ 122 ∨ 65 ≤ bt s j ∧ bt s j ≤ 90 ∨ 48 ≤ bt s j ∧ bt s j ≤ 57)) := by
  induction d with
  | zero =>
    intro k i hi hd hk
    obtain ⟨k, rfl⟩ : ∃ m, k = m + 1 := ⟨k - 1, by omega⟩
    simp only [spec_Small.l0]
    rw [if_neg (by omega)]
    refine ⟨_, rfl, fun hb => ⟨?_, fun j h1 h2 => by omega⟩⟩
    have hl := size_list s
    cases hh : s.toList with
    | nil => rw [hh] at hb; simp at hb
    | cons a l => rw [hh] at hl; simp at hl; omega
  | succ d ih =>
    intro k i hi hd hk
    obtain ⟨k, rfl⟩ : ∃ m, k = m + 1 := ⟨k - 1, by omega⟩
    obtain ⟨b, hb, hP⟩ := ih k (i + 1) (by omega) (by omega) (by omega)
    simp only [spec_Small.l0]
    rw [if_pos (by omega), if_pos (by omega), if_pos (by omega), w64 _ (by omega) (by omega)]
    have hb' : spec_Small.l0 k s s.size ((i : Int) + 1) = some b := hb
    rw [hb']
    by_cases hA : (97 ≤ bt s i ∧ bt s i ≤ 122 ∨ 65 ≤ bt s i ∧ bt s i ≤ 90 ∨ 48 ≤ bt s i ∧ bt s i ≤ 57)
    · refine ⟨b, ?_, fun hbt => ⟨by omega, fun j h1 h2 => ?_⟩⟩
      · repeat' split
        all_goals first | rfl | (exfalso; omega)
      · rcases Nat.lt_or_ge i j with h | h
        · exact (hP hbt).2 j (by omega) h2
        · obtain rfl : j = i := by omega
          exact hA
    · refine ⟨false, ?_, fun h => by cases h⟩
      repeat' split
      all_goals first | rfl | (exfalso; omega)
theorem small_tells (s : ByteArray) (hs : s.size ≤ 9223372036854775807) (k : Nat) (hk : s.size < k) : ∃ b, spec_Small.f k s = some b ∧ (b = true → Nice s) := by
  obtain ⟨b, hb, hP⟩ := small_loop s hs s.size k 0 (by omega) (by omega) hk
  refine ⟨b, hb, fun h => ⟨(hP h).1, fun c hc => ?_⟩⟩
  obtain ⟨i, hi, e⟩ := mem_bt hc
  exact (an_iff _ s c e).2 ((hP h).2 i (by omega) hi)

/-! ### zzSplit at a slash -/
def sl : ByteArray := ⟨#[47]⟩
theorem sl_list : sl.toList = [47] := by rw [Lib.toList_data]; rfl
theorem ba_ext {a b : ByteArray} (h : a.toList = b.toList) : a = b := by
  rw [Lib.toList_data, Lib.toList_data] at h
  cases a; cases b; simp at h; exact congrArg _ h
def flat (rest : List ByteArray) : List UInt8 := (rest.map fun q => 47 :: q.toList).flatten
theorem flat_cons (q : ByteArray) (r : List ByteArray) : flat (q :: r) = 47 :: (q.toList ++ flat r) := by simp [flat]
theorem split_loop (rest : List ByteArray) : ∀ (s p : ByteArray) (acc : List ByteArray) (k : Nat), s.toList = p.toList ++ flat rest → (47 : UInt8) ∉ p.toList → (∀ q ∈ rest, (47 : UInt8) ∉ q.toList) →
    s.size ≤ 140737488351232 → acc.length + rest.length < 8796093022208 → s.size + rest.length + 3 ≤ k → plumbing_zzSplit.l0 k s sl acc = some (acc ++ p :: rest) := by
  induction rest with
  | nil =>
    intro s p acc k he hp hr hs hl hk
    obtain ⟨k, rfl⟩ : ∃ m, k = m + 1 := ⟨k - 1, by omega⟩
    have hsp : s = p := ba_ext (by simpa [flat] using he)
    subst hsp
    simp only [plumbing_zzSplit.l0]
    rw [idx_none s sl hs (by decide) (fun j _ => by rw [sl_list]; exact not_at hp j) k (by omega)]
    simp only [Option.bind_some]
    rw [if_pos (by omega), if_pos (by simp at hl; omega)]
  | cons q r ih =>
    intro s p acc k he hp hr hs hl hk
    obtain ⟨k, rfl⟩ : ∃ m, k = m + 1 := ⟨k - 1, by omega⟩
    simp only [List.length_cons] at hl hk
    have hlen : s.size = p.size + 1 + (q.toList ++ flat r).length := by
      rw [← size_list s, he, flat_cons]; simp [size_list]; omega
    have hat : At s.toList sl.toList p.size := by
      unfold At
      rw [sl_list, he, flat_cons, List.drop_left' (size_list p)]
      rfl
    have hno : ∀ j, j < p.size → ¬ At s.toList sl.toList j := by
      intro j hj ha
      unfold At at ha
      rw [sl_list, he, List.drop_append_of_le_length (by rw [size_list]; omega), List.take_append_of_le_length (by rw [List.length_drop, size_list]; simp; omega)] at ha
      have ha' : (p.toList.drop j).take 1 = [(47 : UInt8)] := ha
      have hm : (47 : UInt8) ∈ (p.toList.drop j).take 1 := by rw [ha']; exact List.mem_cons_self
      exact hp (List.mem_of_mem_drop (List.mem_of_mem_take hm))
    have hsl : sl.size = 1 := rfl
    simp only [plumbing_zzSplit.l0]
    rw [idx_some s sl hs (by decide) p.size (by omega) hat hno k (by omega)]
    simp only [Option.bind_some]
    rw [if_neg (by omega), if_pos (by omega), if_pos (by omega), if_pos (by omega), hsl, w64 _ (by omega) (by omega), if_pos (by omega), if_pos (by omega)]
    have e1 : s.extract 0 (p.size : Int).toNat = p := by
      apply ba_ext
      rw [Lib.extract_toList, ← Lib.toList_data, Int.toNat_natCast, Nat.sub_zero, List.drop_zero, he, List.take_left' (size_list p)]
    have e2 : (s.extract ((p.size : Int) + ((1 : Nat) : Int)).toNat s.size).toList = q.toList ++ flat r := by
      have en : ((p.size : Int) + ((1 : Nat) : Int)).toNat = p.size + 1 := by omega
      rw [Lib.extract_toList, ← Lib.toList_data, en, List.take_of_length_le (by rw [List.length_drop, size_list]; omega), he, flat_cons]
      rw [List.drop_append, List.drop_of_length_le (by rw [size_list]; omega), size_list]
      have : p.size + 1 - p.size = 1 := by omega
      rw [this]; rfl
    rw [e1]
    have hsz : (s.extract ((p.size : Int) + ((1 : Nat) : Int)).toNat s.size).size ≤ s.size := by
      rw [← size_list, e2]; omega
    have := ih _ q (acc ++ [p]) k e2 (hr q List.mem_cons_self) (fun q' h' => hr q' (List.mem_cons_of_mem _ h')) (by omega) (by simp; omega) (by omega)
    rw [this]
    simp
theorem split_val (s p : ByteArray) (rest : List ByteArray) (he : s.toList = p.toList ++ flat rest) (hp : (47 : UInt8) ∉ p.toList) (hr : ∀ q ∈ rest, (47 : UInt8) ∉ q.toList)
    (hs : s.size ≤ 140737488351232) (hl : rest.length < 8796093022208) (k : Nat) (hk : s.size + rest.length + 3 ≤ k) : plumbing_zzSplit.f k s sl = some (p :: rest) := by
  unfold plumbing_zzSplit.f
  rw [split_loop rest s p [] k he hp hr hs (by simpa using hl) hk]
  rfl

end Go.Proofs.YtjeaehefnpjabaaDoor.PureV
