/- Plain laws of the small functions on texts that a pattern of gitignore reaches. -/
import Derived.Test.YtlnfkpmmnennbaaExtM
import Derived.Lib.Strings
set_option linter.unusedVariables false
set_option linter.unusedSimpArgs false
namespace Go.Proofs.Ytlnfkpmmnennbaa.PureI
open Go.RowKit Go.Proofs.YtlnfkpmmnennbaaW.PrintWords Go.Proofs.Ytlnfkpmmnennbaa.QAll Txt PureG HandG

/-! ### zzIndex -/
def At (l sub : List UInt8) (i : Nat) : Prop := (l.drop i).take sub.length = sub
theorem idx_loop (s sub : ByteArray) (hs : s.size ≤ 140737488351232) (hb : sub.size ≤ 140737488351232) (r : Int)
    (H : ∀ (i : Nat), (∀ j, j < i → ¬ (j + sub.size ≤ s.size ∧ At s.toList sub.toList j)) → (i + sub.size ≤ s.size ∧ At s.toList sub.toList i → r = i) ∧ (s.size < i + sub.size → r = -1)) (d : Nat) :
    ∀ (k i : Nat), (∀ j, j < i → ¬ (j + sub.size ≤ s.size ∧ At s.toList sub.toList j)) → i ≤ s.size + 1 → s.size + 1 - i = d → d < k → gitignore_zzIndex.l0 k s sub i = some r := by
  induction d with
  | zero =>
    intro k i hj hi hd hk
    obtain ⟨k, rfl⟩ : ∃ m, k = m + 1 := ⟨k - 1, by omega⟩
    simp only [gitignore_zzIndex.l0]
    rw [w64 _ (by omega) (by omega), if_neg (by omega), (H i hj).2 (by omega)]
  | succ d ih =>
    intro k i hj hi hd hk
    obtain ⟨k, rfl⟩ : ∃ m, k = m + 1 := ⟨k - 1, by omega⟩
    simp only [gitignore_zzIndex.l0]
    rw [w64 _ (by omega) (by omega)]
    by_cases hle : (i : Int) + sub.size ≤ s.size
    · rw [if_pos hle, if_pos (by omega), if_pos (by omega)]
      have he : (s.extract (i : Int).toNat ((i : Int) + sub.size).toNat).toList = (s.toList.drop i).take sub.toList.length := by
        rw [Lib.extract_toList, ← Lib.toList_data, size_list, Int.toNat_natCast]; congr 1; omega
      rw [he]
      by_cases hm : (s.toList.drop i).take sub.toList.length = sub.toList
      · rw [if_pos hm, ((H i hj).1 ⟨by omega, hm⟩)]
      · rw [if_neg hm, w64 _ (by omega) (by omega)]
        exact ih k (i + 1) (fun j hlt => by
          rcases Nat.lt_or_ge j i with h | h
          · exact hj j h
          · obtain rfl : j = i := by omega
            exact fun hh => hm hh.2) (by omega) (by omega) (by omega)
    · rw [if_neg hle, (H i hj).2 (by omega)]

theorem idx_none (s sub : ByteArray) (hs : s.size ≤ 140737488351232) (hb : sub.size ≤ 140737488351232) (h : ∀ j, j + sub.size ≤ s.size → ¬ At s.toList sub.toList j) (k : Nat) (hk : s.size + 1 < k) :
    gitignore_zzIndex.f k s sub = some (-1) :=
  idx_loop s sub hs hb (-1) (fun i hj => ⟨fun hh => absurd hh.2 (h i hh.1), fun _ => rfl⟩) (s.size + 1) k 0 (fun j hj => by omega) (by omega) (by omega) hk
theorem idx_some (s sub : ByteArray) (hs : s.size ≤ 140737488351232) (hb : sub.size ≤ 140737488351232) (i : Nat) (hi : i + sub.size ≤ s.size) (ha : At s.toList sub.toList i) (h : ∀ j, j < i → ¬ At s.toList sub.toList j) (k : Nat) (hk : s.size + 1 < k) :
    gitignore_zzIndex.f k s sub = some (i : Int) :=
  idx_loop s sub hs hb i (fun i' hj => by
    rcases Nat.lt_trichotomy i' i with hh | rfl | hh
    · exact ⟨fun q => absurd q.2 (h i' hh), fun q => by omega⟩
    · exact ⟨fun _ => rfl, fun q => by omega⟩
    · exact absurd ⟨hi, ha⟩ (hj i hh)) (s.size + 1) k 0 (fun j hj => by omega) (by omega) (by omega) hk

/-- Where the first character of the other text does not occur, it is nowhere. -/
theorem not_at {l : List UInt8} {c : UInt8} {r : List UInt8} (h : c ∉ l) (j : Nat) : ¬ At l (c :: r) j := by
  intro ha
  unfold At at ha
  have : c ∈ (l.drop j).take (c :: r).length := by rw [ha]; exact List.mem_cons_self
  exact h (List.mem_of_mem_drop (List.mem_of_mem_take this))

theorem contains_false (s sub : ByteArray) (c : UInt8) (r : List UInt8) (hs : s.size ≤ 140737488351232) (hb : sub.size ≤ 140737488351232) (he : sub.toList = c :: r) (h : c ∉ s.toList) (k : Nat) (hk : s.size + 1 < k) :
    gitignore_zzContains.f k s sub = some false := by
  unfold gitignore_zzContains.f
  rw [idx_none s sub hs hb (fun j _ => by rw [he]; exact not_at h j) k hk]
  rfl

/-! ### prefixes and suffixes -/
theorem prefix_val (s p : ByteArray) (hs : s.size ≤ 140737488351232) (hp : p.size ≤ 140737488351232) : strings_HasPrefix.f s p = some (decide (s.toList.take p.toList.length = p.toList)) := by
  unfold strings_HasPrefix.f stringslite_HasPrefix.f
  by_cases h : (s.size : Int) ≥ p.size
  · rw [if_pos h, if_pos (by omega), if_pos (by omega)]
    simp only [Option.bind_some]
    rw [Lib.extract_toList, size_list]
    simp only [Int.toNat_natCast, Nat.sub_zero, List.drop_zero, ← Lib.toList_data]
    congr 1
    by_cases e : List.take p.size s.toList = p.toList <;> simp [e]
  · rw [if_neg h]
    simp only [Option.bind_some]
    congr 1
    refine (decide_eq_false fun e => ?_).symm
    have : (s.toList.take p.toList.length).length = p.toList.length := by rw [e]
    rw [List.length_take, size_list, size_list] at this
    omega
theorem suffix_val (s p : ByteArray) (hs : s.size ≤ 140737488351232) (hp : p.size ≤ 140737488351232) : strings_HasSuffix.f s p = some (decide (p.size ≤ s.size ∧ s.toList.drop (s.size - p.size) = p.toList)) := by
  unfold strings_HasSuffix.f stringslite_HasSuffix.f
  by_cases h : (s.size : Int) ≥ p.size
  · have hw : wrap64 ((s.size : Int) - p.size) = (s.size : Int) - p.size := w64 _ (by omega) (by omega)
    rw [if_pos h, hw, if_pos (by omega), if_pos (by omega)]
    simp only [Option.bind_some]
    rw [Lib.extract_toList, ← Lib.toList_data]
    have e1 : ((s.size : Int) - p.size).toNat = s.size - p.size := by omega
    rw [e1]
    have e2 : List.take (s.size - (s.size - p.size)) (List.drop (s.size - p.size) s.toList) = List.drop (s.size - p.size) s.toList := by
      apply List.take_of_length_le; rw [List.length_drop, size_list]; omega
    rw [e2]
    congr 1
    have h' : p.size ≤ s.size := by omega
    by_cases e : List.drop (s.size - p.size) s.toList = p.toList <;> simp [e, h']
  · rw [if_neg h]
    simp only [Option.bind_some]
    congr 1
    exact (decide_eq_false fun e => by omega).symm

theorem least {P : Nat → Prop} : ∀ n, P n → ∃ j, P j ∧ ∀ i, i < j → ¬ P i := by
  intro n
  induction n using Nat.strongRecOn with
  | ind n ih =>
    intro h
    by_cases hx : ∃ i, i < n ∧ P i
    · obtain ⟨i, hi, hp⟩ := hx
      exact ih i hi hp
    · exact ⟨n, h, fun i hi hp => hx ⟨i, hi, hp⟩⟩
theorem idx_tot (s sub : ByteArray) (hs : s.size ≤ 140737488351232) (hb : sub.size ≤ 140737488351232) (k : Nat) (hk : s.size + 1 < k) :
    gitignore_zzIndex.f k s sub = some (-1) ∨ ∃ i : Nat, i + sub.size ≤ s.size ∧ At s.toList sub.toList i ∧ gitignore_zzIndex.f k s sub = some (i : Int) := by
  by_cases h : ∃ j, j + sub.size ≤ s.size ∧ At s.toList sub.toList j
  · obtain ⟨n, hn⟩ := h
    obtain ⟨j, hj, hl⟩ := least (P := fun j => j + sub.size ≤ s.size ∧ At s.toList sub.toList j) n hn
    exact .inr ⟨j, hj.1, hj.2, idx_some s sub hs hb j hj.1 hj.2 (fun i hi ha => hl i hi ⟨by omega, ha⟩) k hk⟩
  · exact .inl (idx_none s sub hs hb (fun j hj ha => h ⟨j, hj, ha⟩) k hk)
theorem contains_tot (s sub : ByteArray) (hs : s.size ≤ 140737488351232) (hb : sub.size ≤ 140737488351232) (k : Nat) (hk : s.size + 1 < k) : ∃ b, gitignore_zzContains.f k s sub = some b := by
  unfold gitignore_zzContains.f
  rcases idx_tot s sub hs hb k hk with h | ⟨i, _, _, h⟩
  · exact ⟨_, by rw [h]; rfl⟩
  · exact ⟨_, by rw [h]; rfl⟩

/-! ### a name's pattern -/
def Ok (c : UInt8) : Prop := 97 ≤ c.toNat ∧ c.toNat ≤ 122 ∨ 65 ≤ c.toNat ∧ c.toNat ≤ 90 ∨ 48 ≤ c.toNat ∧ c.toNat ≤ 57 ∨ c.toNat = 46 ∨ c.toNat = 42 ∨ c.toNat = 63
structure IsG (s : ByteArray) : Prop where
  pos : s.toList ≠ []
  size : s.size ≤ 40
  ok : ∀ c ∈ s.toList, Ok c
  two : ∀ j, ¬ At s.toList [42, 42] j
theorem u8_ne {c : UInt8} {n : Nat} (hn : n < 256) (h : c.toNat ≠ n) : c ≠ n.toUInt8 := by
  rintro rfl
  apply h
  simp
  omega
theorem Ok.gc {c : UInt8} (h : Ok c) : Gc c := by
  unfold Ok at h
  exact ⟨u8_ne (n := 91) (by decide) (by omega), u8_ne (n := 92) (by decide) (by omega), u8_ne (n := 93) (by decide) (by omega)⟩
theorem Ok.not47 {c : UInt8} (h : Ok c) : c ≠ 47 := by unfold Ok at h; exact u8_ne (n := 47) (by decide) (by omega)
theorem Ok.not32 {c : UInt8} (h : Ok c) : c ≠ 32 := by unfold Ok at h; exact u8_ne (n := 32) (by decide) (by omega)
theorem Ok.not33 {c : UInt8} (h : Ok c) : c ≠ 33 := by unfold Ok at h; exact u8_ne (n := 33) (by decide) (by omega)
theorem Ok.nc {c : UInt8} (h : Ok c) : Nc c := ⟨by unfold Ok at h; omega, h.not47⟩
theorem IsG.goodP {s : ByteArray} (h : IsG s) : GoodP s := ⟨by have := h.size; omega, fun c hc => (h.ok c hc).gc⟩
theorem IsG.goodN {s : ByteArray} (h : IsG s) : GoodN s := ⟨by have := h.size; omega, fun c hc => (h.ok c hc).nc⟩
theorem IsG.stars {s : ByteArray} (h : IsG s) : stars2 s = some false := by
  unfold stars2 gitignore_zzContains.f
  rw [idx_none s ⟨#[42, 42]⟩ (by have := h.size; omega) (by decide) (fun j _ => by rw [show (⟨#[42, 42]⟩ : ByteArray).toList = [42, 42] from toList_lit _]; exact h.two j) 100000 (by have := h.size; omega)]
  rfl

/-! ### parsing -/
theorem trim_ok (s : ByteArray) (hs : s.size ≤ 100000) (h : ∀ c ∈ s.toList, c ≠ 32) : gitignore_zzTrimRight.f 100000 s ⟨#[32]⟩ = some s := by
  have hall : s.extract 0 ((s.size : Int)).toNat = s := ba_ext (by rw [ext_to, Int.toNat_natCast, List.take_of_length_le (by rw [size_list]; omega)])
  unfold gitignore_zzTrimRight.f
  rw [show (100000 : Nat) = 99999 + 1 from rfl, gitignore_zzTrimRight.l0]
  by_cases hp : (s.size : Int) > 0
  · rw [if_pos hp]
    rw [show (99999 : Nat) = 99998 + 1 from rfl, gitignore_zzTrimRight.l1]
    obtain ⟨c, hc, hm, hb⟩ := bt_at' s (s.size - 1) (by omega)
    have hw : wrap64 ((s.size : Int) - 1) = ((s.size - 1 : Nat) : Int) := by rw [w64 _ (by omega) (by omega)]; omega
    have h0 : bt (⟨#[32]⟩ : ByteArray) 0 = (32 : Int) := by decide
    have hne : ¬ (bt (⟨#[32]⟩ : ByteArray) 0 = bt s ((s.size - 1 : Nat) : Int)) := by
      rw [h0, hb]
      exact fun e => ne_int (32 : UInt8) rfl (h c hm) e.symm
    have hz : ((⟨#[32]⟩ : ByteArray).size : Int) = 1 := rfl
    rw [hw, hz, if_pos (by omega), if_pos (by omega), if_pos (by omega), if_pos (by omega), if_neg hne]
    rw [show (99998 : Nat) = 99997 + 1 from rfl, gitignore_zzTrimRight.l1, hz, w64 _ (by omega) (by omega), if_neg (by omega), if_neg (by decide), if_pos (by omega), if_pos (by omega), hall]
  · rw [if_neg hp, if_pos (by omega), if_pos (by omega), hall]

/-- What the text of a pattern without ! says. -/
def Core (p1 : ByteArray) (dir gl : Bool) (ps : List ByteArray) : Prop :=
  ∃ p3, strings_HasSuffix.f p1 ⟨#[92, 32]⟩ = some false ∧ gitignore_zzTrimRight.f 100000 p1 ⟨#[32]⟩ = some p1 ∧
    strings_HasSuffix.f p1 ⟨#[47]⟩ = some dir ∧ p3 = (if dir = true then p1.extract 0 (p1.size - 1) else p1) ∧ (dir = true → 1 ≤ (p1.size : Int)) ∧
    gitignore_zzContains.f 100000 p3 ⟨#[47]⟩ = some gl ∧ gitignore_zzSplit.f 100000 p3 ⟨#[47]⟩ = some ps
theorem Core.plain {t : ByteArray} {dir gl : Bool} {ps : List ByteArray} (h : Core t dir gl ps) (hs : t.size ≤ 90000) (h33 : ∀ c ∈ t.toList, c ≠ 33) : Parsed t false dir gl ps := by
  obtain ⟨p3, h1, h2, h3, h4, h5, h6, h7⟩ := h
  refine ⟨t, p3, ?_, rfl, h1, h2, h3, h4, by omega, fun e => absurd e (by decide), h5, h6, h7⟩
  rw [prefix_val t _ (by omega) (by decide)]
  congr 1
  refine decide_eq_false fun e => ?_
  have hm : (33 : UInt8) ∈ t.toList.take (⟨#[33]⟩ : ByteArray).toList.length := by rw [e, toList_lit]; exact List.mem_cons_self
  exact h33 _ (List.mem_of_mem_take hm) rfl
theorem Core.not {t : ByteArray} {dir gl : Bool} {ps : List ByteArray} (h : Core t dir gl ps) (hs : t.size ≤ 90000) : Parsed ((⟨#[33]⟩ : ByteArray) ++ t) true dir gl ps := by
  obtain ⟨p3, h1, h2, h3, h4, h5, h6, h7⟩ := h
  have hl : ((⟨#[33]⟩ : ByteArray) ++ t).toList = 33 :: t.toList := by rw [toList_append, toList_lit]; rfl
  have hz := size_cons hl
  rw [size_list] at hz
  refine ⟨t, p3, ?_, ?_, h1, h2, h3, h4, by omega, fun _ => by omega, h5, h6, h7⟩
  · rw [prefix_val _ _ (by omega) (by decide), hl, toList_lit]
    rfl
  · rw [if_pos rfl]
    exact (ba_ext (ext_tail hl)).symm

/-- A text of good characters. -/
structure Tx (t : ByteArray) : Prop where
  size : t.size ≤ 5000
  gc : ∀ c ∈ t.toList, Gc c ∧ c ≠ 32 ∧ c ≠ 33
theorem Tx.suf {t : ByteArray} (h : Tx t) : strings_HasSuffix.f t ⟨#[92, 32]⟩ = some false := by
  rw [suffix_val _ _ (by have := h.size; omega) (by decide)]
  congr 1
  refine decide_eq_false fun e => ?_
  have hm : (92 : UInt8) ∈ t.toList.drop (t.size - (⟨#[92, 32]⟩ : ByteArray).size) := by rw [e.2, toList_lit]; exact List.mem_cons_self
  exact (h.gc _ (List.mem_of_mem_drop hm)).1.2.1 rfl
theorem Tx.trim {t : ByteArray} (h : Tx t) : gitignore_zzTrimRight.f 100000 t ⟨#[32]⟩ = some t := trim_ok t (by have := h.size; omega) (fun c hc => (h.gc c hc).2.1)

theorem split_last (k : Nat) (x0 sep : ByteArray) (acc : List ByteArray) (h : gitignore_zzIndex.f k x0 sep = some (-1)) (ha : acc.length ≤ 100000) : gitignore_zzSplit.l0 (k + 1) x0 sep acc = some (acc ++ [x0]) := by
  simp only [gitignore_zzSplit.l0]
  rw [h, Option.bind_some, if_pos (by omega), if_pos (by omega)]
theorem split_step (k : Nat) (x0 sep : ByteArray) (acc : List ByteArray) (j : Nat) (h : gitignore_zzIndex.f k x0 sep = some (j : Int)) (hj : j + sep.size ≤ x0.size) (hs : x0.size ≤ 100000) (ha : acc.length ≤ 100000) :
    gitignore_zzSplit.l0 (k + 1) x0 sep acc = gitignore_zzSplit.l0 k (x0.extract (j + sep.size) x0.size) sep (acc ++ [x0.extract 0 j]) := by
  have hw : wrap64 ((j : Int) + (sep.size : Int)) = ((j + sep.size : Nat) : Int) := by rw [w64 _ (by omega) (by omega)]; omega
  simp only [gitignore_zzSplit.l0]
  rw [h, Option.bind_some, if_neg (by omega), if_pos (by omega), if_pos (by omega), if_pos (by omega), hw, if_pos (by omega), if_pos (by omega)]
  simp only [Int.toNat_natCast]

/-- A name alone, or of folders alone. -/
theorem core_name (p : ByteArray) (folder : Bool) (hp : IsG p) : Core (p ++ (if folder = true then (⟨#[47]⟩ : ByteArray) else ⟨#[]⟩)) folder false [p] := by
  have h47 : (47 : UInt8) ∉ p.toList := fun hm => (hp.ok _ hm).not47 rfl
  have hidx : ∀ k, p.size + 1 < k → gitignore_zzIndex.f k p ⟨#[47]⟩ = some (-1) := fun k hk => idx_none p ⟨#[47]⟩ (by have := hp.size; omega) (by decide) (fun j _ => by rw [show (⟨#[47]⟩ : ByteArray).toList = [47] from toList_lit _]; exact not_at h47 j) k hk
  have hsz := hp.size
  have hc : gitignore_zzContains.f 100000 p ⟨#[47]⟩ = some false := by
    unfold gitignore_zzContains.f
    rw [hidx _ (by omega)]
    rfl
  have hsp : gitignore_zzSplit.f 100000 p ⟨#[47]⟩ = some [p] := by
    unfold gitignore_zzSplit.f
    rw [split_last 99999 _ _ _ (hidx _ (by omega)) (by simp)]
    rfl
  have hl0 : (⟨#[]⟩ : ByteArray).toList = [] := toList_lit _
  have hl1 : (⟨#[47]⟩ : ByteArray).toList = [47] := toList_lit _
  have hl2 : (⟨#[92, 32]⟩ : ByteArray).toList = [92, 32] := toList_lit _
  cases folder with
  | false =>
    rw [if_neg (by decide)]
    have he : p ++ (⟨#[]⟩ : ByteArray) = p := ba_ext (by rw [toList_append, hl0, List.append_nil])
    rw [he]
    have ht : Tx p := ⟨by omega, fun c hc => ⟨(hp.ok c hc).gc, (hp.ok c hc).not32, (hp.ok c hc).not33⟩⟩
    refine ⟨p, ht.suf, ht.trim, ?_, rfl, fun e => by (cases e), hc, hsp⟩
    rw [suffix_val _ _ (by omega) (by decide)]
    congr 1
    refine decide_eq_false fun e => h47 ?_
    have hm : (47 : UInt8) ∈ p.toList.drop (p.size - (⟨#[47]⟩ : ByteArray).size) := by rw [e.2, hl1]; exact List.mem_cons_self
    exact List.mem_of_mem_drop hm
  | true =>
    rw [if_pos rfl]
    have hl : (p ++ (⟨#[47]⟩ : ByteArray)).toList = p.toList ++ [47] := by rw [toList_append, hl1]
    have hz : (p ++ (⟨#[47]⟩ : ByteArray)).size = p.size + 1 := by rw [← size_list, hl, List.length_append, size_list]; rfl
    have ht : Tx (p ++ (⟨#[47]⟩ : ByteArray)) := ⟨by omega, fun c hc => by
      rw [hl] at hc
      rcases List.mem_append.1 hc with h | h
      · exact ⟨(hp.ok c h).gc, (hp.ok c h).not32, (hp.ok c h).not33⟩
      · simp at h
        subst h
        exact ⟨⟨by decide, by decide, by decide⟩, by decide, by decide⟩⟩
    refine ⟨p, ht.suf, ht.trim, ?_, ?_, fun _ => by omega, hc, hsp⟩
    · rw [suffix_val _ _ (by omega) (by decide)]
      congr 1
      refine decide_eq_true ⟨by rw [hz]; exact Nat.le_add_left _ _, ?_⟩
      rw [hz, hl, hl1]
      have : p.size + 1 - (⟨#[47]⟩ : ByteArray).size = p.toList.length := by rw [size_list]; rfl
      rw [this, List.drop_left]
    · rw [if_pos rfl, hz, Nat.add_sub_cancel]
      refine (ba_ext ?_).symm
      rw [ext_to, hl, ← size_list, List.take_left]

/-- Two stars, a slash, a name. -/
theorem core_deep (p : ByteArray) (hp : IsG p) : Core ((⟨#[42, 42, 47]⟩ : ByteArray) ++ p) false true [⟨#[42, 42]⟩, p] := by
  have h47 : (47 : UInt8) ∉ p.toList := fun hm => (hp.ok _ hm).not47 rfl
  have hsz := hp.size
  have hl : ((⟨#[42, 42, 47]⟩ : ByteArray) ++ p).toList = 42 :: 42 :: 47 :: p.toList := by rw [toList_append, toList_lit]; rfl
  have hl1 : (⟨#[47]⟩ : ByteArray).toList = [47] := toList_lit _
  have hz : ((⟨#[42, 42, 47]⟩ : ByteArray) ++ p).size = p.size + 3 := by rw [← size_list, hl, ← size_list]; rfl
  have hidx : ∀ k, p.size + 4 < k → gitignore_zzIndex.f k ((⟨#[42, 42, 47]⟩ : ByteArray) ++ p) ⟨#[47]⟩ = some ((2 : Nat) : Int) := fun k hk => by
    refine idx_some _ _ (by omega) (by decide) 2 (by rw [hz]; show 2 + 1 ≤ p.size + 3; omega) ?_ ?_ k (by omega)
    · unfold At; rw [hl, hl1]; rfl
    · intro j hj ha
      unfold At at ha
      rw [hl, hl1] at ha
      match j, hj with
      | 0, _ => simp at ha
      | 1, _ => simp at ha
  have hidx2 : ∀ k, p.size + 1 < k → gitignore_zzIndex.f k p ⟨#[47]⟩ = some (-1) := fun k hk => idx_none p ⟨#[47]⟩ (by omega) (by decide) (fun j _ => by rw [hl1]; exact not_at h47 j) k hk
  have ht : Tx ((⟨#[42, 42, 47]⟩ : ByteArray) ++ p) := ⟨by omega, fun c hc => by
    rw [hl] at hc
    simp only [List.mem_cons] at hc
    rcases hc with rfl | rfl | rfl | h
    · exact ⟨⟨by decide, by decide, by decide⟩, by decide, by decide⟩
    · exact ⟨⟨by decide, by decide, by decide⟩, by decide, by decide⟩
    · exact ⟨⟨by decide, by decide, by decide⟩, by decide, by decide⟩
    · exact ⟨(hp.ok c h).gc, (hp.ok c h).not32, (hp.ok c h).not33⟩⟩
  refine ⟨_, ht.suf, ht.trim, ?_, rfl, fun e => by (cases e), ?_, ?_⟩
  · rw [suffix_val _ _ (by omega) (by decide)]
    congr 1
    refine decide_eq_false fun e => ?_
    have e2 := e.2
    rw [hz, hl, hl1, show p.size + 3 - (⟨#[47]⟩ : ByteArray).size = p.size + 2 from rfl] at e2
    have hpos : 0 < p.toList.length := by
      rcases Nat.eq_zero_or_pos p.toList.length with h | h
      · exact absurd (List.eq_nil_of_length_eq_zero h) hp.pos
      · exact h
    rw [size_list] at hpos
    obtain ⟨m, hm⟩ : ∃ m, p.size = m + 1 := ⟨p.size - 1, by omega⟩
    rw [hm, show m + 1 + 2 = m + 1 + 1 + 1 from rfl, List.drop_succ_cons, List.drop_succ_cons, List.drop_succ_cons] at e2
    have h7 : (47 : UInt8) ∈ p.toList.drop m := by rw [e2]; exact List.mem_cons_self
    exact h47 (List.mem_of_mem_drop h7)
  · unfold gitignore_zzContains.f
    rw [if_neg (by decide), hidx _ (by omega)]
    rfl
  · unfold gitignore_zzSplit.f
    rw [if_neg (by decide), split_step 99999 _ _ _ 2 (hidx _ (by omega)) (by rw [hz]; show 2 + 1 ≤ p.size + 3; omega) (by omega) (by simp)]
    have e1 : ((⟨#[42, 42, 47]⟩ : ByteArray) ++ p).extract (2 + (⟨#[47]⟩ : ByteArray).size) ((⟨#[42, 42, 47]⟩ : ByteArray) ++ p).size = p := ba_ext (by rw [ext_from, hl]; rfl)
    have e2 : ((⟨#[42, 42, 47]⟩ : ByteArray) ++ p).extract 0 2 = ⟨#[42, 42]⟩ := ba_ext (by rw [ext_to, hl]; exact (toList_lit _).symm)
    rw [e1, e2, split_last 99998 _ _ _ (hidx2 _ (by omega)) (by simp)]
    rfl

end Go.Proofs.Ytlnfkpmmnennbaa.PureI
