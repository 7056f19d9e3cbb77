/- Lines of a text: cut as the specification cuts them, and as the program does. Plain. A commit: what the specification's guard says, its text. Plain. The text of a commit. Plain. -/
import Derived.Test.YtddnepddilbikaaDoorPureN
import Derived.Test.YtddnepddilbikaaDoorQAllx7
import Derived.Test.YtddnepddilbikaaDoorQAllx12
import Derived.Shelf.Strings.Builder1
import Derived.Test.YtddnepddilbikaaDoorObjI
import Derived.Test.YtddnepddilbikaaDoorQAllx8
import Derived.Test.YtddnepddilbikaaDoorQAllx9
import Derived.Lib.Join
set_option linter.unusedVariables false
set_option linter.unusedSimpArgs false
namespace Go.Proofs.YtddnepddilbikaaDoor.PureL
open Go.RowKit Go.Proofs.YtddnepddilbikaaDoorW.PrintLast Go.Proofs.YtddnepddilbikaaDoorW.PrintMore Go.Proofs.YtddnepddilbikaaDoor.QAll Txt PureN
open Go.Proofs.YtddnepddilbikaaDoorW.PrintWords hiding nums

/-- Lines, each with its end. -/
def glue (ls : List ByteArray) : List UInt8 := (ls.map fun l => l.toList ++ [10]).flatten
theorem glue_snoc (ls : List ByteArray) (l : ByteArray) : glue (ls ++ [l]) = glue ls ++ (l.toList ++ [10]) := by
  unfold glue
  rw [List.map_append, List.flatten_append]
  simp
theorem glue_cons (ls : List ByteArray) (l : ByteArray) : glue (l :: ls) = l.toList ++ 10 :: glue ls := by
  unfold glue
  simp
theorem glue_len (ls : List ByteArray) : ls.length ≤ (glue ls).length := by
  induction ls with
  | nil => exact Nat.zero_le _
  | cons l ls ih => rw [glue_cons, List.length_append, List.length_cons, List.length_cons]; omega
theorem bt10 (s : ByteArray) (i : Nat) (h : i < s.size) : (bt s (i : Int) = 10 ↔ s.toList[i]? = some 10) := by
  obtain ⟨c, h1, _, h3⟩ := bt_at' s i h
  rw [h3, h1]
  constructor
  · intro h
    have : c = 10 := UInt8.toNat_inj.1 (by have h2 : (10 : UInt8).toNat = 10 := rfl; omega)
    rw [this]
  · intro h
    injection h with h
    subst h
    rfl
/-- Where the cutting stands: up to the place f lines have been cut, between f and i there is no end of a line. -/
theorem lines_loop (s : ByteArray) (hl : s.size ≤ 2147483647) (n : Nat) : ∀ (i f : Nat) (acc : List ByteArray), i + n = s.size → f ≤ i → s.toList.take f = glue acc → (∀ l ∈ acc, (10 : UInt8) ∉ l.toList) → (∀ j, f ≤ j → j < i → s.toList[j]? ≠ some 10) →
    ∃ LS rest, Ev (fun k => spec_Lines.l0 k s acc (f : Int) (s.size : Int) (i : Int)) LS ∧ s.toList = glue LS ++ rest ∧ (∀ l ∈ LS, (10 : UInt8) ∉ l.toList) ∧ (10 : UInt8) ∉ rest := by
  induction n with
  | zero =>
    intro i f acc hi hf hg hn hs
    refine ⟨acc, s.toList.drop f, ev_now (fun m => by rw [spec_Lines.l0, if_neg (by omega)]), by rw [← hg, List.take_append_drop], hn, fun hm => ?_⟩
    obtain ⟨j, hj⟩ := List.mem_iff_getElem?.1 hm
    rw [List.getElem?_drop] at hj
    have hjl := (List.getElem?_eq_some_iff.1 hj).1
    rw [size_list] at hjl
    exact hs (f + j) (by omega) (by omega) hj
  | succ n ih =>
    intro i f acc hi hf hg hn hs
    have hw : wrap64 ((i : Int) + 1) = ((i + 1 : Nat) : Int) := by unfold wrap64; omega
    have hacc : acc.length ≤ s.size := by
      have h1 := glue_len acc
      rw [← hg, List.length_take, size_list] at h1
      omega
    by_cases q : s.toList[i]? = some 10
    · have hq := (bt10 s i (by omega)).2 q
      have hil : i < s.toList.length := by rw [size_list]; omega
      have hel : (s.extract f i).toList = (s.toList.drop f).take (i - f) := ext_mid s f i
      have hno : (10 : UInt8) ∉ (s.extract f i).toList := by
        rw [hel]
        intro hm
        obtain ⟨j, hj⟩ := List.mem_iff_getElem?.1 hm
        rw [List.getElem?_take] at hj
        split at hj
        · rename_i hji
          rw [List.getElem?_drop] at hj
          exact hs (f + j) (by omega) (by omega) hj
        · cases hj
      obtain ⟨LS, rest, h1, h2, h3, h4⟩ := ih (i + 1) (i + 1) (acc ++ [s.extract f i]) (by omega) (Nat.le_refl _) (by
        rw [glue_snoc, ← hg, hel, List.take_succ_eq_append_getElem hil, (List.getElem?_eq_some_iff.1 q).2, ← List.append_assoc]
        congr 1
        have e : s.toList.take i = s.toList.take (f + (i - f)) := by rw [show f + (i - f) = i by omega]
        rw [e, List.take_add]) (by
        intro l hm
        rcases List.mem_append.1 hm with hm | hm
        · exact hn l hm
        · rw [List.mem_singleton] at hm
          subst hm
          exact hno) (fun j h1 h2 => by omega)
      refine ⟨LS, rest, ev_round h1 (fun m hm => ?_), h2, h3, h4⟩
      rw [spec_Lines.l0, if_pos (by omega), if_pos (by omega), if_pos (by omega), if_pos hq, if_pos (by omega), if_pos (by omega), if_pos (by omega), if_pos (by omega), hw, Int.toNat_natCast, Int.toNat_natCast]
      exact hm
    · have hq : ¬ bt s (i : Int) = 10 := fun h => q ((bt10 s i (by omega)).1 h)
      obtain ⟨LS, rest, h1, h2, h3, h4⟩ := ih (i + 1) f acc (by omega) (by omega) hg hn (fun j h1 h2 => by
        by_cases e : j = i
        · rw [e]; exact q
        · exact hs j h1 (by omega))
      refine ⟨LS, rest, ev_round h1 (fun m hm => ?_), h2, h3, h4⟩
      rw [spec_Lines.l0, if_pos (by omega), if_pos (by omega), if_pos (by omega), if_neg hq, hw]
      exact hm
theorem lines_f (s : ByteArray) (hl : s.size ≤ 2147483647) : ∃ LS rest, Ev (fun k => spec_Lines.f k s) LS ∧ s.toList = glue LS ++ rest ∧ (∀ l ∈ LS, (10 : UInt8) ∉ l.toList) ∧ (10 : UInt8) ∉ rest :=
  lines_loop s hl s.size 0 0 [] (by omega) (Nat.le_refl _) rfl (fun l hm => by cases hm) (fun j h1 h2 => by omega)

/-! ### the program's cutting -/
def nl : ByteArray := ⟨#[10]⟩
theorem nl_list : nl.toList = [10] := toList_lit _
theorem one_at (s : ByteArray) (i : Nat) (h : i < s.size) : ((s.extract i (i + 1)).toList = nl.toList ↔ s.toList[i]? = some 10) := by
  have hil : i < s.toList.length := by rw [size_list]; exact h
  rw [ext_mid, nl_list, show i + 1 - i = 1 by omega, List.drop_eq_getElem_cons hil, List.take_succ_cons, List.take_zero, List.getElem?_eq_getElem hil]
  constructor
  · intro h; injection h with h; rw [h]
  · intro h; injection h with h; rw [h]
theorem index_loop (s : ByteArray) (hl : s.size ≤ 2147483647) (n : Nat) : ∀ i, i + n = s.size → (∃ j, i ≤ j ∧ s.toList[j]? = some 10 ∧ (∀ t, i ≤ t → t < j → s.toList[t]? ≠ some 10) ∧ Ev (fun k => object_zzIndex.l0 k s nl (i : Int)) (j : Int)) ∨ ((∀ t, i ≤ t → s.toList[t]? ≠ some 10) ∧ Ev (fun k => object_zzIndex.l0 k s nl (i : Int)) (-1)) := by
  have hn : (nl.size : Int) = 1 := rfl
  induction n with
  | zero =>
    intro i hi
    refine Or.inr ⟨fun t ht hx => ?_, ev_now (fun m => ?_)⟩
    · have := (List.getElem?_eq_some_iff.1 hx).1
      rw [size_list] at this
      omega
    · have hw : wrap64 ((i : Int) + (nl.size : Int)) = (i : Int) + 1 := by rw [hn]; unfold wrap64; omega
      rw [object_zzIndex.l0, hw, if_neg (by omega)]
  | succ n ih =>
    intro i hi
    have hw : wrap64 ((i : Int) + (nl.size : Int)) = (i : Int) + 1 := by rw [hn]; unfold wrap64; omega
    have hw1 : wrap64 ((i : Int) + 1) = ((i + 1 : Nat) : Int) := by unfold wrap64; omega
    have ht1 : ((i : Int) + 1).toNat = i + 1 := by omega
    by_cases q : s.toList[i]? = some 10
    · refine Or.inl ⟨i, Nat.le_refl _, q, fun t h1 h2 => by omega, ev_now (fun m => ?_)⟩
      rw [object_zzIndex.l0, hw, if_pos (by omega), if_pos (by omega), if_pos (by omega), Int.toNat_natCast, ht1, if_pos ((one_at s i (by omega)).2 q)]
    · have hne : ¬ (s.extract i (i + 1)).toList = nl.toList := fun h => q ((one_at s i (by omega)).1 h)
      have st : ∀ m v, object_zzIndex.l0 m s nl ((i + 1 : Nat) : Int) = some v → object_zzIndex.l0 (m + 1) s nl (i : Int) = some v := fun m v hm => by
        rw [object_zzIndex.l0, hw, if_pos (by omega), if_pos (by omega), if_pos (by omega), Int.toNat_natCast, ht1, if_neg hne, hw1]
        exact hm
      rcases ih (i + 1) (by omega) with ⟨j, h1, h2, h3, h4⟩ | ⟨h1, h2⟩
      · refine Or.inl ⟨j, by omega, h2, fun t k1 k2 => ?_, ev_round h4 (fun m hm => st m _ hm)⟩
        by_cases e : t = i
        · rw [e]; exact q
        · exact h3 t (by omega) k2
      · refine Or.inr ⟨fun t k1 => ?_, ev_round h2 (fun m hm => st m _ hm)⟩
        by_cases e : t = i
        · rw [e]; exact q
        · exact h1 t (by omega)
theorem index_at (s : ByteArray) (hl : s.size ≤ 2147483647) (a b : List UInt8) (h : s.toList = a ++ 10 :: b) (ha : (10 : UInt8) ∉ a) : Ev (fun k => object_zzIndex.f k s nl) (a.length : Int) := by
  have hat : s.toList[a.length]? = some 10 := by rw [h, List.getElem?_append_right (Nat.le_refl _), Nat.sub_self]; rfl
  rcases index_loop s hl s.size 0 (by omega) with ⟨j, _, h2, h3, h4⟩ | ⟨h1, _⟩
  · have hj : j = a.length := by
      rcases Nat.lt_trichotomy j a.length with q | q | q
      · rw [h, List.getElem?_append_left q] at h2
        exact absurd (List.mem_of_getElem? h2) ha
      · exact q
      · exact absurd hat (h3 a.length (Nat.zero_le _) q)
    rw [hj] at h4
    exact h4
  · exact absurd hat (h1 a.length (Nat.zero_le _))
theorem index_none (s : ByteArray) (hl : s.size ≤ 2147483647) (h : (10 : UInt8) ∉ s.toList) : Ev (fun k => object_zzIndex.f k s nl) (-1) := by
  rcases index_loop s hl s.size 0 (by omega) with ⟨j, _, h2, _, _⟩ | ⟨_, h2⟩
  · exact absurd (List.mem_of_getElem? h2) h
  · exact h2
/-- Lines with ends between them. -/
def inter : List ByteArray → List UInt8
  | [] => []
  | [l] => l.toList
  | l :: m :: ls => l.toList ++ 10 :: inter (m :: ls)
theorem glue_inter : ∀ (ls : List ByteArray), ls ≠ [] → glue ls = inter ls ++ [10]
  | [], h => absurd rfl h
  | [l], _ => by rw [glue_cons]; rfl
  | l :: m :: ls, _ => by
    rw [glue_cons, glue_inter (m :: ls) (by simp)]
    show _ = (l.toList ++ 10 :: inter (m :: ls)) ++ [10]
    simp
theorem split_loop : ∀ (ls : List ByteArray) (s : ByteArray) (acc : List ByteArray), s.size ≤ 2147483647 → acc.length + ls.length ≤ 2147483647 → ls ≠ [] → s.toList = inter ls → (∀ l ∈ ls, (10 : UInt8) ∉ l.toList) → Ev (fun k => object_zzSplit.l0 k s nl acc) (acc ++ ls)
  | [], _, _, _, _, h, _, _ => absurd rfl h
  | [l], s, acc, hl, ha, _, hs, hn => by
    have e : s = l := ba_ext hs
    subst e
    obtain ⟨K, hK⟩ := index_none s hl (hn s (List.mem_singleton.2 rfl))
    refine ⟨K + 1, fun k hk => ?_⟩
    obtain ⟨m, rfl⟩ : ∃ m, k = m + 1 := ⟨k - 1, by omega⟩
    show object_zzSplit.l0 (m + 1) s nl acc = _
    rw [object_zzSplit.l0, show object_zzIndex.f m s nl = _ from hK m (by omega), Option.bind_some, if_pos (by decide), if_pos (by simp at ha; omega)]
  | l :: l2 :: ls, s, acc, hl, ha, _, hs, hn => by
    have hs' : s.toList = l.toList ++ 10 :: inter (l2 :: ls) := hs
    obtain ⟨K, hK⟩ := index_at s hl l.toList (inter (l2 :: ls)) hs' (hn l (List.mem_cons_self ..))
    have hsz : s.size = l.size + 1 + (inter (l2 :: ls)).length := by
      rw [← size_list, hs', List.length_append, List.length_cons, size_list]
      omega
    rw [size_list] at hK
    have hn1 : (nl.size : Int) = 1 := rfl
    have hw : wrap64 ((l.size : Int) + (nl.size : Int)) = ((l.size + 1 : Nat) : Int) := by rw [hn1]; unfold wrap64; omega
    have e1 : s.extract 0 l.size = l := ba_ext (by
      rw [ext_to, hs', ← size_list, List.take_left])
    have e2 : (s.extract (l.size + 1) s.size).toList = inter (l2 :: ls) := by
      rw [ext_from, hs']
      have : (l.toList ++ 10 :: inter (l2 :: ls)) = (l.toList ++ [10]) ++ inter (l2 :: ls) := by simp
      rw [this]
      have hlen : (l.toList ++ [(10 : UInt8)]).length = l.size + 1 := by rw [List.length_append, size_list]; rfl
      rw [← hlen, List.drop_left]
    have hIH := split_loop (l2 :: ls) (s.extract (l.size + 1) s.size) (acc ++ [l]) (by
      rw [← size_list, e2]; omega) (by simp at ha ⊢; omega) (by simp) e2 (fun x hx => hn x (List.mem_cons_of_mem _ hx))
    rw [List.append_assoc] at hIH
    obtain ⟨K2, hK2⟩ := hIH
    refine ⟨K + K2 + 1, fun k hk => ?_⟩
    obtain ⟨m, rfl⟩ : ∃ m, k = m + 1 := ⟨k - 1, by omega⟩
    show object_zzSplit.l0 (m + 1) s nl acc = _
    rw [object_zzSplit.l0, show object_zzIndex.f m s nl = _ from hK m (by omega), Option.bind_some, if_neg (by omega), if_pos (by omega), if_pos (by omega), if_pos (by simp at ha; omega), hw, if_pos (by omega), if_pos (by omega), Int.toNat_natCast, Int.toNat_natCast, e1]
    exact hK2 m (by omega)
theorem split_f (ls : List ByteArray) (s : ByteArray) (hl : s.size ≤ 2147483647) (ha : ls.length ≤ 2147483647) (h0 : ls ≠ []) (hs : s.toList = inter ls) (hn : ∀ l ∈ ls, (10 : UInt8) ∉ l.toList) : Ev (fun k => object_zzSplit.f k s nl) ls := by
  have := split_loop ls s [] hl (by simpa using ha) h0 hs hn
  rwa [List.nil_append] at this
theorem trim_f (s t : ByteArray) (hl : s.size ≤ 2147483647) (h : s.toList = t.toList ++ [10]) : strings_TrimSuffix.f s nl = some t := by
  have hsz : s.size = t.size + 1 := by rw [← size_list, h, List.length_append, size_list]; rfl
  have hn1 : (nl.size : Int) = 1 := rfl
  have hw : wrap64 ((s.size : Int) - (nl.size : Int)) = (t.size : Int) := by rw [hn1]; unfold wrap64; omega
  have e1 : (s.extract t.size s.size).toList = [10] := by rw [ext_from, h, ← size_list, List.drop_left]
  have e2 : s.extract 0 t.size = t := ba_ext (by rw [ext_to, h, ← size_list, List.take_left])
  have hs : stringslite_HasSuffix.f s nl = some true := by
    unfold stringslite_HasSuffix.f
    rw [if_pos (by rw [hn1]; omega), hw, if_pos (by omega), if_pos (by omega), Int.toNat_natCast, e1, nl_list]
    rfl
  unfold strings_TrimSuffix.f stringslite_TrimSuffix.f
  rw [hs, Option.bind_some, if_pos rfl, hw, if_pos (by omega), if_pos (by omega), Int.toNat_natCast, e2]
  rfl
end Go.Proofs.YtddnepddilbikaaDoor.PureL

set_option linter.unusedVariables false
set_option linter.unusedSimpArgs false
namespace Go.Proofs.YtddnepddilbikaaDoor.PureC
open Go.RowKit Go.Proofs.YtddnepddilbikaaDoorW.PrintLast Go.Proofs.YtddnepddilbikaaDoorW.PrintMore Go.Proofs.YtddnepddilbikaaDoor.QAll Txt PureN PureL SrtL ObjC ObjD ObjE ObjH ObjI
open Go.Proofs.YtddnepddilbikaaDoorW.PrintWords hiding nums

theorem line_len (ls : List ByteArray) (l : ByteArray) (h : l ∈ ls) : l.size < (glue ls).length := by
  induction ls with
  | nil => cases h
  | cons m ls ih =>
    rw [glue_cons, List.length_append, List.length_cons]
    rcases List.mem_cons.1 h with rfl | h
    · rw [size_list]; omega
    · have := ih h; omega
theorem sign_loop (s : ByteArray) (hs0 : 0 < s.size) (hl : s.size ≤ 100000) (LS : List ByteArray) (hg : (glue LS).length ≤ s.size) (n : Nat) : ∀ i, i + n = LS.length → ∃ b, Ev (fun k => spec_IsSign.l0 k s LS (LS.length : Int) (i : Int)) b ∧ (b = true → s.toList[s.size - 1]? = some 10) := by
  induction n with
  | zero =>
    intro i h
    have hw : wrap64 ((s.size : Int) - 1) = ((s.size - 1 : Nat) : Int) := by unfold wrap64; omega
    refine ⟨(bt s ((s.size - 1 : Nat) : Int) == 10), ev_now (fun m => by rw [spec_IsSign.l0, if_neg (by omega), hw, if_pos (by omega), if_pos (by omega)]), fun hb => ?_⟩
    rw [beq_iff_eq] at hb
    exact (bt10 s (s.size - 1) (by omega)).1 hb
  | succ n ih =>
    intro i h
    have hil : i < LS.length := by omega
    have hll := glue_len LS
    have hw : wrap64 ((i : Int) + 1) = ((i + 1 : Nat) : Int) := by unfold wrap64; omega
    have hr : rdOf ByteArray.empty LS (i : Int) = LS[i] := rdS LS i hil
    have hlen := line_len LS LS[i] (List.getElem_mem hil)
    obtain ⟨b0, ⟨K0, e0⟩, g0⟩ := ih (i + 1) (by omega)
    obtain ⟨b1, K1, e1⟩ := has_f LS[i] 0 (by omega)
    obtain ⟨b2, K2, e2⟩ := has_f LS[i] 13 (by omega)
    have inner : ∀ m, K0 + K1 + K2 ≤ m → ((spec_Has.f m LS[i] 0).bind fun t178 => (if t178 = true then (some false) else ((spec_Has.f m LS[i] 13).bind fun t179 => (if t179 = true then (some false) else (spec_IsSign.l0 m s LS (LS.length : Int) (wrap64 ((i : Int) + 1))))))) = some (if b1 = true then false else if b2 = true then false else b0) := fun m hm => by
      rw [show spec_Has.f m LS[i] 0 = _ from e1 m (by omega), Option.bind_some]
      cases b1 with
      | true => rfl
      | false =>
      rw [if_neg (by simp), if_neg (by simp), show spec_Has.f m LS[i] 13 = _ from e2 m (by omega), Option.bind_some]
      cases b2 with
      | true => rfl
      | false =>
      rw [if_neg (by simp), if_neg (by simp), hw]
      exact e0 m (by omega)
    have gi : (if b1 = true then false else if b2 = true then false else b0) = true → s.toList[s.size - 1]? = some 10 := fun hb => by
      cases b1 with
      | true => simp at hb
      | false =>
      cases b2 with
      | true => simp at hb
      | false => exact g0 (by simpa using hb)
    by_cases q0 : LS[i].toList = ([] : List UInt8)
    · by_cases q1 : (i : Int) = 0
      · exact ⟨false, ev_now (fun m => by rw [spec_IsSign.l0, if_pos (by omega), if_pos (by omega), if_pos (by omega), hr, if_pos q0, if_pos q1]), fun z => by cases z⟩
      · refine ⟨(if b1 = true then false else if b2 = true then false else b0), ⟨K0 + K1 + K2 + 1, fun k hk => ?_⟩, gi⟩
        obtain ⟨m, rfl⟩ : ∃ m, k = m + 1 := ⟨k - 1, by omega⟩
        show spec_IsSign.l0 (m + 1) s LS _ _ = _
        rw [spec_IsSign.l0, if_pos (by omega), if_pos (by omega), if_pos (by omega), hr, if_pos q0, if_neg q1]
        exact inner m (by omega)
    · have hp : 0 < LS[i].size := by rw [← size_list]; exact List.length_pos_iff.2 q0
      by_cases q1 : bt LS[i] 0 = 32
      · exact ⟨false, ev_now (fun m => by rw [spec_IsSign.l0, if_pos (by omega), if_pos (by omega), if_pos (by omega), hr, if_neg q0, if_pos (by omega), if_pos q1]), fun z => by cases z⟩
      · refine ⟨(if b1 = true then false else if b2 = true then false else b0), ⟨K0 + K1 + K2 + 1, fun k hk => ?_⟩, gi⟩
        obtain ⟨m, rfl⟩ : ∃ m, k = m + 1 := ⟨k - 1, by omega⟩
        show spec_IsSign.l0 (m + 1) s LS _ _ = _
        rw [spec_IsSign.l0, if_pos (by omega), if_pos (by omega), if_pos (by omega), hr, if_neg q0, if_pos (by omega), if_neg q1]
        exact inner m (by omega)
/-- What a signature may be: nothing, or lines. -/
def Sn (s : ByteArray) (LS : List ByteArray) : Prop := (s = ⟨#[]⟩ ∧ LS = []) ∨ (s ≠ ⟨#[]⟩ ∧ LS ≠ [])
theorem sign_f (s : ByteArray) (hl : s.size ≤ 2147483647) : ∃ b, Ev (fun k => spec_IsSign.f k s) b ∧ (b = true → s.size ≤ 100000 ∧ ∃ LS, Sn s LS ∧ Ev (fun k => spec_Lines.f k s) LS ∧ s.toList = glue LS ∧ ∀ l ∈ LS, (10 : UInt8) ∉ l.toList) := by
  obtain ⟨LS, rest, ⟨K, hK⟩, h2, h3, h4⟩ := lines_f s hl
  by_cases q0 : s.toList = ([] : List UInt8)
  · refine ⟨true, ⟨0, fun k _ => by show spec_IsSign.f k s = _; unfold spec_IsSign.f; rw [if_pos q0]⟩, fun _ => ?_⟩
    have hg : glue LS = [] := by
      rw [q0] at h2
      exact (List.append_eq_nil_iff.1 h2.symm).1
    have hL : LS = [] := by
      have := glue_len LS
      rw [hg] at this
      exact List.eq_nil_of_length_eq_zero (by simpa using this)
    have hsz : s.size = 0 := size_nil q0
    exact ⟨by omega, LS, Or.inl ⟨ba_ext (q0.trans (toList_lit #[]).symm), hL⟩, ⟨K, hK⟩, by rw [q0, hg], h3⟩
  · have hp : 0 < s.size := by rw [← size_list]; exact List.length_pos_iff.2 q0
    by_cases q1 : (s.size : Int) > 100000
    · exact ⟨false, ⟨0, fun k _ => by show spec_IsSign.f k s = _; unfold spec_IsSign.f; rw [if_neg q0, if_pos q1]⟩, fun z => by cases z⟩
    · have hlen : (glue LS).length ≤ s.size := by rw [← size_list, h2, List.length_append]; omega
      obtain ⟨b, ⟨K2, hK2⟩, hb⟩ := sign_loop s hp (by omega) LS hlen LS.length 0 (by omega)
      refine ⟨b, ⟨K + K2, fun k hk => ?_⟩, fun z => ?_⟩
      · show spec_IsSign.f k s = _
        unfold spec_IsSign.f
        rw [if_neg q0, if_neg q1, show spec_Lines.f k s = _ from hK k (by omega), Option.bind_some]
        exact hK2 k (by omega)
      · have hlast := hb z
        have hr : rest = [] := by
          rcases List.eq_nil_or_concat rest with h | ⟨r, x, h⟩
          · exact h
          · exfalso
            rw [List.concat_eq_append] at h
            rw [h, ← List.append_assoc] at h2
            have hsz : s.size - 1 = (glue LS ++ r).length := by
              rw [← size_list, h2, List.length_append, List.length_append]
              simp
            rw [h2, hsz, List.getElem?_append_right (Nat.le_refl _), Nat.sub_self] at hlast
            injection hlast with hlast
            exact h4 (by rw [h, hlast]; simp)
        rw [hr, List.append_nil] at h2
        refine ⟨by omega, LS, Or.inr ⟨fun e => ?_, fun e => ?_⟩, ⟨K, hK⟩, h2, h3⟩
        · rw [e] at q0
          exact q0 (toList_lit #[])
        · rw [e] at h2
          exact q0 h2
theorem fits16_loop (l : List ByteArray) (hl : l.length ≤ 2147483647) (n : Nat) : ∀ i, i + n = l.length → ∃ b, Ev (fun k => laws_zzFits16.l0 k l (l.length : Int) (i : Int)) b ∧ (b = true → ∀ s ∈ l.drop i, s.size ≤ 2147483647) := by
  induction n with
  | zero =>
    intro i h
    exact ⟨true, ev_now (fun m => by rw [laws_zzFits16.l0, if_neg (by omega)]), fun _ s hs => by rw [List.drop_of_length_le (by omega)] at hs; cases hs⟩
  | succ n ih =>
    intro i h
    have hil : i < l.length := by omega
    have hw : wrap64 ((i : Int) + 1) = ((i + 1 : Nat) : Int) := by unfold wrap64; omega
    have hr : rdOf ByteArray.empty l (i : Int) = l[i] := rdS l i hil
    obtain ⟨b, hb, g⟩ := ih (i + 1) (by omega)
    by_cases q : (l[i].size : Int) > 2147483647
    · exact ⟨false, ev_now (fun m => by rw [laws_zzFits16.l0, if_pos (by omega), if_pos (by omega), if_pos (by omega), hr, if_pos q]), fun z => by cases z⟩
    · refine ⟨b, ev_round hb (fun m hm => by rw [laws_zzFits16.l0, if_pos (by omega), if_pos (by omega), if_pos (by omega), hr, if_neg q, hw]; exact hm), fun z s hs => ?_⟩
      rw [List.drop_eq_getElem_cons hil] at hs
      rcases List.mem_cons.1 hs with rfl | hs
      · omega
      · exact g z s hs
theorem fits16_f (l : List ByteArray) : ∃ b, Ev (fun k => laws_zzFits16.f k l) b ∧ (b = true → l.length ≤ 2147483647 ∧ ∀ s ∈ l, s.size ≤ 2147483647) := by
  by_cases q : (l.length : Int) > 2147483647
  · exact ⟨false, ⟨0, fun k _ => by show laws_zzFits16.f k l = _; unfold laws_zzFits16.f; rw [if_pos q]⟩, fun z => by cases z⟩
  · obtain ⟨b, ⟨K, hK⟩, g⟩ := fits16_loop l (by omega) l.length 0 (by omega)
    exact ⟨b, ⟨K, fun k hk => by show laws_zzFits16.f k l = _; unfold laws_zzFits16.f; rw [if_neg q]; exact hK k hk⟩, fun z => ⟨by omega, fun s hs => g z s (by simpa using hs)⟩⟩
theorem fits22_f (nm em : ByteArray) (a z : Int) : ∃ b, laws_zzFits22.f nm em a z = some b ∧ (b = true → nm.size ≤ 2147483647 ∧ em.size ≤ 2147483647) := by
  unfold laws_zzFits22.f
  by_cases c2 : (nm.size : Int) > 2147483647
  · exact ⟨false, by rw [if_pos c2], fun h => by cases h⟩
  by_cases c3 : (em.size : Int) > 2147483647
  · exact ⟨false, by rw [if_neg c2, if_pos c3], fun h => by cases h⟩
  · exact ⟨true, by rw [if_neg c2, if_neg c3], fun _ => by omega⟩
/-- Sizes that are let in. -/
structure Fit (th : ByteArray) (ps : List ByteArray) (an ae cn ce mt pgp enc msg : ByteArray) : Prop where
  t : th.size ≤ 2147483647
  pl : ps.length ≤ 2147483647
  p : ∀ s ∈ ps, s.size ≤ 2147483647
  an : an.size ≤ 2147483647
  ae : ae.size ≤ 2147483647
  cn : cn.size ≤ 2147483647
  ce : ce.size ≤ 2147483647
  g : pgp.size ≤ 2147483647
theorem fits_f (th : ByteArray) (ps : List ByteArray) (an ae cn ce mt pgp enc msg : ByteArray) (aw az cw cz : Int) : ∃ b, Ev (fun k => laws_zzFits23.f k th ps an ae aw az cn ce cw cz mt pgp enc msg) b ∧ (b = true → Fit th ps an ae cn ce mt pgp enc msg) := by
  obtain ⟨b1, ⟨K, e1⟩, g1⟩ := fits16_f ps
  obtain ⟨b2, e2, g2⟩ := fits22_f an ae aw az
  obtain ⟨b3, e3, g3⟩ := fits22_f cn ce cw cz
  by_cases c0 : (th.size : Int) > 2147483647
  · exact ⟨false, ⟨0, fun k _ => by show laws_zzFits23.f k _ _ _ _ _ _ _ _ _ _ _ _ _ _ = _; unfold laws_zzFits23.f; rw [if_pos c0]⟩, fun z => by cases z⟩
  have st : ∀ k, K ≤ k → laws_zzFits23.f k th ps an ae aw az cn ce cw cz mt pgp enc msg = some (if b1 = true then if b2 = true then if b3 = true then (if (mt.size : Int) > 2147483647 then false else if (pgp.size : Int) > 2147483647 then false else if (enc.size : Int) > 2147483647 then false else if (msg.size : Int) > 2147483647 then false else true) else false else false else false) := fun k hk => by
    unfold laws_zzFits23.f
    rw [if_neg c0, show laws_zzFits16.f k ps = _ from e1 k hk, Option.bind_some, e2, e3]
    cases b1 <;> cases b2 <;> cases b3 <;> try rfl
    rw [if_pos rfl, Option.bind_some, if_pos rfl, Option.bind_some, if_pos rfl, if_pos rfl, if_pos rfl, if_pos rfl]
    by_cases q1 : (mt.size : Int) > 2147483647
    · rw [if_pos q1, if_pos q1]
    by_cases q2 : (pgp.size : Int) > 2147483647
    · rw [if_neg q1, if_neg q1, if_pos q2, if_pos q2]
    by_cases q3 : (enc.size : Int) > 2147483647
    · rw [if_neg q1, if_neg q1, if_neg q2, if_neg q2, if_pos q3, if_pos q3]
    by_cases q4 : (msg.size : Int) > 2147483647
    · rw [if_neg q1, if_neg q1, if_neg q2, if_neg q2, if_neg q3, if_neg q3, if_pos q4, if_pos q4]
    · rw [if_neg q1, if_neg q1, if_neg q2, if_neg q2, if_neg q3, if_neg q3, if_neg q4, if_neg q4]
  refine ⟨_, ⟨K, st⟩, fun z => ?_⟩
  cases b1 with
  | false => simp at z
  | true =>
  cases b2 with
  | false => simp at z
  | true =>
  cases b3 with
  | false => simp at z
  | true =>
  rw [if_pos rfl, if_pos rfl, if_pos rfl] at z
  by_cases q1 : (mt.size : Int) > 2147483647
  · rw [if_pos q1] at z; cases z
  by_cases q2 : (pgp.size : Int) > 2147483647
  · rw [if_neg q1, if_pos q2] at z; cases z
  exact ⟨by omega, (g1 rfl).1, (g1 rfl).2, (g2 rfl).1, (g2 rfl).2, (g3 rfl).1, (g3 rfl).2, by omega⟩
/-- A commit that may be written. -/
structure Cm (th : ByteArray) (ps : List ByteArray) (an ae : ByteArray) (aw az : Int) (cn ce : ByteArray) (cw cz : Int) (mt pgp enc msg : ByteArray) (LS : List ByteArray) : Prop where
  p : ∀ s ∈ ps, Nm40 s
  pl : ps.length ≤ 1000
  m : msg.size ≤ 1000000
  t : Nm40 th
  a : Who an ae aw az
  c : Who cn ce cw cz
  mt : mt = ⟨#[]⟩
  e : enc = ⟨#[]⟩ ∨ enc = ⟨#[85, 84, 70, 45, 56]⟩
  g : pgp.size ≤ 100000
  sn : Sn pgp LS
  l : Ev (fun k => spec_Lines.f k pgp) LS
  gl : pgp.toList = glue LS
  no : ∀ l ∈ LS, (10 : UInt8) ∉ l.toList
theorem commit_loop (th : ByteArray) (ps : List ByteArray) (an ae cn ce mt pgp enc msg : ByteArray) (aw az cw cz : Int) (hf : Fit th ps an ae cn ce mt pgp enc msg) (n : Nat) : ∀ i, i + n = ps.length → ∃ b, Ev (fun k => spec_IsCommit.l0 k ps (ps.length : Int) (i : Int) th ps an ae aw az cn ce cw cz mt pgp enc msg) b ∧ (b = true → (∀ s ∈ ps.drop i, Nm40 s) ∧ ∃ LS, (∀ s ∈ ps, Nm40 s) → Cm th ps an ae aw az cn ce cw cz mt pgp enc msg LS) := by
  induction n with
  | succ n ih =>
    intro i h
    have hil : i < ps.length := by omega
    have hpl := hf.pl
    have hw : wrap64 ((i : Int) + 1) = ((i + 1 : Nat) : Int) := by unfold wrap64; omega
    have hr : rdOf ByteArray.empty ps (i : Int) = ps[i] := rdS ps i hil
    obtain ⟨b, ⟨K, hb⟩, g⟩ := ih (i + 1) (by omega)
    obtain ⟨b1, ⟨K1, e1⟩, g1⟩ := name_f ps[i] (hf.p _ (List.getElem_mem hil))
    refine ⟨(if b1 = true then b else false), ⟨K + K1 + 1, fun k hk => ?_⟩, fun z => ?_⟩
    · obtain ⟨m, rfl⟩ : ∃ m, k = m + 1 := ⟨k - 1, by omega⟩
      show spec_IsCommit.l0 (m + 1) _ _ _ _ _ _ _ _ _ _ _ _ _ _ _ _ _ = _
      rw [spec_IsCommit.l0, if_pos (by omega), if_pos (by omega), if_pos (by omega), hr, show spec_IsName40.f m ps[i] = _ from e1 m (by omega), Option.bind_some]
      cases b1 with
      | false => rfl
      | true => rw [if_pos rfl, if_pos rfl, hw]; exact hb m (by omega)
    · cases b1 with
      | false => simp at z
      | true =>
      rw [if_pos rfl] at z
      obtain ⟨h1, h2⟩ := g z
      refine ⟨fun s hs => ?_, h2⟩
      rw [List.drop_eq_getElem_cons hil] at hs
      rcases List.mem_cons.1 hs with rfl | hs
      · exact g1 rfl
      · exact h1 s hs
  | zero =>
    intro i h
    obtain ⟨b1, ⟨K1, e1⟩, g1⟩ := name_f th hf.t
    obtain ⟨b2, ⟨K2, e2⟩, g2⟩ := who_f an ae aw az hf.an hf.ae
    obtain ⟨b3, ⟨K3, e3⟩, g3⟩ := who_f cn ce cw cz hf.cn hf.ce
    obtain ⟨b4, ⟨K4, e4⟩, g4⟩ := sign_f pgp hf.g
    obtain ⟨b5, e5, g5⟩ : ∃ b, spec_plainEncoding.f th ps an ae aw az cn ce cw cz mt pgp enc msg = some b ∧ (b = true → enc = ⟨#[]⟩ ∨ enc = ⟨#[85, 84, 70, 45, 56]⟩) := by
      unfold spec_plainEncoding.f
      by_cases q : enc.toList = ([] : List UInt8)
      · exact ⟨true, by rw [if_pos q], fun _ => Or.inl (ba_ext (q.trans (toList_lit #[]).symm))⟩
      · refine ⟨_, by rw [if_neg q], fun z => Or.inr (ba_ext ?_)⟩
        rw [beq_iff_eq] at z
        rw [z, toList_lit]
    have none_ : ∀ x : Nat, ps.drop i = [] := fun _ => List.drop_of_length_le (by omega)
    have hd : ∀ s ∈ ps.drop i, Nm40 s := fun s hs => by rw [none_ 0] at hs; cases hs
    have st : ∀ m, K1 + K2 + K3 + K4 ≤ m → spec_IsCommit.l0 (m + 1) ps (ps.length : Int) (i : Int) th ps an ae aw az cn ce cw cz mt pgp enc msg = some (if (ps.length : Int) ≤ 1000 then if (msg.size : Int) ≤ 1000000 then if b1 = true then if b2 = true then if b3 = true then if mt.toList = ([] : List UInt8) then if b5 = true then b4 else false else false else false else false else false else false else false) := fun m hm => by
      rw [spec_IsCommit.l0, if_neg (by omega)]
      by_cases q1 : (ps.length : Int) ≤ 1000
      rotate_left
      · rw [if_neg q1, if_neg q1]
      by_cases q2 : (msg.size : Int) ≤ 1000000
      rotate_left
      · rw [if_pos q1, if_pos q1, if_neg q2, if_neg q2]
      rw [if_pos q1, if_pos q1, if_pos q2, if_pos q2, show spec_IsName40.f m th = _ from e1 m (by omega), Option.bind_some]
      cases b1 with
      | false => rfl
      | true =>
      rw [if_pos rfl, if_pos rfl, show spec_IsWho.f m an ae aw az = _ from e2 m (by omega), Option.bind_some]
      cases b2 with
      | false => rfl
      | true =>
      rw [if_pos rfl, if_pos rfl, show spec_IsWho.f m cn ce cw cz = _ from e3 m (by omega), Option.bind_some]
      cases b3 with
      | false => rfl
      | true =>
      rw [if_pos rfl, if_pos rfl]
      by_cases q3 : mt.toList = ([] : List UInt8)
      rotate_left
      · rw [if_neg q3, if_neg q3]
      rw [if_pos q3, if_pos q3, e5, Option.bind_some]
      cases b5 with
      | false => rfl
      | true =>
      rw [if_pos rfl, if_pos rfl, show spec_IsSign.f m pgp = _ from e4 m (by omega), Option.bind_some]
    refine ⟨_, ⟨K1 + K2 + K3 + K4 + 1, fun k hk => by
      obtain ⟨m, rfl⟩ : ∃ m, k = m + 1 := ⟨k - 1, by omega⟩
      exact st m (by omega)⟩, fun z => ⟨hd, ?_⟩⟩
    by_cases q1 : (ps.length : Int) ≤ 1000
    rotate_left
    · rw [if_neg q1] at z; cases z
    by_cases q2 : (msg.size : Int) ≤ 1000000
    rotate_left
    · rw [if_pos q1, if_neg q2] at z; cases z
    rw [if_pos q1, if_pos q2] at z
    by_cases q3 : mt.toList = ([] : List UInt8)
    rotate_left
    · rw [if_neg q3] at z
      cases b1 <;> cases b2 <;> cases b3 <;> simp at z
    rw [if_pos q3] at z
    cases b1 with
    | false => simp at z
    | true =>
    cases b2 with
    | false => simp at z
    | true =>
    cases b3 with
    | false => simp at z
    | true =>
    cases b5 with
    | false => simp at z
    | true =>
    have z4 : b4 = true := by simpa using z
    obtain ⟨k1, LS, k2, k3, k4, k5⟩ := g4 z4
    exact ⟨LS, fun hp => ⟨hp, by omega, by omega, g1 rfl, g2 rfl, g3 rfl, ba_ext (q3.trans (toList_lit #[]).symm), g5 rfl, k1, k2, k3, k4, k5⟩⟩
theorem commit_f (th : ByteArray) (ps : List ByteArray) (an ae cn ce mt pgp enc msg : ByteArray) (aw az cw cz : Int) (hf : Fit th ps an ae cn ce mt pgp enc msg) : ∃ b, Ev (fun k => spec_IsCommit.f k th ps an ae aw az cn ce cw cz mt pgp enc msg) b ∧ (b = true → ∃ LS, Cm th ps an ae aw az cn ce cw cz mt pgp enc msg LS) := by
  obtain ⟨b, hb, g⟩ := commit_loop th ps an ae cn ce mt pgp enc msg aw az cw cz hf ps.length 0 (by omega)
  refine ⟨b, hb, fun z => ?_⟩
  obtain ⟨h1, LS, h2⟩ := g z
  exact ⟨LS, h2 (fun s hs => h1 s (by simpa using hs))⟩
end Go.Proofs.YtddnepddilbikaaDoor.PureC

set_option linter.unusedVariables false
set_option linter.unusedSimpArgs false
namespace Go.Proofs.YtddnepddilbikaaDoor.PureD
open Go.RowKit Go.Proofs.YtddnepddilbikaaDoorW.PrintLast Go.Proofs.YtddnepddilbikaaDoorW.PrintMore Go.Proofs.YtddnepddilbikaaDoor.QAll Txt PureN PureL PureC SrtL ObjC ObjD ObjE ObjH ObjI
open Go.Proofs.YtddnepddilbikaaDoorW.PrintWords hiding nums

/-- A parent's line. -/
def parL (s : ByteArray) : ByteArray := ((⟨#[112, 97, 114, 101, 110, 116, 32]⟩ : ByteArray) ++ s) ++ (⟨#[10]⟩ : ByteArray)
/-- A line of a signature. -/
def sigL (s : ByteArray) : ByteArray := ((⟨#[32]⟩ : ByteArray) ++ s) ++ (⟨#[10]⟩ : ByteArray)
def gpg : ByteArray := ⟨#[103, 112, 103, 115, 105, 103]⟩
theorem parL_size (s : ByteArray) : (parL s).size = s.size + 8 := by
  unfold parL
  rw [ByteArray.size_append, ByteArray.size_append]
  show 7 + s.size + 1 = _
  omega
theorem sigL_size (s : ByteArray) : (sigL s).size = s.size + 2 := by
  unfold sigL
  rw [ByteArray.size_append, ByteArray.size_append]
  show 1 + s.size + 1 = _
  omega
/-- The signature's lines behind x. -/
def sigF : Bool → ByteArray → List ByteArray → ByteArray
  | _, x, [] => x
  | b, x, l :: ls => sigF false ((if b = true then x ++ gpg else x) ++ sigL l) ls
theorem sigF_t (x l : ByteArray) (ls : List ByteArray) : sigF true x (l :: ls) = sigF false ((x ++ gpg) ++ sigL l) ls := by
  rw [sigF, if_pos rfl]
theorem sigF_f (x l : ByteArray) (ls : List ByteArray) : sigF false x (l :: ls) = sigF false (x ++ sigL l) ls := by
  rw [sigF, if_neg (by simp)]
theorem l1_loop (th : ByteArray) (ps : List ByteArray) (an ae cn ce mt pgp enc msg : ByteArray) (aw az cw cz : Int) (LS : List ByteArray) (hm : msg.size ≤ 1000000) (hLS : LS.length ≤ 1000000) (n : Nat) : ∀ (i : Nat) (x : ByteArray), i + n = LS.length → x.size + 2 * (glue (LS.drop i)).length + (if i = 0 then 6 else 0) ≤ 1000000000 →
    Ev (fun k => spec_CommitText.l1 k x LS (LS.length : Int) (i : Int) th ps an ae aw az cn ce cw cz mt pgp enc msg) ((sigF (i == 0) x (LS.drop i) ++ (⟨#[10]⟩ : ByteArray)) ++ msg) := by
  induction n with
  | zero =>
    intro i x h hs
    have hd : LS.drop i = [] := List.drop_of_length_le (by omega)
    rw [hd]
    have l1 : (⟨#[10]⟩ : ByteArray).size = 1 := rfl
    exact ev_now (fun m => by rw [spec_CommitText.l1, if_neg (by omega), if_pos (by omega), if_pos (by rw [ByteArray.size_append, l1]; omega)]; rfl)
  | succ n ih =>
    intro i x h hs
    have hil : i < LS.length := by omega
    have hw : wrap64 ((i : Int) + 1) = ((i + 1 : Nat) : Int) := by unfold wrap64; omega
    have hr : rdOf ByteArray.empty LS (i : Int) = LS[i] := rdS LS i hil
    have hdr : LS.drop i = LS[i] :: LS.drop (i + 1) := List.drop_eq_getElem_cons hil
    rw [hdr] at hs ⊢
    rw [glue_cons, List.length_append, List.length_cons, size_list] at hs
    generalize LS[i] = l at hr hs ⊢
    have l1 : (⟨#[10]⟩ : ByteArray).size = 1 := rfl
    have l2 : (⟨#[32]⟩ : ByteArray).size = 1 := rfl
    have l3 : (⟨#[103, 112, 103, 115, 105, 103]⟩ : ByteArray).size = 6 := rfl
    by_cases q : i = 0
    · subst q
      rw [if_pos rfl] at hs
      simp only [Nat.zero_add] at hs ⊢
      have hI := ih 1 ((x ++ gpg) ++ sigL l) (by omega) (by
        rw [if_neg (by omega), ByteArray.size_append, ByteArray.size_append, sigL_size]
        show x.size + 6 + (l.size + 2) + _ + 0 ≤ _
        omega)
      rw [show ((1 : Nat) == 0) = false from rfl] at hI
      rw [show ((0 : Nat) == 0) = true from rfl, sigF_t]
      refine ev_round hI (fun m hm => ?_)
      show spec_CommitText.l1 (m + 1) x LS _ ((0 : Nat) : Int) _ _ _ _ _ _ _ _ _ _ _ _ _ _ = _
      unfold gpg sigL at hm ⊢
      rw [spec_CommitText.l1, if_pos (by omega), if_pos (by omega), if_pos (by omega), if_pos (by omega), if_pos (by omega), hr, if_pos (by omega), if_pos (by rw [ByteArray.size_append, l2]; omega), if_pos (by simp only [ByteArray.size_append, l1, l2, l3]; omega), hw]
      exact hm
    · rw [if_neg q] at hs
      have hb : (i == 0) = false := by simp [q]
      have hI := ih (i + 1) (x ++ sigL l) (by omega) (by
        rw [if_neg (by omega), ByteArray.size_append, sigL_size]
        omega)
      have hb1 : (i + 1 == 0) = false := by simp
      rw [hb1] at hI
      rw [hb, sigF_f]
      refine ev_round hI (fun m hm => ?_)
      show spec_CommitText.l1 (m + 1) x LS _ (i : Int) _ _ _ _ _ _ _ _ _ _ _ _ _ _ = _
      unfold sigL at hm ⊢
      rw [spec_CommitText.l1, if_pos (by omega), if_pos (by omega), if_pos (by omega), if_neg (by omega), hr, if_pos (by omega), if_pos (by rw [ByteArray.size_append, l2]; omega), if_pos (by simp only [ByteArray.size_append, l1, l2]; omega), hw]
      exact hm
/-- The people's lines. -/
def whoL (a c : ByteArray) : ByteArray := ((((⟨#[97, 117, 116, 104, 111, 114, 32]⟩ : ByteArray) ++ a) ++ (⟨#[10, 99, 111, 109, 109, 105, 116, 116, 101, 114, 32]⟩ : ByteArray)) ++ c) ++ (⟨#[10]⟩ : ByteArray)
theorem l0_loop {th : ByteArray} {ps : List ByteArray} {an ae cn ce mt pgp enc msg : ByteArray} {aw az cw cz : Int} {LS : List ByteArray} (h : Cm th ps an ae aw az cn ce cw cz mt pgp enc msg LS) (n : Nat) : ∀ (i : Nat) (x : ByteArray), i + n = ps.length → x.size + n * 48 ≤ 100000 →
    Ev (fun k => spec_CommitText.l0 k x ps (ps.length : Int) (i : Int) th ps an ae aw az cn ce cw cz mt pgp enc msg) ((sigF true ((ps.drop i).foldl (fun y s => y ++ parL s) x ++ whoL (who an ae (aw + 62135596800) az) (who cn ce (cw + 62135596800) cz)) LS ++ (⟨#[10]⟩ : ByteArray)) ++ msg) := by
  have l1 : (⟨#[10]⟩ : ByteArray).size = 1 := rfl
  have l2 : (⟨#[97, 117, 116, 104, 111, 114, 32]⟩ : ByteArray).size = 7 := rfl
  have l3 : (⟨#[10, 99, 111, 109, 109, 105, 116, 116, 101, 114, 32]⟩ : ByteArray).size = 11 := rfl
  have l4 : (⟨#[112, 97, 114, 101, 110, 116, 32]⟩ : ByteArray).size = 7 := rfl
  have k1 := who_size h.a
  have k2 := who_size h.c
  have hgl : (glue LS).length ≤ 100000 := by
    have := h.g
    rw [← size_list, h.gl] at this
    exact this
  have hll := glue_len LS
  induction n with
  | zero =>
    intro i x hi hx
    have hd : ps.drop i = [] := List.drop_of_length_le (by omega)
    rw [hd, List.foldl_nil]
    obtain ⟨K, hK⟩ := h.l
    have hL1 := l1_loop th ps an ae cn ce mt pgp enc msg aw az cw cz LS h.m (by omega) LS.length 0 (x ++ whoL (who an ae (aw + 62135596800) az) (who cn ce (cw + 62135596800) cz)) (by omega) (by
      rw [if_pos rfl, List.drop_zero]
      unfold whoL
      simp only [ByteArray.size_append, l1, l2, l3]
      omega)
    rw [List.drop_zero, show ((0 : Nat) == 0) = true from rfl] at hL1
    generalize hA : who an ae (aw + 62135596800) az = wA at *
    generalize hC : who cn ce (cw + 62135596800) cz = wC at *
    have qa : spec_WhoText.f an ae aw az = some wA := by rw [← hA]; exact whoText_f h.a
    have qc : spec_WhoText.f cn ce cw cz = some wC := by rw [← hC]; exact whoText_f h.c
    clear hA hC
    obtain ⟨K2, hK2⟩ := hL1
    refine ⟨K + K2 + 1, fun k hk => ?_⟩
    obtain ⟨m, rfl⟩ : ∃ m, k = m + 1 := ⟨k - 1, by omega⟩
    dsimp only
    have hfin := hK2 m (by omega)
    dsimp only at hfin
    unfold whoL at hfin ⊢
    rw [spec_CommitText.l0, if_neg (by omega), qa, Option.bind_some, if_pos (by omega), if_pos (by rw [ByteArray.size_append, l2]; omega), qc, Option.bind_some, if_pos (by simp only [ByteArray.size_append, l2, l3]; omega), if_pos (by simp only [ByteArray.size_append, l2, l3]; omega), if_pos (by simp only [ByteArray.size_append, l1, l2, l3]; omega), show spec_Lines.f m pgp = _ from hK m (by omega), Option.bind_some]
    exact hfin
  | succ n ih =>
    intro i x hi hx
    clear k1 k2 hgl hll
    have hil : i < ps.length := by omega
    have hpl := h.pl
    have hw : wrap64 ((i : Int) + 1) = ((i + 1 : Nat) : Int) := by unfold wrap64; omega
    have hr : rdOf ByteArray.empty ps (i : Int) = ps[i] := rdS ps i hil
    have hdr : ps.drop i = ps[i] :: ps.drop (i + 1) := List.drop_eq_getElem_cons hil
    have h40 := (h.p ps[i] (List.getElem_mem hil)).1
    rw [hdr]
    generalize ps[i] = s at hr h40 ⊢
    have hI := ih (i + 1) (x ++ parL s) (by omega) (by rw [ByteArray.size_append, parL_size]; omega)
    rw [List.foldl_cons]
    refine ev_round hI (fun m hm => ?_)
    show spec_CommitText.l0 (m + 1) x ps _ (i : Int) _ _ _ _ _ _ _ _ _ _ _ _ _ _ = _
    unfold parL at hm ⊢
    rw [spec_CommitText.l0, if_pos (by omega), if_pos (by omega), if_pos (by omega), hr, if_pos (by omega), if_pos (by rw [ByteArray.size_append, l4]; omega), if_pos (by simp only [ByteArray.size_append, l1, l4]; omega), hw]
    exact hm
/-- The text of a commit. -/
def comTxt (th : ByteArray) (ps : List ByteArray) (a c : ByteArray) (LS : List ByteArray) (msg : ByteArray) : ByteArray :=
  (sigF true (ps.foldl (fun y s => y ++ parL s) (((⟨#[116, 114, 101, 101, 32]⟩ : ByteArray) ++ th) ++ (⟨#[10]⟩ : ByteArray)) ++ whoL a c) LS ++ (⟨#[10]⟩ : ByteArray)) ++ msg
theorem text_f {th : ByteArray} {ps : List ByteArray} {an ae cn ce mt pgp enc msg : ByteArray} {aw az cw cz : Int} {LS : List ByteArray} (h : Cm th ps an ae aw az cn ce cw cz mt pgp enc msg LS) :
    Ev (fun k => spec_CommitText.f k th ps an ae aw az cn ce cw cz mt pgp enc msg) (comTxt th ps (who an ae (aw + 62135596800) az) (who cn ce (cw + 62135596800) cz) LS msg) := by
  have l1 : (⟨#[10]⟩ : ByteArray).size = 1 := rfl
  have l2 : (⟨#[116, 114, 101, 101, 32]⟩ : ByteArray).size = 5 := rfl
  have h40 := h.t.1
  have hpl := h.pl
  obtain ⟨K, hK⟩ := l0_loop h ps.length 0 (((⟨#[116, 114, 101, 101, 32]⟩ : ByteArray) ++ th) ++ (⟨#[10]⟩ : ByteArray)) (by omega) (by simp only [ByteArray.size_append, l1, l2]; omega)
  refine ⟨K, fun k hk => ?_⟩
  show spec_CommitText.f k _ _ _ _ _ _ _ _ _ _ _ _ _ _ = _
  unfold spec_CommitText.f
  rw [if_pos (by omega), if_pos (by rw [ByteArray.size_append, l2]; omega)]
  exact hK k hk

/-! ### its bytes -/
theorem nums_par (ps : List ByteArray) : ∀ x : ByteArray, ObjA.nums (ps.foldl (fun y s => y ++ parL s) x) = ObjA.nums x ++ parOut ps := by
  induction ps with
  | nil => intro x; show ObjA.nums x = ObjA.nums x ++ []; rw [List.append_nil]
  | cons s ps ih =>
    intro x
    have e : parOut (s :: ps) = ObjA.nums (parL s) ++ parOut ps := by unfold parOut; simp only [List.map_cons, List.flatten_cons]; rfl
    rw [List.foldl_cons, ih, ObjA.nums_append, e, List.append_assoc]
/-- The lines of a signature, each behind a blank. -/
def sigOut (ls : List ByteArray) : List Int := (ls.map fun l => ObjA.nums (sigL l)).flatten
theorem nums_sigF (ls : List ByteArray) : ∀ x : ByteArray, ObjA.nums (sigF false x ls) = ObjA.nums x ++ sigOut ls := by
  induction ls with
  | nil => intro x; show ObjA.nums x = ObjA.nums x ++ []; rw [List.append_nil]
  | cons l ls ih =>
    intro x
    have e : sigOut (l :: ls) = ObjA.nums (sigL l) ++ sigOut ls := by unfold sigOut; simp
    show ObjA.nums (sigF false ((if false = true then x ++ gpg else x) ++ sigL l) ls) = _
    rw [ih, if_neg (by simp), ObjA.nums_append, e, List.append_assoc]
theorem nums_sigT (ls : List ByteArray) (h : ls ≠ []) (x : ByteArray) : ObjA.nums (sigF true x ls) = ObjA.nums x ++ (ObjA.nums gpg ++ sigOut ls) := by
  cases ls with
  | nil => exact absurd rfl h
  | cons l ls =>
    have e : sigOut (l :: ls) = ObjA.nums (sigL l) ++ sigOut ls := by unfold sigOut; simp
    show ObjA.nums (sigF false ((if true = true then x ++ gpg else x) ++ sigL l) ls) = _
    rw [nums_sigF, if_pos rfl, ObjA.nums_append, ObjA.nums_append, e]
    simp only [List.append_assoc]
/-- The lines as the program joins them. -/
def J (ls : List ByteArray) : ByteArray := ⟨(Lib.join (ls.map (·.data.toList)) [10, 32]).toArray⟩
theorem nums_list (s : ByteArray) : ObjA.nums s = s.toList.map (fun c => (c.toNat : Int)) := by rw [Lib.toList_data]; rfl
theorem sig_join (l : ByteArray) (ls : List ByteArray) : sigOut (l :: ls) = 32 :: (ObjA.nums (J (l :: ls)) ++ [10]) := by
  have hJ : ∀ l : ByteArray, ObjA.nums (J (l :: ls)) = ObjA.nums l ++ (Lib.joinTail [10, 32] (ls.map (·.data.toList))).map (fun c => (c.toNat : Int)) := fun l => by
    rw [nums_list]
    unfold J
    rw [toList_lit, List.map_cons, Lib.join_cons, List.map_append]
    rfl
  rw [hJ]
  clear hJ
  induction ls generalizing l with
  | nil =>
    unfold sigOut Lib.joinTail sigL
    simp only [List.map_cons, List.map_nil, List.flatten_cons, List.flatten_nil, List.append_nil, ObjA.nums_append]
    rfl
  | cons m ls ih =>
    have e : sigOut (l :: m :: ls) = ObjA.nums (sigL l) ++ sigOut (m :: ls) := by unfold sigOut; simp
    rw [e, ih]
    unfold sigL Lib.joinTail
    simp only [ObjA.nums_append, List.map_cons, List.flatten_cons, List.map_append]
    have e1 : ObjA.nums ⟨#[32]⟩ = [32] := rfl
    have e2 : ObjA.nums ⟨#[10]⟩ = [10] := rfl
    have e3 : ObjA.nums m = m.data.toList.map (fun c => (c.toNat : Int)) := rfl
    rw [e1, e2, e3]
    simp
theorem out_plain {th : ByteArray} {ps : List ByteArray} {a c msg : ByteArray} : ObjA.nums (comTxt th ps a c [] msg) = [] ++ ObjA.nums (cTree ++ th ++ tNl) ++ parOut ps ++ ObjA.nums cAuth ++ ObjA.nums a ++ ObjA.nums cComm ++ ObjA.nums c ++ ObjA.nums (cNl2 ++ msg) := by
  unfold comTxt whoL
  have e : ∀ x, sigF true x [] = x := fun x => rfl
  rw [e]
  simp only [ObjA.nums_append, nums_par, List.nil_append, List.append_assoc]
  rfl
theorem out_signed {th : ByteArray} {ps : List ByteArray} {a c msg : ByteArray} {LS : List ByteArray} (h : LS ≠ []) : ObjA.nums (comTxt th ps a c LS msg) = [] ++ ObjA.nums (cTree ++ th ++ tNl) ++ parOut ps ++ ObjA.nums cAuth ++ ObjA.nums a ++ ObjA.nums cComm ++ ObjA.nums c ++ ObjA.nums cSig ++ ObjA.nums (J LS) ++ ObjA.nums (cNl2 ++ msg) := by
  cases LS with
  | nil => exact absurd rfl h
  | cons l ls =>
    unfold comTxt whoL
    simp only [ObjA.nums_append, nums_sigT (l :: ls) h, nums_par, sig_join, List.nil_append, List.append_assoc]
    have e1 : ObjA.nums cSig = ObjA.nums ⟨#[10]⟩ ++ (ObjA.nums gpg ++ [32]) := rfl
    have e2 : ObjA.nums cNl2 = [10] ++ ObjA.nums ⟨#[10]⟩ := rfl
    rw [e1, e2]
    simp only [List.append_assoc, List.cons_append, List.nil_append]
    rfl
end Go.Proofs.YtddnepddilbikaaDoor.PureD
