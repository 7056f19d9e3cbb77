/- FnTreeSort, plain: what IsTree says; the order is one. -/
import Derived.Test.YthjgfdjihlciaaaDoorPureS
import Derived.Test.YthjgfdjihlciaaaDoorPureH
import Derived.Test.YthjgfdjihlciaaaDoorSrtO
set_option linter.unusedVariables false
set_option linter.unusedSimpArgs false
namespace Go.Proofs.YthjgfdjihlciaaaDoor.PureT
open Go.RowKit Go.Proofs.YthjgfdjihlciaaaDoorW.PrintWords Go.Proofs.YthjgfdjihlciaaaDoorW.PrintLast Go.Proofs.YthjgfdjihlciaaaDoorW.PrintMore Go.Proofs.YthjgfdjihlciaaaDoor.QAll Txt SrtK SrtL SrtM SrtN SrtO PureS PureH Go.Lib

theorem has_loop (s : ByteArray) (c : Int) (hl : s.size ≤ 2147483647) (n : Nat) : ∀ i, i + n = s.size → ∃ b, Ev (fun k => spec_Has.l0 k s c (s.size : Int) (i : Int)) b := by
  induction n with
  | zero =>
    intro i h
    exact ⟨false, ev_now (fun m => by rw [spec_Has.l0, if_neg (by omega)])⟩
  | succ n ih =>
    intro i h
    have hw : wrap64 ((i : Int) + 1) = ((i + 1 : Nat) : Int) := by unfold wrap64; omega
    obtain ⟨b, hb⟩ := ih (i + 1) (by omega)
    by_cases q : bt s (i : Int) = c
    · exact ⟨true, ev_now (fun m => by rw [spec_Has.l0, if_pos (by omega), if_pos (by omega), if_pos (by omega), if_pos q])⟩
    · exact ⟨b, ev_round hb (fun m hm => by rw [spec_Has.l0, if_pos (by omega), if_pos (by omega), if_pos (by omega), if_neg q, hw]; exact hm)⟩
theorem has_f (s : ByteArray) (c : Int) (hl : s.size ≤ 2147483647) : ∃ b, Ev (fun k => spec_Has.f k s c) b := has_loop s c hl s.size 0 (by omega)
theorem name_loop (s : ByteArray) (hl : s.size ≤ 2147483647) (n : Nat) : ∀ i, i + n = s.size → ∃ b, Ev (fun k => spec_IsName40.l0 k s (s.size : Int) (i : Int)) b ∧ (b = true → s.size = 40 ∧ ∀ j : Nat, i ≤ j → j < s.size → (48 ≤ bt s (j : Int) ∧ bt s (j : Int) ≤ 57) ∨ (97 ≤ bt s (j : Int) ∧ bt s (j : Int) ≤ 102)) := by
  induction n with
  | zero =>
    intro i h
    refine ⟨(s.size : Int) == 40, ev_now (fun m => by rw [spec_IsName40.l0, if_neg (by omega)]), fun hb => ⟨by rw [beq_iff_eq] at hb; omega, fun j h1 h2 => by omega⟩⟩
  | succ n ih =>
    intro i h
    have hw : wrap64 ((i : Int) + 1) = ((i + 1 : Nat) : Int) := by unfold wrap64; omega
    obtain ⟨b, hb, hb2⟩ := ih (i + 1) (by omega)
    have good : (48 ≤ bt s (i : Int) ∧ bt s (i : Int) ≤ 57) ∨ (97 ≤ bt s (i : Int) ∧ bt s (i : Int) ≤ 102) → b = true → s.size = 40 ∧ ∀ j : Nat, i ≤ j → j < s.size → (48 ≤ bt s (j : Int) ∧ bt s (j : Int) ≤ 57) ∨ (97 ≤ bt s (j : Int) ∧ bt s (j : Int) ≤ 102) := fun hg hq => by
      refine ⟨(hb2 hq).1, fun j h1 h2 => ?_⟩
      by_cases e : j = i
      · rw [e]; exact hg
      · exact (hb2 hq).2 j (by omega) h2
    by_cases q1 : bt s (i : Int) ≥ 48
    · by_cases q2 : bt s (i : Int) ≤ 57
      · exact ⟨b, ev_round hb (fun m hm => by rw [spec_IsName40.l0, if_pos (by omega), if_pos (by omega), if_pos (by omega), if_pos q1, if_pos q2, hw]; exact hm), good (Or.inl ⟨q1, q2⟩)⟩
      · by_cases q3 : bt s (i : Int) ≥ 97
        · by_cases q4 : bt s (i : Int) ≤ 102
          · exact ⟨b, ev_round hb (fun m hm => by rw [spec_IsName40.l0, if_pos (by omega), if_pos (by omega), if_pos (by omega), if_pos q1, if_neg q2, if_pos q3, if_pos q4, hw]; exact hm), good (Or.inr ⟨q3, q4⟩)⟩
          · exact ⟨false, ev_now (fun m => by rw [spec_IsName40.l0, if_pos (by omega), if_pos (by omega), if_pos (by omega), if_pos q1, if_neg q2, if_pos q3, if_neg q4]), fun z => by cases z⟩
        · exact ⟨false, ev_now (fun m => by rw [spec_IsName40.l0, if_pos (by omega), if_pos (by omega), if_pos (by omega), if_pos q1, if_neg q2, if_neg q3]), fun z => by cases z⟩
    · exact ⟨false, ev_now (fun m => by rw [spec_IsName40.l0, if_pos (by omega), if_pos (by omega), if_pos (by omega), if_neg q1, if_neg (by omega)]), fun z => by cases z⟩
/-- The name of an object. -/
def Nm40 (s : ByteArray) : Prop := s.size = 40 ∧ ∀ c ∈ s.data.toList, Dig c
theorem name_f (s : ByteArray) (hl : s.size ≤ 2147483647) : ∃ b, Ev (fun k => spec_IsName40.f k s) b ∧ (b = true → Nm40 s) := by
  obtain ⟨b, hb, hq⟩ := name_loop s hl s.size 0 (by omega)
  refine ⟨b, hb, fun h => ⟨(hq h).1, fun c hc => ?_⟩⟩
  obtain ⟨j, hj, e⟩ := List.mem_iff_getElem.1 hc
  have hjs : j < s.size := by rw [← data_length]; exact hj
  have h1 : s.toList[j]? = some c := by rw [Lib.toList_data, List.getElem?_eq_getElem hj, e]
  have h2 := bt_get s j c h1
  have h3 := (hq h).2 j (Nat.zero_le _) hjs
  rw [h2] at h3
  unfold Dig
  omega
theorem mode_f (m : Int) : ∃ b, spec_IsMode.f m = some b := by
  unfold spec_IsMode.f
  repeat' split
  all_goals exact ⟨_, rfl⟩
theorem entry_f (s : S28) (h0 : s.f0.size ≤ 2147483647) (h2 : s.f2.size ≤ 2147483647) : ∃ b, Ev (fun k => spec_IsEntry.f k s.f0 s.f1 s.f2) b ∧ (b = true → s.f0.size ≤ 4096 ∧ Nm40 s.f2) := by
  by_cases q0 : s.f0.toList = ([] : List UInt8)
  · exact ⟨false, ⟨0, fun k _ => by show spec_IsEntry.f k s.f0 s.f1 s.f2 = _; unfold spec_IsEntry.f; rw [if_pos q0]⟩, fun z => by cases z⟩
  by_cases q1 : (s.f0.size : Int) ≤ 4096
  rotate_left
  · exact ⟨false, ⟨0, fun k _ => by show spec_IsEntry.f k s.f0 s.f1 s.f2 = _; unfold spec_IsEntry.f; rw [if_neg q0, if_neg q1]⟩, fun z => by cases z⟩
  obtain ⟨b1, K1, h1⟩ := has_f s.f0 0 h0
  cases b1 with
  | true => exact ⟨false, ⟨K1, fun k hk => by
      show spec_IsEntry.f k s.f0 s.f1 s.f2 = _
      have e1 : spec_Has.f k s.f0 0 = some true := h1 k hk
      unfold spec_IsEntry.f
      rw [if_neg q0, if_pos q1, e1]
      rfl⟩, fun z => by cases z⟩
  | false =>
  obtain ⟨b2, K2, h2'⟩ := has_f s.f0 47 h0
  cases b2 with
  | true => exact ⟨false, ⟨K1 + K2, fun k hk => by
      show spec_IsEntry.f k s.f0 s.f1 s.f2 = _
      have e1 : spec_Has.f k s.f0 0 = some false := h1 k (by omega)
      have e2 : spec_Has.f k s.f0 47 = some true := h2' k (by omega)
      unfold spec_IsEntry.f
      rw [if_neg q0, if_pos q1, e1, e2]
      rfl⟩, fun z => by cases z⟩
  | false =>
  obtain ⟨b3, h3⟩ := mode_f s.f1
  cases b3 with
  | false => exact ⟨false, ⟨K1 + K2, fun k hk => by
      show spec_IsEntry.f k s.f0 s.f1 s.f2 = _
      have e1 : spec_Has.f k s.f0 0 = some false := h1 k (by omega)
      have e2 : spec_Has.f k s.f0 47 = some false := h2' k (by omega)
      unfold spec_IsEntry.f
      rw [if_neg q0, if_pos q1, e1, e2, h3]
      rfl⟩, fun z => by cases z⟩
  | true =>
  by_cases q4 : s.f1 = 33204
  · exact ⟨false, ⟨K1 + K2, fun k hk => by
      show spec_IsEntry.f k s.f0 s.f1 s.f2 = _
      have e1 : spec_Has.f k s.f0 0 = some false := h1 k (by omega)
      have e2 : spec_Has.f k s.f0 47 = some false := h2' k (by omega)
      unfold spec_IsEntry.f
      rw [if_neg q0, if_pos q1, e1, e2, h3]
      simp [q4]⟩, fun z => by cases z⟩
  obtain ⟨b5, ⟨K5, h5⟩, hq⟩ := name_f s.f2 h2
  refine ⟨b5, ⟨K1 + K2 + K5, fun k hk => ?_⟩, fun z => ⟨by omega, hq z⟩⟩
  show spec_IsEntry.f k s.f0 s.f1 s.f2 = _
  have e1 : spec_Has.f k s.f0 0 = some false := h1 k (by omega)
  have e2 : spec_Has.f k s.f0 47 = some false := h2' k (by omega)
  have e5 : spec_IsName40.f k s.f2 = some b5 := h5 k (by omega)
  unfold spec_IsEntry.f
  rw [if_neg q0, if_pos q1, e1, e2, h3]
  simp [q4, e5]
/-- What IsTree says of the entries from i on. -/
def From (r : List S28) (i : Nat) : Prop := ∀ j (hj : j < r.length), i ≤ j → (r[j].f0.size ≤ 4096 ∧ Nm40 r[j].f2) ∧ ∀ h : 0 < j, Op.bytesLess (keyS (r[j - 1]'(by omega))).toList (keyS r[j]).toList = true
theorem tree_loop (r : List S28) (hl : r.length ≤ 1000) (hs : ∀ s ∈ r, s.f0.size ≤ 2147483647 ∧ s.f2.size ≤ 2147483647) (n : Nat) : ∀ i, i + n = r.length → ∃ b, Ev (fun k => spec_IsTree.l0 k r r (r.length : Int) (i : Int)) b ∧ (b = true → From r i) := by
  induction n with
  | zero =>
    intro i h
    exact ⟨true, ev_now (fun m => by rw [spec_IsTree.l0, if_neg (by omega)]), fun _ j hj hij => by omega⟩
  | succ n ih =>
    intro i h
    have hi : i < r.length := by omega
    have hw : wrap64 ((i : Int) + 1) = ((i + 1 : Nat) : Int) := by unfold wrap64; omega
    obtain ⟨b, hb, hb2⟩ := ih (i + 1) (by omega)
    obtain ⟨c, hc, hc2⟩ := entry_f r[i] (hs _ (List.getElem_mem hi)).1 (hs _ (List.getElem_mem hi)).2
    cases c with
    | false =>
      obtain ⟨K, hK⟩ := hc
      refine ⟨false, ⟨K + 1, fun k hk => ?_⟩, fun z => by cases z⟩
      obtain ⟨m, rfl⟩ : ∃ m, k = m + 1 := ⟨k - 1, by omega⟩
      have e1 : spec_IsEntry.f m r[i].f0 r[i].f1 r[i].f2 = some false := hK m (by omega)
      show spec_IsTree.l0 (m + 1) r r (r.length : Int) (i : Int) = _
      rw [spec_IsTree.l0, if_pos (by omega), if_pos (by omega), if_pos (by omega), rdT28 r i hi, e1]
      rfl
    | true =>
      by_cases h0 : i = 0
      · refine ⟨b, ev_round2 hb hc (fun m hm h1 => ?_), fun hq j hj hij => ?_⟩
        · rw [spec_IsTree.l0, if_pos (by omega), if_pos (by omega), if_pos (by omega), rdT28 r i hi, h1]
          simp only [Option.bind_some, if_true]
          rw [if_neg (by omega), hw]
          exact hm
        · by_cases e : j = i
          · subst e
            exact ⟨hc2 rfl, fun h => by omega⟩
          · exact hb2 hq j hj (by omega)
      · have hw2 : wrap64 ((i : Int) - 1) = ((i - 1 : Nat) : Int) := by unfold wrap64; omega
        have hi1 : i - 1 < r.length := by omega
        by_cases q : Op.bytesLess (keyS r[i - 1]).toList (keyS r[i]).toList = true
        · refine ⟨b, ev_round2 hb hc (fun m hm h1 => ?_), fun hq j hj hij => ?_⟩
          · rw [spec_IsTree.l0, if_pos (by omega), if_pos (by omega), if_pos (by omega), rdT28 r i hi, h1]
            simp only [Option.bind_some, if_true]
            rw [if_pos (by omega), hw2, if_pos (by omega), if_pos (by omega), rdT28 r (i - 1) hi1, sortName_f (hs _ (List.getElem_mem hi1)).1, sortName_f (hs _ (List.getElem_mem hi)).1]
            simp only [Option.bind_some]
            rw [if_pos q, hw]
            exact hm
          · by_cases e : j = i
            · subst e
              exact ⟨hc2 rfl, fun h => q⟩
            · exact hb2 hq j hj (by omega)
        · obtain ⟨K, hK⟩ := hc
          refine ⟨false, ⟨K + 1, fun k hk => ?_⟩, fun z => by cases z⟩
          obtain ⟨m, rfl⟩ : ∃ m, k = m + 1 := ⟨k - 1, by omega⟩
          have e1 : spec_IsEntry.f m r[i].f0 r[i].f1 r[i].f2 = some true := hK m (by omega)
          show spec_IsTree.l0 (m + 1) r r (r.length : Int) (i : Int) = _
          rw [spec_IsTree.l0, if_pos (by omega), if_pos (by omega), if_pos (by omega), rdT28 r i hi, e1]
          simp only [Option.bind_some, if_true]
          rw [if_pos (by omega), hw2, if_pos (by omega), if_pos (by omega), rdT28 r (i - 1) hi1, sortName_f (hs _ (List.getElem_mem hi1)).1, sortName_f (hs _ (List.getElem_mem hi)).1]
          simp only [Option.bind_some]
          rw [if_neg q]
theorem tree_f (r : List S28) (hl : r.length ≤ 1000) (hs : ∀ s ∈ r, s.f0.size ≤ 2147483647 ∧ s.f2.size ≤ 2147483647) : ∃ b, Ev (fun k => spec_IsTree.f k r) b ∧ (b = true → From r 0) := by
  obtain ⟨b, ⟨K, hK⟩, h2⟩ := tree_loop r hl hs r.length 0 (by omega)
  exact ⟨b, ⟨K, fun k hk => by show spec_IsTree.f k r = _; unfold spec_IsTree.f; rw [if_neg (by omega)]; exact hK k hk⟩, h2⟩
/-- The bytes of a name make the name again. -/
theorem back {s : S28} (h : Nm40 s.f2) : plainOf (teOf s) = s ∧ (dec s.f2).length = 20 := by
  obtain ⟨e1, _, e3⟩ := enc_dec 20 s.f2.data.toList (by rw [data_length]; exact h.1) h.2
  refine ⟨?_, e3⟩
  have hl : (dec s.f2).length = 20 := e3
  have e4 : Lib.bytesOf (teOf s).hv = dec s.f2 := by
    have e5 : (teOf s).hv = (List.range 20).map (hb s.f2) := rfl
    rw [e5]
    show List.map (fun n : Int => UInt8.ofNat n.toNat) (List.map (hb s.f2) (List.range 20)) = dec s.f2
    refine List.ext_getElem (by simp [hl]) (fun i h1 h2 => ?_)
    rw [List.getElem_map, List.getElem_map, List.getElem_range]
    unfold hb
    rw [List.getElem?_eq_getElem h2]
    simp
  unfold plainOf
  rw [e4]
  have e6 : (⟨(Hx.encode (dec s.f2)).toArray⟩ : ByteArray) = s.f2 := by
    show (⟨(Hx.encode (Hx.decode s.f2.data.toList).1).toArray⟩ : ByteArray) = s.f2
    rw [e1]
  rw [e6]
  rfl
theorem strict {r : List S28} (h : From r 0) : ∀ (d i : Nat) (hj : i + d + 1 < r.length), ltT (teOf (r[i]'(by omega))) (teOf r[i + d + 1]) = true := by
  intro d
  induction d with
  | zero =>
    intro i hj
    exact (h (i + 1) hj (Nat.zero_le _)).2 (by omega)
  | succ d ih =>
    intro i hj
    exact swoT.trans _ _ _ (ih i (by omega)) ((h (i + (d + 1) + 1) hj (Nat.zero_le _)).2 (by omega))
theorem unique {l r : List S28} {ds : List TE} (hp : r.Perm l) (hd : ds.Perm (l.map teOf)) (hs : ∀ i j (hi : i < j) (hj : j < ds.length), ltT ds[j] (ds[i]'(Nat.lt_trans hi hj)) = false) (h : From r 0) : ds.map plainOf = r := by
  have hst : ∀ i j (hi : i < j) (hj : j < r.length), ltT (teOf (r[i]'(by omega))) (teOf r[j]) = true := fun i j hi hj => by
    obtain ⟨d, rfl⟩ : ∃ d, j = i + d + 1 := ⟨j - i - 1, by omega⟩
    exact strict h d i hj
  have hpw : ds.Perm (r.map teOf) := hd.trans (hp.map teOf).symm
  have e : ds = r.map teOf := by
    refine List.Perm.eq_of_pairwise (le := fun a b => ltT b a = false) (fun a b ha hb h1 h2 => ?_) (List.pairwise_iff_getElem.2 (fun i j hi hj hij => hs i j hij hj)) (List.pairwise_iff_getElem.2 (fun i j hi hj hij => ?_)) hpw
    · obtain ⟨x, hx, rfl⟩ := List.mem_map.1 (hpw.mem_iff.1 ha)
      obtain ⟨y, hy, rfl⟩ := List.mem_map.1 hb
      obtain ⟨i, hi, rfl⟩ := List.mem_iff_getElem.1 hx
      obtain ⟨j, hj, rfl⟩ := List.mem_iff_getElem.1 hy
      rcases Nat.lt_trichotomy i j with q | q | q
      · have := hst i j q hj
        rw [h2] at this
        cases this
      · subst q
        rfl
      · have := hst j i q hi
        rw [h1] at this
        cases this
    · rw [List.getElem_map, List.getElem_map]
      rw [List.length_map] at hi hj
      have h1 := hst i j hij hj
      cases q : ltT (teOf r[j]) (teOf r[i]) with
      | false => rfl
      | true =>
        have := swoT.trans _ _ _ h1 q
        rw [swoT.irrefl] at this
        cases this
  rw [e, List.map_map]
  refine (List.map_congr_left (g := id) fun s hsr => ?_).trans (List.map_id _)
  obtain ⟨j, hj, rfl⟩ := List.mem_iff_getElem.1 hsr
  exact (back (h j hj (Nat.zero_le _)).1.2).1
#print axioms tree_f
#print axioms unique
end Go.Proofs.YthjgfdjihlciaaaDoor.PureT
