/- Plain laws: which lists of capabilities are good. Plain: a good list is what Add takes. -/
import Derived.Test.YtbemlaalccoepaaDoorCapI
import Derived.Test.YtbemlaalccoepaaDoorQAllx
set_option linter.unusedVariables false
set_option linter.unusedSimpArgs false
namespace Go.Proofs.YtbemlaalccoepaaDoor.CapQ
open Go.RowKit Go.Proofs.YtbemlaalccoepaaDoorW.PrintWords Go.Proofs.YtbemlaalccoepaaDoor.QAll Txt CapA CapB CapC CapD CapI CapJ CapP

/-- A word. -/
structure Word (s : ByteArray) : Prop where
  ch : ∀ c ∈ s.toList, 45 ≤ c.toNat ∧ c.toNat ≤ 122 ∧ c ≠ 61
  pos : 1 ≤ s.size
  len : s.size ≤ 60
set_option maxHeartbeats 4000000 in
theorem word_step (s : ByteArray) (i : Nat) (m : Nat) (hi : i < s.size) (h31 : s.size ≤ 2147483647) :
    (spec_IsWord.l0 (m + 1) s (s.size : Int) (i : Int) = spec_IsWord.l0 m s (s.size : Int) ((i + 1 : Nat) : Int) ∧ 45 ≤ bt s i ∧ bt s i ≤ 122 ∧ bt s i ≠ 61) ∨ ∀ m', spec_IsWord.l0 (m' + 1) s (s.size : Int) (i : Int) = some false := by
  have hw : wrap64 ((i : Int) + 1) = ((i + 1 : Nat) : Int) := by unfold wrap64; omega
  simp only [spec_IsWord.l0, hw]
  generalize bt s i = c
  have h1 : (i : Int) < (s.size : Int) := by omega
  have h2 : 0 ≤ (i : Int) := by omega
  by_cases q : (97 ≤ c ∧ c ≤ 122) ∨ (65 ≤ c ∧ c ≤ 90) ∨ (48 ≤ c ∧ c ≤ 57) ∨ c = 46 ∨ c = 47 ∨ c = 58 ∨ c = 45 ∨ c = 95
  · left
    refine ⟨?_, by omega, by omega, by omega⟩
    rcases q with q | q | q | q | q | q | q | q <;> simp (disch := omega) only [if_pos, if_neg]
  · right
    intro m'
    simp (disch := omega) only [if_pos, if_neg]
    split <;> (try split) <;> (try split) <;> rfl
theorem word_loop (s : ByteArray) (h31 : s.size ≤ 2147483647) (n : Nat) : ∀ i, i + n = s.size → ∃ r, Ev (fun k => spec_IsWord.l0 k s (s.size : Int) (i : Int)) r ∧ (r = true → (∀ j, i ≤ j → j < s.size → 45 ≤ bt s j ∧ bt s j ≤ 122 ∧ bt s j ≠ 61) ∧ 1 ≤ s.size ∧ s.size ≤ 60) := by
  induction n with
  | zero =>
    intro i h
    have hn : ¬ (i : Int) < (s.size : Int) := by omega
    by_cases q : 1 ≤ s.size ∧ s.size ≤ 60
    · refine ⟨true, ev_now (fun m => ?_), fun _ => ⟨fun j a b => by omega, q⟩⟩
      rw [spec_IsWord.l0, if_neg hn]
      have q1 : (s.size : Int) ≥ 1 := by omega
      have q2 : (s.size : Int) ≤ 60 := by omega
      simp [q1, q2]
      try omega
    · refine ⟨false, ev_now (fun m => ?_), fun h => by cases h⟩
      rw [spec_IsWord.l0, if_neg hn]
      by_cases q1 : (s.size : Int) ≥ 1
      · have q2 : ¬ (s.size : Int) ≤ 60 := by omega
        simp [q1, q2]
        try omega
      · simp [q1]
        try omega
  | succ n ih =>
    intro i h
    obtain ⟨r, hev, hr⟩ := ih (i + 1) (by omega)
    rcases word_step s i 0 (by omega) h31 with q | q
    · have q' : ∀ m, spec_IsWord.l0 (m + 1) s (s.size : Int) (i : Int) = spec_IsWord.l0 m s (s.size : Int) ((i + 1 : Nat) : Int) := fun m => by
        rcases word_step s i m (by omega) h31 with z | z
        · exact z.1
        · have z0 := z 0
          rw [q.1] at z0
          simp [spec_IsWord.l0] at z0
      refine ⟨r, ev_round hev (fun m hm => by rw [q' m]; exact hm), fun hrt => ⟨fun j a b => ?_, (hr hrt).2⟩⟩
      rcases Nat.eq_or_lt_of_le a with e | e
      · subst e; exact q.2
      · exact (hr hrt).1 j e b
    · exact ⟨false, ev_now (fun m => q m), fun h => by cases h⟩
theorem word_f (s : ByteArray) (h31 : s.size ≤ 2147483647) : ∃ r, Ev (fun k => spec_IsWord.f k s) r ∧ (r = true → Word s) := by
  obtain ⟨r, hev, hr⟩ := word_loop s h31 s.size 0 (by omega)
  refine ⟨r, hev, fun h => ⟨fun c hc => ?_, (hr h).2.1, (hr h).2.2⟩⟩
  obtain ⟨j, hj⟩ := List.getElem?_of_mem hc
  have hjl : j < s.size := by rw [← size_list]; exact (List.getElem?_eq_some_iff.1 hj).1
  have hb := (hr h).1 j (Nat.zero_le _) hjl
  rw [bt_get s j c hj] at hb
  refine ⟨by omega, by omega, fun e => hb.2.2 (by rw [e]; rfl)⟩
/-- A loop over the values. -/
theorem vals_loop (c : ByteArray) (l : List ByteArray) (hl : l.length ≤ 2147483647) (hs : ∀ s ∈ l, s.size ≤ 2147483647) (r0 : Bool) (hend : Ev (fun k => spec_goodCap.l0 k l (l.length : Int) (l.length : Int) c l) r0) (n : Nat) : ∀ i, i + n = l.length → ∃ r, Ev (fun k => spec_goodCap.l0 k l (l.length : Int) (i : Int) c l) r ∧ (r = true → r0 = true ∧ ∀ s ∈ l.drop i, Word s) := by
  induction n with
  | zero =>
    intro i h
    obtain rfl : i = l.length := by omega
    exact ⟨r0, hend, fun h => ⟨h, fun s hs => by rw [List.drop_length] at hs; cases hs⟩⟩
  | succ n ih =>
    intro i h
    obtain ⟨r, hev, hr⟩ := ih (i + 1) (by omega)
    have hi : i < l.length := by omega
    have hw : wrap64 ((i : Int) + 1) = ((i + 1 : Nat) : Int) := by unfold wrap64; omega
    obtain ⟨r1, hev1, hr1⟩ := word_f l[i] (hs _ (List.getElem_mem hi))
    cases r1 with
    | false =>
      refine ⟨false, ev_round hev1 (fun m h1 => ?_), fun q => by cases q⟩
      rw [spec_goodCap.l0, if_pos (by omega), if_pos (by omega), if_pos (by omega), rdOf_nat _ l i hi, h1]
      rfl
    | true =>
      refine ⟨r, ev_round2 hev hev1 (fun m h1 h2 => ?_), fun q => ⟨(hr q).1, fun s hs => ?_⟩⟩
      · rw [spec_goodCap.l0, if_pos (by omega), if_pos (by omega), if_pos (by omega), rdOf_nat _ l i hi, h2, hw]
        exact h1
      · rw [List.drop_eq_getElem_cons hi, List.mem_cons] at hs
        rcases hs with rfl | hs
        · exact hr1 rfl
        · exact (hr q).2 s hs
theorem plain_loop (t : List ByteArray) (c : ByteArray) (l : List ByteArray) (hl : t.length ≤ 2147483647) (n : Nat) : ∀ i, i + n = t.length → ∃ r, Ev (fun k => spec_goodCap.l1 k t (t.length : Int) (i : Int) c l) r ∧ (r = true → l.length = 0 ∧ ∃ s ∈ t, c.toList = s.toList) := by
  induction n with
  | zero =>
    intro i h
    exact ⟨false, ev_now (fun m => by rw [spec_goodCap.l1, if_neg (by omega)]), fun h => by cases h⟩
  | succ n ih =>
    intro i h
    obtain ⟨r, hev, hr⟩ := ih (i + 1) (by omega)
    have hi : i < t.length := by omega
    have hw : wrap64 ((i : Int) + 1) = ((i + 1 : Nat) : Int) := by unfold wrap64; omega
    by_cases q : c.toList = t[i].toList
    · refine ⟨((l.length : Int) == 0), ev_now (fun m => by rw [spec_goodCap.l1, if_pos (by omega), if_pos (by omega), if_pos (by omega), rdOf_nat _ t i hi, if_pos q]), fun h => ⟨?_, t[i], List.getElem_mem hi, q⟩⟩
      rw [beq_iff_eq] at h
      omega
    · refine ⟨r, ev_round hev (fun m hm => ?_), hr⟩
      rw [spec_goodCap.l1, if_pos (by omega), if_pos (by omega), if_pos (by omega), rdOf_nat _ t i hi, if_neg q, hw]
      exact hm
/-- What a name says of its values. -/
def Fits (c : ByteArray) (l : List ByteArray) : Prop :=
  (c.toList = ([97, 103, 101, 110, 116] : List UInt8) ∧ l.length = 1) ∨ (c.toList = ([115, 121, 109, 114, 101, 102] : List UInt8) ∧ 1 ≤ l.length ∧ l.length ≤ 60) ∨ (l.length = 0 ∧ ∃ t, spec_plainCaps.f = some t ∧ ∃ s ∈ t, c.toList = s.toList)
theorem end_f (c : ByteArray) (l : List ByteArray) : ∃ r, Ev (fun k => spec_goodCap.l0 k l (l.length : Int) (l.length : Int) c l) r ∧ (r = true → Fits c l) := by
  by_cases q1 : c.toList = ([97, 103, 101, 110, 116] : List UInt8)
  · refine ⟨((l.length : Int) == 1), ev_now (fun m => by rw [spec_goodCap.l0, if_neg (by omega), if_pos q1]), fun h => Or.inl ⟨q1, ?_⟩⟩
    rw [beq_iff_eq] at h
    omega
  by_cases q2 : c.toList = ([115, 121, 109, 114, 101, 102] : List UInt8)
  · by_cases q3 : (l.length : Int) ≥ 1
    · refine ⟨decide ((l.length : Int) ≤ 60), ev_now (fun m => by rw [spec_goodCap.l0, if_neg (by omega), if_neg q1, if_pos q2, if_pos q3]), fun h => Or.inr (Or.inl ⟨q2, by omega, ?_⟩)⟩
      have := of_decide_eq_true h
      omega
    · exact ⟨false, ev_now (fun m => by rw [spec_goodCap.l0, if_neg (by omega), if_neg q1, if_pos q2, if_neg q3]), fun h => by cases h⟩
  · obtain ⟨t, ht⟩ : ∃ t, spec_plainCaps.f = some t := ⟨_, rfl⟩
    have hlen : t.length ≤ 2147483647 := by
      have : (spec_plainCaps.f).map List.length = some 16 := by rfl
      rw [ht] at this
      simp at this
      omega
    obtain ⟨r, hev, hr⟩ := plain_loop t c l hlen t.length 0 (by omega)
    refine ⟨r, ev_round hev (fun m hm => ?_), fun h => Or.inr (Or.inr ⟨(hr h).1, t, ht, (hr h).2⟩)⟩
    rw [spec_goodCap.l0, if_neg (by omega), if_neg q1, if_neg q2, ht]
    exact hm
theorem cap_f (c : ByteArray) (l : List ByteArray) (hl : l.length ≤ 2147483647) (hs : ∀ s ∈ l, s.size ≤ 2147483647) : ∃ r, Ev (fun k => spec_goodCap.f k c l) r ∧ (r = true → Fits c l ∧ ∀ s ∈ l, Word s) := by
  obtain ⟨r0, h0, hr0⟩ := end_f c l
  obtain ⟨r, hev, hr⟩ := vals_loop c l hl hs r0 h0 l.length 0 (by omega)
  exact ⟨r, hev, fun h => ⟨hr0 (hr h).1, (hr h).2⟩⟩
theorem rdT (l : List S27) (i : Nat) (hi : i < l.length) : rd_T27 l (i : Int) = l[i] := by
  show l.getD (i : Int).toNat z27 = _
  rw [Int.toNat_natCast, List.getD_eq_getElem?_getD, List.getElem?_eq_getElem hi]
  rfl
theorem inner_loop (l : List S27) (x : S27) (j : Nat) (hj : j ≤ l.length) (hl : l.length ≤ 2147483647) (r0 : Bool) (hev : Ev (fun k => spec_GoodCaps.l0 k l l (l.length : Int) (wrap64 ((j : Int) + 1))) r0) (n : Nat) : ∀ i, i + n = (l.take j).length → ∃ r, Ev (fun k => spec_GoodCaps.l1 k l l (l.length : Int) (j : Int) (l.take j) ((l.take j).length : Int) (i : Int) x.f0 x.f1) r ∧ (r = true → r0 = true ∧ ∀ s ∈ (l.take j).drop i, s.f0.toList ≠ x.f0.toList) := by
  induction n with
  | zero =>
    intro i h
    refine ⟨r0, ev_round hev (fun m hm => ?_), fun q => ⟨q, fun s hs => ?_⟩⟩
    · rw [spec_GoodCaps.l1, if_neg (by omega)]
      exact hm
    · rw [List.drop_eq_nil_of_le (by omega)] at hs
      cases hs
  | succ n ih =>
    intro i h
    obtain ⟨r, hr, hr2⟩ := ih (i + 1) (by omega)
    have hlt : (l.take j).length ≤ l.length := by rw [List.length_take]; omega
    have hw : wrap64 ((i : Int) + 1) = ((i + 1 : Nat) : Int) := by unfold wrap64; omega
    have hi : i < (l.take j).length := by omega
    by_cases q : ((rd_T27 (l.take j) (i : Int)).f0).toList = x.f0.toList
    · refine ⟨false, ev_now (fun m => ?_), fun q => by cases q⟩
      rw [spec_GoodCaps.l1, if_pos (by omega), if_pos (by omega), if_pos (by omega), if_pos q]
    · refine ⟨r, ev_round hr (fun m hm => ?_), fun hq => ⟨(hr2 hq).1, fun s hs => ?_⟩⟩
      · rw [spec_GoodCaps.l1, if_pos (by omega), if_pos (by omega), if_pos (by omega), if_neg q, hw]
        exact hm
      · rw [List.drop_eq_getElem_cons hi, List.mem_cons] at hs
        rcases hs with rfl | hs
        · rw [rdT _ _ hi] at q
          exact q
        · exact (hr2 hq).2 s hs
theorem outer_loop (l : List S27) (hl : l.length ≤ 2147483647) (hs : ∀ s ∈ l, s.f1.length ≤ 2147483647 ∧ ∀ v ∈ s.f1, v.size ≤ 2147483647) (n : Nat) : ∀ i, i + n = l.length → ∃ r, Ev (fun k => spec_GoodCaps.l0 k l l (l.length : Int) (i : Int)) r ∧ (r = true → l.length ≤ 60 ∧ ∀ j (hj : j < l.length), i ≤ j → (Fits l[j].f0 l[j].f1 ∧ ∀ s ∈ l[j].f1, Word s) ∧ ∀ s ∈ l.take j, s.f0.toList ≠ l[j].f0.toList) := by
  induction n with
  | zero =>
    intro i h
    exact ⟨decide ((l.length : Int) ≤ 60), ev_now (fun m => by rw [spec_GoodCaps.l0, if_neg (by omega)]), fun h => ⟨by have := of_decide_eq_true h; omega, fun j hj hij => by omega⟩⟩
  | succ n ih =>
    intro i h
    obtain ⟨r, hev, hr⟩ := ih (i + 1) (by omega)
    have hi : i < l.length := by omega
    have hw : wrap64 ((i : Int) + 1) = ((i + 1 : Nat) : Int) := by unfold wrap64; omega
    obtain ⟨z0, z1⟩ := hs l[i] (List.getElem_mem hi)
    obtain ⟨r1, hev1, hr1⟩ := cap_f l[i].f0 l[i].f1 z0 z1
    cases r1 with
    | false =>
      refine ⟨false, ev_round hev1 (fun m h1 => ?_), fun q => by cases q⟩
      rw [spec_GoodCaps.l0, if_pos (by omega), if_pos (by omega), if_pos (by omega), rdT l i hi, h1]
      rfl
    | true =>
      obtain ⟨r2, hev2, hr2⟩ := inner_loop l l[i] i (by omega) hl r (by rw [hw]; exact hev) (l.take i).length 0 (by omega)
      refine ⟨r2, ev_round2 hev2 hev1 (fun m h2 h1 => ?_), fun q => ⟨(hr (hr2 q).1).1, fun j hj hij => ?_⟩⟩
      · rw [spec_GoodCaps.l0, if_pos (by omega), if_pos (by omega), if_pos (by omega), rdT l i hi, h1]
        rw [Option.bind_some, if_pos rfl, if_pos (by omega), Option.bind_some, Int.toNat_natCast]
        exact h2
      · rcases Nat.eq_or_lt_of_le hij with e | e
        · subst e
          exact ⟨hr1 rfl, fun s hs => (hr2 q).2 s (by rw [List.drop_zero]; exact hs)⟩
        · exact (hr (hr2 q).1).2 j hj e
theorem good_f (l : List S27) (hl : l.length ≤ 2147483647) (hs : ∀ s ∈ l, s.f1.length ≤ 2147483647 ∧ ∀ v ∈ s.f1, v.size ≤ 2147483647) : ∃ r, Ev (fun k => spec_GoodCaps.f k l) r ∧ (r = true → l.length ≤ 60 ∧ ∀ j (hj : j < l.length), (Fits l[j].f0 l[j].f1 ∧ ∀ s ∈ l[j].f1, Word s) ∧ ∀ s ∈ l.take j, s.f0.toList ≠ l[j].f0.toList) := by
  obtain ⟨r, hev, hr⟩ := outer_loop l hl hs l.length 0 (by omega)
  exact ⟨r, hev, fun h => ⟨(hr h).1, fun j hj => (hr h).2 j hj (Nat.zero_le _)⟩⟩
end Go.Proofs.YtbemlaalccoepaaDoor.CapQ

set_option linter.unusedVariables false
set_option linter.unusedSimpArgs false
namespace Go.Proofs.YtbemlaalccoepaaDoor.CapR
open Go.RowKit Go.Proofs.YtbemlaalccoepaaDoorW.PrintWords Go.Proofs.YtbemlaalccoepaaDoor.QAll Txt CapA CapB CapC CapD CapI CapJ CapP CapQ

theorem plain_all : ((spec_plainCaps.f).map fun t => t.all fun s => isIn knownNames s && !isIn requiresNames s && decide (s.size ≤ 100)) = some true := by decide +kernel
theorem agent_all : (isIn knownNames ⟨#[97, 103, 101, 110, 116]⟩ && isIn requiresNames ⟨#[97, 103, 101, 110, 116]⟩) = true := by decide +kernel
theorem symref_all : (isIn knownNames ⟨#[115, 121, 109, 114, 101, 102]⟩ && isIn requiresNames ⟨#[115, 121, 109, 114, 101, 102]⟩ && isIn multipleNames ⟨#[115, 121, 109, 114, 101, 102]⟩) = true := by decide +kernel
theorem fits_ok {c : ByteArray} {l : List ByteArray} (h : Fits c l) (hw : ∀ s ∈ l, Word s) : OkCap c l ∧ c.size ≤ 100 ∧ l.length ≤ 60 := by
  have hp : ∀ v ∈ l, 0 < v.size := fun v hv => (hw v hv).pos
  rcases h with ⟨hc, hl⟩ | ⟨hc, h1, h2⟩ | ⟨hl, t, ht, s, hs, hc⟩
  · have e : c = ⟨#[97, 103, 101, 110, 116]⟩ := ba_ext (by rw [hc, toList_lit])
    subst e
    have h := agent_all
    rw [Bool.and_eq_true] at h
    exact ⟨⟨h.1, ⟨fun _ => by omega, fun _ => h.2⟩, Or.inr (by omega), hp, by omega⟩, by decide, by omega⟩
  · have e : c = ⟨#[115, 121, 109, 114, 101, 102]⟩ := ba_ext (by rw [hc, toList_lit])
    subst e
    have h := symref_all
    rw [Bool.and_eq_true, Bool.and_eq_true] at h
    exact ⟨⟨h.1.1, ⟨fun _ => by omega, fun _ => h.1.2⟩, Or.inl h.2, hp, by omega⟩, by decide, h2⟩
  · have e : c = s := ba_ext hc
    subst e
    have h := plain_all
    rw [ht] at h
    have h2 := List.all_eq_true.1 (by simpa using h : (t.all fun s => isIn knownNames s && !isIn requiresNames s && decide (s.size ≤ 100)) = true) c hs
    rw [Bool.and_eq_true, Bool.and_eq_true] at h2
    have hr : isIn requiresNames c = false := by simpa using h2.1.2
    exact ⟨⟨h2.1.1, ⟨fun z => absurd z (by rw [hr]; decide), fun z => by omega⟩, Or.inr (by omega), hp, by omega⟩, of_decide_eq_true h2.2, by omega⟩
theorem goodL {l : List S27} (h : l.length ≤ 60 ∧ ∀ j (hj : j < l.length), (Fits l[j].f0 l[j].f1 ∧ ∀ s ∈ l[j].f1, Word s) ∧ ∀ s ∈ l.take j, s.f0.toList ≠ l[j].f0.toList) : GoodL l := by
  have key : ∀ s ∈ l, (OkCap s.f0 s.f1 ∧ s.f0.size ≤ 100 ∧ s.f1.length ≤ 60) ∧ ∀ v ∈ s.f1, Word v := by
    intro s hs
    obtain ⟨j, hj, rfl⟩ := List.mem_iff_getElem.1 hs
    exact ⟨fits_ok (h.2 j hj).1.1 (h.2 j hj).1.2, (h.2 j hj).1.2⟩
  refine ⟨fun s hs => (key s hs).1.1, ?_, h.1, fun s hs => (key s hs).1.2.1, fun s hs => (key s hs).1.2.2, fun s hs v hv => Nat.le_trans ((key s hs).2 v hv).len (by omega)⟩
  rw [List.Nodup, List.pairwise_iff_getElem]
  intro i j hi hj hij e
  rw [List.length_map] at hi hj
  rw [List.getElem_map, List.getElem_map] at e
  refine (h.2 j hj).2 l[i] ?_ (by rw [e])
  rw [List.mem_take_iff_getElem]
  exact ⟨i, by omega, rfl⟩
theorem fits16_loop (l : List ByteArray) (hl : l.length ≤ 2147483647) (n : Nat) : ∀ i, i + n = l.length → ∃ r, Ev (fun k => laws_zzFits16.l0 k l (l.length : Int) (i : Int)) r ∧ (r = true → ∀ s ∈ l.drop i, s.size ≤ 2147483647) := by
  induction n with
  | zero =>
    intro i h
    exact ⟨true, ev_now (fun m => by rw [laws_zzFits16.l0, if_neg (by omega)]), fun _ s hs => by rw [List.drop_eq_nil_of_le (by omega)] at hs; cases hs⟩
  | succ n ih =>
    intro i h
    obtain ⟨r, hev, hr⟩ := ih (i + 1) (by omega)
    have hi : i < l.length := by omega
    have hw : wrap64 ((i : Int) + 1) = ((i + 1 : Nat) : Int) := by unfold wrap64; omega
    by_cases q : (l[i].size : Int) > 2147483647
    · exact ⟨false, ev_now (fun m => by rw [laws_zzFits16.l0, if_pos (by omega), if_pos (by omega), if_pos (by omega), rdOf_nat _ l i hi, if_pos q]), fun h => by cases h⟩
    · refine ⟨r, ev_round hev (fun m hm => ?_), fun h s hs => ?_⟩
      · rw [laws_zzFits16.l0, if_pos (by omega), if_pos (by omega), if_pos (by omega), rdOf_nat _ l i hi, if_neg q, hw]
        exact hm
      · rw [List.drop_eq_getElem_cons hi, List.mem_cons] at hs
        rcases hs with rfl | hs
        · omega
        · exact hr h s hs
theorem fits16_f (l : List ByteArray) : ∃ r, Ev (fun k => laws_zzFits16.f k l) r ∧ (r = true → l.length ≤ 2147483647 ∧ ∀ s ∈ l, s.size ≤ 2147483647) := by
  by_cases q : (l.length : Int) > 2147483647
  · exact ⟨false, ev_now (fun m => by rw [laws_zzFits16.f, if_pos q]), fun h => by cases h⟩
  · obtain ⟨r, ⟨K, hK⟩, hr⟩ := fits16_loop l (by omega) l.length 0 (by omega)
    exact ⟨r, ⟨K, fun k hk => by show laws_zzFits16.f k l = _; rw [laws_zzFits16.f, if_neg q]; exact hK k hk⟩, fun h => ⟨by omega, hr h⟩⟩
theorem fits30_f (c : ByteArray) (l : List ByteArray) : ∃ r, Ev (fun k => laws_zzFits30.f k c l) r ∧ (r = true → l.length ≤ 2147483647 ∧ ∀ s ∈ l, s.size ≤ 2147483647) := by
  by_cases q : (c.size : Int) > 2147483647
  · exact ⟨false, ev_now (fun m => by rw [laws_zzFits30.f, if_pos q]), fun h => by cases h⟩
  · obtain ⟨r, ⟨K, hK⟩, hr⟩ := fits16_f l
    refine ⟨r, ⟨K, fun k hk => ?_⟩, hr⟩
    have h1 : laws_zzFits16.f k l = some r := hK k hk
    show laws_zzFits30.f k c l = _
    rw [laws_zzFits30.f, if_neg q, h1]
    cases r <;> rfl
theorem fits_loop (l : List S27) (hl : l.length ≤ 2147483647) (n : Nat) : ∀ i, i + n = l.length → ∃ r, Ev (fun k => laws_zzFits29.l0 k l (l.length : Int) (i : Int)) r ∧ (r = true → ∀ s ∈ l.drop i, s.f1.length ≤ 2147483647 ∧ ∀ v ∈ s.f1, v.size ≤ 2147483647) := by
  induction n with
  | zero =>
    intro i h
    exact ⟨true, ev_now (fun m => by rw [laws_zzFits29.l0, if_neg (by omega)]), fun _ s hs => by rw [List.drop_eq_nil_of_le (by omega)] at hs; cases hs⟩
  | succ n ih =>
    intro i h
    obtain ⟨r, hev, hr⟩ := ih (i + 1) (by omega)
    have hi : i < l.length := by omega
    have hw : wrap64 ((i : Int) + 1) = ((i + 1 : Nat) : Int) := by unfold wrap64; omega
    obtain ⟨r1, hev1, hr1⟩ := fits30_f l[i].f0 l[i].f1
    cases r1 with
    | false =>
      refine ⟨false, ev_round hev1 (fun m h1 => ?_), fun q => by cases q⟩
      rw [laws_zzFits29.l0, if_pos (by omega), if_pos (by omega), if_pos (by omega), rdT l i hi, h1]
      rfl
    | true =>
      refine ⟨r, ev_round2 hev hev1 (fun m h1 h2 => ?_), fun q s hs => ?_⟩
      · rw [laws_zzFits29.l0, if_pos (by omega), if_pos (by omega), if_pos (by omega), rdT l i hi, h2, Option.bind_some, if_pos rfl, hw]
        exact h1
      · rw [List.drop_eq_getElem_cons hi, List.mem_cons] at hs
        rcases hs with rfl | hs
        · exact hr1 rfl
        · exact hr q s hs
theorem fits_f (l : List S27) : ∃ r, Ev (fun k => laws_zzFits29.f k l) r ∧ (r = true → l.length ≤ 2147483647 ∧ ∀ s ∈ l, s.f1.length ≤ 2147483647 ∧ ∀ v ∈ s.f1, v.size ≤ 2147483647) := by
  by_cases q : (l.length : Int) > 2147483647
  · exact ⟨false, ev_now (fun m => by rw [laws_zzFits29.f, if_pos q]), fun h => by cases h⟩
  · obtain ⟨r, ⟨K, hK⟩, hr⟩ := fits_loop l (by omega) l.length 0 (by omega)
    exact ⟨r, ⟨K, fun k hk => by show laws_zzFits29.f k l = _; rw [laws_zzFits29.f, if_neg q]; exact hK k hk⟩, fun h => ⟨by omega, hr h⟩⟩
end Go.Proofs.YtbemlaalccoepaaDoor.CapR
