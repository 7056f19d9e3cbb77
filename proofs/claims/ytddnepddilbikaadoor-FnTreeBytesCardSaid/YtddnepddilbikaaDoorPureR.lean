/- FnTreeBytes, plain. -/
import Derived.Test.YtddnepddilbikaaDoorObjQ
import Derived.Test.YtddnepddilbikaaDoorObjP
import Derived.Test.YtddnepddilbikaaDoorPureN
import Derived.Test.YtddnepddilbikaaDoorQAllx3
import Derived.Sort.Walk0
set_option linter.unusedVariables false
set_option linter.unusedSimpArgs false
namespace Go.Proofs.YtddnepddilbikaaDoor.PureR
open Go.RowKit Go.Proofs.YtddnepddilbikaaDoorW.PrintLast Go.Proofs.YtddnepddilbikaaDoorW.PrintMore Go.Proofs.YtddnepddilbikaaDoor.QAll Txt SrtL ObjL ObjN ObjO ObjQ PureN Go.Lib
open Go.Proofs.YtddnepddilbikaaDoorW.PrintWords hiding nums

theorem fits_loop (l : List S44) (hl : l.length ≤ 2147483647) (n : Nat) : ∀ i, i + n = l.length → ∃ r, Ev (fun k => laws_zzFits20.l0 k l (l.length : Int) (i : Int)) r ∧ (r = true → ∀ s ∈ l.drop i, s.f0.size ≤ 2147483647 ∧ s.f2.size ≤ 2147483647) := by
  induction n with
  | zero =>
    intro i h
    refine ⟨true, ev_now (fun m => by rw [laws_zzFits20.l0, if_neg (by omega)]), fun _ s hs => ?_⟩
    rw [List.drop_eq_nil_of_le (by omega)] at hs
    cases hs
  | succ n ih =>
    intro i h
    have hi : i < l.length := by omega
    have hw : wrap64 ((i : Int) + 1) = ((i + 1 : Nat) : Int) := by unfold wrap64; omega
    obtain ⟨r, hr, hr2⟩ := ih (i + 1) (by omega)
    by_cases q : l[i].f0.size ≤ 2147483647 ∧ l[i].f2.size ≤ 2147483647
    · have e : laws_zzFits21.f l[i].f0 l[i].f1 l[i].f2 = some true := by
        unfold laws_zzFits21.f
        rw [if_neg (by omega), if_neg (by omega)]
      refine ⟨r, ev_round hr (fun m hm => ?_), fun hq s hs => ?_⟩
      · rw [laws_zzFits20.l0, if_pos (by omega), if_pos (by omega), if_pos (by omega), ObjQ.rdT44 l i hi, e, hw]
        simpa using hm
      · rw [List.drop_eq_getElem_cons hi, List.mem_cons] at hs
        rcases hs with rfl | hs
        · exact q
        · exact hr2 hq s hs
    · have e : laws_zzFits21.f l[i].f0 l[i].f1 l[i].f2 = some false := by
        unfold laws_zzFits21.f
        by_cases q1 : l[i].f0.size ≤ 2147483647
        · rw [if_neg (by omega), if_pos (by omega)]
        · rw [if_pos (by omega)]
      refine ⟨false, ev_now (fun m => ?_), fun z => by cases z⟩
      rw [laws_zzFits20.l0, if_pos (by omega), if_pos (by omega), if_pos (by omega), ObjQ.rdT44 l i hi, e]
      simp
theorem fits_f (l : List S44) : ∃ r, Ev (fun k => laws_zzFits20.f k l) r ∧ (r = true → ∀ s ∈ l, s.f0.size ≤ 2147483647 ∧ s.f2.size ≤ 2147483647) := by
  by_cases h : (l.length : Int) > 2147483647
  · exact ⟨false, ⟨0, fun k _ => by show laws_zzFits20.f k l = _; unfold laws_zzFits20.f; rw [if_pos h]⟩, fun q => by cases q⟩
  · obtain ⟨r, ⟨K, hK⟩, hr⟩ := fits_loop l (by omega) l.length 0 (by omega)
    exact ⟨r, ⟨K, fun k hk => by show laws_zzFits20.f k l = _; unfold laws_zzFits20.f; rw [if_neg h]; exact hK k hk⟩, fun q => by have := hr q; simpa using this⟩
theorem sortName_f {s : S44} (h : s.f0.size ≤ 2147483647) : spec_sortName.f s.f0 s.f1 s.f2 = some (keyE s) := by
  unfold spec_sortName.f keyE
  split
  · rw [if_pos (by omega)]
  · rfl
theorem hasn_loop (s : ByteArray) (c : Int) (hl : s.size ≤ 2147483647) (n : Nat) : ∀ i, i + n = s.size → ∃ b, Ev (fun k => spec_Has.l0 k s c (s.size : Int) (i : Int)) b ∧ (b = false → ∀ j : Nat, i ≤ j → j < s.size → bt s (j : Int) ≠ c) := by
  induction n with
  | zero =>
    intro i h
    exact ⟨false, ev_now (fun m => by rw [spec_Has.l0, if_neg (by omega)]), fun _ j h1 h2 => by omega⟩
  | succ n ih =>
    intro i h
    have hw : wrap64 ((i : Int) + 1) = ((i + 1 : Nat) : Int) := by unfold wrap64; omega
    obtain ⟨b, hb, hg⟩ := ih (i + 1) (by omega)
    by_cases q : bt s (i : Int) = c
    · exact ⟨true, ev_now (fun m => by rw [spec_Has.l0, if_pos (by omega), if_pos (by omega), if_pos (by omega), if_pos q]), fun z => by cases z⟩
    · refine ⟨b, ev_round hb (fun m hm => by rw [spec_Has.l0, if_pos (by omega), if_pos (by omega), if_pos (by omega), if_neg q, hw]; exact hm), fun z j h1 h2 => ?_⟩
      by_cases e : j = i
      · rw [e]; exact q
      · exact hg z j (by omega) h2
theorem hasn_f (s : ByteArray) (c : Int) (hl : s.size ≤ 2147483647) : ∃ b, Ev (fun k => spec_Has.f k s c) b ∧ (b = false → ∀ j : Nat, j < s.size → bt s (j : Int) ≠ c) := by
  obtain ⟨b, h1, h2⟩ := hasn_loop s c hl s.size 0 (by omega)
  exact ⟨b, h1, fun z j hj => h2 z j (Nat.zero_le _) hj⟩
theorem index_none (c : UInt8) : ∀ l : List UInt8, (∀ x ∈ l, x ≠ c) → Lib.indexByte l c = -1
  | [], _ => rfl
  | b :: l, h => by
    have h1 : b ≠ c := h b (by simp)
    have h2 := index_none c l (fun x hx => h x (by simp [hx]))
    rw [Lib.indexByte, h2, if_neg (by simpa using h1)]
    rfl
theorem no_zero {s : ByteArray} (h : ∀ j : Nat, j < s.size → bt s (j : Int) ≠ 0) : strings_IndexByte.f s 0 = some (-1) := by
  show some (Lib.indexByte s.data.toList _) = _
  rw [index_none]
  intro x hx e
  obtain ⟨j, hj, e2⟩ := List.mem_iff_getElem.1 hx
  have hjs : j < s.size := by rw [← PureN.data_length]; exact hj
  have h1 : s.toList[j]? = some x := by rw [Lib.toList_data, List.getElem?_eq_getElem hj, e2]
  have h2 := bt_get s j x h1
  refine h j hjs ?_
  rw [h2, e]
  rfl
theorem mode_f (m : Int) : ∃ b, spec_IsMode.f m = some b ∧ (b = true → 0 ≤ m ∧ m ≤ 4294967295) := by
  unfold spec_IsMode.f
  repeat' split
  all_goals first | exact ⟨_, rfl, fun _ => by omega⟩ | exact ⟨_, rfl, fun z => by cases z⟩
/-- An entry that may be written. -/
structure Ent (s : S44) : Prop where
  n : s.f0.size ≤ 4096
  m0 : 0 ≤ s.f1
  m1 : s.f1 ≤ 4294967295
  z : ∀ j : Nat, j < s.f0.size → bt s.f0 (j : Int) ≠ 0
  h : Nm40 s.f2
theorem Ent.ok {s : S44} (h : Ent s) : OkE s := ⟨h.n, no_zero h.z, h.m0, h.m1⟩
theorem entry_f (s : S44) (h0 : s.f0.size ≤ 2147483647) (h2 : s.f2.size ≤ 2147483647) : ∃ b, Ev (fun k => spec_IsEntry.f k s.f0 s.f1 s.f2) b ∧ (b = true → Ent s) := by
  by_cases q0 : s.f0.toList = ([] : List UInt8)
  · exact ⟨false, ⟨0, fun k _ => by show spec_IsEntry.f k s.f0 s.f1 s.f2 = _; unfold spec_IsEntry.f; rw [if_pos q0]⟩, fun z => by cases z⟩
  by_cases q1 : (s.f0.size : Int) ≤ 4096
  rotate_left
  · exact ⟨false, ⟨0, fun k _ => by show spec_IsEntry.f k s.f0 s.f1 s.f2 = _; unfold spec_IsEntry.f; rw [if_neg q0, if_neg q1]⟩, fun z => by cases z⟩
  obtain ⟨b1, ⟨K1, h1⟩, g1⟩ := hasn_f s.f0 0 h0
  cases b1 with
  | true => exact ⟨false, ⟨K1, fun k hk => by
      show spec_IsEntry.f k s.f0 s.f1 s.f2 = _
      have e1 : spec_Has.f k s.f0 0 = some true := h1 k hk
      unfold spec_IsEntry.f
      rw [if_neg q0, if_pos q1, e1]
      rfl⟩, fun z => by cases z⟩
  | false =>
  obtain ⟨b2, K2, h2'⟩ := has_f s.f0 47 h0
  cases b2 with
  | true => exact ⟨false, ⟨K1 + K2, fun k hk => by
      show spec_IsEntry.f k s.f0 s.f1 s.f2 = _
      have e1 : spec_Has.f k s.f0 0 = some false := h1 k (by omega)
      have e2 : spec_Has.f k s.f0 47 = some true := h2' k (by omega)
      unfold spec_IsEntry.f
      rw [if_neg q0, if_pos q1, e1, e2]
      rfl⟩, fun z => by cases z⟩
  | false =>
  obtain ⟨b3, h3, g3⟩ := mode_f s.f1
  cases b3 with
  | false => exact ⟨false, ⟨K1 + K2, fun k hk => by
      show spec_IsEntry.f k s.f0 s.f1 s.f2 = _
      have e1 : spec_Has.f k s.f0 0 = some false := h1 k (by omega)
      have e2 : spec_Has.f k s.f0 47 = some false := h2' k (by omega)
      unfold spec_IsEntry.f
      rw [if_neg q0, if_pos q1, e1, e2, h3]
      rfl⟩, fun z => by cases z⟩
  | true =>
  by_cases q4 : s.f1 = 33204
  · exact ⟨false, ⟨K1 + K2, fun k hk => by
      show spec_IsEntry.f k s.f0 s.f1 s.f2 = _
      have e1 : spec_Has.f k s.f0 0 = some false := h1 k (by omega)
      have e2 : spec_Has.f k s.f0 47 = some false := h2' k (by omega)
      unfold spec_IsEntry.f
      rw [if_neg q0, if_pos q1, e1, e2, h3]
      simp [q4]⟩, fun z => by cases z⟩
  obtain ⟨b5, ⟨K5, h5⟩, hq⟩ := name_f s.f2 h2
  refine ⟨b5, ⟨K1 + K2 + K5, fun k hk => ?_⟩, fun z => ⟨by omega, (g3 rfl).1, (g3 rfl).2, g1 rfl, hq z⟩⟩
  show spec_IsEntry.f k s.f0 s.f1 s.f2 = _
  have e1 : spec_Has.f k s.f0 0 = some false := h1 k (by omega)
  have e2 : spec_Has.f k s.f0 47 = some false := h2' k (by omega)
  have e5 : spec_IsName40.f k s.f2 = some b5 := h5 k (by omega)
  unfold spec_IsEntry.f
  rw [if_neg q0, if_pos q1, e1, e2, h3]
  simp [q4, e5]
/-- What IsTree says of the entries from i on. -/
def From (r : List S44) (i : Nat) : Prop := ∀ j (hj : j < r.length), i ≤ j → Ent r[j] ∧ ∀ h : 0 < j, Op.bytesLess (keyE (r[j - 1]'(by omega))).toList (keyE r[j]).toList = true
theorem tree_loop (r : List S44) (hl : r.length ≤ 1000) (hs : ∀ s ∈ r, s.f0.size ≤ 2147483647 ∧ s.f2.size ≤ 2147483647) (n : Nat) : ∀ i, i + n = r.length → ∃ b, Ev (fun k => spec_IsTree.l0 k r r (r.length : Int) (i : Int)) b ∧ (b = true → From r i) := by
  induction n with
  | zero =>
    intro i h
    exact ⟨true, ev_now (fun m => by rw [spec_IsTree.l0, if_neg (by omega)]), fun _ j hj hij => by omega⟩
  | succ n ih =>
    intro i h
    have hi : i < r.length := by omega
    have hw : wrap64 ((i : Int) + 1) = ((i + 1 : Nat) : Int) := by unfold wrap64; omega
    obtain ⟨b, hb, hb2⟩ := ih (i + 1) (by omega)
    obtain ⟨c, hc, hc2⟩ := entry_f r[i] (hs _ (List.getElem_mem hi)).1 (hs _ (List.getElem_mem hi)).2
    cases c with
    | false =>
      obtain ⟨K, hK⟩ := hc
      refine ⟨false, ⟨K + 1, fun k hk => ?_⟩, fun z => by cases z⟩
      obtain ⟨m, rfl⟩ : ∃ m, k = m + 1 := ⟨k - 1, by omega⟩
      have e1 : spec_IsEntry.f m r[i].f0 r[i].f1 r[i].f2 = some false := hK m (by omega)
      show spec_IsTree.l0 (m + 1) r r (r.length : Int) (i : Int) = _
      rw [spec_IsTree.l0, if_pos (by omega), if_pos (by omega), if_pos (by omega), ObjQ.rdT44 r i hi, e1]
      rfl
    | true =>
      by_cases h0 : i = 0
      · refine ⟨b, ev_round2 hb hc (fun m hm h1 => ?_), fun hq j hj hij => ?_⟩
        · rw [spec_IsTree.l0, if_pos (by omega), if_pos (by omega), if_pos (by omega), ObjQ.rdT44 r i hi, h1]
          simp only [Option.bind_some, if_true]
          rw [if_neg (by omega), hw]
          exact hm
        · by_cases e : j = i
          · subst e
            exact ⟨hc2 rfl, fun h => by omega⟩
          · exact hb2 hq j hj (by omega)
      · have hw2 : wrap64 ((i : Int) - 1) = ((i - 1 : Nat) : Int) := by unfold wrap64; omega
        have hi1 : i - 1 < r.length := by omega
        by_cases q : Op.bytesLess (keyE r[i - 1]).toList (keyE r[i]).toList = true
        · refine ⟨b, ev_round2 hb hc (fun m hm h1 => ?_), fun hq j hj hij => ?_⟩
          · rw [spec_IsTree.l0, if_pos (by omega), if_pos (by omega), if_pos (by omega), ObjQ.rdT44 r i hi, h1]
            simp only [Option.bind_some, if_true]
            rw [if_pos (by omega), hw2, if_pos (by omega), if_pos (by omega), ObjQ.rdT44 r (i - 1) hi1, sortName_f (hs _ (List.getElem_mem hi1)).1, sortName_f (hs _ (List.getElem_mem hi)).1]
            simp only [Option.bind_some]
            rw [if_pos q, hw]
            exact hm
          · by_cases e : j = i
            · subst e
              exact ⟨hc2 rfl, fun h => q⟩
            · exact hb2 hq j hj (by omega)
        · obtain ⟨K, hK⟩ := hc
          refine ⟨false, ⟨K + 1, fun k hk => ?_⟩, fun z => by cases z⟩
          obtain ⟨m, rfl⟩ : ∃ m, k = m + 1 := ⟨k - 1, by omega⟩
          have e1 : spec_IsEntry.f m r[i].f0 r[i].f1 r[i].f2 = some true := hK m (by omega)
          show spec_IsTree.l0 (m + 1) r r (r.length : Int) (i : Int) = _
          rw [spec_IsTree.l0, if_pos (by omega), if_pos (by omega), if_pos (by omega), ObjQ.rdT44 r i hi, e1]
          simp only [Option.bind_some, if_true]
          rw [if_pos (by omega), hw2, if_pos (by omega), if_pos (by omega), ObjQ.rdT44 r (i - 1) hi1, sortName_f (hs _ (List.getElem_mem hi1)).1, sortName_f (hs _ (List.getElem_mem hi)).1]
          simp only [Option.bind_some]
          rw [if_neg q]
theorem tree_f (r : List S44) (hl : r.length ≤ 1000) (hs : ∀ s ∈ r, s.f0.size ≤ 2147483647 ∧ s.f2.size ≤ 2147483647) : ∃ b, Ev (fun k => spec_IsTree.f k r) b ∧ (b = true → From r 0) := by
  obtain ⟨b, ⟨K, hK⟩, h2⟩ := tree_loop r hl hs r.length 0 (by omega)
  exact ⟨b, ⟨K, fun k hk => by show spec_IsTree.f k r = _; unfold spec_IsTree.f; rw [if_neg (by omega)]; exact hK k hk⟩, h2⟩
/-- Bytes in order. -/
theorem less_asymm (x y : List UInt8) (h : Op.bytesLess x y = true) : Op.bytesLess y x = false := by
  rw [bytesLess_eq] at h ⊢
  exact decide_eq_false (fun h2 => absurd h2 (List.lt_asymm (of_decide_eq_true h)))
theorem From.sorted {r : List S44} (h : From r 0) : Sorted r := by
  intro k hk
  have := (h (k + 1) hk (Nat.zero_le _)).2 (Nat.succ_pos k)
  have e1 : r.getD k z44 = r[k] := by rw [List.getD_eq_getElem?_getD, List.getElem?_eq_getElem (by omega)]; rfl
  have e2 : r.getD (k + 1) z44 = r[k + 1] := by rw [List.getD_eq_getElem?_getD, List.getElem?_eq_getElem hk]; rfl
  rw [e1, e2]
  exact less_asymm _ _ this
theorem From.ent {r : List S44} (h : From r 0) : ∀ s ∈ r, Ent s := fun s hs => by
  obtain ⟨j, hj, rfl⟩ := List.mem_iff_getElem.1 hs
  exact (h j hj (Nat.zero_le _)).1
/-! #### Unhex -/
set_option maxRecDepth 100000 in
theorem digit_fin : ∀ n : Fin 256, ((48 ≤ n.val ∧ n.val ≤ 57) ∨ (97 ≤ n.val ∧ n.val ≤ 102)) → spec_digit.f (n.val : Int) = some ((Hx.rev.data.toList[n.val]?.getD 255).toNat : Int) := by decide +kernel
theorem digit_f {c : UInt8} (h : Dig c) : spec_digit.f (c.toNat : Int) = some (Hx.v c : Int) := digit_fin ⟨c.toNat, c.toNat_lt⟩ h
theorem or_fin : ∀ a b : Fin 16, Go.bits .or .u8 (((a.val : Int) * 16) % 256) (b.val : Int) = ((a.val * 16 + b.val : Nat) : Int) := by decide +kernel
theorem dec_at : ∀ (n : Nat) (l : List UInt8), l.length = 2 * n → (∀ c ∈ l, Dig c) → ∀ i, i < n → ∃ p q, l[2 * i]? = some p ∧ l[2 * i + 1]? = some q ∧ (Hx.decode l).1[i]? = some (UInt8.ofNat (Hx.v p * 16 + Hx.v q))
  | 0, l, _, _, i, hi => by omega
  | n + 1, [], h, _, _, _ => by simp at h
  | n + 1, [c], h, _, _, _ => by simp at h; omega
  | n + 1, p :: q :: t, h, hd, i, hi => by
    obtain ⟨hp1, _⟩ := dig (hd p (by simp))
    obtain ⟨hq1, _⟩ := dig (hd q (by simp))
    rw [Hx.decode_two, if_neg (by omega), if_neg (by omega)]
    cases i with
    | zero => exact ⟨p, q, rfl, rfl, rfl⟩
    | succ i =>
      obtain ⟨a, b, e1, e2, e3⟩ := dec_at n t (by simp at h; omega) (fun c hc => hd c (by simp [hc])) i (by omega)
      refine ⟨a, b, ?_, ?_, e3⟩
      · rw [show 2 * (i + 1) = 2 * i + 1 + 1 by omega]; exact e1
      · rw [show 2 * (i + 1) + 1 = 2 * i + 1 + 1 + 1 by omega]; exact e2
theorem unhex_loop {s : ByteArray} (h : Nm40 s) (n : Nat) : ∀ i, i + n = 20 → Ev (fun k => spec_Unhex.l0 k s ((hashN s).take i) ((2 * i : Nat) : Int)) (hashN s) := by
  have hz := h.1
  have hlen : (hashN s).length = 20 := by unfold hashN; simp
  induction n with
  | zero =>
    intro i hi
    obtain rfl : i = 20 := by omega
    refine ev_now (fun m => ?_)
    have hw : wrap64 (((2 * 20 : Nat) : Int) + 1) = 41 := by unfold wrap64; omega
    rw [spec_Unhex.l0, hw, if_neg (by omega), List.take_of_length_le (by omega)]
  | succ n ih =>
    intro i hi
    refine ev_round (ih (i + 1) (by omega)) (fun m hm => ?_)
    obtain ⟨p, q, e1, e2, e3⟩ := dec_at 20 s.data.toList (by rw [PureN.data_length]; exact hz) h.2 i (by omega)
    have hp := digit_f (h.2 p (List.mem_of_getElem? e1))
    have hq := digit_f (h.2 q (List.mem_of_getElem? e2))
    have b1 : bt s ((2 * i : Nat) : Int) = (p.toNat : Int) := bt_get s (2 * i) p (by rw [Lib.toList_data]; exact e1)
    have b2 : bt s ((2 * i + 1 : Nat) : Int) = (q.toNat : Int) := bt_get s (2 * i + 1) q (by rw [Lib.toList_data]; exact e2)
    have w1 : wrap64 (((2 * i : Nat) : Int) + 1) = ((2 * i + 1 : Nat) : Int) := by unfold wrap64; omega
    have w2 : wrap64 (((2 * i : Nat) : Int) + 2) = ((2 * (i + 1) : Nat) : Int) := by unfold wrap64; omega
    obtain ⟨hp1, _⟩ := dig (h.2 p (List.mem_of_getElem? e1))
    obtain ⟨hq1, _⟩ := dig (h.2 q (List.mem_of_getElem? e2))
    have hor : Go.bits .or .u8 (((Hx.v p : Int) * 16) % 256) (Hx.v q : Int) = ((Hx.v p * 16 + Hx.v q : Nat) : Int) := or_fin ⟨Hx.v p, by omega⟩ ⟨Hx.v q, by omega⟩
    have hbi : hb s i = ((Hx.v p * 16 + Hx.v q : Nat) : Int) := by
      unfold hb dec
      rw [e3, Option.getD_some, UInt8.toNat_ofNat', Nat.mod_eq_of_lt (by omega)]
    have htk : (hashN s).take i ++ [((Hx.v p * 16 + Hx.v q : Nat) : Int)] = (hashN s).take (i + 1) := by
      rw [List.take_add_one, ← hbi]
      unfold hashN
      rw [List.getElem?_map, List.getElem?_range (by omega)]
      rfl
    rw [spec_Unhex.l0, w1, if_pos (by omega), if_pos (by omega), if_pos (by omega), b1, hp, Option.bind_some, if_pos (by omega), b2, hq, Option.bind_some, if_pos (by rw [List.length_take]; omega), hor, htk, w2]
    exact hm
theorem unhex {s : ByteArray} (h : Nm40 s) : ∃ K, spec_Unhex.f K s = some (hashN s) := by
  obtain ⟨K, hK⟩ := unhex_loop h 20 0 rfl
  exact ⟨K, hK K (Nat.le_refl _)⟩
end Go.Proofs.YtddnepddilbikaaDoor.PureR
