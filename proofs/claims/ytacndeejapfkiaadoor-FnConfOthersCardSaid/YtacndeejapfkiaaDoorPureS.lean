/- What the specification's tests say of sections, in plain Lean. -/
import Derived.Test.YtacndeejapfkiaaDoorHandH
import Derived.Test.YtacndeejapfkiaaDoorQAllx1
import Derived.Test.YtacndeejapfkiaaDoorQAllx2
import Derived.Test.YtacndeejapfkiaaDoorQAllx3
import Derived.Test.YtacndeejapfkiaaDoorQAllx4
set_option linter.unusedVariables false
set_option linter.unusedSimpArgs false
namespace Go.Proofs.YtacndeejapfkiaaDoor.PureS
open Go.RowKit Go.Proofs.YtacndeejapfkiaaDoorW.PrintWords Go.Proofs.YtacndeejapfkiaaDoor.QAll Txt HandA HandB HandC HandD HandE HandF HandG HandH

theorem inc (i n : Nat) (h : i < n) (hn : n ≤ 140737488355328) : wrap64 ((i : Int) + 1) = ((i + 1 : Nat) : Int) := by
  rw [w64 _ (by omega) (by omega)]
  push_cast
  rfl
/-- A loop that asks each element and stops at the first no. -/
theorem loop_all {α : Type} (l : List α) (L : Nat → Int → Option Bool) (T : α → Nat → Option Bool) (P : α → Prop) (E : Prop)
    (hT : ∀ x ∈ l, ∃ b, Ev (T x) b ∧ (b = true → P x))
    (hstep : ∀ (k i : Nat) (x : α), l[i]? = some x → L (k + 1) (i : Int) = (T x k).bind fun t => if t = true then L k ((i + 1 : Nat) : Int) else some false)
    (hend : ∃ b, Ev (fun k => L k (l.length : Int)) b ∧ (b = true → E)) :
    ∀ (n i : Nat), i + n = l.length → ∃ b, Ev (fun k => L k (i : Int)) b ∧ (b = true → (∀ x ∈ l.drop i, P x) ∧ E)
  | 0, i, h => by
    obtain ⟨b, hb, hq⟩ := hend
    have : i = l.length := by omega
    subst this
    exact ⟨b, hb, fun e => ⟨fun x hx => (by rw [List.drop_length] at hx; cases hx), hq e⟩⟩
  | n + 1, i, h => by
    obtain ⟨b, ⟨K, hb⟩, hq⟩ := loop_all l L T P E hT hstep hend n (i + 1) (by omega)
    have hi : l[i]? = some (l[i]'(by omega)) := List.getElem?_eq_getElem (by omega)
    generalize l[i]'(by omega) = x at hi
    obtain ⟨t, ⟨K2, ht⟩, htp⟩ := hT x (List.mem_of_getElem? hi)
    by_cases c : t = true
    · refine ⟨b, ⟨K + K2 + 1, fun m hm => ?_⟩, fun e => ⟨fun y hy => ?_, (hq e).2⟩⟩
      · obtain ⟨m', rfl⟩ : ∃ m', m = m' + 1 := ⟨m - 1, by omega⟩
        show L (m' + 1) (i : Int) = some b
        rw [hstep m' i x hi, ht m' (by omega)]
        show (if t = true then L m' ((i + 1 : Nat) : Int) else some false) = some b
        rw [if_pos c]
        exact hb m' (by omega)
      · rw [drop_at hi] at hy
        rcases List.mem_cons.1 hy with rfl | hy
        · exact htp c
        · exact (hq e).1 y hy
    · refine ⟨false, ⟨K + K2 + 1, fun m hm => ?_⟩, fun e => by cases e⟩
      obtain ⟨m', rfl⟩ : ∃ m', m = m' + 1 := ⟨m - 1, by omega⟩
      show L (m' + 1) (i : Int) = some false
      rw [hstep m' i x hi, ht m' (by omega)]
      show (if t = true then L m' ((i + 1 : Nat) : Int) else some false) = some false
      rw [if_neg c]
theorem ev_const {α : Type} {g : Nat → Option α} {r : α} (h : ∀ m, g (m + 1) = some r) : Ev g r := ev_now h

/-! ### words, values -/
theorem word_l (s : ByteArray) (hs : s.size ≤ 140737488351232) : ∀ (n i : Nat), i + n = s.size → ∃ b, Ev (fun k => spec_IsConfWord.l0 k s (s.size : Int) (i : Int)) b ∧ (b = true → (s.size ≠ 0 ∧ s.size ≤ 1000) ∧ ∀ j, i ≤ j → j < s.size → 97 ≤ bt s (j : Int) ∧ bt s (j : Int) ≤ 122)
  | 0, i, h => by
    by_cases he : s.toList = []
    · refine ⟨false, ev_now fun m => ?_, fun e => by cases e⟩
      simp only [spec_IsConfWord.l0]
      rw [if_neg (by omega), if_pos he]
    · refine ⟨decide ((s.size : Int) ≤ 1000), ev_now fun m => ?_, fun e => ⟨⟨fun h0 => ?_, ?_⟩, fun j h1 h2 => by omega⟩⟩
      · simp only [spec_IsConfWord.l0]
        rw [if_neg (by omega), if_neg he]
      · exact he (List.eq_nil_of_length_eq_zero (by rw [size_list]; exact h0))
      · have := of_decide_eq_true e
        omega
  | n + 1, i, h => by
    obtain ⟨b, ⟨K, hb⟩, hq⟩ := word_l s hs n (i + 1) (by omega)
    have w1 := inc i s.size (by omega) (by omega)
    have hi1 : (i : Int) < (s.size : Int) := by omega
    have hi0 : (0 : Int) ≤ (i : Int) := by omega
    by_cases h1 : bt s (i : Int) < 97
    · refine ⟨false, ev_now fun m => ?_, fun e => by cases e⟩
      simp only [spec_IsConfWord.l0, hi1, hi0, h1, if_true]
    · by_cases h2 : bt s (i : Int) > 122
      · refine ⟨false, ev_now fun m => ?_, fun e => by cases e⟩
        simp only [spec_IsConfWord.l0, hi1, hi0, h1, h2, if_true, if_false]
      · refine ⟨b, ⟨K + 1, fun m hm => ?_⟩, fun e => ⟨(hq e).1, fun j hj hj2 => ?_⟩⟩
        · obtain ⟨m', rfl⟩ : ∃ m', m = m' + 1 := ⟨m - 1, by omega⟩
          show spec_IsConfWord.l0 (m' + 1) s (s.size : Int) (i : Int) = some b
          simp only [spec_IsConfWord.l0, hi1, hi0, h1, h2, if_true, if_false, w1]
          exact hb m' (by omega)
        · rcases Nat.eq_or_lt_of_le hj with rfl | hj3
          · omega
          · exact (hq e).2 j hj3 hj2
theorem word (s : ByteArray) (hs : s.size ≤ 140737488351232) : ∃ b, Ev (fun k => spec_IsConfWord.f k s) b ∧ (b = true → Word s) := by
  obtain ⟨b, h, hq⟩ := word_l s hs s.size 0 (by omega)
  refine ⟨b, h, fun e => ⟨(hq e).1.2, (hq e).1.1, fun c hc => ?_⟩⟩
  obtain ⟨j, hj⟩ := List.getElem?_of_mem hc
  have hl : j < s.size := by
    have := (List.getElem?_eq_some_iff.1 hj).1
    rwa [size_list] at this
  have := (hq e).2 j (Nat.zero_le _) hl
  rw [bt_get s j c hj] at this
  unfold Sm
  omega
theorem small_l (s : ByteArray) (hs : s.size ≤ 140737488351232) : ∀ (n i : Nat), i + n = s.size → ∃ b, Ev (fun k => spec_Small.l0 k s (s.size : Int) (i : Int)) b
  | 0, i, h => by
    refine ⟨!(s.toList.isEmpty), ev_now fun m => ?_⟩
    simp only [spec_Small.l0]
    rw [if_neg (by omega)]
  | n + 1, i, h => by
    obtain ⟨b, ⟨K, hb⟩⟩ := small_l s hs n (i + 1) (by omega)
    have w1 := inc i s.size (by omega) (by omega)
    have hi1 : (i : Int) < (s.size : Int) := by omega
    have hi0 : (0 : Int) ≤ (i : Int) := by omega
    have key : (∀ m, spec_Small.l0 (m + 1) s (s.size : Int) (i : Int) = spec_Small.l0 m s (s.size : Int) ((i + 1 : Nat) : Int)) ∨ (∀ m, spec_Small.l0 (m + 1) s (s.size : Int) (i : Int) = some false) := by
      simp only [spec_Small.l0, hi1, hi0, w1, if_true]
      by_cases h1 : bt s (i : Int) ≥ 97 <;> by_cases h2 : bt s (i : Int) ≤ 122 <;> by_cases h3 : bt s (i : Int) ≥ 65 <;> by_cases h4 : bt s (i : Int) ≤ 90 <;> by_cases h5 : bt s (i : Int) ≥ 48 <;> by_cases h6 : bt s (i : Int) ≤ 57 <;> simp only [h1, h2, h3, h4, h5, h6, if_true, if_false, ite_self] <;> first | exact Or.inl fun _ => rfl | exact Or.inl fun _ => trivial | exact Or.inr fun _ => rfl | exact Or.inr fun _ => trivial | (simp; done)
    rcases key with key | key
    · exact ⟨b, ev_round ⟨K, hb⟩ fun m hm => by rw [key m]; exact hm⟩
    · exact ⟨false, ev_now key⟩
theorem value_l (s : ByteArray) (hs : s.size ≤ 140737488351232) : ∀ (n i : Nat), i + n = s.size → ∃ b, Ev (fun k => spec_IsValue.l0 k s (s.size : Int) (i : Int)) b
  | 0, i, h => by
    by_cases he : s.toList = []
    · refine ⟨false, ev_now fun m => ?_⟩
      simp only [spec_IsValue.l0]
      rw [if_neg (by omega), if_pos he]
    · refine ⟨decide ((s.size : Int) ≤ 1000), ev_now fun m => ?_⟩
      simp only [spec_IsValue.l0]
      rw [if_neg (by omega), if_neg he]
  | n + 1, i, h => by
    obtain ⟨b, ⟨K, hb⟩⟩ := value_l s hs n (i + 1) (by omega)
    replace hb : ∀ m, m ≥ K → spec_IsValue.l0 m s (s.size : Int) ((i + 1 : Nat) : Int) = some b := hb
    have w1 := inc i s.size (by omega) (by omega)
    have hi1 : (i : Int) < (s.size : Int) := by omega
    have hi0 : (0 : Int) ≤ (i : Int) := by omega
    have hi2 : (i : Int) ≤ ((i + 1 : Nat) : Int) := by omega
    have hi3 : ((i + 1 : Nat) : Int) ≤ (s.size : Int) := by omega
    have hz : (s.extract ((i : Int)).toNat (((i + 1 : Nat) : Int)).toNat).size ≤ 140737488351232 := by rw [ByteArray.size_extract]; omega
    obtain ⟨b2, K2, hb2⟩ := small_l (s.extract ((i : Int)).toNat (((i + 1 : Nat) : Int)).toNat) hz _ 0 (Nat.zero_add _)
    replace hb2 : ∀ m, m ≥ K2 → spec_Small.f m (s.extract ((i : Int)).toNat (((i + 1 : Nat) : Int)).toNat) = some b2 := hb2
    have step : ∀ m, m ≥ K2 → spec_IsValue.l0 (m + 1) s (s.size : Int) (i : Int) = (if b2 = true then spec_IsValue.l0 m s (s.size : Int) ((i + 1 : Nat) : Int) else if bt s (i : Int) = 46 then spec_IsValue.l0 m s (s.size : Int) ((i + 1 : Nat) : Int) else some false) := by
      intro m hm
      simp only [spec_IsValue.l0, hi1, hi0, w1, hi2, hi3, if_true]
      rw [hb2 m hm]
      rfl
    by_cases h4 : b2 = true ∨ bt s (i : Int) = 46
    · refine ⟨b, ⟨K + K2 + 1, fun m hm => ?_⟩⟩
      obtain ⟨m', rfl⟩ : ∃ m', m = m' + 1 := ⟨m - 1, by omega⟩
      show spec_IsValue.l0 (m' + 1) s (s.size : Int) (i : Int) = some b
      rw [step m' (by omega), hb m' (by omega)]
      rcases h4 with h4 | h4 <;> simp [h4]
    · refine ⟨false, ⟨K + K2 + 1, fun m hm => ?_⟩⟩
      obtain ⟨m', rfl⟩ : ∃ m', m = m' + 1 := ⟨m - 1, by omega⟩
      show spec_IsValue.l0 (m' + 1) s (s.size : Int) (i : Int) = some false
      rw [step m' (by omega), if_neg (fun e => h4 (Or.inl e)), if_neg (fun e => h4 (Or.inr e))]
theorem value (s : ByteArray) (hs : s.size ≤ 140737488351232) : ∃ b, Ev (fun k => spec_IsValue.f k s) b := value_l s hs s.size 0 (by omega)

/-! ### options -/
/-- What is known of sizes ahead. -/
def SzO (l : List S42) : Prop := l.length ≤ 140737488355328 ∧ ∀ o ∈ l, o.f0.size ≤ 140737488351232 ∧ o.f1.size ≤ 140737488351232
theorem options (l : List S42) (hl : SzO l) : ∃ b, Ev (fun k => spec_areOptions.f k l) b ∧ (b = true → (∀ o ∈ l, Word o.f0) ∧ l.length ≤ 1000) := by
  have h := loop_all l (fun k i => spec_areOptions.l0 k l l (l.length : Int) i) (fun o k => (spec_IsConfWord.f k o.f0).bind fun t => if t = true then spec_IsValue.f k o.f1 else some false) (fun o => Word o.f0) (l.length ≤ 1000)
    (fun o ho => by
      obtain ⟨b1, ⟨K1, h1⟩, q1⟩ := word o.f0 (hl.2 o ho).1
      obtain ⟨b2, K2, h2⟩ := value o.f1 (hl.2 o ho).2
      replace h1 : ∀ n, n ≥ K1 → spec_IsConfWord.f n o.f0 = some b1 := h1
      replace h2 : ∀ n, n ≥ K2 → spec_IsValue.f n o.f1 = some b2 := h2
      by_cases c : b1 = true
      · refine ⟨b2, ⟨K1 + K2, fun n hn => ?_⟩, fun _ => q1 c⟩
        show ((spec_IsConfWord.f n o.f0).bind fun t => if t = true then spec_IsValue.f n o.f1 else some false) = some b2
        rw [h1 n (by omega), h2 n (by omega)]
        simp [c]
      · refine ⟨false, ⟨K1 + K2, fun n hn => ?_⟩, fun e => by cases e⟩
        show ((spec_IsConfWord.f n o.f0).bind fun t => if t = true then spec_IsValue.f n o.f1 else some false) = some false
        rw [h1 n (by omega)]
        simp [c])
    (fun k i o hi => by
      have hlt : i < l.length := (List.getElem?_eq_some_iff.1 hi).1
      have w1 := inc i l.length hlt hl.1
      have hi1 : (i : Int) < (l.length : Int) := by omega
      have hi0 : (0 : Int) ≤ (i : Int) := by omega
      have hg : rd_T42 l (i : Int) = o := by
        have := get42 l i hlt
        rw [hi] at this
        exact (Option.some.inj this).symm
      show spec_areOptions.l0 (k + 1) l l (l.length : Int) (i : Int) = _
      simp only [spec_areOptions.l0, hi1, hi0, w1, hg, if_true]
      cases h1 : spec_IsConfWord.f k o.f0 with
      | none => rfl
      | some t => cases t <;> rfl)
    ⟨decide ((l.length : Int) ≤ 1000), ev_now fun m => (by
      show spec_areOptions.l0 (m + 1) l l (l.length : Int) (l.length : Int) = _
      simp only [spec_areOptions.l0]
      rw [if_neg (by omega)]), fun e => (by have := of_decide_eq_true e; omega)⟩
    l.length 0 (by omega)
  obtain ⟨b, hb, hq⟩ := h
  exact ⟨b, hb, fun e => ⟨fun o ho => (hq e).1 o (by simpa using ho), (hq e).2⟩⟩

theorem values_l (l : List S42) (u : ByteArray) (hl : l.length ≤ 1000) : ∀ (n i : Nat), i + n = l.length → Ev (fun k => spec_Values.l0 k u (vals (l.take i) u) l (l.length : Int) (i : Int)) (vals l u)
  | 0, i, h => by
    refine ev_now fun m => ?_
    have : i = l.length := by omega
    subst this
    simp only [spec_Values.l0]
    rw [if_neg (by omega), List.take_length]
  | n + 1, i, h => by
    have hlt : i < l.length := by omega
    have w1 := inc i l.length hlt (by omega)
    have hi1 : (i : Int) < (l.length : Int) := by omega
    have hi0 : (0 : Int) ≤ (i : Int) := by omega
    have hg := get42 l i hlt
    refine ev_round (values_l l u hl n (i + 1) (by omega)) fun m hm => ?_
    have hlen : (vals (l.take i) u).length < 8796093022208 := by
      have := vals_len (l.take i) u
      rw [List.length_take] at this
      have := Nat.min_le_right i l.length
      omega
    have ht : vals (l.take (i + 1)) u = vals (l.take i) u ++ (if (rd_T42 l (i : Int)).f0 = u then [(rd_T42 l (i : Int)).f1] else []) := by
      rw [List.take_add_one, hg, vals_append, ← vals_one]
      rfl
    rw [ht] at hm
    generalize rd_T42 l (i : Int) = o at hg hm ht
    simp only [spec_Values.l0, hi1, hi0, w1, hlen, if_true]
    have hgo : rd_T42 l (i : Int) = o := by
      have := get42 l i hlt
      rw [hg] at this
      exact (Option.some.inj this).symm
    rw [hgo]
    by_cases hu : o.f0 = u
    · rw [if_pos (by rw [hu])]
      rw [if_pos hu] at hm
      exact hm
    · rw [if_neg (fun e => hu (ba_ext e))]
      rw [if_neg hu, List.append_nil] at hm
      exact hm
theorem values (l : List S42) (u : ByteArray) (hl : l.length ≤ 1000) : ∃ k, spec_Values.f k l u = some (vals l u) := by
  obtain ⟨K, h⟩ := values_l l u hl l.length 0 (by omega)
  exact ⟨K, h K (Nat.le_refl _)⟩
theorem sameV_l (l : List ByteArray) (hl : l.length ≤ 140737488355328) : ∀ (n i : Nat), i + n = l.length → Ev (fun k => spec_SameValues.l0 k l l (l.length : Int) (i : Int)) true
  | 0, i, h => by
    refine ev_now fun m => ?_
    simp only [spec_SameValues.l0]
    rw [if_neg (by omega)]
  | n + 1, i, h => by
    have w1 := inc i l.length (by omega) hl
    have hi1 : (i : Int) < (l.length : Int) := by omega
    have hi0 : (0 : Int) ≤ (i : Int) := by omega
    refine ev_round (sameV_l l hl n (i + 1) (by omega)) fun m hm => ?_
    simp only [spec_SameValues.l0, hi1, hi0, w1, if_true]
    exact hm
theorem sameV (l : List ByteArray) (hl : l.length ≤ 140737488355328) : ∃ k, spec_SameValues.f k l l = some true := by
  obtain ⟨K, h⟩ := sameV_l l hl l.length 0 (by omega)
  exact ⟨K, by unfold spec_SameValues.f; rw [if_pos rfl]; exact h K (Nat.le_refl _)⟩
#print axioms values
end Go.Proofs.YtacndeejapfkiaaDoor.PureS
