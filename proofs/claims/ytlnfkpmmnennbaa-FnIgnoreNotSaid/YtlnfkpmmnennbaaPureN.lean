/- The law FnIgnoreNot answers true. Plain Lean. -/
import Derived.Test.YtlnfkpmmnennbaaPureL
import Derived.Test.YtlnfkpmmnennbaaQAllx12
set_option linter.unusedVariables false
set_option linter.unusedSimpArgs false
namespace Go.Proofs.Ytlnfkpmmnennbaa.PureN
open Go.RowKit Go.Proofs.YtlnfkpmmnennbaaW.PrintWords Go.Proofs.Ytlnfkpmmnennbaa.QAll Txt PureG HandG HandM PureI PureJ PureL

theorem l47 : (⟨#[47]⟩ : ByteArray).toList = [47] := toList_lit _
theorem z47 : (⟨#[47]⟩ : ByteArray).size = 1 := rfl
theorem split_tot : ∀ (n : Nat) (x0 : ByteArray) (acc : List ByteArray) (k : Nat), x0.size ≤ n → n ≤ 5000 → 6000 + n ≤ k → acc.length + n ≤ 10000 → (∀ c ∈ x0.toList, Gc c) → (∀ q ∈ acc, GoodP q) →
    ∃ ps, gitignore_zzSplit.l0 k x0 ⟨#[47]⟩ acc = some ps ∧ (∀ q ∈ ps, GoodP q) ∧ ps ≠ [] ∧ ps.length ≤ acc.length + n + 1 := by
  intro n
  induction n with
  | zero =>
    intro x0 acc k h1 h2 h3 h4 h5 h6
    obtain ⟨k, rfl⟩ : ∃ m, k = m + 1 := ⟨k - 1, by omega⟩
    rcases idx_tot x0 ⟨#[47]⟩ (by omega) (by decide) k (by omega) with h | ⟨i, hi, _, _⟩
    · refine ⟨_, split_last k x0 _ acc h (by omega), ?_, by simp, by simp⟩
      intro q hq
      rcases List.mem_append.1 hq with hq | hq
      · exact h6 q hq
      · obtain rfl : q = x0 := by simpa using hq
        exact ⟨by omega, h5⟩
    · rw [z47] at hi; omega
  | succ n ih =>
    intro x0 acc k h1 h2 h3 h4 h5 h6
    obtain ⟨k, rfl⟩ : ∃ m, k = m + 1 := ⟨k - 1, by omega⟩
    rcases idx_tot x0 ⟨#[47]⟩ (by omega) (by decide) k (by omega) with h | ⟨i, hi, _, hx⟩
    · refine ⟨_, split_last k x0 _ acc h (by omega), ?_, by simp, by simp⟩
      intro q hq
      rcases List.mem_append.1 hq with hq | hq
      · exact h6 q hq
      · obtain rfl : q = x0 := by simpa using hq
        exact ⟨by omega, h5⟩
    · have hz := hi
      rw [z47] at hz
      obtain ⟨ps, e1, e2, e3, e4⟩ := ih (x0.extract (i + (⟨#[47]⟩ : ByteArray).size) x0.size) (acc ++ [x0.extract 0 i]) k (by rw [z47, ← size_list, ext_from, List.length_drop, size_list]; omega) (by omega) (by omega) (by rw [List.length_append]; simp; omega)
        (fun c hc => by rw [ext_from] at hc; exact h5 c (List.mem_of_mem_drop hc))
        (fun q hq => by
          rcases List.mem_append.1 hq with hq | hq
          · exact h6 q hq
          · obtain rfl : q = x0.extract 0 i := by simpa using hq
            exact ⟨by rw [← size_list, ext_to, List.length_take, size_list]; omega, fun c hc => by rw [ext_to] at hc; exact h5 c (List.mem_of_mem_take hc)⟩)
      refine ⟨ps, ?_, e2, e3, ?_⟩
      · rw [split_step k x0 _ acc i hx hi (by omega) (by omega), e1]
      · rw [List.length_append] at e4
        simp at e4
        omega
theorem core_tot {t : ByteArray} (h : Tx t) : ∃ dir gl p ps, Core t dir gl (p :: ps) ∧ (p :: ps).length ≤ 100000 ∧ ∀ q ∈ p :: ps, GoodP q ∧ (stars2 q).isSome = true := by
  have hsz := h.size
  have hsuf := suffix_val t ⟨#[47]⟩ (by omega) (by decide)
  generalize hdir : decide ((⟨#[47]⟩ : ByteArray).size ≤ t.size ∧ t.toList.drop (t.size - (⟨#[47]⟩ : ByteArray).size) = (⟨#[47]⟩ : ByteArray).toList) = dir at hsuf
  have hd1 : dir = true → 1 ≤ (t.size : Int) := by
    rintro rfl
    have := (of_decide_eq_true hdir).1
    rw [z47] at this
    omega
  obtain ⟨p3, hp3⟩ : ∃ p3, p3 = (if dir = true then t.extract 0 (t.size - 1) else t) := ⟨_, rfl⟩
  have hT : Tx p3 := by
    rw [hp3]
    split
    · exact ⟨by rw [← size_list, ext_to, List.length_take, size_list]; omega, fun c hc => by rw [ext_to] at hc; exact h.gc c (List.mem_of_mem_take hc)⟩
    · exact h
  have hsz3 := hT.size
  obtain ⟨gl, hgl⟩ := contains_tot p3 ⟨#[47]⟩ (by omega) (by decide) 100000 (by omega)
  obtain ⟨ps, e1, e2, e3, e4⟩ := split_tot 5000 p3 [] 100000 hT.size (by omega) (by omega) (by simp) (fun c hc => (hT.gc c hc).1) (fun q hq => by simp at hq)
  cases ps with
  | nil => exact absurd rfl e3
  | cons p ps =>
    refine ⟨dir, gl, p, ps, ⟨p3, h.suf, h.trim, hsuf, hp3, hd1, hgl, e1⟩, by simp at e4 ⊢; omega, fun q hq => ⟨e2 q hq, ?_⟩⟩
    obtain ⟨b, hb⟩ := contains_tot q ⟨#[42, 42]⟩ (by have := (e2 q hq).1; omega) (by decide) 100000 (by have := (e2 q hq).1; omega)
    unfold stars2
    rw [hb]; rfl
theorem not_says {t : ByteArray} (h : Tx t) {l2 : List ByteArray} {a3 : Bool} (hl : 0 < l2.length) (hl2 : l2.length ≤ 100) (hq : ∀ q ∈ l2, IsG q) :
    ∃ b : Bool, impl_MatchPattern.f t [] l2 a3 = some (if b = true then 1 else 0) ∧ impl_MatchPattern.f ((⟨#[33]⟩ : ByteArray) ++ t) [] l2 a3 = some (if b = true then 2 else 0) := by
  have hsz := h.size
  obtain ⟨dir, gl, p, ps, hc, hn, hp⟩ := core_tot h
  refine ⟨takes gl dir a3 p ps l2, ?_, ?_⟩
  · rw [says (hc.plain (by omega) (fun c hm => (h.gc c hm).2.2)) hl hl2 hq hn hp]
    unfold mres
    rw [if_neg (show ¬ (false = true) by decide)]
  · rw [says (hc.not (by omega)) hl hl2 hq hn hp]
    unfold mres
    rw [if_pos (show true = true from rfl)]
theorem match_na : impl_MatchPattern.f ⟨#[33, 97]⟩ [] [⟨#[97]⟩] false = some 2 := by
  have hl : (⟨#[97]⟩ : ByteArray).toList = [97] := toList_lit _
  have hcore := core_name _ false isg_a
  have he : (⟨#[97]⟩ : ByteArray) ++ (if false = true then (⟨#[47]⟩ : ByteArray) else ⟨#[]⟩) = ⟨#[97]⟩ := by
    rw [if_neg (by decide)]; exact ba_ext (by rw [toList_append, toList_lit, toList_lit]; rfl)
  rw [he] at hcore
  have hpar := hcore.not (by decide)
  have he2 : (⟨#[33]⟩ : ByteArray) ++ (⟨#[97]⟩ : ByteArray) = ⟨#[33, 97]⟩ := ba_ext (by rw [toList_append, toList_lit, toList_lit, toList_lit]; rfl)
  rw [he2] at hpar
  rw [says hpar (l2 := [⟨#[97]⟩]) (by decide) (by decide) (fun q hm => by (have hqe : q = ⟨#[97]⟩ := by simpa using hm); subst hqe; exact isg_a) (by simp) (fun q hm => by (have hqe : q = ⟨#[97]⟩ := by simpa using hm); subst hqe; exact ⟨isg_a.goodP, by rw [isg_a.stars]; rfl⟩)]
  unfold mres takes
  rw [if_neg (show ¬ (false = true) by decide), simp1_nig]
  have : nig (⟨#[97]⟩ : ByteArray).toList false false [⟨#[97]⟩] = true := by simp [nig, hl, globs]
  rw [this]
  rfl

/-! ### AreGlobs, Slashed -/
theorem are_loop (l : List ByteArray) (hl : l.length ≤ 140737488351232) (hs : ∀ q ∈ l, q.size ≤ 140737488351232) : ∀ (d i : Nat), i ≤ l.length → l.length - i = d →
    ∃ b, Ev (fun k => spec_AreGlobs.l0 k l l (l.length : Int) (i : Int)) b ∧ (b = true → 0 < l.length ∧ l.length ≤ 100 ∧ ∀ j q, i ≤ j → l[j]? = some q → IsG q) := by
  intro d
  induction d with
  | zero =>
    intro i hi hd
    have hnone : ∀ j (q : ByteArray), i ≤ j → l[j]? = some q → False := fun j c hj hc => by
      obtain ⟨h, _⟩ := List.getElem?_eq_some_iff.1 hc
      omega
    by_cases hp : (l.length : Int) > 0
    · exact ⟨decide ((l.length : Int) ≤ 100), ev_now fun m => by rw [spec_AreGlobs.l0, if_neg (by omega), if_pos hp], fun h => ⟨by omega, by have := of_decide_eq_true h; omega, fun j q hj hq => (hnone j q hj hq).elim⟩⟩
    · exact ⟨false, ev_now fun m => by rw [spec_AreGlobs.l0, if_neg (by omega), if_neg hp], fun h => by cases h⟩
  | succ d ih =>
    intro i hi hd
    have hlt : i < l.length := by omega
    have hq := hs l[i] (List.getElem_mem hlt)
    obtain ⟨b1, e1, g1⟩ := isglob_tot l[i] hq
    obtain ⟨b, hb, hb'⟩ := ih (i + 1) (by omega) (by omega)
    cases b1 with
    | false =>
      refine ⟨false, ev2 e1 (Ev.now ()) fun m hm _ => ?_, fun h => by cases h⟩
      rw [spec_AreGlobs.l0, if_pos (by omega), if_pos (by omega), if_pos (by omega), rd_get l i hlt, hm, Option.bind_some, if_neg (by decide)]
    | true =>
      refine ⟨b, ?_, fun h => ?_⟩
      · refine ev2 hb e1 fun m hb' hm => ?_
        rw [spec_AreGlobs.l0, if_pos (by omega), if_pos (by omega), if_pos (by omega), rd_get l i hlt, hm, Option.bind_some, if_pos rfl, w64 _ (by omega) (by omega)]
        exact hb'
      · obtain ⟨k1, k2, k3⟩ := hb' h
        refine ⟨k1, k2, fun j q hj hq => ?_⟩
        rcases Nat.eq_or_lt_of_le hj with rfl | hlt2
        · rw [List.getElem?_eq_getElem hlt] at hq
          cases hq
          exact g1 rfl
        · exact k3 j q hlt2 hq
theorem are_tot (l : List ByteArray) (hl : l.length ≤ 140737488351232) (hs : ∀ q ∈ l, q.size ≤ 140737488351232) :
    ∃ b, Ev (fun k => spec_AreGlobs.f k l) b ∧ (b = true → 0 < l.length ∧ l.length ≤ 100 ∧ ∀ q ∈ l, IsG q) := by
  obtain ⟨b, h1, h2⟩ := are_loop l hl hs l.length 0 (by omega) (by omega)
  refine ⟨b, h1, fun h => ?_⟩
  obtain ⟨k1, k2, k3⟩ := h2 h
  refine ⟨k1, k2, fun q hq => ?_⟩
  obtain ⟨j, hj⟩ := List.getElem?_of_mem hq
  exact k3 j q (Nat.zero_le _) hj

def Tc (c : UInt8) : Prop := Gc c ∧ c ≠ 32 ∧ c ≠ 33
theorem Tc.slash : Tc 47 := ⟨⟨by decide, by decide, by decide⟩, by decide, by decide⟩
theorem slash_loop (l : List ByteArray) (hl : l.length ≤ 100) (hg : ∀ q ∈ l, IsG q) : ∀ (d i : Nat) (x : ByteArray), i ≤ l.length → l.length - i = d → x.size ≤ 41 * i → (∀ c ∈ x.toList, Tc c) →
    ∃ t, Ev (fun k => spec_Slashed.l0 k x l (l.length : Int) (i : Int)) t ∧ t.size ≤ 41 * l.length ∧ ∀ c ∈ t.toList, Tc c := by
  intro d
  induction d with
  | zero =>
    intro i x hi hd hx hc
    exact ⟨x, ev_now fun m => by rw [spec_Slashed.l0, if_neg (by omega)], by omega, hc⟩
  | succ d ih =>
    intro i x hi hd hx hc
    have hlt : i < l.length := by omega
    have hq := hg l[i] (List.getElem_mem hlt)
    have hqs := hq.size
    have hqc : ∀ c ∈ l[i].toList, Tc c := fun c hm => ⟨(hq.ok c hm).gc, (hq.ok c hm).not32, (hq.ok c hm).not33⟩
    have hw : wrap64 ((i : Int) + 1) = ((i + 1 : Nat) : Int) := by rw [w64 _ (by omega) (by omega)]; omega
    by_cases h0 : (i : Int) > 0
    · have hs1 : (x ++ (⟨#[47]⟩ : ByteArray)).size = x.size + 1 := by rw [ByteArray.size_append]; rfl
      obtain ⟨t, e1, e2, e3⟩ := ih (i + 1) ((x ++ (⟨#[47]⟩ : ByteArray)) ++ l[i]) (by omega) (by omega) (by rw [ByteArray.size_append, hs1]; omega) (fun c hm => by
        rw [toList_append, toList_append, l47] at hm
        rcases List.mem_append.1 hm with hm | hm
        · rcases List.mem_append.1 hm with hm | hm
          · exact hc c hm
          · obtain rfl : c = 47 := by simpa using hm
            exact Tc.slash
        · exact hqc c hm)
      refine ⟨t, Ev.step (fun k => ?_) e1, e2, e3⟩
      rw [spec_Slashed.l0, if_pos (by omega), if_pos (by omega), if_pos (by omega), if_pos h0, if_pos (by omega), rd_get l i hlt, if_pos (by rw [hs1]; omega), hw]
    · obtain ⟨t, e1, e2, e3⟩ := ih (i + 1) (x ++ l[i]) (by omega) (by omega) (by rw [ByteArray.size_append]; omega) (fun c hm => by
        rw [toList_append] at hm
        rcases List.mem_append.1 hm with hm | hm
        · exact hc c hm
        · exact hqc c hm)
      refine ⟨t, Ev.step (fun k => ?_) e1, e2, e3⟩
      rw [spec_Slashed.l0, if_pos (by omega), if_pos (by omega), if_pos (by omega), if_neg h0, rd_get l i hlt, if_pos (by omega), hw]
theorem slash_tot (l : List ByteArray) (hl : l.length ≤ 100) (hg : ∀ q ∈ l, IsG q) : ∃ t, Ev (fun k => spec_Slashed.f k l) t ∧ t.size ≤ 41 * l.length ∧ ∀ c ∈ t.toList, Tc c :=
  slash_loop l hl hg l.length 0 ⟨#[]⟩ (by omega) (by omega) (by decide) (fun c hc => by rw [toList_lit] at hc; simp at hc)

theorem not_law (l0 : List ByteArray) (a1 : Bool) (l2 : List ByteArray) (a3 : Bool) (hl0 : l0.length ≤ 140737488351232) (hs0 : ∀ q ∈ l0, q.size ≤ 140737488351232) (hl : l2.length ≤ 140737488351232) (hs : ∀ q ∈ l2, q.size ≤ 140737488351232) : ∃ k, laws_FnIgnoreNot.f k l0 a1 l2 a3 = some true := by
  refine Ev.rounds ?_
  have hshut : Ev (fun k => laws_FnIgnoreNot.j0 k l0 a1 l2 a3 true) true := ev_now fun m => by rw [laws_FnIgnoreNot.j0, if_pos rfl]
  obtain ⟨b0, hb0⟩ := fits_tot l0 hl0
  obtain ⟨b, hb⟩ := fits_tot l2 hl
  refine Ev.bind hb0 ?_
  cases b0 with
  | false => exact Ev.congr (fun k => by rw [if_neg (by decide)]) hshut
  | true =>
    refine Ev.congr (fun k => by rw [if_pos rfl]) ?_
    refine Ev.bind hb ?_
    cases b with
    | false => exact hshut
    | true =>
      obtain ⟨b1, e1, g1⟩ := are_tot l0 hl0 hs0
      have hshut1 : Ev (fun k => laws_FnIgnoreNot.j1 k l0 a1 l2 a3 true) true := ev_now fun m => by rw [laws_FnIgnoreNot.j1, if_pos rfl]
      refine Ev.step (f := fun k => (spec_AreGlobs.f k l0).bind fun t147 => (if t147 = true then ((spec_IsPath.f k l2).bind fun t148 => (laws_FnIgnoreNot.j1 k l0 a1 l2 a3 (!t148))) else (laws_FnIgnoreNot.j1 k l0 a1 l2 a3 true))) (fun k => by rw [laws_FnIgnoreNot.j0, if_neg (by decide)]) ?_
      refine Ev.bind e1 ?_
      cases b1 with
      | false => exact Ev.congr (fun k => by rw [if_neg (by decide)]) hshut1
      | true =>
        refine Ev.congr (fun k => by rw [if_pos rfl]) ?_
        obtain ⟨b2, e2, g2⟩ := path_tot l2 hl hs
        refine Ev.bind e2 ?_
        cases b2 with
        | false => exact hshut1
        | true =>
          obtain ⟨j1, j2, j3⟩ := g1 rfl
          obtain ⟨k1, k2, k3⟩ := g2 rfl
          obtain ⟨t, et, ht1, ht2⟩ := slash_tot l0 j2 j3
          refine ev2 et (Ev.now ()) fun m hm _ => ?_
          have htl : laws_igTail.f a1 = some (if a1 = true then (⟨#[47]⟩ : ByteArray) else ⟨#[]⟩) := by unfold laws_igTail.f; cases a1 <;> rfl
          have hts : (if a1 = true then (⟨#[47]⟩ : ByteArray) else ⟨#[]⟩).size ≤ 1 := by cases a1 <;> decide
          have hT : Tx (t ++ (if a1 = true then (⟨#[47]⟩ : ByteArray) else ⟨#[]⟩)) := ⟨by rw [ByteArray.size_append]; omega, fun c hc => by
            rw [toList_append] at hc
            rcases List.mem_append.1 hc with hc | hc
            · exact ht2 c hc
            · cases a1 with
              | false => rw [if_neg (by decide), toList_lit] at hc; simp at hc
              | true =>
                rw [if_pos rfl, l47] at hc
                obtain rfl : c = 47 := by simpa using hc
                exact Tc.slash⟩
          have hTs := hT.size
          generalize (if a1 = true then (⟨#[47]⟩ : ByteArray) else ⟨#[]⟩) = y at htl hts hT hTs
          obtain ⟨v, n1, n2⟩ := not_says hT (a3 := a3) k1 k2 k3
          cases v with
          | true =>
            have n1' : impl_MatchPattern.f (t ++ y) [] l2 a3 = some 1 := n1
            have n2' : impl_MatchPattern.f ((⟨#[33]⟩ : ByteArray) ++ (t ++ y)) [] l2 a3 = some 2 := n2
            rw [laws_FnIgnoreNot.j1, if_neg (by decide), hm, Option.bind_some, htl, Option.bind_some, if_pos (by omega), n1', Option.bind_some, if_pos rfl, if_pos (by omega), n2', Option.bind_some, if_pos rfl, match_na]
            rfl
          | false =>
            have n1' : impl_MatchPattern.f (t ++ y) [] l2 a3 = some 0 := n1
            have n2' : impl_MatchPattern.f ((⟨#[33]⟩ : ByteArray) ++ (t ++ y)) [] l2 a3 = some 0 := n2
            rw [laws_FnIgnoreNot.j1, if_neg (by decide), hm, Option.bind_some, htl, Option.bind_some, if_pos (by omega), n1', Option.bind_some, if_neg (by decide), if_pos (by omega), n2', Option.bind_some, if_pos rfl, match_na]
            rfl
end Go.Proofs.Ytlnfkpmmnennbaa.PureN
