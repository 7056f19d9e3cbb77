/- The law FnIgnoreLast answers true. Plain Lean. -/
import Derived.Test.YtlnfkpmmnennbaaPureJ
import Derived.Test.YtlnfkpmmnennbaaQAllx13
set_option linter.unusedVariables false
set_option linter.unusedSimpArgs false
namespace Go.Proofs.Ytlnfkpmmnennbaa.PureK
open Go.RowKit Go.Proofs.YtlnfkpmmnennbaaW.PrintWords Go.Proofs.Ytlnfkpmmnennbaa.QAll Txt PureG HandG HandM HandL PureI PureJ

theorem isg_a : IsG ⟨#[97]⟩ := by
  have hl : (⟨#[97]⟩ : ByteArray).toList = [97] := toList_lit _
  refine ⟨by rw [hl]; decide, by decide, fun c hc => ?_, fun j ha => ?_⟩
  · rw [hl] at hc
    obtain rfl : c = 97 := by simpa using hc
    exact .inl ⟨by decide, by decide⟩
  · unfold At at ha
    rw [hl] at ha
    have : (42 : UInt8) ∈ ([97] : List UInt8).drop j := List.mem_of_mem_take (by rw [ha]; exact List.mem_cons_self)
    have := List.mem_of_mem_drop this
    simp at this
theorem are_loop (l : List ByteArray) (hl : l.length ≤ 140737488351232) (hs : ∀ q ∈ l, q.size ≤ 140737488351232) : ∀ (d i : Nat), i ≤ l.length → l.length - i = d →
    ∃ b, Ev (fun k => spec_AreGlobs.l0 k l l (l.length : Int) (i : Int)) b ∧ (b = true → 0 < l.length ∧ l.length ≤ 100 ∧ ∀ j q, i ≤ j → l[j]? = some q → IsG q) := by
  intro d
  induction d with
  | zero =>
    intro i hi hd
    have hnone : ∀ j (q : ByteArray), i ≤ j → l[j]? = some q → False := fun j c hj hc => by
      obtain ⟨h, _⟩ := List.getElem?_eq_some_iff.1 hc
      omega
    by_cases hp : (l.length : Int) > 0
    · exact ⟨decide ((l.length : Int) ≤ 100), ev_now fun m => by rw [spec_AreGlobs.l0, if_neg (by omega), if_pos hp], fun h => ⟨by omega, by have := of_decide_eq_true h; omega, fun j q hj hq => (hnone j q hj hq).elim⟩⟩
    · exact ⟨false, ev_now fun m => by rw [spec_AreGlobs.l0, if_neg (by omega), if_neg hp], fun h => by cases h⟩
  | succ d ih =>
    intro i hi hd
    have hlt : i < l.length := by omega
    have hq := hs l[i] (List.getElem_mem hlt)
    obtain ⟨b1, e1, g1⟩ := isglob_tot l[i] hq
    obtain ⟨b, hb, hb'⟩ := ih (i + 1) (by omega) (by omega)
    cases b1 with
    | false =>
      refine ⟨false, ev2 e1 (Ev.now ()) fun m hm _ => ?_, fun h => by cases h⟩
      rw [spec_AreGlobs.l0, if_pos (by omega), if_pos (by omega), if_pos (by omega), rd_get l i hlt, hm, Option.bind_some, if_neg (by decide)]
    | true =>
      refine ⟨b, ?_, fun h => ?_⟩
      · refine ev2 hb e1 fun m hb' hm => ?_
        rw [spec_AreGlobs.l0, if_pos (by omega), if_pos (by omega), if_pos (by omega), rd_get l i hlt, hm, Option.bind_some, if_pos rfl, w64 _ (by omega) (by omega)]
        exact hb'
      · obtain ⟨k1, k2, k3⟩ := hb' h
        refine ⟨k1, k2, fun j q hj hq => ?_⟩
        rcases Nat.eq_or_lt_of_le hj with rfl | hlt2
        · rw [List.getElem?_eq_getElem hlt] at hq
          cases hq
          exact g1 rfl
        · exact k3 j q hlt2 hq
theorem are_tot (l : List ByteArray) (hl : l.length ≤ 140737488351232) (hs : ∀ q ∈ l, q.size ≤ 140737488351232) :
    ∃ b, Ev (fun k => spec_AreGlobs.f k l) b ∧ (b = true → 0 < l.length ∧ l.length ≤ 100 ∧ ∀ q ∈ l, IsG q) := by
  obtain ⟨b, h1, h2⟩ := are_loop l hl hs l.length 0 (by omega) (by omega)
  refine ⟨b, h1, fun h => ?_⟩
  obtain ⟨k1, k2, k3⟩ := h2 h
  refine ⟨k1, k2, fun q hq => ?_⟩
  obtain ⟨j, hj⟩ := List.getElem?_of_mem hq
  exact k3 j q (Nat.zero_le _) hj

theorem core_p {p : ByteArray} (hp : IsG p) : Core p false false [p] := by
  have h := core_name p false hp
  have he : p ++ (if false = true then (⟨#[47]⟩ : ByteArray) else ⟨#[]⟩) = p := by
    rw [if_neg (by decide)]; exact ba_ext (by rw [toList_append, show (⟨#[]⟩ : ByteArray).toList = [] from toList_lit _, List.append_nil])
  rwa [he] at h
def text (q : Bool × ByteArray) : ByteArray := if q.1 = true then (⟨#[33]⟩ : ByteArray) ++ q.2 else q.2
theorem text_parsed (q : Bool × ByteArray) (hq : IsG q.2) : Parsed (text q) q.1 false false [q.2] := by
  have hs := hq.size
  obtain ⟨b, p⟩ := q
  cases b with
  | true => exact (core_p hq).not (by simpa using (show p.size ≤ 90000 by simp at hs; omega))
  | false => exact (core_p hq).plain (by simp at hs ⊢; omega) (fun c hc => (hq.ok c hc).not33)
theorem dec_succ (a3 : Bool) (x : List ByteArray) (l : List (Bool × ByteArray)) (k : Nat) (q : Bool × ByteArray) (h : l[k]? = some q) : dec a3 x l (k + 1) = (if nig q.2.toList false a3 x = true then !q.1 else dec a3 x l k) := by
  have ht : takes false false a3 q.2 [] x = nig q.2.toList false a3 x := by
    unfold takes
    rw [if_neg (by decide), simp1_nig]
  rw [dec, h]
  show (if takes false false a3 q.2 [] x = true then !q.1 else dec a3 x l k) = _
  rw [ht]
theorem isI {pats : List (Bool × ByteArray)} {l2 : List ByteArray} {a3 : Bool} (h1 : pats.length ≤ 100) (hg : ∀ q ∈ pats, IsG q.2) (k1 : 0 < l2.length) (k2 : l2.length ≤ 100) (k3 : ∀ q ∈ l2, IsG q) :
    impl_IgnoredW.f (pats.map text) (List.replicate pats.length []) l2 a3 = some (dec a3 l2 pats pats.length) := by
  apply impl_IgnoredW.f_of
  cases l2 with
  | nil => cases k1
  | cons e l =>
    refine ⟨pats, e, l, rfl, by simp, by simp, by simp; omega, fun d hd => (List.mem_replicate.1 hd).2, fun i t p ht hp => ?_, by omega, fun p hp => ⟨(hg p hp).goodP, by rw [(hg p hp).stars]; rfl⟩, fun q hq => (k3 q hq).goodN, rfl⟩
    rw [List.getElem?_map, hp] at ht
    obtain rfl : text p = t := by simpa using ht
    exact text_parsed p (hg p (List.mem_of_getElem? hp))
theorem ig_a : impl_IgnoredW.f [⟨#[97]⟩] [[]] [⟨#[97]⟩] false = some true := by
  have h := isI (pats := [(false, ⟨#[97]⟩)]) (l2 := [⟨#[97]⟩]) (a3 := false) (by decide) (fun q hq => by (have hqe : q = (false, ⟨#[97]⟩) := by simpa using hq); subst hqe; exact isg_a) (by decide) (by decide) (fun q hq => by (have hqe : q = ⟨#[97]⟩ := by simpa using hq); subst hqe; exact isg_a)
  have hl : (⟨#[97]⟩ : ByteArray).toList = [97] := toList_lit _
  have hn : nig (⟨#[97]⟩ : ByteArray).toList false false [⟨#[97]⟩] = true := by simp [nig, hl, globs]
  have hd : dec false [⟨#[97]⟩] [(false, (⟨#[97]⟩ : ByteArray))] 1 = true := by rw [dec_succ _ _ _ 0 (false, ⟨#[97]⟩) rfl, hn]; rfl
  rw [show [((false : Bool), (⟨#[97]⟩ : ByteArray))].length = 1 from rfl, hd] at h
  exact h

theorem last_loop (x0 : List ByteArray) (x1 : List Bool) (x2 : List ByteArray) (x3 : Bool) (hlen : x1.length = x0.length) (hl : x0.length ≤ 100) (hg : ∀ q ∈ x0, IsG q) (k1 : 0 < x2.length) (k2 : x2.length ≤ 100) (k3 : ∀ q ∈ x2, IsG q) :
    ∀ (d i : Nat), i ≤ x0.length → x0.length - i = d → Ev (fun k => laws_FnIgnoreLast.l0 k x1 x2 x3 (((x1.zip x0).take i).map text) (dec x3 x2 (x1.zip x0) i) x0 (x0.length : Int) (i : Int)) true := by
  have hz : (x1.zip x0).length = x0.length := by rw [List.length_zip]; omega
  have hgz : ∀ q ∈ x1.zip x0, IsG q.2 := fun q hq => hg _ (List.of_mem_zip hq).2
  have hs : ∀ q ∈ x0, q.size ≤ 140737488351232 := fun q hq => by have := (hg q hq).size; omega
  have hs2 : ∀ q ∈ x2, q.size ≤ 140737488351232 := fun q hq => by have := (k3 q hq).size; omega
  intro d
  induction d with
  | zero =>
    intro i hi hd
    obtain rfl : i = x0.length := by omega
    refine ev_now fun m => ?_
    have ht : (x1.zip x0).take x0.length = x1.zip x0 := List.take_of_length_le (by omega)
    have hml : ((x1.zip x0).map text).length = x0.length := by rw [List.length_map, hz]
    have hI := isI (a3 := x3) (by omega) hgz k1 k2 k3
    rw [hz] at hI
    rw [laws_FnIgnoreLast.l0, if_neg (by omega), ht, hml, if_pos (by omega), Int.toNat_natCast, if_pos (by omega), hI, Option.bind_some, if_pos (by simp), ig_a]
    rfl
  | succ d ih =>
    intro i hi hd
    have hlt : i < x0.length := by omega
    have hlt1 : i < x1.length := by omega
    have e1 := nig_ok x0[i] false x3 x2 (hs _ (List.getElem_mem hlt)) (by omega) hs2
    have e2 := ih (i + 1) (by omega) (by omega)
    have hzi : (x1.zip x0)[i]? = some (x1[i], x0[i]) := by rw [List.getElem?_eq_getElem (by omega)]; simp
    have htk : ((x1.zip x0).take (i + 1)).map text = ((x1.zip x0).take i).map text ++ [text (x1[i], x0[i])] := by
      rw [List.take_add_one, hzi]; simp
    rw [dec_succ x3 x2 (x1.zip x0) i _ hzi, htk] at e2
    have hr1 : rdOf false x1 (i : Int) = x1[i] := by
      unfold rdOf
      rw [Int.toNat_natCast, List.getD_eq_getElem?_getD, List.getElem?_eq_getElem hlt1]; rfl
    have hml : (((x1.zip x0).take i).map text).length < 8796093022208 := by rw [List.length_map, List.length_take]; omega
    have hsz := (hg _ (List.getElem_mem hlt)).size
    refine ev2 e1 e2 fun m hm hm2 => ?_
    rw [laws_FnIgnoreLast.l0, if_pos (by omega), if_pos (by omega), if_pos (by omega), rd_get x0 i hlt, hm, Option.bind_some, if_pos (by omega), hr1]
    have hw : wrap64 ((i : Int) + 1) = ((i + 1 : Nat) : Int) := by rw [w64 _ (by omega) (by omega)]; omega
    rw [hw]
    unfold text at hm2
    cases hb : x1[i] with
    | true =>
      simp only [hb, if_pos] at hm2
      rw [if_pos rfl, if_pos (by omega), if_pos hml, Option.bind_some]
      split
      · rename_i h
        simp only [h, if_pos] at hm2
        exact hm2
      · rename_i h
        simp only [h] at hm2
        exact hm2
    | false =>
      simp only [hb] at hm2
      rw [if_neg (by decide), if_pos hml, Option.bind_some]
      split
      · rename_i h
        simp only [h, if_pos] at hm2
        exact hm2
      · rename_i h
        simp only [h] at hm2
        exact hm2
theorem last_law (l0 : List ByteArray) (l1 : List Bool) (l2 : List ByteArray) (a3 : Bool) (hl0 : l0.length ≤ 140737488351232) (hs0 : ∀ q ∈ l0, q.size ≤ 140737488351232) (hl : l2.length ≤ 140737488351232) (hs : ∀ q ∈ l2, q.size ≤ 140737488351232) : ∃ k, laws_FnIgnoreLast.f k l0 l1 l2 a3 = some true := by
  refine Ev.rounds ?_
  have hshut : Ev (fun k => laws_FnIgnoreLast.j0 k l0 l1 l2 a3 true) true := ev_now fun m => by rw [laws_FnIgnoreLast.j0, if_pos rfl]
  have hshut1 : Ev (fun k => laws_FnIgnoreLast.j1 k l0 l1 l2 a3 true) true := ev_now fun m => by rw [laws_FnIgnoreLast.j1, if_pos rfl]
  obtain ⟨b0, hb0⟩ := fits_tot l0 hl0
  obtain ⟨b, hb⟩ := fits_tot l2 hl
  refine Ev.bind hb0 ?_
  cases b0 with
  | false => exact Ev.congr (fun k => by rw [if_neg (by decide)]) hshut
  | true =>
    refine Ev.congr (fun k => by rw [if_pos rfl]) ?_
    by_cases hz : (l1.length : Int) > 2147483647
    · exact Ev.congr (fun k => by rw [if_pos hz]) hshut
    refine Ev.congr (fun k => by rw [if_neg hz]) ?_
    refine Ev.bind hb ?_
    cases b with
    | false => exact hshut
    | true =>
      obtain ⟨b1, e1, g1⟩ := are_tot l0 hl0 hs0
      refine Ev.step (f := fun k => (spec_AreGlobs.f k l0).bind fun t164 => (if t164 = true then (if (l1.length : Int) = (l0.length : Int) then ((spec_IsPath.f k l2).bind fun t165 => (laws_FnIgnoreLast.j1 k l0 l1 l2 a3 (!t165))) else (laws_FnIgnoreLast.j1 k l0 l1 l2 a3 true)) else (laws_FnIgnoreLast.j1 k l0 l1 l2 a3 true))) (fun k => by rw [laws_FnIgnoreLast.j0, if_neg (by decide)]) ?_
      refine Ev.bind e1 ?_
      cases b1 with
      | false => exact Ev.congr (fun k => by rw [if_neg (by decide)]) hshut1
      | true =>
        refine Ev.congr (fun k => by rw [if_pos rfl]) ?_
        by_cases hlen : (l1.length : Int) = (l0.length : Int)
        · refine Ev.congr (fun k => by rw [if_pos hlen]) ?_
          obtain ⟨b2, e2, g2⟩ := path_tot l2 hl hs
          refine Ev.bind e2 ?_
          cases b2 with
          | false => exact hshut1
          | true =>
            obtain ⟨j1, j2, j3⟩ := g1 rfl
            obtain ⟨k1, k2, k3⟩ := g2 rfl
            refine Ev.step (fun k => by rw [laws_FnIgnoreLast.j1, if_neg (by decide)]; rfl) (last_loop l0 l1 l2 a3 (by omega) j2 j3 k1 k2 k3 l0.length 0 (by omega) (by omega))
        · exact Ev.congr (fun k => by rw [if_neg hlen]) hshut1
end Go.Proofs.Ytlnfkpmmnennbaa.PureK
