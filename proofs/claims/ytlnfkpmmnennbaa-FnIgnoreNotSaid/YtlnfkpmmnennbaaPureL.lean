/- The laws FnIgnoreName and FnIgnoreDeep answer true. Plain Lean. -/
import Derived.Test.YtlnfkpmmnennbaaPureJ
import Derived.Test.YtlnfkpmmnennbaaQAllx8
import Derived.Test.YtlnfkpmmnennbaaQAllx10
set_option linter.unusedVariables false
set_option linter.unusedSimpArgs false
namespace Go.Proofs.Ytlnfkpmmnennbaa.PureL
open Go.RowKit Go.Proofs.YtlnfkpmmnennbaaW.PrintWords Go.Proofs.Ytlnfkpmmnennbaa.QAll Txt PureG HandG HandM PureI PureJ

theorem says {a0 : ByteArray} {l2 : List ByteArray} {a3 inc dir gl : Bool} {p : ByteArray} {ps : List ByteArray} (h : Parsed a0 inc dir gl (p :: ps)) (hl : 0 < l2.length) (hl2 : l2.length ≤ 100) (hq : ∀ q ∈ l2, IsG q) (hn : (p :: ps).length ≤ 100000) (hp : ∀ q ∈ p :: ps, GoodP q ∧ (stars2 q).isSome = true) :
    impl_MatchPattern.f a0 [] l2 a3 = some (mres inc gl dir a3 p ps l2) := by
  apply impl_MatchPattern.f_of
  cases l2 with
  | nil => cases hl
  | cons e l => exact ⟨rfl, e, l, inc, dir, gl, p, ps, rfl, by omega, fun q hm => (hq q hm).goodN, hn, hp, h, rfl⟩
theorem isg_a : IsG ⟨#[97]⟩ := by
  have hl : (⟨#[97]⟩ : ByteArray).toList = [97] := toList_lit _
  refine ⟨by rw [hl]; decide, by decide, fun c hc => ?_, fun j ha => ?_⟩
  · rw [hl] at hc
    obtain rfl : c = 97 := by simpa using hc
    exact .inl ⟨by decide, by decide⟩
  · unfold At at ha
    rw [hl] at ha
    have : (42 : UInt8) ∈ ([97] : List UInt8).drop j := List.mem_of_mem_take (by rw [ha]; exact List.mem_cons_self)
    have := List.mem_of_mem_drop this
    simp at this
theorem name_parsed {p : ByteArray} (folder : Bool) (hp : IsG p) : Parsed (p ++ (if folder = true then (⟨#[47]⟩ : ByteArray) else ⟨#[]⟩)) false folder false [p] := by
  have hsz : (p ++ (if folder = true then (⟨#[47]⟩ : ByteArray) else ⟨#[]⟩)).toList = p.toList ++ (if folder = true then [47] else []) := by
    rw [toList_append]; cases folder <;> simp [toList_lit]
  refine (core_name p folder hp).plain ?_ ?_
  · rw [← size_list, hsz, List.length_append, size_list]
    have := hp.size
    cases folder <;> simp <;> omega
  · intro c hc
    rw [hsz] at hc
    rcases List.mem_append.1 hc with h | h
    · exact (hp.ok c h).not33
    · cases folder with
      | false => simp at h
      | true => simp at h; subst h; decide
theorem name_says {p : ByteArray} (folder : Bool) (hp : IsG p) {l2 : List ByteArray} {a3 : Bool} (hl : 0 < l2.length) (hl2 : l2.length ≤ 100) (hq : ∀ q ∈ l2, IsG q) :
    impl_MatchPattern.f (p ++ (if folder = true then (⟨#[47]⟩ : ByteArray) else ⟨#[]⟩)) [] l2 a3 = some (if nig p.toList folder a3 l2 = true then 1 else 0) := by
  rw [says (name_parsed folder hp) hl hl2 hq (by simp) (fun q hm => by (have hqe : q = p := by simpa using hm); subst hqe; exact ⟨hp.goodP, by rw [hp.stars]; rfl⟩)]
  unfold mres takes
  rw [if_neg (show ¬ (false = true) by decide), if_neg (show ¬ (false = true) by decide), simp1_nig]
theorem match_a : impl_MatchPattern.f ⟨#[97]⟩ [] [⟨#[97]⟩] false = some 1 := by
  have h := name_says (a3 := false) false isg_a (l2 := [⟨#[97]⟩]) (by decide) (by decide) (fun q hm => by (have hqe : q = ⟨#[97]⟩ := by simpa using hm); subst hqe; exact isg_a)
  have he : (⟨#[97]⟩ : ByteArray) ++ (if false = true then (⟨#[47]⟩ : ByteArray) else ⟨#[]⟩) = ⟨#[97]⟩ := by
    rw [if_neg (by decide)]; exact ba_ext (by rw [toList_append, toList_lit, toList_lit]; rfl)
  rw [he] at h
  rw [h, if_pos]
  have hl : (⟨#[97]⟩ : ByteArray).toList = [97] := toList_lit _
  simp [nig, hl, globs]
theorem deep_says {p : ByteArray} (hp : IsG p) {l2 : List ByteArray} {a3 : Bool} (hl : 0 < l2.length) (hl2 : l2.length ≤ 100) (hq : ∀ q ∈ l2, IsG q) :
    impl_MatchPattern.f ((⟨#[42, 42, 47]⟩ : ByteArray) ++ p) [] l2 a3 = some (if nig p.toList false a3 l2 = true then 1 else 0) := by
  have hlist : ((⟨#[42, 42, 47]⟩ : ByteArray) ++ p).toList = 42 :: 42 :: 47 :: p.toList := by rw [toList_append, toList_lit]; rfl
  have h42 : (⟨#[42, 42]⟩ : ByteArray).toList = [42, 42] := toList_lit _
  have hpar : Parsed ((⟨#[42, 42, 47]⟩ : ByteArray) ++ p) false false true [⟨#[42, 42]⟩, p] := by
    refine (core_deep p hp).plain ?_ ?_
    · rw [← size_list, hlist]
      have := hp.size
      simp only [List.length_cons, size_list]
      omega
    · intro c hc
      rw [hlist] at hc
      simp only [List.mem_cons] at hc
      rcases hc with rfl | rfl | rfl | h
      · decide
      · decide
      · decide
      · exact (hp.ok c h).not33
  rw [says hpar hl hl2 hq (by simp) (fun q hm => ?_)]
  · unfold mres takes
    rw [if_pos rfl, if_neg (show ¬ (false = true) by decide)]
    congr 2
    rw [gm_cons, if_neg (by rw [h42]; decide), if_pos h42, if_neg (by simp), gm_cons, if_neg hp.pos, if_neg, hp.stars, if_neg (by decide)]
    · cases l2 with
      | nil => cases hl
      | cons e t =>
        simp only [if_pos, gm, fin]
        rw [scan_nig]
        have hnig : ∀ l, nig p.toList false false l = nig p.toList false a3 l := by
          intro l
          induction l with
          | nil => rfl
          | cons a b ih => rw [nig, nig, ih]; simp
        rw [hnig]
        simp
    · intro h
      refine hp.two 0 ?_
      unfold At
      rw [h]; rfl
  · rcases List.mem_cons.1 hm with rfl | hm
    · refine ⟨⟨by decide, fun c hc => ?_⟩, ?_⟩
      · rw [h42] at hc
        obtain rfl : c = 42 := by simpa using hc
        exact ⟨by decide, by decide, by decide⟩
      · obtain ⟨b, hb⟩ := contains_tot ⟨#[42, 42]⟩ ⟨#[42, 42]⟩ (by decide) (by decide) 100000 (by decide)
        unfold stars2
        rw [hb]; rfl
    · obtain rfl : q = p := by simpa using hm
      exact ⟨hp.goodP, by rw [hp.stars]; rfl⟩
theorem igIs_ok {a0 : ByteArray} {l1 : List ByteArray} {a2 v : Bool} (h : impl_MatchPattern.f a0 [] l1 a2 = some (if v = true then 1 else 0)) : laws_igIs.f a0 l1 a2 v = some true := by
  unfold laws_igIs.f
  rw [h]
  cases v <;> simp [match_a]

theorem name_law (a0 : ByteArray) (a1 : Bool) (l2 : List ByteArray) (a3 : Bool) (h0 : a0.size ≤ 140737488351232) (hl : l2.length ≤ 140737488351232) (hs : ∀ q ∈ l2, q.size ≤ 140737488351232) : ∃ k, laws_FnIgnoreName.f k a0 a1 l2 a3 = some true := by
  refine Ev.rounds ?_
  have hshut : Ev (fun k => laws_FnIgnoreName.j0 k a0 a1 l2 a3 true) true := ev_now fun m => by rw [laws_FnIgnoreName.j0, if_pos rfl]
  by_cases hz : (a0.size : Int) > 2147483647
  · exact Ev.congr (fun k => by unfold laws_FnIgnoreName.f; rw [if_pos hz]) hshut
  refine Ev.congr (fun k => by unfold laws_FnIgnoreName.f; rw [if_neg hz]) ?_
  obtain ⟨b, hb⟩ := fits_tot l2 hl
  refine Ev.bind hb ?_
  cases b with
  | false => exact hshut
  | true =>
    obtain ⟨b1, e1, g1⟩ := isglob_tot a0 h0
    have hshut1 : Ev (fun k => laws_FnIgnoreName.j1 k a0 a1 l2 a3 true) true := ev_now fun m => by rw [laws_FnIgnoreName.j1, if_pos rfl]
    refine Ev.step (f := fun k => (spec_IsGlob.f k a0).bind fun t137 => (if t137 = true then ((spec_IsPath.f k l2).bind fun t138 => (laws_FnIgnoreName.j1 k a0 a1 l2 a3 (!t138))) else (laws_FnIgnoreName.j1 k a0 a1 l2 a3 true))) (fun k => by rw [laws_FnIgnoreName.j0, if_neg (by decide)]) ?_
    refine Ev.bind e1 ?_
    cases b1 with
    | false => exact Ev.congr (fun k => by rw [if_neg (by decide)]) hshut1
    | true =>
      refine Ev.congr (fun k => by rw [if_pos rfl]) ?_
      obtain ⟨b2, e2, g2⟩ := path_tot l2 hl hs
      refine Ev.bind e2 ?_
      cases b2 with
      | false => exact hshut1
      | true =>
        have hp := g1 rfl
        obtain ⟨k1, k2, k3⟩ := g2 rfl
        have hn := nig_ok a0 a1 a3 l2 h0 hl hs
        refine ev2 hn (Ev.now ()) fun m hm _ => ?_
        have ht : laws_igTail.f a1 = some (if a1 = true then (⟨#[47]⟩ : ByteArray) else ⟨#[]⟩) := by unfold laws_igTail.f; cases a1 <;> rfl
        have hts : (if a1 = true then (⟨#[47]⟩ : ByteArray) else ⟨#[]⟩).size ≤ 1 := by cases a1 <;> decide
        have := hp.size
        rw [laws_FnIgnoreName.j1, if_neg (by decide), ht, Option.bind_some, if_pos (by omega), hm, Option.bind_some, igIs_ok (name_says a1 hp k1 k2 k3), Option.bind_some]
theorem deep_law (a0 : ByteArray) (l1 : List ByteArray) (a2 : Bool) (h0 : a0.size ≤ 140737488351232) (hl : l1.length ≤ 140737488351232) (hs : ∀ q ∈ l1, q.size ≤ 140737488351232) : ∃ k, laws_FnIgnoreDeep.f k a0 l1 a2 = some true := by
  refine Ev.rounds ?_
  have hshut : Ev (fun k => laws_FnIgnoreDeep.j0 k a0 l1 a2 true) true := ev_now fun m => by rw [laws_FnIgnoreDeep.j0, if_pos rfl]
  by_cases hz : (a0.size : Int) > 2147483647
  · exact Ev.congr (fun k => by unfold laws_FnIgnoreDeep.f; rw [if_pos hz]) hshut
  refine Ev.congr (fun k => by unfold laws_FnIgnoreDeep.f; rw [if_neg hz]) ?_
  obtain ⟨b, hb⟩ := fits_tot l1 hl
  refine Ev.bind hb ?_
  cases b with
  | false => exact hshut
  | true =>
    obtain ⟨b1, e1, g1⟩ := isglob_tot a0 h0
    have hshut1 : Ev (fun k => laws_FnIgnoreDeep.j1 k a0 l1 a2 true) true := ev_now fun m => by rw [laws_FnIgnoreDeep.j1, if_pos rfl]
    refine Ev.step (f := fun k => (spec_IsGlob.f k a0).bind fun t132 => (if t132 = true then ((spec_IsPath.f k l1).bind fun t133 => (laws_FnIgnoreDeep.j1 k a0 l1 a2 (!t133))) else (laws_FnIgnoreDeep.j1 k a0 l1 a2 true))) (fun k => by rw [laws_FnIgnoreDeep.j0, if_neg (by decide)]) ?_
    refine Ev.bind e1 ?_
    cases b1 with
    | false => exact Ev.congr (fun k => by rw [if_neg (by decide)]) hshut1
    | true =>
      refine Ev.congr (fun k => by rw [if_pos rfl]) ?_
      obtain ⟨b2, e2, g2⟩ := path_tot l1 hl hs
      refine Ev.bind e2 ?_
      cases b2 with
      | false => exact hshut1
      | true =>
        have hp := g1 rfl
        obtain ⟨k1, k2, k3⟩ := g2 rfl
        have hn := nig_ok a0 false a2 l1 h0 hl hs
        refine ev2 hn (Ev.now ()) fun m hm _ => ?_
        have := hp.size
        rw [laws_FnIgnoreDeep.j1, if_neg (by decide), if_pos (by omega), hm, Option.bind_some, igIs_ok (deep_says hp k1 k2 k3), Option.bind_some]

end Go.Proofs.Ytlnfkpmmnennbaa.PureL
