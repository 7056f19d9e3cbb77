/- MatchPattern, walked. -/
import Derived.Test.YtlnfkpmmnennbaaHandN
import Derived.Deep.RegionLawGrows
set_option linter.unusedVariables false
set_option linter.unusedSimpArgs false
namespace Go.Proofs.Ytlnfkpmmnennbaa.HandQ
open Go.RowKit Go.Proofs.YtlnfkpmmnennbaaW.PrintWords Go.Proofs.YtlnfkpmmnennbaaW.PrintLast Go.Proofs.Ytlnfkpmmnennbaa.QAll Txt PureG HandG HandM HandP HandN

set_option maxHeartbeats 4000000 in
set_option maxRecDepth 100000 in
theorem matchP (K : Nat) (a0 p1 p3 : ByteArray) (inc dir gl isDir : Bool) (p : ByteArray) (ps : List ByteArray) (A1 A2 : Option Addr) (c1 c2 : Nat) (e0 : ByteArray) (l : List ByteArray) (w : World)
    (hparse : ∀ (A : Option Addr) (c : Nat) (w : World), Calls Try.prog 19 #[.string a0, .slice A 0 c] w fun e w' => ∃ g, e = .returned (.iface 52 (.pointer (some ⟨g, 0, none⟩))) ∧ Pat w' g [] (p :: ps) inc dir gl ∧ w.heap.size ≤ g ∧ Below w.heap.size w w')
    (hC : Kd.C Kd.string w A2 (e0 :: l).length (e0 :: l)) (hc : (e0 :: l).length ≤ c2) (hl : (e0 :: l).length ≤ 1000) (hn : (p :: ps).length ≤ 100000) (hp : ∀ q ∈ p :: ps, GoodP q ∧ (stars2 q).isSome = true) (hq : ∀ q ∈ e0 :: l, GoodN q) :
    Calls Try.prog 15 #[.string a0, .slice A1 0 c1, .slice A2 (e0 :: l).length c2, .bool isDir] w fun e' w' => e' = .returned (.int .i64 (mres inc gl dir isDir p ps (e0 :: l))) ∧ Below w.heap.size w w' := by
  obtain ⟨i0, hi0, hz0, hsz0, hby0⟩ := info_parts info9
  obtain ⟨ad, hA, hcell⟩ := hC.2.2 (by simp)
  subst hA
  have HC := Aside0.mk hC
  have HN : Aside0 (∀ W, Below w.heap.size w W → ∀ j u, ((e0 :: l).map Value.string)[j]? = some u → W.cell? (ad.add j) = some u) := ⟨by
    intro W hb j u hu
    rw [List.getElem?_map] at hu
    obtain ⟨x, hx, rfl⟩ := Option.map_eq_some_iff.1 hu
    obtain ⟨hj, hxe⟩ := List.getElem?_eq_some_iff.1 hx
    obtain ⟨ad', e, hx'⟩ := Kd.at_string (Kd.C_below HC.out hb) (j : Int) (by omega) (by omega)
    cases e
    rw [Int.toNat_natCast] at hx'
    rw [hx']
    unfold rdOf
    rw [Int.toNat_natCast, List.getD_eq_getElem?_getD, hx]
    rfl⟩
  have HPa := Aside0.mk hparse
  have HI := Aside0.mk (And.intro hi0 (And.intro hz0 (And.intro hsz0 hby0)))
  clear hparse hC hcell hi0 hz0 hsz0 hby0
  have hna := fun g W => nilAhead52 201 g W
  have hme := fun g W => method52 201 g W
  have TP : Aside0 (∀ g A c w, Pat w g [] (p :: ps) inc dir gl → Kd.C Kd.string w A (e0 :: l).length (e0 :: l) → (e0 :: l).length ≤ c → Calls Try.prog 44 #[.pointer (some ⟨g, 0, none⟩), .slice A (l.length + 1) c, .bool isDir] w fun e' w' => e' = .returned (.int .i64 (mres inc gl dir isDir p ps (e0 :: l))) ∧ Below w.heap.size w w') := ⟨fun g A c w hP hC hc => takesP g p ps inc dir gl isDir A c e0 l w hP hC hc hl hn hp hq⟩
  go_enter Try.func15, Try.ntmps15
  go_wp2
  cases A1 with
  | none =>
    go_region_law (first
      | (go_simp; go_at_call 19; with_reducible refine (HPa.out _ _ _).mono ?_; rintro e w' ⟨g, rfl, hP, hg, hb⟩; have HP := Aside0.mk hP; have HB1 : Aside0 (Below w.heap.size w w') := ⟨below_step (by repeat (first | exact Below.refl _ _ | apply below_alloc | apply below_drew)) hb⟩; clear hP hb hg)
      | (refine step_append_grows rfl (.tmp 14) (.tmp 15) 22 rfl 9 i0 (.string ⟨#[]⟩) 1 16 Try.underlying22 HI.out.1 HI.out.2.1 HI.out.2.2.1 HI.out.2.2.2 rfl (by decide) _ 0 0 [] rfl (by simp) rfl (by simp) ad (l.length + 1) c2 ((e0 :: l).map Value.string) rfl (by simp) (HN.out _ (by repeat (first | exact HB1.out | apply below_alloc | apply below_drew))) (by intro u hu; obtain ⟨x, _, rfl⟩ := List.mem_map.1 hu; rfl) (by omega) (by simp only [List.length_cons, maxLen] at hl ⊢; omega) (by simp only [List.length_cons] at hl; omega) ?_; intro v1 w1 hr hg; have hR := (Kd.R_of_own (enc := Value.string) (h1 := fun _ => rfl) (xs := e0 :: l) (ok := fun _ => True) (by have hr2 := hr; simp only [Nat.zero_add, List.nil_append] at hr2; exact hr2) (fun _ _ => trivial)); obtain ⟨A3, c3, rfl, hc3, hC3⟩ := Kd.R_reads hR; have HC3 : Aside0 (Kd.C Kd.string w1 A3 (e0 :: l).length (e0 :: l)) := ⟨hC3⟩; have Hc3 := Aside0.mk hc3; have hbw := Below.grown (B := w'.heap.size) (a := w') (by repeat (first | exact Below.refl _ _ | apply below_alloc | apply below_drew)) hg (Below.size (B := w'.heap.size) (by repeat (first | exact Below.refl _ _ | apply below_alloc | apply below_drew))) (fun k hk => by cases hk); have HP2 := Aside0.mk (HP.out.below hbw); have HB2 : Aside0 (Below w.heap.size w w1) := ⟨HB1.out.trans (hbw.mono HB1.out.size)⟩; clear hr hR hg hbw hC3 hc3)
      | (go_simp; go_at_call 44; with_reducible refine (TP.out _ _ _ _ HP2.out HC3.out Hc3.out).mono ?_; rintro e w2 ⟨rfl, hb⟩; have HB3 : Aside0 (Below w.heap.size w w2) := ⟨HB2.out.trans (hb.mono HB2.out.size)⟩; clear hb))
    all_goals (go_wp2; go_ret; exact ⟨rfl, HB3.out⟩)
  | some ad1 =>
    go_region_law (first
      | (go_simp; go_at_call 19; with_reducible refine (HPa.out _ _ _).mono ?_; rintro e w' ⟨g, rfl, hP, hg, hb⟩; have HP := Aside0.mk hP; have HB1 : Aside0 (Below w.heap.size w w') := ⟨below_step (by repeat (first | exact Below.refl _ _ | apply below_alloc | apply below_drew)) hb⟩; clear hP hb hg)
      | (refine step_append_grows rfl (.tmp 14) (.tmp 15) 22 rfl 9 i0 (.string ⟨#[]⟩) 1 16 Try.underlying22 HI.out.1 HI.out.2.1 HI.out.2.2.1 HI.out.2.2.2 rfl (by decide) _ 0 0 [] rfl (by simp) rfl (by simp) ad (l.length + 1) c2 ((e0 :: l).map Value.string) rfl (by simp) (HN.out _ (by repeat (first | exact HB1.out | apply below_alloc | apply below_drew))) (by intro u hu; obtain ⟨x, _, rfl⟩ := List.mem_map.1 hu; rfl) (by omega) (by simp only [List.length_cons, maxLen] at hl ⊢; omega) (by simp only [List.length_cons] at hl; omega) ?_; intro v1 w1 hr hg; have hR := (Kd.R_of_own (enc := Value.string) (h1 := fun _ => rfl) (xs := e0 :: l) (ok := fun _ => True) (by have hr2 := hr; simp only [Nat.zero_add, List.nil_append] at hr2; exact hr2) (fun _ _ => trivial)); obtain ⟨A3, c3, rfl, hc3, hC3⟩ := Kd.R_reads hR; have HC3 : Aside0 (Kd.C Kd.string w1 A3 (e0 :: l).length (e0 :: l)) := ⟨hC3⟩; have Hc3 := Aside0.mk hc3; have hbw := Below.grown (B := w'.heap.size) (a := w') (by repeat (first | exact Below.refl _ _ | apply below_alloc | apply below_drew)) hg (Below.size (B := w'.heap.size) (by repeat (first | exact Below.refl _ _ | apply below_alloc | apply below_drew))) (fun k hk => by cases hk); have HP2 := Aside0.mk (HP.out.below hbw); have HB2 : Aside0 (Below w.heap.size w w1) := ⟨HB1.out.trans (hbw.mono HB1.out.size)⟩; clear hr hR hg hbw hC3 hc3)
      | (go_simp; go_at_call 44; with_reducible refine (TP.out _ _ _ _ HP2.out HC3.out Hc3.out).mono ?_; rintro e w2 ⟨rfl, hb⟩; have HB3 : Aside0 (Below w.heap.size w w2) := ⟨HB2.out.trans (hb.mono HB2.out.size)⟩; clear hb))
    all_goals (go_wp2; go_ret; exact ⟨rfl, HB3.out⟩)

end Go.Proofs.Ytlnfkpmmnennbaa.HandQ
