/- FnDeltaOther, walked. -/
import Derived.Test.YtlboochpbplhlaaDoorHandH
import Derived.Test.YtlboochpbplhlaaDoorPureF
set_option linter.unusedVariables false
set_option linter.unusedSimpArgs false
namespace Go.Proofs.YtlboochpbplhlaaDoor.WalkO
open Go.RowKit Go.Proofs.YtlboochpbplhlaaDoorW.PrintWords Go.Proofs.YtlboochpbplhlaaDoor.QAll PureD HandA HandB HandC HandD HandE HandF HandG HandH PureE PureF
open Go.Proofs.YtlboochpbplhlaaDoorW.PrintLast Go.Proofs.YtlboochpbplhlaaDoorW.PrintMore

theorem small1 (l : List Int) : ∃ b, Ev (fun k => laws_deltaSmall.f k [l]) b := by
  by_cases h : (l.length : Int) > 1000000
  · exact ⟨false, 2, fun k hk => by
      obtain ⟨m, rfl⟩ : ∃ m, k = m + 2 := ⟨k - 2, by omega⟩
      show laws_deltaSmall.f (m + 2) [l] = _
      unfold laws_deltaSmall.f
      rw [laws_deltaSmall.l0, if_pos (by simp), if_pos (by omega), if_pos (by simp), show rd_L3 [l] 0 = l from rfl, if_pos h]⟩
  · exact ⟨true, 2, fun k hk => by
      obtain ⟨m, rfl⟩ : ∃ m, k = m + 2 := ⟨k - 2, by omega⟩
      show laws_deltaSmall.f (m + 2) [l] = _
      unfold laws_deltaSmall.f
      rw [laws_deltaSmall.l0, if_pos (by simp), if_pos (by omega), if_pos (by simp), show rd_L3 [l] 0 = l from rfl, if_neg h, laws_deltaSmall.l0, if_neg (by simp [wrap64])]⟩
theorem smallC (A : Option Addr) (c : Nat) (l : List Int) (w : World) (hr : Kd.C (Kd.int .u8) w A l.length l) (hc : l.length ≤ c) :
    ∃ b, ∀ W, Below w.heap.size w W → Calls Tryd.prog 15 #[.slice (some ⟨W.heap.size, 0, none⟩) 1 1] (W.alloc (.cells #[.slice A l.length c] 22)) fun e w' => e = .returned (.bool b) ∧ Below W.heap.size W w' := by
  obtain ⟨b, K, h⟩ := small1 l
  refine ⟨b, fun W hb => ?_⟩
  have hbA : Below W.heap.size W (W.alloc (.cells #[.slice A l.length c] 22)) := (Below.refl _ _).alloc (Nat.le_refl _) _
  have hcc : Kd.C (Kd.slice 5 (Kd.int .u8)) (W.alloc (.cells #[.slice A l.length c] 22)) (some ⟨W.heap.size, 0, none⟩) ([l] : List (List Int)).length [l] :=
    ⟨rfl, by simp, fun _ => ⟨_, rfl, fun j p hj => by
      obtain rfl : j = 0 := by have := (List.getElem?_eq_some_iff.1 hj).1; simp at this; exact this
      simp only [List.getElem?_cons_zero, Option.some.injEq] at hj
      subst hj
      refine ⟨[.slice A l.length c], rfl, ⟨A, c, rfl, hc, Kd.C_below (Kd.C_below hr hb) hbA⟩, fun i u hu => ?_⟩
      obtain rfl : i = 0 := by have := (List.getElem?_eq_some_iff.1 hu).1; simp at this; exact this
      simp only [List.getElem?_cons_zero, Option.some.injEq] at hu
      subst hu
      rw [add_plain, Lib.cell_of_heap (heap_alloc_new W _)]
      rfl⟩⟩
  refine (laws_deltaSmall.calls K _ 1 [l] b _ hcc (by simp) (h K (Nat.le_refl _))).mono fun e w' hh => ⟨hh.1, below_step hbA hh.2.below⟩

set_option maxHeartbeats 16000000 in
set_option maxRecDepth 100000 in
theorem law (A0 A1 A2 : Option Addr) (c0 c1 c2 : Nat) (l0 l1 : List Int) (l2 : List S38) (w : World) (hr0 : Kd.C (Kd.int .u8) w A0 l0.length l0) (hc0 : l0.length ≤ c0) (hr1 : Kd.C (Kd.int .u8) w A1 l1.length l1) (hc1 : l1.length ≤ c1) (hr2 : Kd.C k38 w A2 l2.length l2) (hc2 : l2.length ≤ c2)
    (hl0 : l0.length ≤ 140737488351232) (hl1 : l1.length ≤ 140737488351232) (hl2 : l2.length ≤ 140737488351232) (h0 : ∀ x ∈ l0, 0 ≤ x ∧ x ≤ 255) (h1 : ∀ x ∈ l1, 0 ≤ x ∧ x ≤ 255) (h2 : ∀ s ∈ l2, ∀ x ∈ s.f3, 0 ≤ x ∧ x ≤ 255) (hV : Vars w) :
    Calls Tryd.prog 5 #[.slice A0 l0.length c0, .slice A1 l1.length c1, .slice A2 l2.length c2] w fun e w' => e = .returned (.bool true) ∧ Below w.heap.size w w' := by
  obtain ⟨b8, hF⟩ := fitsC A2 c2 l2 w hr2 hc2 hl2
  obtain ⟨b9, hg, hG⟩ := goodC A2 A0 c2 c0 l2 l0 w hr2 hc2 hl2 hr0 hc0 hl0
  obtain ⟨b15, hS⟩ := smallC A1 c1 l1 w hr1 hc1
  have HF := Aside0.mk hF
  have HG := Aside0.mk hG
  have HS := Aside0.mk hS
  have HR0 := Aside0.mk hr0
  have HR1 := Aside0.mk hr1
  have HR2 := Aside0.mk hr2
  have HC0 := Aside0.mk hc0
  have HC1 := Aside0.mk hc1
  have HC2 := Aside0.mk hc2
  have HX0 := Aside0.mk h0
  have HX1 := Aside0.mk h1
  have HX2 := Aside0.mk h2
  have HV := Aside0.mk hV
  have HB := Aside0.mk (Below.refl w.heap.size w)
  have HW := Aside0.mk (fun W (hb : Below w.heap.size w W) => works W (hV.below hb))
  clear hF hG hS hr0 hr1 hr2 h0 h1 h2 hV hc0 hc1 hc2
  by_cases hsz : (2147483647 : Int) < (l0.length : Int)
  · go_enter Tryd.func5, Tryd.ntmps5
    go_wp2_with (first
      | (go_at_call 8; (with_reducible refine (HF.out _ ?b8).mono ?_); (case b8 => repeat (first | (with_reducible first | exact HB.out | apply below_alloc | apply pw_below_drewN | apply below_drew1) | exact HB.out)); rintro e w' ⟨rfl, hb⟩; have n1_ := Aside0.mk (below_step (by repeat (first | (with_reducible first | exact HB.out | apply below_alloc | apply pw_below_drewN | apply below_drew1) | exact HB.out)) hb); clear HB; have HB := n1_; clear n1_ hb)
      | (go_at_call 15; (with_reducible refine (HS.out _ ?b15).mono ?_); (case b15 => repeat (first | (with_reducible first | exact HB.out | apply below_alloc | apply pw_below_drewN | apply below_drew1) | exact HB.out)); rintro e w' ⟨rfl, hb⟩; have n1_ := Aside0.mk (below_step (by repeat (first | (with_reducible first | exact HB.out | apply below_alloc | apply pw_below_drewN | apply below_drew1) | exact HB.out)) hb); clear HB; have HB := n1_; clear n1_ hb)
      | (go_at_call 9; (with_reducible refine (HG.out _ ?b9).mono ?_); (case b9 => repeat (first | (with_reducible first | exact HB.out | apply below_alloc | apply pw_below_drewN | apply below_drew1) | exact HB.out)); rintro e w' ⟨rfl, hb⟩; have n1_ := Aside0.mk (below_step (by repeat (first | (with_reducible first | exact HB.out | apply below_alloc | apply pw_below_drewN | apply below_drew1) | exact HB.out)) hb); clear HB; have HB := n1_; clear n1_ hb)
      | (go_at_call 10; (with_reducible refine (HW.out _ ?b10).mono ?_); (case b10 => repeat (first | (with_reducible first | exact HB.out | apply below_alloc | apply pw_below_drewN | apply below_drew1) | exact HB.out)); rintro e w' ⟨rfl, hb⟩; have n1_ := Aside0.mk (below_step (by repeat (first | (with_reducible first | exact HB.out | apply below_alloc | apply pw_below_drewN | apply below_drew1) | exact HB.out)) hb); clear HB; have HB := n1_; clear n1_ hb)
      | fail)
    go_ret
    exact ⟨rfl, HB.out⟩
  by_cases hsz1 : (2147483647 : Int) < (l1.length : Int)
  · go_enter Tryd.func5, Tryd.ntmps5
    go_wp2_with (first
      | (go_at_call 8; (with_reducible refine (HF.out _ ?b8).mono ?_); (case b8 => repeat (first | (with_reducible first | exact HB.out | apply below_alloc | apply pw_below_drewN | apply below_drew1) | exact HB.out)); rintro e w' ⟨rfl, hb⟩; have n1_ := Aside0.mk (below_step (by repeat (first | (with_reducible first | exact HB.out | apply below_alloc | apply pw_below_drewN | apply below_drew1) | exact HB.out)) hb); clear HB; have HB := n1_; clear n1_ hb)
      | (go_at_call 15; (with_reducible refine (HS.out _ ?b15).mono ?_); (case b15 => repeat (first | (with_reducible first | exact HB.out | apply below_alloc | apply pw_below_drewN | apply below_drew1) | exact HB.out)); rintro e w' ⟨rfl, hb⟩; have n1_ := Aside0.mk (below_step (by repeat (first | (with_reducible first | exact HB.out | apply below_alloc | apply pw_below_drewN | apply below_drew1) | exact HB.out)) hb); clear HB; have HB := n1_; clear n1_ hb)
      | (go_at_call 9; (with_reducible refine (HG.out _ ?b9).mono ?_); (case b9 => repeat (first | (with_reducible first | exact HB.out | apply below_alloc | apply pw_below_drewN | apply below_drew1) | exact HB.out)); rintro e w' ⟨rfl, hb⟩; have n1_ := Aside0.mk (below_step (by repeat (first | (with_reducible first | exact HB.out | apply below_alloc | apply pw_below_drewN | apply below_drew1) | exact HB.out)) hb); clear HB; have HB := n1_; clear n1_ hb)
      | (go_at_call 10; (with_reducible refine (HW.out _ ?b10).mono ?_); (case b10 => repeat (first | (with_reducible first | exact HB.out | apply below_alloc | apply pw_below_drewN | apply below_drew1) | exact HB.out)); rintro e w' ⟨rfl, hb⟩; have n1_ := Aside0.mk (below_step (by repeat (first | (with_reducible first | exact HB.out | apply below_alloc | apply pw_below_drewN | apply below_drew1) | exact HB.out)) hb); clear HB; have HB := n1_; clear n1_ hb)
      | fail)
    go_ret
    exact ⟨rfl, HB.out⟩
  cases b8 with
  | false =>
    go_enter Tryd.func5, Tryd.ntmps5
    go_wp2_with (first
      | (go_at_call 8; (with_reducible refine (HF.out _ ?b8).mono ?_); (case b8 => repeat (first | (with_reducible first | exact HB.out | apply below_alloc | apply pw_below_drewN | apply below_drew1) | exact HB.out)); rintro e w' ⟨rfl, hb⟩; have n1_ := Aside0.mk (below_step (by repeat (first | (with_reducible first | exact HB.out | apply below_alloc | apply pw_below_drewN | apply below_drew1) | exact HB.out)) hb); clear HB; have HB := n1_; clear n1_ hb)
      | (go_at_call 15; (with_reducible refine (HS.out _ ?b15).mono ?_); (case b15 => repeat (first | (with_reducible first | exact HB.out | apply below_alloc | apply pw_below_drewN | apply below_drew1) | exact HB.out)); rintro e w' ⟨rfl, hb⟩; have n1_ := Aside0.mk (below_step (by repeat (first | (with_reducible first | exact HB.out | apply below_alloc | apply pw_below_drewN | apply below_drew1) | exact HB.out)) hb); clear HB; have HB := n1_; clear n1_ hb)
      | (go_at_call 9; (with_reducible refine (HG.out _ ?b9).mono ?_); (case b9 => repeat (first | (with_reducible first | exact HB.out | apply below_alloc | apply pw_below_drewN | apply below_drew1) | exact HB.out)); rintro e w' ⟨rfl, hb⟩; have n1_ := Aside0.mk (below_step (by repeat (first | (with_reducible first | exact HB.out | apply below_alloc | apply pw_below_drewN | apply below_drew1) | exact HB.out)) hb); clear HB; have HB := n1_; clear n1_ hb)
      | (go_at_call 10; (with_reducible refine (HW.out _ ?b10).mono ?_); (case b10 => repeat (first | (with_reducible first | exact HB.out | apply below_alloc | apply pw_below_drewN | apply below_drew1) | exact HB.out)); rintro e w' ⟨rfl, hb⟩; have n1_ := Aside0.mk (below_step (by repeat (first | (with_reducible first | exact HB.out | apply below_alloc | apply pw_below_drewN | apply below_drew1) | exact HB.out)) hb); clear HB; have HB := n1_; clear n1_ hb)
      | fail)
    go_ret
    exact ⟨rfl, HB.out⟩
  | true =>
    by_cases hn : l0.length = 0
    · have hn0 : ((l0.length : Int) == 0) = true := beq_iff_eq.2 (by omega)
      go_enter Tryd.func5, Tryd.ntmps5
      go_wp2_with (first
        | (go_at_call 8; (with_reducible refine (HF.out _ ?b8).mono ?_); (case b8 => repeat (first | (with_reducible first | exact HB.out | apply below_alloc | apply pw_below_drewN | apply below_drew1) | exact HB.out)); rintro e w' ⟨rfl, hb⟩; have n1_ := Aside0.mk (below_step (by repeat (first | (with_reducible first | exact HB.out | apply below_alloc | apply pw_below_drewN | apply below_drew1) | exact HB.out)) hb); clear HB; have HB := n1_; clear n1_ hb)
        | (go_at_call 15; (with_reducible refine (HS.out _ ?b15).mono ?_); (case b15 => repeat (first | (with_reducible first | exact HB.out | apply below_alloc | apply pw_below_drewN | apply below_drew1) | exact HB.out)); rintro e w' ⟨rfl, hb⟩; have n1_ := Aside0.mk (below_step (by repeat (first | (with_reducible first | exact HB.out | apply below_alloc | apply pw_below_drewN | apply below_drew1) | exact HB.out)) hb); clear HB; have HB := n1_; clear n1_ hb)
        | (go_at_call 9; (with_reducible refine (HG.out _ ?b9).mono ?_); (case b9 => repeat (first | (with_reducible first | exact HB.out | apply below_alloc | apply pw_below_drewN | apply below_drew1) | exact HB.out)); rintro e w' ⟨rfl, hb⟩; have n1_ := Aside0.mk (below_step (by repeat (first | (with_reducible first | exact HB.out | apply below_alloc | apply pw_below_drewN | apply below_drew1) | exact HB.out)) hb); clear HB; have HB := n1_; clear n1_ hb)
        | (go_at_call 10; (with_reducible refine (HW.out _ ?b10).mono ?_); (case b10 => repeat (first | (with_reducible first | exact HB.out | apply below_alloc | apply pw_below_drewN | apply below_drew1) | exact HB.out)); rintro e w' ⟨rfl, hb⟩; have n1_ := Aside0.mk (below_step (by repeat (first | (with_reducible first | exact HB.out | apply below_alloc | apply pw_below_drewN | apply below_drew1) | exact HB.out)) hb); clear HB; have HB := n1_; clear n1_ hb)
        | fail)
      go_ret
      exact ⟨rfl, HB.out⟩
    have hn0 : ((l0.length : Int) == 0) = false := beq_eq_false_iff_ne.2 (by omega)
    by_cases hnn : l0.length = l1.length
    · have hn1 : ((l0.length : Int) == (l1.length : Int)) = true := beq_iff_eq.2 (by omega)
      clear hnn
      go_enter Tryd.func5, Tryd.ntmps5
      go_wp2_with (first
        | (go_at_call 8; (with_reducible refine (HF.out _ ?b8).mono ?_); (case b8 => repeat (first | (with_reducible first | exact HB.out | apply below_alloc | apply pw_below_drewN | apply below_drew1) | exact HB.out)); rintro e w' ⟨rfl, hb⟩; have n1_ := Aside0.mk (below_step (by repeat (first | (with_reducible first | exact HB.out | apply below_alloc | apply pw_below_drewN | apply below_drew1) | exact HB.out)) hb); clear HB; have HB := n1_; clear n1_ hb)
        | (go_at_call 15; (with_reducible refine (HS.out _ ?b15).mono ?_); (case b15 => repeat (first | (with_reducible first | exact HB.out | apply below_alloc | apply pw_below_drewN | apply below_drew1) | exact HB.out)); rintro e w' ⟨rfl, hb⟩; have n1_ := Aside0.mk (below_step (by repeat (first | (with_reducible first | exact HB.out | apply below_alloc | apply pw_below_drewN | apply below_drew1) | exact HB.out)) hb); clear HB; have HB := n1_; clear n1_ hb)
        | (go_at_call 9; (with_reducible refine (HG.out _ ?b9).mono ?_); (case b9 => repeat (first | (with_reducible first | exact HB.out | apply below_alloc | apply pw_below_drewN | apply below_drew1) | exact HB.out)); rintro e w' ⟨rfl, hb⟩; have n1_ := Aside0.mk (below_step (by repeat (first | (with_reducible first | exact HB.out | apply below_alloc | apply pw_below_drewN | apply below_drew1) | exact HB.out)) hb); clear HB; have HB := n1_; clear n1_ hb)
        | (go_at_call 10; (with_reducible refine (HW.out _ ?b10).mono ?_); (case b10 => repeat (first | (with_reducible first | exact HB.out | apply below_alloc | apply pw_below_drewN | apply below_drew1) | exact HB.out)); rintro e w' ⟨rfl, hb⟩; have n1_ := Aside0.mk (below_step (by repeat (first | (with_reducible first | exact HB.out | apply below_alloc | apply pw_below_drewN | apply below_drew1) | exact HB.out)) hb); clear HB; have HB := n1_; clear n1_ hb)
        | fail)
      go_ret
      exact ⟨rfl, HB.out⟩
    have hn1 : ((l0.length : Int) == (l1.length : Int)) = false := beq_eq_false_iff_ne.2 (by omega)
    cases b15 with
    | false =>
      go_enter Tryd.func5, Tryd.ntmps5
      go_wp2_with (first
        | (go_at_call 8; (with_reducible refine (HF.out _ ?b8).mono ?_); (case b8 => repeat (first | (with_reducible first | exact HB.out | apply below_alloc | apply pw_below_drewN | apply below_drew1) | exact HB.out)); rintro e w' ⟨rfl, hb⟩; have n1_ := Aside0.mk (below_step (by repeat (first | (with_reducible first | exact HB.out | apply below_alloc | apply pw_below_drewN | apply below_drew1) | exact HB.out)) hb); clear HB; have HB := n1_; clear n1_ hb)
        | (go_at_call 15; (with_reducible refine (HS.out _ ?b15).mono ?_); (case b15 => repeat (first | (with_reducible first | exact HB.out | apply below_alloc | apply pw_below_drewN | apply below_drew1) | exact HB.out)); rintro e w' ⟨rfl, hb⟩; have n1_ := Aside0.mk (below_step (by repeat (first | (with_reducible first | exact HB.out | apply below_alloc | apply pw_below_drewN | apply below_drew1) | exact HB.out)) hb); clear HB; have HB := n1_; clear n1_ hb)
        | (go_at_call 9; (with_reducible refine (HG.out _ ?b9).mono ?_); (case b9 => repeat (first | (with_reducible first | exact HB.out | apply below_alloc | apply pw_below_drewN | apply below_drew1) | exact HB.out)); rintro e w' ⟨rfl, hb⟩; have n1_ := Aside0.mk (below_step (by repeat (first | (with_reducible first | exact HB.out | apply below_alloc | apply pw_below_drewN | apply below_drew1) | exact HB.out)) hb); clear HB; have HB := n1_; clear n1_ hb)
        | (go_at_call 10; (with_reducible refine (HW.out _ ?b10).mono ?_); (case b10 => repeat (first | (with_reducible first | exact HB.out | apply below_alloc | apply pw_below_drewN | apply below_drew1) | exact HB.out)); rintro e w' ⟨rfl, hb⟩; have n1_ := Aside0.mk (below_step (by repeat (first | (with_reducible first | exact HB.out | apply below_alloc | apply pw_below_drewN | apply below_drew1) | exact HB.out)) hb); clear HB; have HB := n1_; clear n1_ hb)
        | fail)
      go_ret
      exact ⟨rfl, HB.out⟩
    | true =>
      cases b9 with
      | false =>
        go_enter Tryd.func5, Tryd.ntmps5
        go_wp2_with (first
          | (go_at_call 8; (with_reducible refine (HF.out _ ?b8).mono ?_); (case b8 => repeat (first | (with_reducible first | exact HB.out | apply below_alloc | apply pw_below_drewN | apply below_drew1) | exact HB.out)); rintro e w' ⟨rfl, hb⟩; have n1_ := Aside0.mk (below_step (by repeat (first | (with_reducible first | exact HB.out | apply below_alloc | apply pw_below_drewN | apply below_drew1) | exact HB.out)) hb); clear HB; have HB := n1_; clear n1_ hb)
          | (go_at_call 15; (with_reducible refine (HS.out _ ?b15).mono ?_); (case b15 => repeat (first | (with_reducible first | exact HB.out | apply below_alloc | apply pw_below_drewN | apply below_drew1) | exact HB.out)); rintro e w' ⟨rfl, hb⟩; have n1_ := Aside0.mk (below_step (by repeat (first | (with_reducible first | exact HB.out | apply below_alloc | apply pw_below_drewN | apply below_drew1) | exact HB.out)) hb); clear HB; have HB := n1_; clear n1_ hb)
          | (go_at_call 9; (with_reducible refine (HG.out _ ?b9).mono ?_); (case b9 => repeat (first | (with_reducible first | exact HB.out | apply below_alloc | apply pw_below_drewN | apply below_drew1) | exact HB.out)); rintro e w' ⟨rfl, hb⟩; have n1_ := Aside0.mk (below_step (by repeat (first | (with_reducible first | exact HB.out | apply below_alloc | apply pw_below_drewN | apply below_drew1) | exact HB.out)) hb); clear HB; have HB := n1_; clear n1_ hb)
          | (go_at_call 10; (with_reducible refine (HW.out _ ?b10).mono ?_); (case b10 => repeat (first | (with_reducible first | exact HB.out | apply below_alloc | apply pw_below_drewN | apply below_drew1) | exact HB.out)); rintro e w' ⟨rfl, hb⟩; have n1_ := Aside0.mk (below_step (by repeat (first | (with_reducible first | exact HB.out | apply below_alloc | apply pw_below_drewN | apply below_drew1) | exact HB.out)) hb); clear HB; have HB := n1_; clear n1_ hb)
          | fail)
        go_ret
        exact ⟨rfl, HB.out⟩
      | true =>
        have HGD := Aside0.mk (hg rfl)
        obtain ⟨bs, d1, d2, d3, d4⟩ := delta_ok l0 l2 HGD.out.2.2.2 (by have := HGD.out.2.2.1; omega) HGD.out.1 HX2.out
        have hml : (made l0 (l2.map insOf)).length ≤ 500000000 := by have := made_all_le l0 HGD.out.2.2.2 l2 HGD.out.1; have := HGD.out.2.2.1; omega
        have hl0' := HGD.out.2.2.2
        obtain ⟨d, hd⟩ : ∃ d, d = enc7 l0.length ++ (enc7 (made l0 (l2.map insOf)).length ++ bs) := ⟨_, rfl⟩
        rw [← hd] at d4
        have HD2 : Aside0 (d.length ≤ 140737488351232) := ⟨by rw [hd]; exact delta_len _ _ _ (by omega) (by omega) d2⟩
        have HD3 : Aside0 (∀ x ∈ d, 0 ≤ x ∧ x ≤ 255) := ⟨by rw [hd]; exact delta_range _ _ _ d3⟩
        have HDC : Aside0 (∀ W, Below w.heap.size w W → Calls Tryd.prog 12 #[.slice A0 l0.length c0, .slice A2 l2.length c2] W fun e w' => ∃ v, e = .returned v ∧ Kd.R (Kd.int .u8) 5 w' W.heap.size (fun _ => True) v d ∧ Below W.heap.size W w') := ⟨fun W hb => by
          rw [hd]
          exact deltaC A2 A0 c2 c0 l2 l0 W (Kd.C_below HR2.out hb) HC2.out (Kd.C_below HR0.out hb) HC0.out bs (by rw [← hd]; exact d4)⟩
        have HPC : Aside0 (∀ W A c, Below w.heap.size w W → Kd.C (Kd.int .u8) W A d.length d → Calls Tryd.prog 11 #[.slice A1 l1.length c1, .slice A d.length c] W fun e w' => e = .returned (.tuple #[.slice none 0 0, .bool false]) ∧ Below W.heap.size W w') := ⟨fun W A c hb hr =>
          patch_bad A1 A c1 c l0.length l1 d (enc7 (made l0 (l2.map insOf)).length ++ bs) W (HV.out.below hb) (Kd.C_below HR1.out hb) hr HX1.out HD3.out (by omega) HD2.out (by have := enc7_pos (made l0 (l2.map insOf)).length; rw [List.length_append]; omega) (by omega) hnn hd⟩
        clear hd d1 d2 d3 d4 hg hml hl0'
        go_enter Tryd.func5, Tryd.ntmps5
        go_wp2_with (first
          | (go_at_call 8; (with_reducible refine (HF.out _ ?b8).mono ?_); (case b8 => repeat (first | (with_reducible first | exact HB.out | apply below_alloc | apply pw_below_drewN | apply below_drew1) | exact HB.out)); rintro e w' ⟨rfl, hb⟩; have n1_ := Aside0.mk (below_step (by repeat (first | (with_reducible first | exact HB.out | apply below_alloc | apply pw_below_drewN | apply below_drew1) | exact HB.out)) hb); clear HB; have HB := n1_; clear n1_ hb)
          | (go_at_call 15; (with_reducible refine (HS.out _ ?b15).mono ?_); (case b15 => repeat (first | (with_reducible first | exact HB.out | apply below_alloc | apply pw_below_drewN | apply below_drew1) | exact HB.out)); rintro e w' ⟨rfl, hb⟩; have n1_ := Aside0.mk (below_step (by repeat (first | (with_reducible first | exact HB.out | apply below_alloc | apply pw_below_drewN | apply below_drew1) | exact HB.out)) hb); clear HB; have HB := n1_; clear n1_ hb)
          | (go_at_call 9; (with_reducible refine (HG.out _ ?b9).mono ?_); (case b9 => repeat (first | (with_reducible first | exact HB.out | apply below_alloc | apply pw_below_drewN | apply below_drew1) | exact HB.out)); rintro e w' ⟨rfl, hb⟩; have n1_ := Aside0.mk (below_step (by repeat (first | (with_reducible first | exact HB.out | apply below_alloc | apply pw_below_drewN | apply below_drew1) | exact HB.out)) hb); clear HB; have HB := n1_; clear n1_ hb)
          | (go_at_call 10; (with_reducible refine (HW.out _ ?b10).mono ?_); (case b10 => repeat (first | (with_reducible first | exact HB.out | apply below_alloc | apply pw_below_drewN | apply below_drew1) | exact HB.out)); rintro e w' ⟨rfl, hb⟩; have n1_ := Aside0.mk (below_step (by repeat (first | (with_reducible first | exact HB.out | apply below_alloc | apply pw_below_drewN | apply below_drew1) | exact HB.out)) hb); clear HB; have HB := n1_; clear n1_ hb)
          | (go_at_call 12; (with_reducible refine (HDC.out _ ?b12).mono ?_); (case b12 => repeat (first | (with_reducible first | exact HB.out | apply below_alloc | apply pw_below_drewN | apply below_drew1) | exact HB.out)); rintro e w2 ⟨v2, rfl, hR, hb⟩; have n1_ := Aside0.mk (below_step (by repeat (first | (with_reducible first | exact HB.out | apply below_alloc | apply pw_below_drewN | apply below_drew1) | exact HB.out)) hb); clear HB; have HB := n1_; clear n1_ hb; obtain ⟨A3, c3, e2, hc3, hr3⟩ := Kd.R_reads hR; subst e2; have HR3 := Aside0.mk hr3; clear hR hc3 hr3)
          | (go_at_call 11; (with_reducible refine (HPC.out _ _ _ ?b11 HR3.out).mono ?_); (case b11 => repeat (first | (with_reducible first | exact HB.out | apply below_alloc | apply pw_below_drewN | apply below_drew1) | exact HB.out)); rintro e w3 ⟨rfl, hb⟩; have n1_ := Aside0.mk (below_step (by repeat (first | (with_reducible first | exact HB.out | apply below_alloc | apply pw_below_drewN | apply below_drew1) | exact HB.out)) hb); clear HB; have HB := n1_; clear n1_ hb))
        go_ret
        exact ⟨rfl, HB.out⟩
end Go.Proofs.YtlboochpbplhlaaDoor.WalkO
