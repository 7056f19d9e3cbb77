/- FnDeltaJoined, walked. -/
import Derived.Test.YtlboochpbplhlaaDoorHandH
import Derived.Test.YtlboochpbplhlaaDoorPureF
import Derived.Test.YtlboochpbplhlaaDoorOpen
set_option linter.unusedVariables false
set_option linter.unusedSimpArgs false
namespace Go.Proofs.YtlboochpbplhlaaDoor.WalkJ
open Go.RowKit Go.Proofs.YtlboochpbplhlaaDoorW.PrintWords Go.Proofs.YtlboochpbplhlaaDoor.QAll PureD HandA HandB HandC HandD HandE HandF HandG HandH PureE PureF
open Go.Proofs.YtlboochpbplhlaaDoorW.PrintLast Go.Proofs.YtlboochpbplhlaaDoorW.PrintMore

/-- An element of five cells, as it stands. -/
def raw5 : Kd (List Value) where
  sz := 5
  E := []
  K := fun _ x cs => cs = x ∧ x.length = 5 ∧ ∀ u ∈ x, u.oneCell' = true
  M := fun _ _ _ x cs => cs = x ∧ x.length = 5 ∧ ∀ u ∈ x, u.oneCell' = true
  K_len := fun h => by rw [h.1]; exact h.2.1
  K_one := fun h u hu => by rw [h.1] at hu; exact h.2.2 u hu
  K_below := fun _ h => h
  K_of_M := fun h => h
  M_mono := fun _ h => h
  M_bound := fun h => h
  M_move := fun _ h => h
  M_lower := fun _ h => h
theorem raw_of {w : World} {A : Option Addr} {l : List S38} (h : Kd.C k38 w A l.length l) : ∃ xs : List (List Value), xs.length = l.length ∧ Kd.C raw5 w A l.length xs ∧ ∀ (i : Nat) (s : S38), l[i]? = some s → ∃ x, xs[i]? = some x ∧ k38.K w s x := by
  rcases Nat.eq_zero_or_pos l.length with h0 | h0
  · have : l = [] := List.eq_nil_of_length_eq_zero h0
    subst this
    exact ⟨[], rfl, ⟨rfl, by simp, fun h => by simp at h⟩, fun i s h => by simp at h⟩
  · obtain ⟨h1, h2, h3⟩ := h
    obtain ⟨ad, rfl, hc⟩ := h3 h0
    obtain ⟨xs, hl, hx⟩ := Go.Proofs.YtlboochpbplhlaaDoor.Open.exists_list (fun (y : S38 × Nat) (x : List Value) => x.length = 5 ∧ k38.K w y.1 x ∧ ∀ i u, x[i]? = some u → w.cell? (ad.add (y.2 * 5 + i)) = some u) l.zipIdx (fun y hy => by
      have := List.mem_zipIdx_iff_getElem?.1 hy
      obtain ⟨c, q1, q2, q3⟩ := hc y.2 y.1 this
      exact ⟨c, q1, q2, q3⟩)
    have hl' : xs.length = l.length := by rw [hl, List.length_zipIdx]
    have get : ∀ (i : Nat) (s : S38), l[i]? = some s → ∃ x, xs[i]? = some x ∧ x.length = 5 ∧ k38.K w s x ∧ ∀ j u, x[j]? = some u → w.cell? (ad.add (i * 5 + j)) = some u := fun i s hs => by
      have hi := (List.getElem?_eq_some_iff.1 hs).1
      obtain ⟨x, q1, q2, q3, q4⟩ := hx i (s, i) (by rw [List.getElem?_zipIdx, hs]; simp)
      exact ⟨x, q1, q2, q3, q4⟩
    refine ⟨xs, hl', ⟨hl', h2, fun _ => ⟨ad, rfl, fun j p hj => ?_⟩⟩, fun i s hs => ?_⟩
    · have hjl : j < l.length := by rw [← hl']; exact (List.getElem?_eq_some_iff.1 hj).1
      obtain ⟨x, q1, q2, q3, q4⟩ := get j l[j] (List.getElem?_eq_getElem hjl)
      rw [hj] at q1
      cases q1
      exact ⟨p, q2, ⟨rfl, q2, fun u hu => k38.K_one q3 u hu⟩, q4⟩
    · obtain ⟨x, q1, q2, q3, q4⟩ := get i s hs
      exact ⟨x, q1, q3⟩
theorem of_raw {w : World} {A : Option Addr} {l : List S38} {xs : List (List Value)} (hl : xs.length = l.length) (h : Kd.C raw5 w A xs.length xs) (hx : ∀ (i : Nat) (s : S38), l[i]? = some s → ∃ x, xs[i]? = some x ∧ k38.K w s x) : Kd.C k38 w A l.length l := by
  obtain ⟨h1, h2, h3⟩ := h
  refine ⟨rfl, by omega, fun h0 => ?_⟩
  obtain ⟨ad, rfl, hc⟩ := h3 (by omega)
  refine ⟨ad, rfl, fun j s hj => ?_⟩
  obtain ⟨x, q1, q2⟩ := hx j s hj
  obtain ⟨c, r1, ⟨rfl, _, _⟩, r3⟩ := hc j x q1
  exact ⟨c, r1, q2, r3⟩
theorem both_raw {w W : World} {A : Option Addr} {l1 l2 : List S38} {x1 x2 : List (List Value)} (hb : Below w.heap.size w W) (e1 : x1.length = l1.length) (e2 : x2.length = l2.length) (k1 : ∀ (i : Nat) (s : S38), l1[i]? = some s → ∃ x, x1[i]? = some x ∧ k38.K w s x) (k2 : ∀ (i : Nat) (s : S38), l2[i]? = some s → ∃ x, x2[i]? = some x ∧ k38.K w s x)
    (h : Kd.C raw5 W A (x1 ++ x2).length (x1 ++ x2)) : Kd.C k38 W A (l1 ++ l2).length (l1 ++ l2) := by
  refine of_raw (by rw [List.length_append, List.length_append, e1, e2]) h (fun i s hi => ?_)
  rcases Nat.lt_or_ge i l1.length with hlt | hge
  · rw [List.getElem?_append_left hlt] at hi
    obtain ⟨x, q1, q2⟩ := k1 i s hi
    exact ⟨x, by rw [List.getElem?_append_left (by omega)]; exact q1, k38.K_below hb q2⟩
  · rw [List.getElem?_append_right hge] at hi
    obtain ⟨x, q1, q2⟩ := k2 _ s hi
    exact ⟨x, by rw [List.getElem?_append_right (by omega), e1]; exact q1, k38.K_below hb q2⟩
theorem info38 : (Tryd.prog.info? 38).map (fun i => (i.zero, i.size, i.bytes)) = some (some (.agg #[.bool false, .int .i64 0, .int .i64 0, .slice none 0 0, .int .i64 0]), 5, 56) := by kernel_rfl

set_option maxHeartbeats 16000000 in
set_option maxRecDepth 100000 in
theorem law (A0 A1 A2 : Option Addr) (c0 c1 c2 : Nat) (l0 : List Int) (l1 l2 : List S38) (w : World) (hr0 : Kd.C (Kd.int .u8) w A0 l0.length l0) (hc0 : l0.length ≤ c0) (hr1 : Kd.C k38 w A1 l1.length l1) (hc1 : l1.length ≤ c1) (hr2 : Kd.C k38 w A2 l2.length l2) (hc2 : l2.length ≤ c2)
    (hl0 : l0.length ≤ 140737488351232) (hl1 : l1.length ≤ 140737488351232) (hl2 : l2.length ≤ 140737488351232) (h0 : ∀ x ∈ l0, 0 ≤ x ∧ x ≤ 255) (h1 : ∀ s ∈ l1, ∀ x ∈ s.f3, 0 ≤ x ∧ x ≤ 255) (h2 : ∀ s ∈ l2, ∀ x ∈ s.f3, 0 ≤ x ∧ x ≤ 255) (hV : Vars w) :
    Calls Tryd.prog 3 #[.slice A0 l0.length c0, .slice A1 l1.length c1, .slice A2 l2.length c2] w fun e w' => e = .returned (.bool true) ∧ Below w.heap.size w w' := by
  obtain ⟨b81, hF1⟩ := fitsC A1 c1 l1 w hr1 hc1 hl1
  obtain ⟨b82, hF2⟩ := fitsC A2 c2 l2 w hr2 hc2 hl2
  obtain ⟨b91, hg1, hG1⟩ := goodC A1 A0 c1 c0 l1 l0 w hr1 hc1 hl1 hr0 hc0 hl0
  obtain ⟨b92, hg2, hG2⟩ := goodC A2 A0 c2 c0 l2 l0 w hr2 hc2 hl2 hr0 hc0 hl0
  have HF1 := Aside0.mk hF1
  have HF2 := Aside0.mk hF2
  have HG1 := Aside0.mk hG1
  have HG2 := Aside0.mk hG2
  have HR0 := Aside0.mk hr0
  have HR1 := Aside0.mk hr1
  have HR2 := Aside0.mk hr2
  have HC0 := Aside0.mk hc0
  have HC1 := Aside0.mk hc1
  have HC2 := Aside0.mk hc2
  have HX0 := Aside0.mk h0
  have HX1 := Aside0.mk h1
  have HX2 := Aside0.mk h2
  have HV := Aside0.mk hV
  have HB := Aside0.mk (Below.refl w.heap.size w)
  have HW := Aside0.mk (fun W (hb : Below w.heap.size w W) => works W (hV.below hb))
  clear hF1 hF2 hG1 hG2 hr0 hr1 hr2 h0 h1 h2 hV hc0 hc1 hc2
  by_cases hsz : (2147483647 : Int) < (l0.length : Int)
  · go_enter Tryd.func3, Tryd.ntmps3
    go_wp2_with (first
      | (go_at_call 8; (with_reducible refine (HF1.out _ ?b81).mono ?_); (case b81 => repeat (first | (with_reducible first | exact HB.out | apply below_alloc | apply pw_below_drewN | apply below_drew1) | exact HB.out)); rintro e w' ⟨rfl, hb⟩; have n1_ := Aside0.mk (below_step (by repeat (first | (with_reducible first | exact HB.out | apply below_alloc | apply pw_below_drewN | apply below_drew1) | exact HB.out)) hb); clear HB; have HB := n1_; clear n1_ hb)
      | (go_at_call 8; (with_reducible refine (HF2.out _ ?b82).mono ?_); (case b82 => repeat (first | (with_reducible first | exact HB.out | apply below_alloc | apply pw_below_drewN | apply below_drew1) | exact HB.out)); rintro e w' ⟨rfl, hb⟩; have n1_ := Aside0.mk (below_step (by repeat (first | (with_reducible first | exact HB.out | apply below_alloc | apply pw_below_drewN | apply below_drew1) | exact HB.out)) hb); clear HB; have HB := n1_; clear n1_ hb)
      | (go_at_call 9; (with_reducible refine (HG1.out _ ?b91).mono ?_); (case b91 => repeat (first | (with_reducible first | exact HB.out | apply below_alloc | apply pw_below_drewN | apply below_drew1) | exact HB.out)); rintro e w' ⟨rfl, hb⟩; have n1_ := Aside0.mk (below_step (by repeat (first | (with_reducible first | exact HB.out | apply below_alloc | apply pw_below_drewN | apply below_drew1) | exact HB.out)) hb); clear HB; have HB := n1_; clear n1_ hb)
      | (go_at_call 9; (with_reducible refine (HG2.out _ ?b92).mono ?_); (case b92 => repeat (first | (with_reducible first | exact HB.out | apply below_alloc | apply pw_below_drewN | apply below_drew1) | exact HB.out)); rintro e w' ⟨rfl, hb⟩; have n1_ := Aside0.mk (below_step (by repeat (first | (with_reducible first | exact HB.out | apply below_alloc | apply pw_below_drewN | apply below_drew1) | exact HB.out)) hb); clear HB; have HB := n1_; clear n1_ hb)
      | (go_at_call 10; (with_reducible refine (HW.out _ ?b10).mono ?_); (case b10 => repeat (first | (with_reducible first | exact HB.out | apply below_alloc | apply pw_below_drewN | apply below_drew1) | exact HB.out)); rintro e w' ⟨rfl, hb⟩; have n1_ := Aside0.mk (below_step (by repeat (first | (with_reducible first | exact HB.out | apply below_alloc | apply pw_below_drewN | apply below_drew1) | exact HB.out)) hb); clear HB; have HB := n1_; clear n1_ hb)
      | fail)
    go_ret
    exact ⟨rfl, HB.out⟩
  cases b81 with
  | false =>
    go_enter Tryd.func3, Tryd.ntmps3
    go_wp2_with (first
      | (go_at_call 8; (with_reducible refine (HF1.out _ ?b81).mono ?_); (case b81 => repeat (first | (with_reducible first | exact HB.out | apply below_alloc | apply pw_below_drewN | apply below_drew1) | exact HB.out)); rintro e w' ⟨rfl, hb⟩; have n1_ := Aside0.mk (below_step (by repeat (first | (with_reducible first | exact HB.out | apply below_alloc | apply pw_below_drewN | apply below_drew1) | exact HB.out)) hb); clear HB; have HB := n1_; clear n1_ hb)
      | (go_at_call 8; (with_reducible refine (HF2.out _ ?b82).mono ?_); (case b82 => repeat (first | (with_reducible first | exact HB.out | apply below_alloc | apply pw_below_drewN | apply below_drew1) | exact HB.out)); rintro e w' ⟨rfl, hb⟩; have n1_ := Aside0.mk (below_step (by repeat (first | (with_reducible first | exact HB.out | apply below_alloc | apply pw_below_drewN | apply below_drew1) | exact HB.out)) hb); clear HB; have HB := n1_; clear n1_ hb)
      | (go_at_call 9; (with_reducible refine (HG1.out _ ?b91).mono ?_); (case b91 => repeat (first | (with_reducible first | exact HB.out | apply below_alloc | apply pw_below_drewN | apply below_drew1) | exact HB.out)); rintro e w' ⟨rfl, hb⟩; have n1_ := Aside0.mk (below_step (by repeat (first | (with_reducible first | exact HB.out | apply below_alloc | apply pw_below_drewN | apply below_drew1) | exact HB.out)) hb); clear HB; have HB := n1_; clear n1_ hb)
      | (go_at_call 9; (with_reducible refine (HG2.out _ ?b92).mono ?_); (case b92 => repeat (first | (with_reducible first | exact HB.out | apply below_alloc | apply pw_below_drewN | apply below_drew1) | exact HB.out)); rintro e w' ⟨rfl, hb⟩; have n1_ := Aside0.mk (below_step (by repeat (first | (with_reducible first | exact HB.out | apply below_alloc | apply pw_below_drewN | apply below_drew1) | exact HB.out)) hb); clear HB; have HB := n1_; clear n1_ hb)
      | (go_at_call 10; (with_reducible refine (HW.out _ ?b10).mono ?_); (case b10 => repeat (first | (with_reducible first | exact HB.out | apply below_alloc | apply pw_below_drewN | apply below_drew1) | exact HB.out)); rintro e w' ⟨rfl, hb⟩; have n1_ := Aside0.mk (below_step (by repeat (first | (with_reducible first | exact HB.out | apply below_alloc | apply pw_below_drewN | apply below_drew1) | exact HB.out)) hb); clear HB; have HB := n1_; clear n1_ hb)
      | fail)
    go_ret
    exact ⟨rfl, HB.out⟩
  | true =>
    cases b82 with
    | false =>
      go_enter Tryd.func3, Tryd.ntmps3
      go_wp2_with (first
        | (go_at_call 8; (with_reducible refine (HF1.out _ ?b81).mono ?_); (case b81 => repeat (first | (with_reducible first | exact HB.out | apply below_alloc | apply pw_below_drewN | apply below_drew1) | exact HB.out)); rintro e w' ⟨rfl, hb⟩; have n1_ := Aside0.mk (below_step (by repeat (first | (with_reducible first | exact HB.out | apply below_alloc | apply pw_below_drewN | apply below_drew1) | exact HB.out)) hb); clear HB; have HB := n1_; clear n1_ hb)
        | (go_at_call 8; (with_reducible refine (HF2.out _ ?b82).mono ?_); (case b82 => repeat (first | (with_reducible first | exact HB.out | apply below_alloc | apply pw_below_drewN | apply below_drew1) | exact HB.out)); rintro e w' ⟨rfl, hb⟩; have n1_ := Aside0.mk (below_step (by repeat (first | (with_reducible first | exact HB.out | apply below_alloc | apply pw_below_drewN | apply below_drew1) | exact HB.out)) hb); clear HB; have HB := n1_; clear n1_ hb)
        | (go_at_call 9; (with_reducible refine (HG1.out _ ?b91).mono ?_); (case b91 => repeat (first | (with_reducible first | exact HB.out | apply below_alloc | apply pw_below_drewN | apply below_drew1) | exact HB.out)); rintro e w' ⟨rfl, hb⟩; have n1_ := Aside0.mk (below_step (by repeat (first | (with_reducible first | exact HB.out | apply below_alloc | apply pw_below_drewN | apply below_drew1) | exact HB.out)) hb); clear HB; have HB := n1_; clear n1_ hb)
        | (go_at_call 9; (with_reducible refine (HG2.out _ ?b92).mono ?_); (case b92 => repeat (first | (with_reducible first | exact HB.out | apply below_alloc | apply pw_below_drewN | apply below_drew1) | exact HB.out)); rintro e w' ⟨rfl, hb⟩; have n1_ := Aside0.mk (below_step (by repeat (first | (with_reducible first | exact HB.out | apply below_alloc | apply pw_below_drewN | apply below_drew1) | exact HB.out)) hb); clear HB; have HB := n1_; clear n1_ hb)
        | (go_at_call 10; (with_reducible refine (HW.out _ ?b10).mono ?_); (case b10 => repeat (first | (with_reducible first | exact HB.out | apply below_alloc | apply pw_below_drewN | apply below_drew1) | exact HB.out)); rintro e w' ⟨rfl, hb⟩; have n1_ := Aside0.mk (below_step (by repeat (first | (with_reducible first | exact HB.out | apply below_alloc | apply pw_below_drewN | apply below_drew1) | exact HB.out)) hb); clear HB; have HB := n1_; clear n1_ hb)
        | fail)
      go_ret
      exact ⟨rfl, HB.out⟩
    | true =>
      by_cases hn : l0.length = 0
      · have hn0 : ((l0.length : Int) == 0) = true := beq_iff_eq.2 (by omega)
        go_enter Tryd.func3, Tryd.ntmps3
        go_wp2_with (first
          | (go_at_call 8; (with_reducible refine (HF1.out _ ?b81).mono ?_); (case b81 => repeat (first | (with_reducible first | exact HB.out | apply below_alloc | apply pw_below_drewN | apply below_drew1) | exact HB.out)); rintro e w' ⟨rfl, hb⟩; have n1_ := Aside0.mk (below_step (by repeat (first | (with_reducible first | exact HB.out | apply below_alloc | apply pw_below_drewN | apply below_drew1) | exact HB.out)) hb); clear HB; have HB := n1_; clear n1_ hb)
          | (go_at_call 8; (with_reducible refine (HF2.out _ ?b82).mono ?_); (case b82 => repeat (first | (with_reducible first | exact HB.out | apply below_alloc | apply pw_below_drewN | apply below_drew1) | exact HB.out)); rintro e w' ⟨rfl, hb⟩; have n1_ := Aside0.mk (below_step (by repeat (first | (with_reducible first | exact HB.out | apply below_alloc | apply pw_below_drewN | apply below_drew1) | exact HB.out)) hb); clear HB; have HB := n1_; clear n1_ hb)
          | (go_at_call 9; (with_reducible refine (HG1.out _ ?b91).mono ?_); (case b91 => repeat (first | (with_reducible first | exact HB.out | apply below_alloc | apply pw_below_drewN | apply below_drew1) | exact HB.out)); rintro e w' ⟨rfl, hb⟩; have n1_ := Aside0.mk (below_step (by repeat (first | (with_reducible first | exact HB.out | apply below_alloc | apply pw_below_drewN | apply below_drew1) | exact HB.out)) hb); clear HB; have HB := n1_; clear n1_ hb)
          | (go_at_call 9; (with_reducible refine (HG2.out _ ?b92).mono ?_); (case b92 => repeat (first | (with_reducible first | exact HB.out | apply below_alloc | apply pw_below_drewN | apply below_drew1) | exact HB.out)); rintro e w' ⟨rfl, hb⟩; have n1_ := Aside0.mk (below_step (by repeat (first | (with_reducible first | exact HB.out | apply below_alloc | apply pw_below_drewN | apply below_drew1) | exact HB.out)) hb); clear HB; have HB := n1_; clear n1_ hb)
          | (go_at_call 10; (with_reducible refine (HW.out _ ?b10).mono ?_); (case b10 => repeat (first | (with_reducible first | exact HB.out | apply below_alloc | apply pw_below_drewN | apply below_drew1) | exact HB.out)); rintro e w' ⟨rfl, hb⟩; have n1_ := Aside0.mk (below_step (by repeat (first | (with_reducible first | exact HB.out | apply below_alloc | apply pw_below_drewN | apply below_drew1) | exact HB.out)) hb); clear HB; have HB := n1_; clear n1_ hb)
          | fail)
        go_ret
        exact ⟨rfl, HB.out⟩
      have hn0 : ((l0.length : Int) == 0) = false := beq_eq_false_iff_ne.2 (by omega)
      cases b91 with
      | false =>
        go_enter Tryd.func3, Tryd.ntmps3
        go_wp2_with (first
          | (go_at_call 8; (with_reducible refine (HF1.out _ ?b81).mono ?_); (case b81 => repeat (first | (with_reducible first | exact HB.out | apply below_alloc | apply pw_below_drewN | apply below_drew1) | exact HB.out)); rintro e w' ⟨rfl, hb⟩; have n1_ := Aside0.mk (below_step (by repeat (first | (with_reducible first | exact HB.out | apply below_alloc | apply pw_below_drewN | apply below_drew1) | exact HB.out)) hb); clear HB; have HB := n1_; clear n1_ hb)
          | (go_at_call 8; (with_reducible refine (HF2.out _ ?b82).mono ?_); (case b82 => repeat (first | (with_reducible first | exact HB.out | apply below_alloc | apply pw_below_drewN | apply below_drew1) | exact HB.out)); rintro e w' ⟨rfl, hb⟩; have n1_ := Aside0.mk (below_step (by repeat (first | (with_reducible first | exact HB.out | apply below_alloc | apply pw_below_drewN | apply below_drew1) | exact HB.out)) hb); clear HB; have HB := n1_; clear n1_ hb)
          | (go_at_call 9; (with_reducible refine (HG1.out _ ?b91).mono ?_); (case b91 => repeat (first | (with_reducible first | exact HB.out | apply below_alloc | apply pw_below_drewN | apply below_drew1) | exact HB.out)); rintro e w' ⟨rfl, hb⟩; have n1_ := Aside0.mk (below_step (by repeat (first | (with_reducible first | exact HB.out | apply below_alloc | apply pw_below_drewN | apply below_drew1) | exact HB.out)) hb); clear HB; have HB := n1_; clear n1_ hb)
          | (go_at_call 9; (with_reducible refine (HG2.out _ ?b92).mono ?_); (case b92 => repeat (first | (with_reducible first | exact HB.out | apply below_alloc | apply pw_below_drewN | apply below_drew1) | exact HB.out)); rintro e w' ⟨rfl, hb⟩; have n1_ := Aside0.mk (below_step (by repeat (first | (with_reducible first | exact HB.out | apply below_alloc | apply pw_below_drewN | apply below_drew1) | exact HB.out)) hb); clear HB; have HB := n1_; clear n1_ hb)
          | (go_at_call 10; (with_reducible refine (HW.out _ ?b10).mono ?_); (case b10 => repeat (first | (with_reducible first | exact HB.out | apply below_alloc | apply pw_below_drewN | apply below_drew1) | exact HB.out)); rintro e w' ⟨rfl, hb⟩; have n1_ := Aside0.mk (below_step (by repeat (first | (with_reducible first | exact HB.out | apply below_alloc | apply pw_below_drewN | apply below_drew1) | exact HB.out)) hb); clear HB; have HB := n1_; clear n1_ hb)
          | fail)
        go_ret
        exact ⟨rfl, HB.out⟩
      | true =>
        cases b92 with
        | false =>
          go_enter Tryd.func3, Tryd.ntmps3
          go_wp2_with (first
            | (go_at_call 8; (with_reducible refine (HF1.out _ ?b81).mono ?_); (case b81 => repeat (first | (with_reducible first | exact HB.out | apply below_alloc | apply pw_below_drewN | apply below_drew1) | exact HB.out)); rintro e w' ⟨rfl, hb⟩; have n1_ := Aside0.mk (below_step (by repeat (first | (with_reducible first | exact HB.out | apply below_alloc | apply pw_below_drewN | apply below_drew1) | exact HB.out)) hb); clear HB; have HB := n1_; clear n1_ hb)
            | (go_at_call 8; (with_reducible refine (HF2.out _ ?b82).mono ?_); (case b82 => repeat (first | (with_reducible first | exact HB.out | apply below_alloc | apply pw_below_drewN | apply below_drew1) | exact HB.out)); rintro e w' ⟨rfl, hb⟩; have n1_ := Aside0.mk (below_step (by repeat (first | (with_reducible first | exact HB.out | apply below_alloc | apply pw_below_drewN | apply below_drew1) | exact HB.out)) hb); clear HB; have HB := n1_; clear n1_ hb)
            | (go_at_call 9; (with_reducible refine (HG1.out _ ?b91).mono ?_); (case b91 => repeat (first | (with_reducible first | exact HB.out | apply below_alloc | apply pw_below_drewN | apply below_drew1) | exact HB.out)); rintro e w' ⟨rfl, hb⟩; have n1_ := Aside0.mk (below_step (by repeat (first | (with_reducible first | exact HB.out | apply below_alloc | apply pw_below_drewN | apply below_drew1) | exact HB.out)) hb); clear HB; have HB := n1_; clear n1_ hb)
            | (go_at_call 9; (with_reducible refine (HG2.out _ ?b92).mono ?_); (case b92 => repeat (first | (with_reducible first | exact HB.out | apply below_alloc | apply pw_below_drewN | apply below_drew1) | exact HB.out)); rintro e w' ⟨rfl, hb⟩; have n1_ := Aside0.mk (below_step (by repeat (first | (with_reducible first | exact HB.out | apply below_alloc | apply pw_below_drewN | apply below_drew1) | exact HB.out)) hb); clear HB; have HB := n1_; clear n1_ hb)
            | (go_at_call 10; (with_reducible refine (HW.out _ ?b10).mono ?_); (case b10 => repeat (first | (with_reducible first | exact HB.out | apply below_alloc | apply pw_below_drewN | apply below_drew1) | exact HB.out)); rintro e w' ⟨rfl, hb⟩; have n1_ := Aside0.mk (below_step (by repeat (first | (with_reducible first | exact HB.out | apply below_alloc | apply pw_below_drewN | apply below_drew1) | exact HB.out)) hb); clear HB; have HB := n1_; clear n1_ hb)
            | fail)
          go_ret
          exact ⟨rfl, HB.out⟩
        | true =>
          have HGD1 := Aside0.mk (hg1 rfl)
          have HGD2 := Aside0.mk (hg2 rfl)
          have hlen0 := HGD1.out.2.2.2
          have HGA : Aside0 (∀ s ∈ l1 ++ l2, GoodS s l0.length) := ⟨fun s hs => by
            rcases List.mem_append.1 hs with hs | hs
            · exact HGD1.out.1 s hs
            · exact HGD2.out.1 s hs⟩
          have HXA : Aside0 (∀ s ∈ l1 ++ l2, ∀ x ∈ s.f3, 0 ≤ x ∧ x ≤ 255) := ⟨fun s hs => by
            rcases List.mem_append.1 hs with hs | hs
            · exact HX1.out s hs
            · exact HX2.out s hs⟩
          have hn1 := HGD1.out.2.2.1
          have hn2 := HGD2.out.2.2.1
          have hna : (l1 ++ l2).length ≤ 1000 := by rw [List.length_append]; omega
          obtain ⟨bs1, d11, d12, d13, d14⟩ := delta_ok l0 l1 hlen0 (by omega) HGD1.out.1 HX1.out
          have hml1 : (made l0 ((l1).map insOf)).length ≤ 1000000000 := by have := made_all_le l0 hlen0 (l1) HGD1.out.1; omega
          obtain ⟨d1, hd1⟩ : ∃ d, d = enc7 l0.length ++ (enc7 (made l0 ((l1).map insOf)).length ++ bs1) := ⟨_, rfl⟩
          rw [← hd1] at d14
          have HDL1 : Aside0 (d1.length ≤ 140737488351232) := ⟨by rw [hd1]; exact delta_len _ _ _ (by omega) (by omega) d12⟩
          have HDR1 : Aside0 (∀ x ∈ d1, 0 ≤ x ∧ x ≤ 255) := ⟨by rw [hd1]; exact delta_range _ _ _ d13⟩
          obtain ⟨m1, hm1⟩ : ∃ m, m = made l0 ((l1).map insOf) := ⟨_, rfl⟩
          rw [← hm1] at hml1
          have HPC1 : Aside0 (∀ W A c, Below w.heap.size w W → Kd.C (Kd.int .u8) W A d1.length d1 → Calls Tryd.prog 11 #[.slice A0 l0.length c0, .slice A d1.length c] W fun e w' => ∃ v, e = .returned (.tuple #[v, .bool true]) ∧ Kd.R (Kd.int .u8) 5 w' W.heap.size (fun _ => True) v m1 ∧ Below W.heap.size W w') := ⟨fun W A c hb hr => by
            rw [hm1]
            exact patch_good A0 A c0 c l0 d1 bs1 ((l1).map insOf) W (HV.out.below hb) (Kd.C_below HR0.out hb) hr HX0.out HDR1.out (by omega) HDL1.out (by omega) (by rw [← hm1]; omega) hd1 d11 (map_ne HGD1.out.2.1)⟩
          have HDC1 : Aside0 (∀ W, Below w.heap.size w W → Calls Tryd.prog 12 #[.slice A0 l0.length c0, .slice A1 l1.length c1] W fun e w' => ∃ v, e = .returned v ∧ Kd.R (Kd.int .u8) 5 w' W.heap.size (fun _ => True) v d1 ∧ Below W.heap.size W w') := ⟨fun W hb => by
            rw [hd1]
            exact deltaC A1 A0 c1 c0 l1 l0 W (Kd.C_below HR1.out hb) HC1.out (Kd.C_below HR0.out hb) HC0.out bs1 (by rw [← hd1]; exact d14)⟩
          obtain ⟨bs2, d21, d22, d23, d24⟩ := delta_ok l0 l2 hlen0 (by omega) HGD2.out.1 HX2.out
          have hml2 : (made l0 ((l2).map insOf)).length ≤ 1000000000 := by have := made_all_le l0 hlen0 (l2) HGD2.out.1; omega
          obtain ⟨d2, hd2⟩ : ∃ d, d = enc7 l0.length ++ (enc7 (made l0 ((l2).map insOf)).length ++ bs2) := ⟨_, rfl⟩
          rw [← hd2] at d24
          have HDL2 : Aside0 (d2.length ≤ 140737488351232) := ⟨by rw [hd2]; exact delta_len _ _ _ (by omega) (by omega) d22⟩
          have HDR2 : Aside0 (∀ x ∈ d2, 0 ≤ x ∧ x ≤ 255) := ⟨by rw [hd2]; exact delta_range _ _ _ d23⟩
          obtain ⟨m2, hm2⟩ : ∃ m, m = made l0 ((l2).map insOf) := ⟨_, rfl⟩
          rw [← hm2] at hml2
          have HPC2 : Aside0 (∀ W A c, Below w.heap.size w W → Kd.C (Kd.int .u8) W A d2.length d2 → Calls Tryd.prog 11 #[.slice A0 l0.length c0, .slice A d2.length c] W fun e w' => ∃ v, e = .returned (.tuple #[v, .bool true]) ∧ Kd.R (Kd.int .u8) 5 w' W.heap.size (fun _ => True) v m2 ∧ Below W.heap.size W w') := ⟨fun W A c hb hr => by
            rw [hm2]
            exact patch_good A0 A c0 c l0 d2 bs2 ((l2).map insOf) W (HV.out.below hb) (Kd.C_below HR0.out hb) hr HX0.out HDR2.out (by omega) HDL2.out (by omega) (by rw [← hm2]; omega) hd2 d21 (map_ne HGD2.out.2.1)⟩
          have HDC2 : Aside0 (∀ W, Below w.heap.size w W → Calls Tryd.prog 12 #[.slice A0 l0.length c0, .slice A2 l2.length c2] W fun e w' => ∃ v, e = .returned v ∧ Kd.R (Kd.int .u8) 5 w' W.heap.size (fun _ => True) v d2 ∧ Below W.heap.size W w') := ⟨fun W hb => by
            rw [hd2]
            exact deltaC A2 A0 c2 c0 l2 l0 W (Kd.C_below HR2.out hb) HC2.out (Kd.C_below HR0.out hb) HC0.out bs2 (by rw [← hd2]; exact d24)⟩
          obtain ⟨bsa, da1, da2, da3, da4⟩ := delta_ok l0 (l1 ++ l2) hlen0 (by omega) HGA.out HXA.out
          have hmla : (made l0 (((l1 ++ l2)).map insOf)).length ≤ 1000000000 := by have := made_all_le l0 hlen0 ((l1 ++ l2)) HGA.out; omega
          obtain ⟨da, hda⟩ : ∃ d, d = enc7 l0.length ++ (enc7 (made l0 (((l1 ++ l2)).map insOf)).length ++ bsa) := ⟨_, rfl⟩
          rw [← hda] at da4
          have HDLa : Aside0 (da.length ≤ 140737488351232) := ⟨by rw [hda]; exact delta_len _ _ _ (by omega) (by omega) da2⟩
          have HDRa : Aside0 (∀ x ∈ da, 0 ≤ x ∧ x ≤ 255) := ⟨by rw [hda]; exact delta_range _ _ _ da3⟩
          obtain ⟨ma, hma⟩ : ∃ m, m = made l0 (((l1 ++ l2)).map insOf) := ⟨_, rfl⟩
          rw [← hma] at hmla
          have HPCa : Aside0 (∀ W A c, Below w.heap.size w W → Kd.C (Kd.int .u8) W A da.length da → Calls Tryd.prog 11 #[.slice A0 l0.length c0, .slice A da.length c] W fun e w' => ∃ v, e = .returned (.tuple #[v, .bool true]) ∧ Kd.R (Kd.int .u8) 5 w' W.heap.size (fun _ => True) v ma ∧ Below W.heap.size W w') := ⟨fun W A c hb hr => by
            rw [hma]
            exact patch_good A0 A c0 c l0 da bsa (((l1 ++ l2)).map insOf) W (HV.out.below hb) (Kd.C_below HR0.out hb) hr HX0.out HDRa.out (by omega) HDLa.out (by omega) (by rw [← hma]; omega) hda da1 (map_ne (by rw [List.length_append]; have := HGD1.out.2.1; omega))⟩
          have HMA : Aside0 (ma = m1 ++ m2) := ⟨by rw [hma, hm1, hm2, List.map_append, made_append]⟩
          obtain ⟨x1, ex1, hx1, kx1⟩ := raw_of HR1.out
          obtain ⟨x2, ex2, hx2, kx2⟩ := raw_of HR2.out
          have HKA : Aside0 (∀ W A c n, Below w.heap.size w W → n = (x1 ++ x2).length → n ≤ c → Kd.C raw5 W A n (x1 ++ x2) → Calls Tryd.prog 12 #[.slice A0 l0.length c0, .slice A n c] W fun e w' => ∃ v, e = .returned v ∧ Kd.R (Kd.int .u8) 5 w' W.heap.size (fun _ => True) v da ∧ Below W.heap.size W w') := ⟨fun W A c n hb hn hnc hr => by
            have hnl : n = (l1 ++ l2).length := by rw [hn, List.length_append, List.length_append, ex1, ex2]
            subst hn
            have hr' := both_raw hb ex1 ex2 kx1 kx2 hr
            rw [hda, hnl]
            exact deltaC A A0 c c0 (l1 ++ l2) l0 W hr' (by omega) (Kd.C_below HR0.out hb) HC0.out bsa (by rw [← hda]; exact da4)⟩
          have HX1' := Aside0.mk hx1
          have HX2' := Aside0.mk hx2
          have HE1 := Aside0.mk ex1
          have HE2 := Aside0.mk ex2
          have Hn1 := Aside0.mk hn1
          have Hn2 := Aside0.mk hn2
          have Hm1 := Aside0.mk hml1
          have Hm2 := Aside0.mk hml2
          clear hg1 hg2 hd1 hd2 hda hm1 hm2 hma d11 d12 d13 d14 d21 d22 d23 d24 da1 da2 da3 da4 hml1 hml2 hmla hna ex1 ex2 hx1 hx2 kx1 kx2 hlen0 hn1 hn2
          go_enter Tryd.func3, Tryd.ntmps3
          go_wp2_with (first
            | (go_at_call 8; (with_reducible refine (HF1.out _ ?b81).mono ?_); (case b81 => repeat (first | (with_reducible first | exact HB.out | apply below_alloc | apply pw_below_drewN | apply below_drew1) | exact HB.out)); rintro e w' ⟨rfl, hb⟩; have n1_ := Aside0.mk (below_step (by repeat (first | (with_reducible first | exact HB.out | apply below_alloc | apply pw_below_drewN | apply below_drew1) | exact HB.out)) hb); clear HB; have HB := n1_; clear n1_ hb)
            | (go_at_call 8; (with_reducible refine (HF2.out _ ?b82).mono ?_); (case b82 => repeat (first | (with_reducible first | exact HB.out | apply below_alloc | apply pw_below_drewN | apply below_drew1) | exact HB.out)); rintro e w' ⟨rfl, hb⟩; have n1_ := Aside0.mk (below_step (by repeat (first | (with_reducible first | exact HB.out | apply below_alloc | apply pw_below_drewN | apply below_drew1) | exact HB.out)) hb); clear HB; have HB := n1_; clear n1_ hb)
            | (go_at_call 9; (with_reducible refine (HG1.out _ ?b91).mono ?_); (case b91 => repeat (first | (with_reducible first | exact HB.out | apply below_alloc | apply pw_below_drewN | apply below_drew1) | exact HB.out)); rintro e w' ⟨rfl, hb⟩; have n1_ := Aside0.mk (below_step (by repeat (first | (with_reducible first | exact HB.out | apply below_alloc | apply pw_below_drewN | apply below_drew1) | exact HB.out)) hb); clear HB; have HB := n1_; clear n1_ hb)
            | (go_at_call 9; (with_reducible refine (HG2.out _ ?b92).mono ?_); (case b92 => repeat (first | (with_reducible first | exact HB.out | apply below_alloc | apply pw_below_drewN | apply below_drew1) | exact HB.out)); rintro e w' ⟨rfl, hb⟩; have n1_ := Aside0.mk (below_step (by repeat (first | (with_reducible first | exact HB.out | apply below_alloc | apply pw_below_drewN | apply below_drew1) | exact HB.out)) hb); clear HB; have HB := n1_; clear n1_ hb)
            | (go_at_call 12; (with_reducible refine (HDC1.out _ ?b121).mono ?_); (case b121 => repeat (first | (with_reducible first | exact HB.out | apply below_alloc | apply pw_below_drewN | apply below_drew1) | exact HB.out)); rintro e w2 ⟨v2, rfl, hR, hb⟩; have n1_ := Aside0.mk (below_step (by repeat (first | (with_reducible first | exact HB.out | apply below_alloc | apply pw_below_drewN | apply below_drew1) | exact HB.out)) hb); clear HB; have HB := n1_; clear n1_ hb; obtain ⟨A3, c3, e2, hc3, hr3⟩ := Kd.R_reads hR; subst e2; have HR3 := Aside0.mk hr3; clear hR hc3 hr3)
            | (go_at_call 11; (with_reducible refine (HPC1.out _ _ _ ?b111 HR3.out).mono ?_); (case b111 => repeat (first | (with_reducible first | exact HB.out | apply below_alloc | apply pw_below_drewN | apply below_drew1) | exact HB.out)); rintro e w3 ⟨v3, rfl, hR, hb⟩; have n1_ := Aside0.mk (below_step (by repeat (first | (with_reducible first | exact HB.out | apply below_alloc | apply pw_below_drewN | apply below_drew1) | exact HB.out)) hb); clear HB; have HB := n1_; clear n1_ hb; obtain ⟨A4, c4, e3, hc4, hr4⟩ := Kd.R_reads hR; subst e3; have HR4 := Aside0.mk hr4; have HC4 := Aside0.mk hc4; clear hR hc4 hr4 HR3)
            | (go_at_call 12; (with_reducible refine (HDC2.out _ ?b122).mono ?_); (case b122 => repeat (first | (with_reducible first | exact HB.out | apply below_alloc | apply pw_below_drewN | apply below_drew1) | exact HB.out)); rintro e w4 ⟨v4, rfl, hR, hb⟩; have z_ := Aside0.mk (Kd.C_below HR4.out hb); clear HR4; have HR4 := z_; clear z_; have n1_ := Aside0.mk (below_step (by repeat (first | (with_reducible first | exact HB.out | apply below_alloc | apply pw_below_drewN | apply below_drew1) | exact HB.out)) hb); clear HB; have HB := n1_; clear n1_ hb; obtain ⟨A5, c5, e4, hc5, hr5⟩ := Kd.R_reads hR; subst e4; have HR5 := Aside0.mk hr5; clear hR hc5 hr5)
            | (go_at_call 11; (with_reducible refine (HPC2.out _ _ _ ?b112 HR5.out).mono ?_); (case b112 => repeat (first | (with_reducible first | exact HB.out | apply below_alloc | apply pw_below_drewN | apply below_drew1) | exact HB.out)); rintro e w5 ⟨v5, rfl, hR, hb⟩; have z_ := Aside0.mk (Kd.C_below HR4.out hb); clear HR4; have HR4 := z_; clear z_; have n1_ := Aside0.mk (below_step (by repeat (first | (with_reducible first | exact HB.out | apply below_alloc | apply pw_below_drewN | apply below_drew1) | exact HB.out)) hb); clear HB; have HB := n1_; clear n1_ hb; obtain ⟨A6, c6, e5, hc6, hr6⟩ := Kd.R_reads hR; subst e5; have HR6 := Aside0.mk hr6; have HC6 := Aside0.mk hc6; clear hR hc6 hr6 HR5)
            | ((with_reducible refine gate_dst (N := 61) rfl ?_); refine Kd.R_lit raw5 _ 38 ?hg (N := 61) ?hd (xs := ([] : List (List Value))) (inner := []) (ok := fun _ => True) (okp := fun _ => True) ?hr ?hp (fun _ hk => hk) trivial (Below.refl _ _) (Nat.le_refl _) (by simp) ?_; (case hd => rfl); (case hg => rfl); (case hr => first | (go_simp; done) | (go_simp; rfl)); (case hp => exact Reps.none _ _); intro v61 w61 ho hb hg_ hnew_; have HO61 := Aside0.mk ho; have HZ := Aside0.mk hb; have HS61 := Aside0.mk hb.size; clear hg_ hnew_ ho hb)
            | ((with_reducible refine gate_builtin (b := .append) (xs := #[.tmp 61, .tmp 62]) rfl ?_); at_builtin; refine Kd.R_append_rows raw5 _ rfl (.tmp 61) (.tmp 62) 23 38 (.agg #[.bool false, .int .i64 0, .int .i64 0, .slice none 0 0, .int .i64 0]) 56 rfl Tryd.underlying23 info38 rfl (by decide) (by omega) v61 ([] : List (List Value)) x1 _ _ _ (fun _ => True) (fun _ => False) rfl rfl HO61.out (Kd.C_below HX1'.out (below_step HB.out HZ.out)) (fun _ _ h => h) (fun _ h => h.elim) (fun _ _ => trivial) HZ.out HS61.out ?aL1 ?_; (case aL1 => have := Hn1.out; simp; omega); intro v63 w63 ho hb hg hat; rw [List.nil_append] at ho; have HO63 := Aside0.mk ho; clear HZ HS61 HO61; have HZ := Aside0.mk hb; have HS61 := Aside0.mk hb.size; clear ho hb hg hat)
            | ((with_reducible refine gate_builtin (b := .append) (xs := #[.tmp 63, .tmp 64]) rfl ?_); at_builtin; refine Kd.R_append_rows raw5 _ rfl (.tmp 63) (.tmp 64) 23 38 (.agg #[.bool false, .int .i64 0, .int .i64 0, .slice none 0 0, .int .i64 0]) 56 rfl Tryd.underlying23 info38 rfl (by decide) (by omega) v63 x1 x2 _ _ _ (fun _ => True) (fun _ => False) rfl rfl HO63.out (Kd.C_below HX2'.out (below_step HB.out HZ.out)) (fun _ _ h => h) (fun _ h => h.elim) (fun _ _ => trivial) HZ.out HS61.out ?aL2 ?_; (case aL2 => have := Hn1.out; have := Hn2.out; have := HE1.out; omega); intro v65 w65 ho hb hg hat; clear HZ; have z_ := Aside0.mk (Kd.C_below HR4.out hb); clear HR4; have HR4 := z_; clear z_; have z_ := Aside0.mk (Kd.C_below HR6.out hb); clear HR6; have HR6 := z_; clear z_; have n1_ := Aside0.mk (below_step (by repeat (first | (with_reducible first | exact HB.out | apply below_alloc | apply pw_below_drewN | apply below_drew1) | exact HB.out)) hb); clear HB; have HB := n1_; clear n1_ hb; obtain ⟨A7, c7, e7, hc7, hr7⟩ := Kd.R_reads ho; subst e7; rw [List.length_append] at hc7 hr7; have HR7 := Aside0.mk hr7; have HC7 := Aside0.mk hc7; clear ho hg hat hr7 hc7 HO63)
            | (go_at_call 12; (with_reducible refine (HKA.out _ _ _ _ ?b123 ?b124 HC7.out HR7.out).mono ?_); (case b123 => repeat (first | (with_reducible first | exact HB.out | apply below_alloc | apply pw_below_drewN | apply below_drew1) | exact HB.out)); (case b124 => exact List.length_append.symm); rintro e w8 ⟨v8, rfl, hR, hb⟩; have z_ := Aside0.mk (Kd.C_below HR4.out hb); clear HR4; have HR4 := z_; clear z_; have z_ := Aside0.mk (Kd.C_below HR6.out hb); clear HR6; have HR6 := z_; clear z_; have n1_ := Aside0.mk (below_step (by repeat (first | (with_reducible first | exact HB.out | apply below_alloc | apply pw_below_drewN | apply below_drew1) | exact HB.out)) hb); clear HB; have HB := n1_; clear n1_ hb; obtain ⟨A8, c8, e8, hc8, hr8⟩ := Kd.R_reads hR; subst e8; have HR8 := Aside0.mk hr8; clear hR hc8 hr8)
            | (go_at_call 11; (with_reducible refine (HPCa.out _ _ _ ?b113 HR8.out).mono ?_); (case b113 => repeat (first | (with_reducible first | exact HB.out | apply below_alloc | apply pw_below_drewN | apply below_drew1) | exact HB.out)); rintro e w9 ⟨v9, rfl, hR, hb⟩; have z_ := Aside0.mk (Kd.C_below HR4.out hb); clear HR4; have HR4 := z_; clear z_; have z_ := Aside0.mk (Kd.C_below HR6.out hb); clear HR6; have HR6 := z_; clear z_; have n1_ := Aside0.mk (below_step (by repeat (first | (with_reducible first | exact HB.out | apply below_alloc | apply pw_below_drewN | apply below_drew1) | exact HB.out)) hb); clear HB; have HB := n1_; clear n1_ hb; obtain ⟨A9, c9, e9, hc9, hr9⟩ := Kd.R_reads hR; subst e9; have HR9 := Aside0.mk hr9; have HC9 := Aside0.mk hc9; clear hR hc9 hr9 HR8)
            | ((with_reducible refine gate_dst (N := 79) rfl ?_); (try (refine gate_guard (by rfl) ?_; dsimp only)); refine Kd.R_lit (Kd.int .u8) _ 5 ?hg2 (N := 79) ?hd2 (xs := ([] : List Int)) (inner := []) (ok := fun _ => True) (okp := fun _ => True) ?hr2 ?hp2 (fun _ hk => hk) trivial (Below.refl _ _) (Nat.le_refl _) (by simp) ?_; (case hd2 => rfl); (case hg2 => rfl); (case hr2 => first | (go_simp; done) | (go_simp; rfl)); (case hp2 => exact Reps.none _ _); intro v79 w79 ho hb hg_ hnew_; have HO79 := Aside0.mk ho; have HZ := Aside0.mk hb; have HS79 := Aside0.mk hb.size; clear hg_ hnew_ ho hb)
            | ((with_reducible refine gate_builtin (b := .append) (xs := #[.tmp 79, .tmp 80]) rfl ?_); (try (refine gate_guard (by rfl) ?_; dsimp only)); at_builtin; refine Kd.R_append_rows (Kd.int .u8) _ rfl (.tmp 79) (.tmp 80) 22 5 (.int .u8 0) 1 rfl Tryd.underlying22 info5 rfl (by decide) (by omega) v79 ([] : List Int) m1 _ _ _ (fun _ => True) (fun _ => False) rfl rfl HO79.out (Kd.C_below HR4.out HZ.out) (fun _ _ h => h) (fun _ h => h.elim) (fun _ _ => trivial) HZ.out HS79.out ?aL3 ?_; (case aL3 => have := Hm1.out; simp; omega); intro v81 w81 ho hb hg hat; rw [List.nil_append] at ho; have HO81 := Aside0.mk ho; clear HZ HS79 HO79; have HZ := Aside0.mk hb; have HS79 := Aside0.mk hb.size; clear ho hb hg hat)
            | ((with_reducible refine gate_builtin (b := .append) (xs := #[.tmp 81, .tmp 82]) rfl ?_); (try (refine gate_guard (by rfl) ?_; dsimp only)); at_builtin; refine Kd.R_append_rows (Kd.int .u8) _ rfl (.tmp 81) (.tmp 82) 22 5 (.int .u8 0) 1 rfl Tryd.underlying22 info5 rfl (by decide) (by omega) v81 m1 m2 _ _ _ (fun _ => True) (fun _ => False) rfl rfl HO81.out (Kd.C_below HR6.out HZ.out) (fun _ _ h => h) (fun _ h => h.elim) (fun _ _ => trivial) HZ.out HS79.out ?aL4 ?_; (case aL4 => have := Hm1.out; have := Hm2.out; omega); intro v83 w83 ho hb hg hat; clear HZ; have z_ := Aside0.mk (Kd.C_below HR9.out hb); clear HR9; have HR9 := z_; clear z_; have n1_ := Aside0.mk (below_step (by repeat (first | (with_reducible first | exact HB.out | apply below_alloc | apply pw_below_drewN | apply below_drew1) | exact HB.out)) hb); clear HB; have HB := n1_; clear n1_ hb; rw [← HMA.out] at ho; obtain ⟨A10, c10, e10, hc10, hr10⟩ := Kd.R_reads ho; subst e10; have HR10 := Aside0.mk hr10; have HC10 := Aside0.mk hc10; clear ho hg hat hr10 hc10 HO81)
            | (go_at_call 13; (with_reducible refine (sameC _ _ _ _ ma _ HR9.out HC9.out HR10.out HC10.out).mono ?_); rintro e w11 ⟨rfl, hb⟩; have n1_ := Aside0.mk (below_step (by repeat (first | (with_reducible first | exact HB.out | apply below_alloc | apply pw_below_drewN | apply below_drew1) | exact HB.out)) hb); clear HB; have HB := n1_; clear n1_ hb))
          go_ret
          exact ⟨rfl, HB.out⟩
end Go.Proofs.YtlboochpbplhlaaDoor.WalkJ
