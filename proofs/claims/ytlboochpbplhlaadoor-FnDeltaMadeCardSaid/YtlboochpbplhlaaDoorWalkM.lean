/- FnDeltaMade, walked. -/
import Derived.Test.YtlboochpbplhlaaDoorHandH
import Derived.Test.YtlboochpbplhlaaDoorPureF
set_option linter.unusedVariables false
set_option linter.unusedSimpArgs false
namespace Go.Proofs.YtlboochpbplhlaaDoor.WalkM
open Go.RowKit Go.Proofs.YtlboochpbplhlaaDoorW.PrintWords Go.Proofs.YtlboochpbplhlaaDoor.QAll PureD HandA HandB HandC HandD HandE HandF HandG HandH PureE PureF
open Go.Proofs.YtlboochpbplhlaaDoorW.PrintLast Go.Proofs.YtlboochpbplhlaaDoorW.PrintMore

set_option maxHeartbeats 8000000 in
set_option maxRecDepth 100000 in
theorem law (A0 A1 : Option Addr) (c0 c1 : Nat) (l0 : List Int) (l1 : List S38) (w : World) (hr0 : Kd.C (Kd.int .u8) w A0 l0.length l0) (hc0 : l0.length ≤ c0) (hr1 : Kd.C k38 w A1 l1.length l1) (hc1 : l1.length ≤ c1)
    (hl0 : l0.length ≤ 140737488351232) (hl1 : l1.length ≤ 140737488351232) (h0 : ∀ x ∈ l0, 0 ≤ x ∧ x ≤ 255) (h1 : ∀ s ∈ l1, ∀ x ∈ s.f3, 0 ≤ x ∧ x ≤ 255) (hV : Vars w) :
    Calls Tryd.prog 4 #[.slice A0 l0.length c0, .slice A1 l1.length c1] w fun e w' => e = .returned (.bool true) ∧ Below w.heap.size w w' := by
  obtain ⟨b8, hF⟩ := fitsC A1 c1 l1 w hr1 hc1 hl1
  obtain ⟨b9, hg, hG⟩ := goodC A1 A0 c1 c0 l1 l0 w hr1 hc1 hl1 hr0 hc0 hl0
  have HF := Aside0.mk hF
  have HG := Aside0.mk hG
  have HR0 := Aside0.mk hr0
  have HR1 := Aside0.mk hr1
  have HC0 := Aside0.mk hc0
  have HC1 := Aside0.mk hc1
  have HX0 := Aside0.mk h0
  have HX1 := Aside0.mk h1
  have HV := Aside0.mk hV
  have HB := Aside0.mk (Below.refl w.heap.size w)
  have HW := Aside0.mk (fun W (hb : Below w.heap.size w W) => works W (hV.below hb))
  clear hF hG hr0 hr1 h0 h1 hV hc0 hc1
  by_cases hsz : (2147483647 : Int) < (l0.length : Int)
  · go_enter Tryd.func4, Tryd.ntmps4
    go_wp2
    go_ret
    exact ⟨rfl, HB.out⟩
  · cases b8 with
    | false =>
      go_enter Tryd.func4, Tryd.ntmps4
      go_wp2_with ((go_at_call 8; (with_reducible refine (HF.out _ ?b8).mono ?_); (case b8 => repeat (first | (with_reducible first | exact HB.out | apply below_alloc | apply pw_below_drewN | apply below_drew1) | exact HB.out)); rintro e w' ⟨rfl, hb⟩; have n1_ := Aside0.mk (below_step (by repeat (first | (with_reducible first | exact HB.out | apply below_alloc | apply pw_below_drewN | apply below_drew1) | exact HB.out)) hb); clear HB; have HB := n1_; clear n1_ hb))
      go_ret
      exact ⟨rfl, HB.out⟩
    | true =>
      by_cases hn : l0.length = 0
      · have hn0 : ((l0.length : Int) == 0) = true := beq_iff_eq.2 (by omega)
        go_enter Tryd.func4, Tryd.ntmps4
        go_wp2_with (first
          | (go_at_call 8; (with_reducible refine (HF.out _ ?b8).mono ?_); (case b8 => repeat (first | (with_reducible first | exact HB.out | apply below_alloc | apply pw_below_drewN | apply below_drew1) | exact HB.out)); rintro e w' ⟨rfl, hb⟩; have n1_ := Aside0.mk (below_step (by repeat (first | (with_reducible first | exact HB.out | apply below_alloc | apply pw_below_drewN | apply below_drew1) | exact HB.out)) hb); clear HB; have HB := n1_; clear n1_ hb)
          | (go_at_call 10; (with_reducible refine (HW.out _ ?b10).mono ?_); (case b10 => repeat (first | (with_reducible first | exact HB.out | apply below_alloc | apply pw_below_drewN | apply below_drew1) | exact HB.out)); rintro e w' ⟨rfl, hb⟩; have n1_ := Aside0.mk (below_step (by repeat (first | (with_reducible first | exact HB.out | apply below_alloc | apply pw_below_drewN | apply below_drew1) | exact HB.out)) hb); clear HB; have HB := n1_; clear n1_ hb))
        go_ret
        exact ⟨rfl, HB.out⟩
      · have hn0 : ((l0.length : Int) == 0) = false := beq_eq_false_iff_ne.2 (by omega)
        cases b9 with
        | false =>
          go_enter Tryd.func4, Tryd.ntmps4
          go_wp2_with (first
            | (go_at_call 8; (with_reducible refine (HF.out _ ?b8).mono ?_); (case b8 => repeat (first | (with_reducible first | exact HB.out | apply below_alloc | apply pw_below_drewN | apply below_drew1) | exact HB.out)); rintro e w' ⟨rfl, hb⟩; have n1_ := Aside0.mk (below_step (by repeat (first | (with_reducible first | exact HB.out | apply below_alloc | apply pw_below_drewN | apply below_drew1) | exact HB.out)) hb); clear HB; have HB := n1_; clear n1_ hb)
            | (go_at_call 9; (with_reducible refine (HG.out _ ?b9).mono ?_); (case b9 => repeat (first | (with_reducible first | exact HB.out | apply below_alloc | apply pw_below_drewN | apply below_drew1) | exact HB.out)); rintro e w' ⟨rfl, hb⟩; have n1_ := Aside0.mk (below_step (by repeat (first | (with_reducible first | exact HB.out | apply below_alloc | apply pw_below_drewN | apply below_drew1) | exact HB.out)) hb); clear HB; have HB := n1_; clear n1_ hb)
            | (go_at_call 10; (with_reducible refine (HW.out _ ?b10).mono ?_); (case b10 => repeat (first | (with_reducible first | exact HB.out | apply below_alloc | apply pw_below_drewN | apply below_drew1) | exact HB.out)); rintro e w' ⟨rfl, hb⟩; have n1_ := Aside0.mk (below_step (by repeat (first | (with_reducible first | exact HB.out | apply below_alloc | apply pw_below_drewN | apply below_drew1) | exact HB.out)) hb); clear HB; have HB := n1_; clear n1_ hb))
          go_ret
          exact ⟨rfl, HB.out⟩
        | true =>
          have HGD := Aside0.mk (hg rfl)
          obtain ⟨bs, d1, d2, d3, d4⟩ := delta_ok l0 l1 HGD.out.2.2.2 (by have := HGD.out.2.2.1; omega) HGD.out.1 HX1.out
          have hml : (made l0 (l1.map insOf)).length ≤ 500000000 := by have := made_all_le l0 HGD.out.2.2.2 l1 HGD.out.1; have := HGD.out.2.2.1; omega
          have hl0' := HGD.out.2.2.2
          obtain ⟨d, hd⟩ : ∃ d, d = enc7 l0.length ++ (enc7 (made l0 (l1.map insOf)).length ++ bs) := ⟨_, rfl⟩
          rw [← hd] at d4
          have HD := Aside0.mk hd
          have HD1 := Aside0.mk d1
          have HD2 : Aside0 (d.length ≤ 140737488351232) := ⟨by rw [hd]; exact delta_len _ _ _ (by omega) (by omega) d2⟩
          have HD3 : Aside0 (∀ x ∈ d, 0 ≤ x ∧ x ≤ 255) := ⟨by rw [hd]; exact delta_range _ _ _ d3⟩
          obtain ⟨m, hm⟩ : ∃ m, m = made l0 (l1.map insOf) := ⟨_, rfl⟩
          rw [← hm] at hml
          have HM := Aside0.mk hm
          have HDC : Aside0 (∀ W, Below w.heap.size w W → Calls Tryd.prog 12 #[.slice A0 l0.length c0, .slice A1 l1.length c1] W fun e w' => ∃ v, e = .returned v ∧ Kd.R (Kd.int .u8) 5 w' W.heap.size (fun _ => True) v d ∧ Below W.heap.size W w') := ⟨fun W hb => by
            rw [hd]
            exact deltaC A1 A0 c1 c0 l1 l0 W (Kd.C_below HR1.out hb) HC1.out (Kd.C_below HR0.out hb) HC0.out bs (by rw [← hd]; exact d4)⟩
          have HPC : Aside0 (∀ W A c, Below w.heap.size w W → Kd.C (Kd.int .u8) W A d.length d → Calls Tryd.prog 11 #[.slice A0 l0.length c0, .slice A d.length c] W fun e w' => ∃ v, e = .returned (.tuple #[v, .bool true]) ∧ Kd.R (Kd.int .u8) 5 w' W.heap.size (fun _ => True) v m ∧ Below W.heap.size W w') := ⟨fun W A c hb hr => by
            rw [hm]
            exact patch_good A0 A c0 c l0 d bs (l1.map insOf) W (HV.out.below hb) (Kd.C_below HR0.out hb) hr HX0.out HD3.out (by omega) HD2.out (by omega) (by rw [← hm]; omega) hd HD1.out (map_ne HGD.out.2.1)⟩
          have HMC : Aside0 (∀ W, Below w.heap.size w W → Calls Tryd.prog 14 #[.slice A0 l0.length c0, .slice A1 l1.length c1] W fun e w' => ∃ v, e = .returned v ∧ Kd.R (Kd.int .u8) 5 w' W.heap.size (fun _ => True) v m ∧ Below W.heap.size W w') := ⟨fun W hb => by
            rw [hm]
            exact madeC A1 A0 c1 c0 l1 l0 W (Kd.C_below HR1.out hb) HC1.out (Kd.C_below HR0.out hb) HC0.out HGD.out⟩
          clear hd hm d1 d2 d3 d4 hg hml hl0'
          go_enter Tryd.func4, Tryd.ntmps4
          go_wp2_with (first
            | (go_at_call 8; (with_reducible refine (HF.out _ ?b8).mono ?_); (case b8 => repeat (first | (with_reducible first | exact HB.out | apply below_alloc | apply pw_below_drewN | apply below_drew1) | exact HB.out)); rintro e w' ⟨rfl, hb⟩; have n1_ := Aside0.mk (below_step (by repeat (first | (with_reducible first | exact HB.out | apply below_alloc | apply pw_below_drewN | apply below_drew1) | exact HB.out)) hb); clear HB; have HB := n1_; clear n1_ hb)
            | (go_at_call 9; (with_reducible refine (HG.out _ ?b9).mono ?_); (case b9 => repeat (first | (with_reducible first | exact HB.out | apply below_alloc | apply pw_below_drewN | apply below_drew1) | exact HB.out)); rintro e w' ⟨rfl, hb⟩; have n1_ := Aside0.mk (below_step (by repeat (first | (with_reducible first | exact HB.out | apply below_alloc | apply pw_below_drewN | apply below_drew1) | exact HB.out)) hb); clear HB; have HB := n1_; clear n1_ hb)
            | (go_at_call 12; (with_reducible refine (HDC.out _ ?b12).mono ?_); (case b12 => repeat (first | (with_reducible first | exact HB.out | apply below_alloc | apply pw_below_drewN | apply below_drew1) | exact HB.out)); rintro e w2 ⟨v2, rfl, hR, hb⟩; have n1_ := Aside0.mk (below_step (by repeat (first | (with_reducible first | exact HB.out | apply below_alloc | apply pw_below_drewN | apply below_drew1) | exact HB.out)) hb); clear HB; have HB := n1_; clear n1_ hb; obtain ⟨A2, c2, e2, hc2, hr2⟩ := Kd.R_reads hR; subst e2; have HR2 := Aside0.mk hr2; clear hR hc2 hr2)
            | (go_at_call 11; (with_reducible refine (HPC.out _ _ _ ?b11 HR2.out).mono ?_); (case b11 => repeat (first | (with_reducible first | exact HB.out | apply below_alloc | apply pw_below_drewN | apply below_drew1) | exact HB.out)); rintro e w3 ⟨v3, rfl, hR, hb⟩; have n1_ := Aside0.mk (below_step (by repeat (first | (with_reducible first | exact HB.out | apply below_alloc | apply pw_below_drewN | apply below_drew1) | exact HB.out)) hb); clear HB; have HB := n1_; clear n1_ hb; obtain ⟨A3, c3, e3, hc3, hr3⟩ := Kd.R_reads hR; subst e3; have HR3 := Aside0.mk hr3; have HC3 := Aside0.mk hc3; clear hR hc3 hr3)
            | (go_at_call 14; (with_reducible refine (HMC.out _ ?b14).mono ?_); (case b14 => repeat (first | (with_reducible first | exact HB.out | apply below_alloc | apply pw_below_drewN | apply below_drew1) | exact HB.out)); rintro e w4 ⟨v4, rfl, hR, hb⟩; have n3_ := Aside0.mk (Kd.C_below HR3.out hb); clear HR3; have HR3 := n3_; clear n3_; have n1_ := Aside0.mk (below_step (by repeat (first | (with_reducible first | exact HB.out | apply below_alloc | apply pw_below_drewN | apply below_drew1) | exact HB.out)) hb); clear HB; have HB := n1_; clear n1_ hb; obtain ⟨A4, c4, e4, hc4, hr4⟩ := Kd.R_reads hR; subst e4; have HR4 := Aside0.mk hr4; have HC4 := Aside0.mk hc4; clear hR hc4 hr4)
            | (go_at_call 13; (with_reducible refine (sameC _ _ _ _ m _ HR3.out HC3.out HR4.out HC4.out).mono ?_); rintro e w5 ⟨rfl, hb⟩; have n1_ := Aside0.mk (below_step (by repeat (first | (with_reducible first | exact HB.out | apply below_alloc | apply pw_below_drewN | apply below_drew1) | exact HB.out)) hb); clear HB; have HB := n1_; clear n1_ hb))
          go_ret
          exact ⟨rfl, HB.out⟩
end Go.Proofs.YtlboochpbplhlaaDoor.WalkM
