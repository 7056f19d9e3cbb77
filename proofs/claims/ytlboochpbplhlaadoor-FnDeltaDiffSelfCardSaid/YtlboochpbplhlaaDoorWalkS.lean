/- FnDeltaDiffSelf, walked. -/
import Derived.Test.YtlboochpbplhlaaDoorWalkD
set_option linter.unusedVariables false
set_option linter.unusedSimpArgs false
namespace Go.Proofs.YtlboochpbplhlaaDoor.WalkS
open Go.RowKit Go.Proofs.YtlboochpbplhlaaDoorW.PrintWords Go.Proofs.YtlboochpbplhlaaDoor.QAll PureD HandA HandB HandC HandD HandE HandF HandG HandH HandN HandQ HandY PureE PureF WalkD
open Go.Proofs.YtlboochpbplhlaaDoorW.PrintLast Go.Proofs.YtlboochpbplhlaaDoorW.PrintMore

set_option maxHeartbeats 16000000 in
set_option maxRecDepth 100000 in
theorem law (A0 : Option Addr) (c0 : Nat) (l0 : List Int) (w : World) (hr0 : Kd.C (Kd.int .u8) w A0 l0.length l0) (hc0 : l0.length ≤ c0)
    (h0 : ∀ x ∈ l0, 0 ≤ x ∧ x ≤ 255) (hV : Vars w) (hT : TabT w) (h8 : Tab8 w) :
    Calls Tryd.prog 7 #[.slice A0 l0.length c0] w fun e w' => e = .returned (.bool true) ∧ Below w.heap.size w w' := by
  obtain ⟨b15, hsm, hS⟩ := smallC1 A0 c0 l0 w hr0 hc0
  have HS := Aside0.mk hS
  have HR0 := Aside0.mk hr0
  have HC0 := Aside0.mk hc0
  have HX0 := Aside0.mk h0
  have HV := Aside0.mk hV
  have HB := Aside0.mk (Below.refl w.heap.size w)
  have HW := Aside0.mk (fun W (hb : Below w.heap.size w W) => works W (hV.below hb))
  have HT := Aside0.mk hT
  have H8 := Aside0.mk h8
  clear hS hr0 h0 hV hc0 hT h8
  by_cases hs0 : (2147483647 : Int) < (l0.length : Int)
  · clear hsm
    go_enter Tryd.func7, Tryd.ntmps7
    go_wp2
    go_ret
    exact ⟨rfl, HB.out⟩
  · by_cases hn : l0.length = 0
    · have hn0 : ((l0.length : Int) == 0) = true := beq_iff_eq.2 (by omega)
      clear hsm
      go_enter Tryd.func7, Tryd.ntmps7
      go_wp2_with (first
        | (go_at_call 10; (with_reducible refine (HW.out _ ?b10).mono ?_); (case b10 => repeat (first | (with_reducible first | exact HB.out | apply below_alloc | apply pw_below_drewN | apply below_drew1) | exact HB.out)); rintro e w' ⟨rfl, hb⟩; have n1_ := Aside0.mk (below_step (by repeat (first | (with_reducible first | exact HB.out | apply below_alloc | apply pw_below_drewN | apply below_drew1) | exact HB.out)) hb); clear HB; have HB := n1_; clear n1_; clear hb)
        | fail)
      go_ret
      exact ⟨rfl, HB.out⟩
    · have hn0 : ((l0.length : Int) == 0) = false := beq_eq_false_iff_ne.2 (by omega)
      cases b15 with
      | false =>
        clear hsm
        go_enter Tryd.func7, Tryd.ntmps7
        go_wp2_with (first
          | (go_at_call 15; (with_reducible refine (HS.out _ ?b15).mono ?_); (case b15 => repeat (first | (with_reducible first | exact HB.out | apply below_alloc | apply pw_below_drewN | apply below_drew1) | exact HB.out)); rintro e w' ⟨rfl, hb⟩; have n1_ := Aside0.mk (below_step (by repeat (first | (with_reducible first | exact HB.out | apply below_alloc | apply pw_below_drewN | apply below_drew1) | exact HB.out)) hb); clear HB; have HB := n1_; clear n1_; clear hb)
          | (go_at_call 10; (with_reducible refine (HW.out _ ?b10).mono ?_); (case b10 => repeat (first | (with_reducible first | exact HB.out | apply below_alloc | apply pw_below_drewN | apply below_drew1) | exact HB.out)); rintro e w' ⟨rfl, hb⟩; have n1_ := Aside0.mk (below_step (by repeat (first | (with_reducible first | exact HB.out | apply below_alloc | apply pw_below_drewN | apply below_drew1) | exact HB.out)) hb); clear HB; have HB := n1_; clear n1_; clear hb)
          | fail)
        go_ret
        exact ⟨rfl, HB.out⟩
      | true =>
        have HSM : Aside0 (l0.length ≤ 1000000) := ⟨hsm rfl⟩
        have HP1 : Aside0 (1 ≤ l0.length) := ⟨by omega⟩
        have HD1 : Aside0 (∀ W, Below w.heap.size w W → Calls Tryd.prog 16 #[.slice A0 l0.length c0, .slice A0 l0.length c0] W fun e w' => ∃ v bs is, e = .returned v ∧ HandY.Found l0 l0 bs is ∧ Kd.R (Kd.int .u8) 5 w' W.heap.size (fun _ => True) v (enc7 l0.length ++ (enc7 l0.length ++ bs)) ∧ Below W.heap.size W w') :=
          ⟨fun W hb => implDiff A0 A0 c0 c0 l0 l0 W (HT.out.below hb) (H8.out.below hb) (Kd.C_below HR0.out hb) (Kd.C_below HR0.out hb) HX0.out HX0.out HSM.out (by have := HSM.out; omega) HP1.out⟩
        obtain ⟨tw, htw⟩ : ∃ tw, tw = l0 ++ l0 := ⟨_, rfl⟩
        have HTW := Aside0.mk htw
        have HTL : Aside0 (tw.length = l0.length + l0.length) := ⟨by rw [htw, List.length_append]⟩
        have HD2 : Aside0 (∀ W At ct, Below w.heap.size w W → Kd.C (Kd.int .u8) W At tw.length tw → Calls Tryd.prog 16 #[.slice A0 l0.length c0, .slice At tw.length ct] W fun e w' => ∃ v bs is, e = .returned v ∧ HandY.Found l0 tw bs is ∧ Kd.R (Kd.int .u8) 5 w' W.heap.size (fun _ => True) v (enc7 l0.length ++ (enc7 tw.length ++ bs)) ∧ Below W.heap.size W w') :=
          ⟨fun W At ct hb hr => implDiff A0 At c0 ct l0 tw W (HT.out.below hb) (H8.out.below hb) (Kd.C_below HR0.out hb) hr HX0.out (fun x hx => by rw [HTW.out] at hx; rcases List.mem_append.1 hx with h | h <;> exact HX0.out x h) HSM.out (by have := HSM.out; have := HTL.out; omega) (by have := HP1.out; have := HTL.out; omega)⟩
        clear hsm htw
        go_enter Tryd.func7, Tryd.ntmps7
        go_upto_region 6 with (first
          | (go_at_call 15; (with_reducible refine (HS.out _ ?b15).mono ?_); (case b15 => repeat (first | (with_reducible first | exact HB.out | apply below_alloc | apply pw_below_drewN | apply below_drew1) | exact HB.out)); rintro e w' ⟨rfl, hb⟩; have n1_ := Aside0.mk (below_step (by repeat (first | (with_reducible first | exact HB.out | apply below_alloc | apply pw_below_drewN | apply below_drew1) | exact HB.out)) hb); clear HB; have HB := n1_; clear n1_; clear hb)
          | ((with_reducible refine gate_dst (N := 21) rfl ?_)
             refine Kd.R_lit (Kd.int .u8) _ 5 ?hg (N := 21) ?hd (xs := ([] : List Int)) (inner := []) (ok := fun _ => True) (okp := fun _ => True) ?hr ?hp (fun _ hk => hk) trivial (Below.refl _ _) (Nat.le_refl _) (by simp) ?_
             (case hd => rfl)
             (case hg => rfl)
             (case hr => first | (go_simp; done) | (go_simp; rfl))
             (case hp => exact Reps.none _ _)
             intro v21 w21 ho hb hg_ hnew_
             have n0_ := Aside0.mk (Kd.R_lower ho (below_size (by repeat (first | (with_reducible first | exact HB.out | apply below_alloc | apply pw_below_drewN | apply below_drew1) | exact HB.out))))
             have n1_ := Aside0.mk (below_step (by repeat (first | (with_reducible first | exact HB.out | apply below_alloc | apply pw_below_drewN | apply below_drew1) | exact HB.out)) hb)
             clear HB
             have HO21 := n0_
             have HB := n1_
             clear n0_ n1_ hg_ hnew_ ho hb)
          | ((with_reducible refine gate_builtin (b := .append) (xs := #[.tmp 21, .tmp 22]) rfl ?_)
             at_builtin
             refine Kd.R_append_rows (Kd.int .u8) (w0 := w) w.heap.size rfl (.tmp 21) (.tmp 22) 22 5 (.int .u8 0) 1 rfl Tryd.underlying22 info5 rfl (by decide) (by omega) v21 ([] : List Int) l0 _ _ _ (fun _ => True) (fun _ => False) rfl rfl ?aO ?aR (fun _ _ h => h) (fun _ h => h.elim) ?aF ?aB ?aS ?aL ?_
             (case aR => exact Kd.C_below HR0.out (by repeat (first | (with_reducible first | exact HB.out | apply below_alloc | apply pw_below_drewN | apply below_drew1) | exact HB.out)))
             (case aB => exact (by repeat (first | (with_reducible first | exact HB.out | apply below_alloc | apply pw_below_drewN | apply below_drew1) | exact HB.out)))
             (case aF => exact fun _ _ => trivial)
             (case aO => exact (by (with_reducible repeat (first | apply Kd.R_alloc | apply Kd.R_drewN | apply Kd.R_drew)); exact HO21.out))
             (case aS => exact (below_size (by repeat (first | (with_reducible first | exact HB.out | apply below_alloc | apply pw_below_drewN | apply below_drew1) | exact HB.out))))
             (case aL => have := HSM.out; simp; omega)
             intro v23 w23 ho hb hg hat
             rw [List.nil_append] at ho
             have n0_ := Aside0.mk hb
             have HO23 := Aside0.mk ho
             clear HB HO21
             have HB := n0_
             clear n0_ ho hb hg hat)
          | ((with_reducible refine gate_builtin (b := .append) (xs := #[.tmp 23, .tmp 24]) rfl ?_)
             at_builtin
             refine Kd.R_append_rows (Kd.int .u8) (w0 := w) w.heap.size rfl (.tmp 23) (.tmp 24) 22 5 (.int .u8 0) 1 rfl Tryd.underlying22 info5 rfl (by decide) (by omega) v23 (l0 : List Int) l0 _ _ _ (fun _ => True) (fun _ => False) rfl rfl ?aO ?aR (fun _ _ h => h) (fun _ h => h.elim) ?aF ?aB ?aS ?aL ?_
             (case aR => exact Kd.C_below HR0.out (by repeat (first | (with_reducible first | exact HB.out | apply below_alloc | apply pw_below_drewN | apply below_drew1) | exact HB.out)))
             (case aB => exact (by repeat (first | (with_reducible first | exact HB.out | apply below_alloc | apply pw_below_drewN | apply below_drew1) | exact HB.out)))
             (case aF => exact fun _ _ => trivial)
             (case aO => exact (by (with_reducible repeat (first | apply Kd.R_alloc | apply Kd.R_drewN | apply Kd.R_drew)); exact HO23.out))
             (case aS => exact (below_size (by repeat (first | (with_reducible first | exact HB.out | apply below_alloc | apply pw_below_drewN | apply below_drew1) | exact HB.out))))
             (case aL => have := HSM.out; simp; omega)
             intro v25 w25 ho hb hg hat
             have n0_ := Aside0.mk hb
             have HO25 := Aside0.mk ho
             clear HB HO23
             have HB := n0_
             clear n0_ ho hb hg hat))
        have hO := HO25.out
        rw [← HTW.out] at hO
        obtain ⟨At, ct, et, hct, hrt⟩ := Kd.R_reads hO
        subst et
        have HRT := Aside0.mk hrt
        have HCT := Aside0.mk hct
        clear hO hct hrt
        have el : (l0 ++ l0).length = tw.length := by rw [HTW.out]
        go_upto_region 7 with (first
          | (go_at_call 16
             (with_reducible refine (HD1.out _ ?b16).mono ?_)
             (case b16 => repeat (first | (with_reducible first | exact HB.out | apply below_alloc | apply pw_below_drewN | apply below_drew1) | exact HB.out))
             rintro e w2 ⟨v2, bs, is, rfl, hF, hR, hb⟩
             have n4_ := Aside0.mk (Kd.C_below (by (with_reducible repeat (first | apply Kd.C_alloc | apply Kd.C_drewN | apply Kd.C_drew)); exact HRT.out) hb); clear HRT; have HRT := n4_; clear n4_
             have n1_ := Aside0.mk (below_step (by repeat (first | (with_reducible first | exact HB.out | apply below_alloc | apply pw_below_drewN | apply below_drew1) | exact HB.out)) hb); clear HB; have HB := n1_; clear n1_
             obtain ⟨d, hd⟩ : ∃ d, d = enc7 l0.length ++ (enc7 l0.length ++ bs) := ⟨_, rfl⟩
             rw [← hd] at hR
             obtain ⟨A2, c2, e2, hc2, hr2⟩ := Kd.R_reads hR
             subst e2
             have HPC1 := Aside0.mk (applied A0 A2 c0 c2 l0 l0 d bs is w2 (HV.out.below HB.out) (Kd.C_below HR0.out HB.out) hr2 HX0.out hF hd HP1.out HSM.out (by have := HSM.out; have := HTL.out; omega))
             clear hR hc2 hr2 hF hd hb)
          | (go_at_call 11
             (with_reducible refine HPC1.out.mono ?_)
             rintro e w3 ⟨v3, rfl, hR, hb⟩
             have n4_ := Aside0.mk (Kd.C_below (by (with_reducible repeat (first | apply Kd.C_alloc | apply Kd.C_drewN | apply Kd.C_drew)); exact HRT.out) hb); clear HRT; have HRT := n4_; clear n4_
             have n1_ := Aside0.mk (below_step (by repeat (first | (with_reducible first | exact HB.out | apply below_alloc | apply pw_below_drewN | apply below_drew1) | exact HB.out)) hb); clear HB; have HB := n1_; clear n1_
             obtain ⟨A3, c3, e3, hc3, hr3⟩ := Kd.R_reads hR
             subst e3
             have HR3 := Aside0.mk hr3
             have HC3 := Aside0.mk hc3
             clear hR hc3 hr3 hb)
          | fail)
        go_upto_region 8 with (first
          | (go_at_call 16
             (with_reducible refine (HD2.out _ _ _ ?b16 (by (with_reducible repeat (first | apply Kd.C_alloc | apply Kd.C_drewN | apply Kd.C_drew)); exact HRT.out)).mono ?_)
             (case b16 => repeat (first | (with_reducible first | exact HB.out | apply below_alloc | apply pw_below_drewN | apply below_drew1) | exact HB.out))
             rintro e w4 ⟨v2, bs, is, rfl, hF, hR, hb⟩
             have n4_ := Aside0.mk (Kd.C_below (by (with_reducible repeat (first | apply Kd.C_alloc | apply Kd.C_drewN | apply Kd.C_drew)); exact HRT.out) hb); clear HRT; have HRT := n4_; clear n4_; have n4_ := Aside0.mk (Kd.C_below (by (with_reducible repeat (first | apply Kd.C_alloc | apply Kd.C_drewN | apply Kd.C_drew)); exact HR3.out) hb); clear HR3; have HR3 := n4_; clear n4_
             have n1_ := Aside0.mk (below_step (by repeat (first | (with_reducible first | exact HB.out | apply below_alloc | apply pw_below_drewN | apply below_drew1) | exact HB.out)) hb); clear HB; have HB := n1_; clear n1_
             obtain ⟨d, hd⟩ : ∃ d, d = enc7 l0.length ++ (enc7 tw.length ++ bs) := ⟨_, rfl⟩
             rw [← hd] at hR
             obtain ⟨A4, c4, e4, hc4, hr4⟩ := Kd.R_reads hR
             subst e4
             have HPC2 := Aside0.mk (applied A0 A4 c0 c4 l0 tw d bs is w4 (HV.out.below HB.out) (Kd.C_below HR0.out HB.out) hr4 HX0.out hF hd HP1.out HSM.out (by have := HSM.out; have := HTL.out; omega))
             clear hR hc4 hr4 hF hd hb)
          | (go_at_call 11
             (with_reducible refine HPC2.out.mono ?_)
             rintro e w5 ⟨v3, rfl, hR, hb⟩
             have n4_ := Aside0.mk (Kd.C_below (by (with_reducible repeat (first | apply Kd.C_alloc | apply Kd.C_drewN | apply Kd.C_drew)); exact HRT.out) hb); clear HRT; have HRT := n4_; clear n4_; have n4_ := Aside0.mk (Kd.C_below (by (with_reducible repeat (first | apply Kd.C_alloc | apply Kd.C_drewN | apply Kd.C_drew)); exact HR3.out) hb); clear HR3; have HR3 := n4_; clear n4_
             have n1_ := Aside0.mk (below_step (by repeat (first | (with_reducible first | exact HB.out | apply below_alloc | apply pw_below_drewN | apply below_drew1) | exact HB.out)) hb); clear HB; have HB := n1_; clear n1_
             obtain ⟨A5, c5, e5, hc5, hr5⟩ := Kd.R_reads hR
             subst e5
             have HR5 := Aside0.mk hr5
             have HC5 := Aside0.mk hc5
             clear hR hc5 hr5 hb)
          | fail)
        go_wp2_with (first
          | (go_at_call 13
             (with_reducible refine (sameC _ _ _ _ l0 _ HR3.out HC3.out (Kd.C_below HR0.out (by repeat (first | (with_reducible first | exact HB.out | apply below_alloc | apply pw_below_drewN | apply below_drew1) | exact HB.out))) HC0.out).mono ?_)
             rintro e w8 ⟨rfl, hb⟩
             have n4_ := Aside0.mk (Kd.C_below (by (with_reducible repeat (first | apply Kd.C_alloc | apply Kd.C_drewN | apply Kd.C_drew)); exact HRT.out) hb); clear HRT; have HRT := n4_; clear n4_; have n4_ := Aside0.mk (Kd.C_below (by (with_reducible repeat (first | apply Kd.C_alloc | apply Kd.C_drewN | apply Kd.C_drew)); exact HR5.out) hb); clear HR5; have HR5 := n4_; clear n4_
             have n1_ := Aside0.mk (below_step (by repeat (first | (with_reducible first | exact HB.out | apply below_alloc | apply pw_below_drewN | apply below_drew1) | exact HB.out)) hb); clear HB; have HB := n1_; clear n1_
             clear hb)
          | (go_at_call 13
             (with_reducible refine (sameC _ _ _ _ tw _ HR5.out HC5.out HRT.out HCT.out).mono ?_)
             rintro e w9 ⟨rfl, hb⟩
             have n1_ := Aside0.mk (below_step (by repeat (first | (with_reducible first | exact HB.out | apply below_alloc | apply pw_below_drewN | apply below_drew1) | exact HB.out)) hb); clear HB; have HB := n1_; clear n1_
             clear hb)
          | fail)
        go_ret
        exact ⟨rfl, HB.out⟩
end Go.Proofs.YtlboochpbplhlaaDoor.WalkS
