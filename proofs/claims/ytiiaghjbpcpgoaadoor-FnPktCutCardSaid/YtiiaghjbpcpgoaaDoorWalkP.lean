/- The law FnPktCut, walked. -/
import Derived.Test.YtiiaghjbpcpgoaaDoorHandN
set_option linter.unusedVariables false
set_option linter.unusedSimpArgs false
namespace Go.Proofs.YtiiaghjbpcpgoaaDoor.WalkP
open Go.RowKit Go.Proofs.YtiiaghjbpcpgoaaDoorW.PrintWords Go.Proofs.YtiiaghjbpcpgoaaDoorW.PrintLast Go.Proofs.YtiiaghjbpcpgoaaDoorW.PrintMore Go.Proofs.YtiiaghjbpcpgoaaDoor.QAll Txt PureA HandC HandD HandF PureP PureQ HandK HandL HandM HandN

/-- Where the text is cut. -/
def cutAt (n L : Int) : Int := (wrap64 (n.tmod L + L)).tmod L
theorem cutAt_range (n : Int) (L : Nat) (h0 : 0 < L) (h1 : L ≤ 140737488355328) : 0 ≤ cutAt n L ∧ cutAt n L < L := by
  unfold cutAt
  have a : (n.tmod L) < L := Int.tmod_lt_of_pos n (by omega)
  have b : -(L : Int) < n.tmod L := Int.lt_tmod_of_pos n (by omega)
  have w : wrap64 (n.tmod L + L) = n.tmod L + L := by unfold wrap64; omega
  rw [w]
  exact ⟨Int.tmod_nonneg _ (by omega), Int.tmod_lt_of_pos _ (by omega)⟩
set_option maxHeartbeats 8000000 in
set_option maxRecDepth 100000 in
theorem law (A0 : Option Addr) (c0 : Nat) (l0 : List (List Int)) (n : Int) (aE aU aI : Addr) (W : World) (hC : Kd.C HandL.KL W A0 l0.length l0) (hc : l0.length ≤ c0) (hn : (Lit.int .i64 n).wf = true) (hs : Sent W aE aU aI) :
    Calls Tryd.prog 3 #[.slice A0 l0.length c0, .int .i64 n] W fun e w' => e = .returned (.bool true) ∧ Below W.heap.size W w' := by
  have HS := Aside0.mk hs
  have HC := Aside0.mk hC
  have HCc := Aside0.mk hc
  clear hs hC hc
  obtain ⟨r1, ⟨K1, hk1⟩, hr1⟩ := fits_f l0
  have hf1 := hk1 K1 (Nat.le_refl _)
  have HF1 : Aside0 (∀ W1, Below W.heap.size W W1 → Calls Tryd.prog 4 #[.slice A0 l0.length c0] W1 fun e w' => e = .returned (.bool r1) ∧ Drawn0 W1 w') := ⟨fun W1 hb => laws_zzFits19.calls K1 A0 c0 l0 r1 W1 (Kd.C_below HC.out hb) HCc.out hf1⟩
  have HWK : Aside0 (∀ W1, Below W.heap.size W W1 → Calls Tryd.prog 6 #[] W1 fun e w' => e = .returned (.bool true) ∧ Below W1.heap.size W1 w') := ⟨fun W1 hb => works aE aU aI W1 (HS.out.below hb)⟩
  clear hk1 hf1
  cases r1 with
  | false =>
    clear hr1
    go_enter Tryd.func3, Tryd.ntmps3
    go_wp2_with (first | (go_at_call 4; (with_reducible refine (HF1.out _ (Below.refl _ _)).mono ?_); rintro e w1 ⟨rfl, hd⟩; have HB1 := Aside0.mk (Drawn0.below hd); clear hd))
    go_ret
    exact ⟨rfl, HB1.out⟩
  | true =>
    have hle := hr1 rfl
    clear hr1
    obtain ⟨r2, ⟨K2, hk2⟩, hr2⟩ := good_f l0 hle
    have hf2 := hk2 K2 (Nat.le_refl _)
    have HF2 : Aside0 (∀ W1, Below W.heap.size W W1 → Calls Tryd.prog 5 #[.slice A0 l0.length c0] W1 fun e w' => e = .returned (.bool r2) ∧ Drawn0 W1 w') := ⟨fun W1 hb => spec_GoodLines.calls K2 A0 c0 l0 r2 W1 (Kd.C_below HC.out hb) HCc.out hf2⟩
    clear hk2 hf2 hle
    cases r2 with
    | false =>
      clear hr2
      go_enter Tryd.func3, Tryd.ntmps3
      go_wp2_with (first
        | (go_at_call 4; (with_reducible refine (HF1.out _ (Below.refl _ _)).mono ?_); rintro e w1 ⟨rfl, hd⟩; have HB1 := Aside0.mk (Drawn0.below hd); clear hd)
        | (go_at_call 5; (with_reducible refine (HF2.out _ HB1.out).mono ?_); rintro e w2 ⟨rfl, hd⟩; have HB2 := Aside0.mk (below_step HB1.out (Drawn0.below hd)); clear hd)
        | (go_at_call 6; (with_reducible refine (HWK.out _ HB2.out).mono ?_); rintro e w3 ⟨rfl, hd⟩; have HB3 := Aside0.mk (below_step HB2.out hd); clear hd))
      go_ret
      exact ⟨rfl, HB3.out⟩
    | true =>
      obtain ⟨hlen, hgood⟩ := hr2 rfl
      clear hr2
      by_cases q0 : l0.length = 0
      · clear hgood hlen
        have d0 : ((l0.length : Int) == 0) = true := by rw [beq_iff_eq]; omega
        have d1 : (l0.length == 0) = true := by rw [beq_iff_eq]; omega
        clear q0
        go_enter Tryd.func3, Tryd.ntmps3
        go_wp2_with (first
          | (go_at_call 4; (with_reducible refine (HF1.out _ (Below.refl _ _)).mono ?_); rintro e w1 ⟨rfl, hd⟩; have HB1 := Aside0.mk (Drawn0.below hd); clear hd)
          | (go_at_call 5; (with_reducible refine (HF2.out _ HB1.out).mono ?_); rintro e w2 ⟨rfl, hd⟩; have HB2 := Aside0.mk (below_step HB1.out (Drawn0.below hd)); clear hd)
          | (go_at_call 6; (with_reducible refine (HWK.out _ HB2.out).mono ?_); rintro e w3 ⟨rfl, hd⟩; have HB3 := Aside0.mk (below_step HB2.out hd); clear hd))
        go_ret
        exact ⟨rfl, HB3.out⟩
      · have d0 : ((l0.length : Int) == 0) = false := by rw [beq_eq_false_iff_ne]; omega
        have d1 : (l0.length == 0) = false := by rw [beq_eq_false_iff_ne]; omega
        have HG := Aside0.mk hgood
        have HL := Aside0.mk hlen
        obtain ⟨L, hL⟩ : ∃ L, L = (enc l0).length := ⟨_, rfl⟩
        have hL0 : 0 < L := by
          rcases l0 with _ | ⟨p, l⟩
          · simp at q0
          · rw [hL, enc_cons, List.length_append, lineOf_len]; omega
        have hL1 : L ≤ 140737488355328 := by
          have := enc_le l0 (fun p hp => (hgood p hp).len)
          have : l0.length * 65520 ≤ 1000 * 65520 := Nat.mul_le_mul_right _ hlen
          omega
        obtain ⟨x, hx⟩ : ∃ x : Nat, cutAt n (L : Int) = (x : Int) := ⟨(cutAt n (L : Int)).toNat, by have := (cutAt_range n L hL0 hL1).1; omega⟩
        have hxL : x < L := by have := (cutAt_range n L hL0 hL1).2; omega
        obtain ⟨D, hD⟩ : ∃ D, D = (enc l0).take x := ⟨_, rfl⟩
        have hDl : D.length = x := by rw [hD, List.length_take]; omega
        have HDE : Aside0 (D = (enc l0).take D.length ∧ D.length ≤ (enc l0).length ∧ D.length = x) := ⟨⟨by rw [hDl]; exact hD, by omega, hDl⟩⟩
        have HPK : Aside0 (∀ W1, Below W.heap.size W W1 → Calls Tryd.prog 7 #[.slice A0 l0.length c0] W1 fun e w' => ∃ v, e = .returned v ∧ Kd.R (Kd.int .u8) 5 w' W1.heap.size (fun _ => True) v (enc l0) ∧ Below W1.heap.size W1 w') := ⟨fun W1 hb => packetLines A0 c0 l0 W1 (Kd.C_below HC.out hb) HCc.out (fun p hp => (HG.out p hp).len) HL.out⟩
        have HPL : Aside0 ((parse l0 D.length).1.length < l0.length) := ⟨parse_len l0 _ (by omega)⟩
        unfold cutAt at hx
        have hxb : x ≤ L := by omega
        have HL2 := Aside0.mk hL
        clear hgood hlen q0 hL hxL hD hDl hn
        go_enter Tryd.func3, Tryd.ntmps3
        go_upto_region 6 with (first
          | (go_at_call 4; (with_reducible refine (HF1.out _ (Below.refl _ _)).mono ?_); rintro e w1 ⟨rfl, hd⟩; have HB1 := Aside0.mk (Drawn0.below hd); clear hd)
          | (go_at_call 5; (with_reducible refine (HF2.out _ HB1.out).mono ?_); rintro e w2 ⟨rfl, hd⟩; have HB2 := Aside0.mk (below_step HB1.out (Drawn0.below hd)); clear hd)
          | (go_at_call 7; (with_reducible refine (HPK.out _ HB2.out).mono ?_); rintro e w3 ⟨v3, rfl, hr, hd⟩; have HB3 := Aside0.mk (below_step HB2.out hd); have HR3 := Aside0.mk hr; clear hd hr))
        obtain ⟨A3, c3, rfl, hc3, hC3⟩ := Kd.R_reads HR3.out
        rw [← HL2.out] at hc3 hC3
        simp only [← HL2.out]
        have hcut := toA A3 L c3 x (by omega)
        have HT3 : Aside0 (Kd.C (Kd.int .u8) w3 A3 D.length D) := ⟨by
          have h := (Kd.reads_of_C (d := (0 : Int)) hC3).take_ x hxb
          rw [HDE.out.2.2]
          have e : D = (enc l0).take x := by have := HDE.out; rw [this.2.2] at this; exact this.1
          rw [e]
          exact Kd.C_of_reads (h1 := fun _ => rfl) h⟩
        have HTc : Aside0 (D.length ≤ c3) := ⟨by rw [HDE.out.2.2]; omega⟩
        have HX := Aside0.mk HDE.out.2.2
        have HQ8 : Aside0 (∀ W1, Below w3.heap.size w3 W1 → Calls Tryd.prog 8 #[.slice A3 x c3] W1 fun e w' => ∃ (v : Value) (A' : Option Addr) (c' : Nat), e = .returned (.tuple #[v, .int .i64 (stOf (parse l0 D.length).2)]) ∧ v = .slice A' (parse l0 D.length).1.length c' ∧ (parse l0 D.length).1.length ≤ c' ∧ Kd.C HandL.KL w' A' (parse l0 D.length).1.length (parse l0 D.length).1 ∧ Below W1.heap.size W1 w') := ⟨fun W1 hb => by
          have := specLines A3 c3 D l0 W1 (Kd.C_below HT3.out hb) HTc.out HG.out HL.out HDE.out.2.1 HDE.out.1
          rw [HX.out] at this ⊢
          exact this⟩
        have HQ9 : Aside0 (∀ W1, Below w3.heap.size w3 W1 → Calls Tryd.prog 9 #[.slice A3 x c3] W1 fun e w' => ∃ v, e = .returned (.tuple #[v, .bool (parse l0 D.length).2]) ∧ Kd.R HandJ.KL 25 w' W1.heap.size (fun _ => True) v (parse l0 D.length).1 ∧ Below W1.heap.size W1 w') := ⟨fun W1 hb => by
          have := HandJ.readLines A3 c3 D l0 aE aU aI W1 (HS.out.below (below_step HB3.out hb)) (Kd.C_below HT3.out hb) HTc.out HG.out HL.out HDE.out.2.1 HDE.out.1
          rw [HX.out] at this ⊢
          exact this⟩
        have hst : ((stOf (parse l0 D.length).2 == 0)) = (parse l0 D.length).2 := by cases (parse l0 D.length).2 <;> rfl
        have hbb : ((parse l0 D.length).2 == (parse l0 D.length).2) = true := by simp
        have dl0 : decide (((parse l0 D.length).1.length : Int) < (l0.length : Int)) = true := decide_eq_true (by have := HPL.out; omega)
        have dl1 : decide ((parse l0 D.length).1.length < l0.length) = true := decide_eq_true HPL.out
        have HPN : Aside0 ((parse l0 D.length).1.length ≤ 2147483647) := ⟨by have := HPL.out; have := HL.out; omega⟩
        clear HT3 HTc HX HDE HPL hC3 hc3
        generalize parse l0 D.length = pp at HQ8 HQ9 hst hbb dl0 dl1 HPN
        obtain ⟨pl, pb⟩ := pp
        simp only at HQ8 HQ9 hst hbb dl0 dl1 HPN
        go_wp2_with (first
          | (go_at_call 8; (with_reducible refine (HQ8.out _ (Below.refl _ _)).mono ?_); rintro e w4 ⟨v4, A4, c4, rfl, rfl, hc4, hC4, hb4⟩; have HB4 := Aside0.mk hb4; have HC4 := Aside0.mk hC4; clear hb4 hC4 hc4)
          | (go_at_call 9; (with_reducible refine (HQ9.out _ HB4.out).mono ?_); rintro e w5 ⟨v5, rfl, hr5, hb5⟩; have HB5 := Aside0.mk hb5; obtain ⟨A5, c5, rfl, _, hC5⟩ := Kd.R_reads hr5; have HC5 := Aside0.mk hC5; clear hb5 hC5 hr5)
          | (go_at_call 10; (with_reducible refine (sameLines pl A5 A4 c5 c4 _ HC5.out (Kd.C_below HC4.out HB5.out) HPN.out).mono ?_); rintro e w6 ⟨rfl, hs6⟩; have HB6 : Aside0 (Below W.heap.size W w6) := ⟨below_step (below_step (below_step HB3.out HB4.out) HB5.out) (hs6.below _)⟩; clear hs6)
          | (go_at_call 6; (with_reducible refine (HWK.out _ HB6.out).mono ?_); rintro e w7 ⟨rfl, hd⟩; have HB7 := Aside0.mk (below_step HB6.out hd); clear hd))
        go_ret
        exact ⟨rfl, HB7.out⟩
#print axioms law
end Go.Proofs.YtiiaghjbpcpgoaaDoor.WalkP
