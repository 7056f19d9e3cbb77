/- The law FnPktBack, walked. -/
import Derived.Test.YtoidakilalebmaaDoorPbkE
import Derived.Test.YtoidakilalebmaaDoorPbkQ
import Derived.Test.YtoidakilalebmaaDoorHandM
set_option linter.unusedVariables false
set_option linter.unusedSimpArgs false
namespace Go.Proofs.YtoidakilalebmaaDoor.WalkB
open Go.RowKit Go.Proofs.YtoidakilalebmaaDoorW.PrintWords Go.Proofs.YtoidakilalebmaaDoorW.PrintLast Go.Proofs.YtoidakilalebmaaDoorW.PrintMore Go.Proofs.YtoidakilalebmaaDoor.QAll Txt PureA HandC HandD HandF HandJ PureP HandM HandN PbkD PbkE PbkQ

set_option maxHeartbeats 8000000 in
set_option maxRecDepth 100000 in
theorem law (A0 : Option Addr) (c0 : Nat) (l0 : List (List Int)) (aE aU aI : Addr) (W : World) (hC : Kd.C HandJ.KL W A0 l0.length l0) (hc : l0.length ≤ c0) (hs : Sent W aE aU aI) :
    Calls Tryd.prog 3 #[.slice A0 l0.length c0] W fun e w' => e = .returned (.bool true) ∧ Below W.heap.size W w' := by
  have HS := Aside0.mk hs
  have HC := Aside0.mk hC
  have HCc := Aside0.mk hc
  clear hs hC hc
  obtain ⟨r1, ⟨K1, hk1⟩, hr1⟩ := fits_f l0
  have hf1 := hk1 K1 (Nat.le_refl _)
  have HF1 : Aside0 (∀ W1, Below W.heap.size W W1 → Calls Tryd.prog 4 #[.slice A0 l0.length c0] W1 fun e w' => e = .returned (.bool r1) ∧ Drawn0 W1 w') := ⟨fun W1 hb => laws_zzFits19.calls K1 A0 c0 l0 r1 W1 (Kd.C_below HC.out hb) HCc.out hf1⟩
  have HWK : Aside0 (∀ W1, Below W.heap.size W W1 → Calls Tryd.prog 6 #[] W1 fun e w' => e = .returned (.bool true) ∧ Below W1.heap.size W1 w') := ⟨fun W1 hb => works aE aU aI W1 (HS.out.below hb)⟩
  clear hk1 hf1
  cases r1 with
  | false =>
    clear hr1
    go_enter Tryd.func3, Tryd.ntmps3
    go_wp2_with (first | (go_at_call 4; (with_reducible refine (HF1.out _ (Below.refl _ _)).mono ?_); rintro e w1 ⟨rfl, hd⟩; have HB1 := Aside0.mk (Drawn0.below hd); clear hd))
    go_ret
    exact ⟨rfl, HB1.out⟩
  | true =>
    have hle := hr1 rfl
    clear hr1
    obtain ⟨r2, ⟨K2, hk2⟩, hr2⟩ := good_f l0 hle
    have hf2 := hk2 K2 (Nat.le_refl _)
    have HF2 : Aside0 (∀ W1, Below W.heap.size W W1 → Calls Tryd.prog 5 #[.slice A0 l0.length c0] W1 fun e w' => e = .returned (.bool r2) ∧ Drawn0 W1 w') := ⟨fun W1 hb => spec_GoodLines.calls K2 A0 c0 l0 r2 W1 (Kd.C_below HC.out hb) HCc.out hf2⟩
    clear hk2 hf2 hle
    cases r2 with
    | false =>
      clear hr2
      go_enter Tryd.func3, Tryd.ntmps3
      go_wp2_with (first
        | (go_at_call 4; (with_reducible refine (HF1.out _ (Below.refl _ _)).mono ?_); rintro e w1 ⟨rfl, hd⟩; have HB1 := Aside0.mk (Drawn0.below hd); clear hd)
        | (go_at_call 5; (with_reducible refine (HF2.out _ HB1.out).mono ?_); rintro e w2 ⟨rfl, hd⟩; have HB2 := Aside0.mk (below_step HB1.out (Drawn0.below hd)); clear hd)
        | (go_at_call 6; (with_reducible refine (HWK.out _ HB2.out).mono ?_); rintro e w3 ⟨rfl, hd⟩; have HB3 := Aside0.mk (below_step HB2.out hd); clear hd))
      go_ret
      exact ⟨rfl, HB3.out⟩
    | true =>
      obtain ⟨hlen, hgood⟩ := hr2 rfl
      clear hr2
      have HG := Aside0.mk hgood
      have HL := Aside0.mk hlen
      have HWR : Aside0 (∀ W1, Below W.heap.size W W1 → Calls Tryd.prog 7 #[.slice A0 l0.length c0] W1 fun e w' => ∃ B d, e = .returned (.tuple #[.slice B (enc l0).length d, .bool true]) ∧ (enc l0).length ≤ d ∧ Kd.C (Kd.int .u8) w' B (enc l0).length (enc l0) ∧ Below W1.heap.size W1 w') := ⟨fun W1 hb => writeLines l0 A0 c0 W1 HL.out (fun p hp => (HG.out p hp).len) (Kd.C_below HC.out hb)⟩
      have HRD : Aside0 (∀ W1 B d, Below W.heap.size W W1 → (enc l0).length ≤ d → Kd.C (Kd.int .u8) W1 B (enc l0).length (enc l0) → Calls Tryd.prog 8 #[.slice B (enc l0).length d] W1 fun e w' => ∃ v, e = .returned (.tuple #[v, .bool true]) ∧ Kd.R HandJ.KL 25 w' W1.heap.size (fun _ => True) v l0 ∧ Below W1.heap.size W1 w') := ⟨fun W1 B d hb hd hD => by
        have := HandJ.readLines B d (enc l0) l0 aE aU aI W1 (HS.out.below hb) hD hd HG.out HL.out (Nat.le_refl _) (by rw [List.take_length])
        rw [parse_whole] at this
        exact this⟩
      have HPN : Aside0 (l0.length ≤ 2147483647) := ⟨by have := HL.out; omega⟩
      have HEL : Aside0 ((enc l0).length ≤ 65520000) := ⟨by have := enc_le l0 (fun p hp => (HG.out p hp).len); have := HL.out; omega⟩
      clear hgood hlen
      generalize (enc l0).length = n at HWR HRD HEL
      generalize enc l0 = E at HWR HRD
      go_enter Tryd.func3, Tryd.ntmps3
      go_wp2_with (first
        | (go_at_call 4; (with_reducible refine (HF1.out _ (Below.refl _ _)).mono ?_); rintro e w1 ⟨rfl, hd⟩; have HB1 := Aside0.mk (Drawn0.below hd); clear hd)
        | (go_at_call 5; (with_reducible refine (HF2.out _ HB1.out).mono ?_); rintro e w2 ⟨rfl, hd⟩; have HB2 := Aside0.mk (below_step HB1.out (Drawn0.below hd)); clear hd)
        | (go_at_call 7; (with_reducible refine (HWR.out _ HB2.out).mono ?_); rintro e w3 ⟨B, d, rfl, hd3, hC3, hb3⟩; have HB3 := Aside0.mk (below_step HB2.out hb3); have HC3 := Aside0.mk hC3; have HD3 := Aside0.mk hd3; clear hb3 hC3 hd3)
        | (go_at_call 8; (with_reducible refine (HRD.out _ _ _ HB3.out HD3.out HC3.out).mono ?_); rintro e w5 ⟨v5, rfl, hr5, hb5⟩; have HB5 := Aside0.mk (below_step HB3.out hb5); obtain ⟨A5, c5, rfl, _, hC5⟩ := Kd.R_reads hr5; have HC5 := Aside0.mk hC5; clear hb5 hC5 hr5)
        | (go_at_call 9; (with_reducible refine (sameLines l0 A5 A0 c5 c0 _ HC5.out (Kd.C_below HC.out HB5.out) HPN.out).mono ?_); rintro e w6 ⟨rfl, hs6⟩; have HB6 : Aside0 (Below W.heap.size W w6) := ⟨below_step HB5.out (hs6.below _)⟩; clear hs6)
        | (go_at_call 6; (with_reducible refine (HWK.out _ HB6.out).mono ?_); rintro e w7 ⟨rfl, hd⟩; have HB7 := Aside0.mk (below_step HB6.out hd); clear hd))
      go_ret
      exact ⟨rfl, HB7.out⟩
#print axioms law
end Go.Proofs.YtoidakilalebmaaDoor.WalkB
