/- The law FnProtoReportRead, walked. -/
import Derived.Test.YtlkenmpbhchieaaDoorHandN
import Derived.Test.YtlkenmpbhchieaaDoorHandT
import Derived.Test.YtlkenmpbhchieaaDoorHandU
set_option linter.unusedVariables false
set_option linter.unusedSimpArgs false
namespace Go.Proofs.YtlkenmpbhchieaaDoor.WalkR
open Go.RowKit Go.Proofs.YtlkenmpbhchieaaDoorW.PrintWords Go.Proofs.YtlkenmpbhchieaaDoorW.PrintLast Go.Proofs.YtlkenmpbhchieaaDoorW.PrintMore Go.Proofs.YtlkenmpbhchieaaDoor.QAll Txt PureA HandC HandD HandF PureP PureQ PureR PureS HandK HandN

set_option maxHeartbeats 8000000 in
set_option maxRecDepth 100000 in
theorem law (u : ByteArray) (A1 : Option Addr) (c1 : Nat) (l : List S32) (aE aU aI : Addr) (W : World) (hC : Kd.C k32 W A1 l.length l) (hc : l.length ≤ c1) (hu0 : u.size ≤ 140737488351232) (hs : Sent W aE aU aI) :
    Calls Tryd.prog 3 #[.string u, .slice A1 l.length c1] W fun e w' => e = .returned (.bool true) ∧ Below W.heap.size W w' := by
  have HS := Aside0.mk hs
  have HC := Aside0.mk hC
  have HCc := Aside0.mk hc
  clear hs hC hc
  obtain ⟨r1, ⟨K1, hk1⟩, hr1⟩ := fits_f l
  have hf1 := hk1 K1 (Nat.le_refl _)
  have HF1 : Aside0 (∀ W1, Below W.heap.size W W1 → Calls Tryd.prog 4 #[.slice A1 l.length c1] W1 fun e w' => e = .returned (.bool r1) ∧ Below W1.heap.size W1 w') := ⟨fun W1 hb => laws_zzFits38.calls K1 A1 c1 l r1 W1 (Kd.C_below HC.out hb) HCc.out hf1⟩
  have HWK : Aside0 (∀ W1, Below W.heap.size W W1 → Calls Tryd.prog 6 #[] W1 fun e w' => e = .returned (.bool true) ∧ Below W1.heap.size W1 w') := ⟨fun W1 hb => works aE aU aI W1 (HS.out.below hb)⟩
  clear hk1 hf1
  by_cases q1 : u.size ≤ 2147483647
  rotate_left
  · have d0 : decide (2147483647 < u.size) = true := decide_eq_true (by omega)
    have d1 : decide (2147483647 < (u.size : Int)) = true := decide_eq_true (by omega)
    clear q1 hr1
    go_enter Tryd.func3, Tryd.ntmps3
    go_wp2
    go_ret
    exact ⟨rfl, Below.refl _ _⟩
  have d0 : decide (2147483647 < u.size) = false := decide_eq_false (by omega)
  have d1 : decide (2147483647 < (u.size : Int)) = false := decide_eq_false (by omega)
  cases r1 with
  | false =>
    clear hr1 q1
    go_enter Tryd.func3, Tryd.ntmps3
    go_wp2_with (first | (go_at_call 4; (with_reducible refine (HF1.out _ (Below.refl _ _)).mono ?_); rintro e w1 ⟨rfl, hd⟩; have HB1 := Aside0.mk hd; clear hd))
    go_ret
    exact ⟨rfl, HB1.out⟩
  | true =>
    obtain ⟨hle, hles⟩ := hr1 rfl
    clear hr1
    obtain ⟨r2, ⟨K2, hk2⟩, hr2⟩ := report_f u l q1 hle hles
    have hf2 := hk2 K2 (Nat.le_refl _)
    have HF2 : Aside0 (∀ W1, Below W.heap.size W W1 → Calls Tryd.prog 5 #[.string u, .slice A1 l.length c1] W1 fun e w' => e = .returned (.bool r2) ∧ Below W1.heap.size W1 w') := ⟨fun W1 hb => spec_GoodReport.calls K2 u A1 c1 l r2 W1 (Kd.C_below HC.out hb) HCc.out hf2⟩
    clear hk2 hf2 hles q1
    cases r2 with
    | false =>
      clear hr2 hle
      go_enter Tryd.func3, Tryd.ntmps3
      go_wp2_with (first
        | (go_at_call 4; (with_reducible refine (HF1.out _ (Below.refl _ _)).mono ?_); rintro e w1 ⟨rfl, hd⟩; have HB1 := Aside0.mk hd; clear hd)
        | (go_at_call 5; (with_reducible refine (HF2.out _ HB1.out).mono ?_); rintro e w2 ⟨rfl, hd⟩; have HB2 := Aside0.mk (below_step HB1.out hd); clear hd)
        | (go_at_call 6; (with_reducible refine (HWK.out _ HB2.out).mono ?_); rintro e w3 ⟨rfl, hd⟩; have HB3 := Aside0.mk (below_step HB2.out hd); clear hd))
      go_ret
      exact ⟨rfl, HB3.out⟩
    | true =>
      have HREP := Aside0.mk (hr2 rfl)
      have hul := HREP.out.u.len
      obtain ⟨K3, hk3⟩ := same_f l hle
      have hf3 := hk3 K3 (Nat.le_refl _)
      clear hr2 hle hk3
      have HRT : Aside0 (∀ W1, Below W.heap.size W W1 → Calls Tryd.prog 8 #[.string u, .slice A1 l.length c1] W1 fun e w' => ∃ v, e = .returned v ∧ Kd.R (Kd.int .u8) 5 w' W1.heap.size (fun _ => True) v (enc (payloads u l)) ∧ Below W1.heap.size W1 w') := ⟨fun W1 hb => HandU.reportText u A1 c1 l W1 (Kd.C_below HC.out hb) HCc.out HREP.out⟩
      have HF3 := Aside0.mk hf3
      clear hf3
      have e1 : (u.toList == u.toList) = true := by simp
      go_enter Tryd.func3, Tryd.ntmps3
      go_wp2_with (first
        | (go_at_call 4; (with_reducible refine (HF1.out _ (Below.refl _ _)).mono ?_); rintro e w1 ⟨rfl, hd⟩; have HB1 := Aside0.mk hd; clear hd)
        | (go_at_call 5; (with_reducible refine (HF2.out _ HB1.out).mono ?_); rintro e w2 ⟨rfl, hd⟩; have HB2 := Aside0.mk (below_step HB1.out hd); clear hd)
        | (go_at_call 8; (with_reducible refine (HRT.out _ HB2.out).mono ?_); rintro e w3 ⟨v3, rfl, hr3, hb3⟩; have HB3 := Aside0.mk (below_step HB2.out hb3); obtain ⟨A3, c3, rfl, hc3, hC3⟩ := Kd.R_reads hr3; have HC3 := Aside0.mk hC3; have HL3 := Aside0.mk hc3; clear hr3 hb3 hc3 hC3)
        | (go_at_call 7; (with_reducible refine (HandT.readReport u l A3 c3 (enc (payloads u l)) aE aU aI _ (HS.out.below HB3.out) HC3.out HL3.out HREP.out rfl).mono ?_); rintro e w4 ⟨v4, rfl, hr4, hb4⟩; have HB4 := Aside0.mk (below_step HB3.out hb4); obtain ⟨A4, c4, rfl, hc4, hC4⟩ := Kd.R_reads hr4; have HC4 := Aside0.mk hC4; have HL4 := Aside0.mk hc4; clear hr4 hb4 hc4 hC4)
        | (go_at_call 9; (with_reducible refine (spec_SameReport.calls K3 A4 c4 l A1 c1 l true _ HC4.out HL4.out (Kd.C_below HC.out HB4.out) HCc.out HF3.out).mono ?_); rintro e w5 ⟨rfl, hd⟩; have HB5 := Aside0.mk (below_step HB4.out (Drawn0.below hd)); clear hd)
        | (go_at_call 6; (with_reducible refine (HWK.out _ HB5.out).mono ?_); rintro e w6 ⟨rfl, hd⟩; have HB6 := Aside0.mk (below_step HB5.out hd); clear hd))
      go_ret
      exact ⟨rfl, HB6.out⟩
#print axioms law
end Go.Proofs.YtlkenmpbhchieaaDoor.WalkR
