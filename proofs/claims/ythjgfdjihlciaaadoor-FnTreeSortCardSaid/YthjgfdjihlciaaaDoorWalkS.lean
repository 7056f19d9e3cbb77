/- The law FnTreeSort, walked. -/
import Derived.Test.YthjgfdjihlciaaaDoorPureT
set_option linter.unusedVariables false
set_option linter.unusedSimpArgs false
namespace Go.Proofs.YthjgfdjihlciaaaDoor.WalkS
open Go.RowKit Go.Proofs.YthjgfdjihlciaaaDoorW.PrintWords Go.Proofs.YthjgfdjihlciaaaDoorW.PrintLast Go.Proofs.YthjgfdjihlciaaaDoorW.PrintMore Go.Proofs.YthjgfdjihlciaaaDoor.QAll Txt SrtK SrtL SrtM SrtN SrtO PureS PureT

set_option maxHeartbeats 16000000 in
set_option maxRecDepth 100000 in
theorem law (A0 : Option Addr) (c0 : Nat) (l : List S28) (W : World) (ev : Value) (hC : Kd.C k28 W A0 l.length l) (hc : l.length ≤ c0) (hE : W.cell? ⟨0, 0, none⟩ = some ev) :
    Calls Tryd.prog 3 #[.slice A0 l.length c0] W fun e w' => e = .returned (.bool true) ∧ Below W.heap.size W w' := by
  have HC := Aside0.mk hC
  have HCc := Aside0.mk hc
  have HE := Aside0.mk hE
  clear hC hc hE
  obtain ⟨r1, ⟨K1, hk1⟩, hr1⟩ := fits_f l
  have hf1 := hk1 K1 (Nat.le_refl _)
  have HF1 : Aside0 (∀ W1, Below W.heap.size W W1 → Calls Tryd.prog 4 #[.slice A0 l.length c0] W1 fun e w' => e = .returned (.bool r1) ∧ Below W1.heap.size W1 w') := ⟨fun W1 hb => laws_zzFits20.calls K1 A0 c0 l r1 W1 (Kd.C_below HC.out hb) HCc.out hf1⟩
  clear hk1 hf1
  cases r1 with
  | false =>
    clear hr1
    go_enter Tryd.func3, Tryd.ntmps3
    go_wp2_with (first | (go_at_call 4; (with_reducible refine (HF1.out _ (Below.refl _ _)).mono ?_); rintro e w1 ⟨rfl, hd⟩; have HB1 := Aside0.mk hd; clear hd))
    go_ret
    exact ⟨rfl, HB1.out⟩
  | true =>
    have hsz := hr1 rfl
    clear hr1
    by_cases hn : l.length ≤ 1000
    rotate_left
    · have hn2 : (1000 : Int) < (l.length : Int) := by omega
      have hn3 : decide ((1000 : Int) < (l.length : Int)) = true := decide_eq_true hn2
      go_enter Tryd.func3, Tryd.ntmps3
      go_wp2_with (first | (go_at_call 4; (with_reducible refine (HF1.out _ (Below.refl _ _)).mono ?_); rintro e w1 ⟨rfl, hd⟩; have HB1 := Aside0.mk hd; clear hd))
      go_ret
      exact ⟨rfl, HB1.out⟩
    have hn2 : ¬ (1000 : Int) < (l.length : Int) := by omega
    have hn3 : decide ((1000 : Int) < (l.length : Int)) = false := decide_eq_false hn2
    obtain ⟨r, ⟨K2, hk2⟩, hp⟩ := order_f l hn (fun s hs => (hsz s hs).1)
    have hf2 := hk2 K2 (Nat.le_refl _)
    have hrl : r.length = l.length := hp.length_eq
    have hrs : ∀ s ∈ r, s.f0.size ≤ 2147483647 ∧ s.f2.size ≤ 2147483647 := fun s hs => hsz s (hp.mem_iff.1 hs)
    have HF2 : Aside0 (∀ W1, Below W.heap.size W W1 → Calls Tryd.prog 5 #[.slice A0 l.length c0] W1 fun e w' => ∃ v : Value, e = .returned v ∧ Kd.R k28 28 w' W1.heap.size (fun _ => True) v r ∧ Below W1.heap.size W1 w') := ⟨fun W1 hb => spec_TreeInOrder.calls K2 A0 c0 l r W1 (Kd.C_below HC.out hb) HCc.out hf2⟩
    obtain ⟨b3, ⟨K3, hk3⟩, hb3⟩ := tree_f r (by omega) hrs
    have HF3 := Aside0.mk (hk3 K3 (Nat.le_refl _))
    have HRL := Aside0.mk hrl
    have HN := Aside0.mk hn
    have HP := Aside0.mk hp
    clear hk2 hf2 hk3 hrs hrl hn hp hsz
    cases b3 with
    | false =>
      clear hb3
      go_enter Tryd.func3, Tryd.ntmps3
      go_wp2_with (first
        | (go_at_call 4; (with_reducible refine (HF1.out _ (Below.refl _ _)).mono ?_); rintro e w1 ⟨rfl, hd⟩; have HB1 := Aside0.mk hd; clear hd)
        | (go_at_call 5; (with_reducible refine (HF2.out _ HB1.out).mono ?_); rintro e w2 ⟨v2, rfl, hr2, hd⟩; have HB2 := Aside0.mk (below_step HB1.out hd); obtain ⟨A2, c2, rfl, hc2, hC2⟩ := Kd.R_reads hr2; have HC2 := Aside0.mk hC2; have HL2 := Aside0.mk hc2; clear hr2 hd hc2 hC2)
        | (go_at_call 6; (with_reducible refine (spec_IsTree.calls K3 A2 c2 r false _ HC2.out HL2.out HF3.out).mono ?_); rintro e w3 ⟨rfl, hd⟩; have HB3 := Aside0.mk (below_step HB2.out hd); clear hd))
      go_ret
      exact ⟨rfl, HB3.out⟩
    | true =>
      have HFR := Aside0.mk (hb3 rfl)
      have HGD : Aside0 (∀ s ∈ l, (s.f2.size = 40 ∧ (dec s.f2).length = 20) ∧ s.f0.size ≤ 4096) := ⟨fun s hs => by
        obtain ⟨j, hj, rfl⟩ := List.mem_iff_getElem.1 (HP.out.mem_iff.2 hs)
        have h1 := (HFR.out j hj (Nat.zero_le _)).1
        exact ⟨⟨h1.2.1, (back h1.2).2⟩, h1.1⟩⟩
      obtain ⟨K4, hk4⟩ := same_f r (by have := HRL.out; have := HN.out; omega)
      have HF4 := Aside0.mk (hk4 K4 (Nat.le_refl _))
      have HST : Aside0 (∀ W1, Below W.heap.size W W1 → Calls Tryd.prog 8 #[.slice A0 l.length c0] W1 fun e w' => ∃ v : Value, e = .returned v ∧ Kd.R k28 28 w' W1.heap.size (fun _ => True) v r ∧ Below W1.heap.size W1 w') := ⟨fun W1 hb => by
        refine (sortTree A0 c0 l ev W1 (Kd.C_below HC.out hb) HN.out (pw_cell_below hb HE.out) (fun s hs => (HGD.out s hs).1) (fun s hs => (HGD.out s hs).2)).mono ?_
        rintro e w' ⟨v, ds, rfl, hr, hb2, hd, hso⟩
        have hu := unique HP.out hd hso HFR.out
        rw [hu] at hr
        exact ⟨v, rfl, hr, hb2⟩⟩
      clear hb3 hk4
      go_enter Tryd.func3, Tryd.ntmps3
      go_wp2_with (first
        | (go_at_call 4; (with_reducible refine (HF1.out _ (Below.refl _ _)).mono ?_); rintro e w1 ⟨rfl, hd⟩; have HB1 := Aside0.mk hd; clear hd)
        | (go_at_call 5; (with_reducible refine (HF2.out _ HB1.out).mono ?_); rintro e w2 ⟨v2, rfl, hr2, hd⟩; have HB2 := Aside0.mk (below_step HB1.out hd); obtain ⟨A2, c2, rfl, hc2, hC2⟩ := Kd.R_reads hr2; have HC2 := Aside0.mk hC2; have HL2 := Aside0.mk hc2; clear hr2 hd hc2 hC2)
        | (go_at_call 6; (with_reducible refine (spec_IsTree.calls K3 A2 c2 r true _ HC2.out HL2.out HF3.out).mono ?_); rintro e w3 ⟨rfl, hd⟩; have HB3 := Aside0.mk (below_step HB2.out hd); have HC3 := Aside0.mk (Kd.C_below HC2.out hd); clear hd)
        | (go_at_call 8; (with_reducible refine (HST.out _ HB3.out).mono ?_); rintro e w4 ⟨v4, rfl, hr4, hd⟩; have HB4 := Aside0.mk (below_step HB3.out hd); have HC4 := Aside0.mk (Kd.C_below HC3.out hd); obtain ⟨A4, c4, rfl, hc4, hC5⟩ := Kd.R_reads hr4; have HC5 := Aside0.mk hC5; have HL5 := Aside0.mk hc4; clear hr4 hd hc4 hC5)
        | (go_at_call 7; (with_reducible refine (spec_SameEntries.calls K4 A4 c4 r A2 c2 r true _ HC5.out HL5.out HC4.out HL2.out HF4.out).mono ?_); rintro e w5 ⟨rfl, hd⟩; have HB5 := Aside0.mk (below_step HB4.out (by first | exact hd | exact Drawn0.below hd)); clear hd))
      go_ret
      exact ⟨rfl, HB5.out⟩
#print axioms law
end Go.Proofs.YthjgfdjihlciaaaDoor.WalkS
