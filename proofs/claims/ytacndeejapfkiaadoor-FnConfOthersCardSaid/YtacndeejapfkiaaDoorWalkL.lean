/- FnConfCase, walked. -/
import Derived.Test.YtacndeejapfkiaaDoorWalkG
set_option linter.unusedVariables false
set_option linter.unusedSimpArgs false
namespace Go.Proofs.YtacndeejapfkiaaDoor.WalkL
open Go.RowKit Go.Proofs.YtacndeejapfkiaaDoorW.PrintWords Go.Proofs.YtacndeejapfkiaaDoorW.PrintLast Go.Proofs.YtacndeejapfkiaaDoorW.PrintMore Go.Proofs.YtacndeejapfkiaaDoor.QAll Txt Ptr SepK HandA HandB HandC HandD HandE HandF HandG HandH HandK PureS PureT WalkC WalkG

/-- What the answer of cfAre says. -/
def Good (l : List S36) (sec sub key : ByteArray) (b : Bool) : Prop := b = true → Are l sec sub key
theorem Good.ok {l : List S36} {sec sub key : ByteArray} (h : Good l sec sub key true) : Are l sec sub key := h rfl
theorem zero_sz : (⟨#[48]⟩ : ByteArray).size ≤ 140737488351232 := by
  show (1 : Nat) ≤ 140737488351232
  omega
theorem spec_len {l : List S36} {sec sub : ByteArray} {os : List S42} (hz : Tight l) (h : SpecOpt l sec sub os) : os.length ≤ 1000 := by
  rcases h with ⟨x, hx, _, _, rfl⟩ | ⟨x, hx, _, _, p, hp, _, rfl⟩ | ⟨rfl, _⟩
  · exact hz.o x hx
  · exact hz.p x hx p hp
  · exact Nat.zero_le _

set_option maxHeartbeats 8000000 in
set_option maxRecDepth 100000 in
theorem law (A : Option Addr) (c : Nat) (l : List S36) (sec sub key : ByteArray) (w : World) (hC : Kd.C k36 w A l.length l) (hc : l.length ≤ c) (hz : SzS l) :
    Calls Tryd.prog 3 #[.slice A l.length c, .string sec, .string sub, .string key] w fun e w' => e = .returned (.bool true) ∧ Below w.heap.size w w' := by
  obtain ⟨b5, k5, h5⟩ := fits l
  have HF := Aside0.mk (fun W (hb : Below w.heap.size w W) => laws_zzFits1.calls k5 A c l b5 W (Kd.C_below hC hb) hc h5)
  have HCC := Aside0.mk hC
  have HC0 := Aside0.mk hc
  have HSZ := Aside0.mk hz
  clear h5 hC hc hz
  cases b5 with
  | false =>
    go_enter Tryd.func3, Tryd.ntmps3
    go_wp2_with (first
      | (go_at_call 5; (with_reducible refine (HF.out _ (Below.refl _ _)).mono ?_); rintro e w1 ⟨rfl, hb⟩; have HB1 := Aside0.mk (hb); clear hb)
      )
    go_ret
    exact ⟨rfl, HB1.out⟩
  | true =>
    by_cases hs1 : sec.size ≤ 2147483647
    rotate_left
    · have d1 : decide (2147483647 < (sec.size : Int)) = true := decide_eq_true (by omega)
      have e1 : decide (2147483647 < sec.size) = true := decide_eq_true (by omega)
      clear hs1
      go_enter Tryd.func3, Tryd.ntmps3
      go_wp2_with (first
        | (go_at_call 5; (with_reducible refine (HF.out _ (Below.refl _ _)).mono ?_); rintro e w1 ⟨rfl, hb⟩; have HB1 := Aside0.mk (hb); clear hb)
        )
      go_ret
      exact ⟨rfl, HB1.out⟩
    have d1 : decide (2147483647 < (sec.size : Int)) = false := decide_eq_false (by omega)
    have e1 : decide (2147483647 < sec.size) = false := decide_eq_false (by omega)
    have HS1 := Aside0.mk hs1
    clear hs1
    by_cases hs2 : sub.size ≤ 2147483647
    rotate_left
    · have d2 : decide (2147483647 < (sub.size : Int)) = true := decide_eq_true (by omega)
      have e2 : decide (2147483647 < sub.size) = true := decide_eq_true (by omega)
      clear hs2
      go_enter Tryd.func3, Tryd.ntmps3
      go_wp2_with (first
        | (go_at_call 5; (with_reducible refine (HF.out _ (Below.refl _ _)).mono ?_); rintro e w1 ⟨rfl, hb⟩; have HB1 := Aside0.mk (hb); clear hb)
        )
      go_ret
      exact ⟨rfl, HB1.out⟩
    have d2 : decide (2147483647 < (sub.size : Int)) = false := decide_eq_false (by omega)
    have e2 : decide (2147483647 < sub.size) = false := decide_eq_false (by omega)
    have HS2 := Aside0.mk hs2
    clear hs2
    by_cases hs3 : key.size ≤ 2147483647
    rotate_left
    · have d3 : decide (2147483647 < (key.size : Int)) = true := decide_eq_true (by omega)
      have e3 : decide (2147483647 < key.size) = true := decide_eq_true (by omega)
      clear hs3
      go_enter Tryd.func3, Tryd.ntmps3
      go_wp2_with (first
        | (go_at_call 5; (with_reducible refine (HF.out _ (Below.refl _ _)).mono ?_); rintro e w1 ⟨rfl, hb⟩; have HB1 := Aside0.mk (hb); clear hb)
        )
      go_ret
      exact ⟨rfl, HB1.out⟩
    have d3 : decide (2147483647 < (key.size : Int)) = false := decide_eq_false (by omega)
    have e3 : decide (2147483647 < key.size) = false := decide_eq_false (by omega)
    have HS3 := Aside0.mk hs3
    clear hs3
    go_enter Tryd.func3, Tryd.ntmps3
    go_wp2_with (first
      | (go_at_call 5; (with_reducible refine (HF.out _ (Below.refl _ _)).mono ?_); rintro e w1 ⟨rfl, hb⟩; have HB1 := Aside0.mk (hb); clear hb)
      | (go_at_call 6; (with_reducible refine (cfAre A c l sec sub key ⟨#[48]⟩ _ (Kd.C_below HCC.out HB1.out) HC0.out HSZ.out (by have := HS1.out; omega) (by have := HS2.out; omega) (by have := HS3.out; omega) zero_sz).mono ?_); rintro e w2 ⟨b, rfl, hbq, hb⟩; have HB2 : Aside0 (Below w.heap.size w w2) := ⟨HB1.out.trans ((hb).mono HB1.out.size)⟩; have HBQ : Aside0 (Good l sec sub key b) := ⟨hbq⟩; clear hb hbq; cases b)
      | (go_at_call 8; (with_reducible refine (capital sec w2 HBQ.out.ok.s).mono ?_); rintro e w3 ⟨rfl, hb⟩; have HB3 : Aside0 (Below w.heap.size w w3) := ⟨HB2.out.trans ((hb).mono HB2.out.size)⟩; clear hb)
      | (go_at_call 8; (with_reducible refine (capital key w3 HBQ.out.ok.k).mono ?_); rintro e w4 ⟨rfl, hb⟩; have HB4 : Aside0 (Below w.heap.size w w4) := ⟨HB3.out.trans ((hb).mono HB3.out.size)⟩; clear hb)
      | (go_at_call 10; (with_reducible refine (optionsOf_ A c l sec sub w4 (Kd.C_below HCC.out HB4.out) HC0.out HBQ.out.ok.z.sized).mono ?_); rintro e w5 ⟨os, B, b, rfl, hlb, hcs, hso, hb⟩
         have HB5 : Aside0 (Below w.heap.size w w5) := ⟨HB4.out.trans ((hb).mono HB4.out.size)⟩
         obtain ⟨k9, h9⟩ := values os key (spec_len HBQ.out.ok.z hso)
         have HVC := Aside0.mk (spec_Values.calls k9 B b os key (vals os key) w5 (hcs w5 hb) hlb h9)
         have HSO := Aside0.mk hso
         clear h9 hcs hso hb hlb)
      | (go_at_call 9; (with_reducible refine HVC.out.mono ?_); rintro e w6 ⟨v, rfl, hr, hb⟩
         obtain ⟨A6, c6, rfl, hl6, hC6⟩ := Kd.R_reads hr
         have HB6 : Aside0 (Below w.heap.size w w6) := ⟨HB5.out.trans ((hb).mono HB5.out.size)⟩
         have HG := Aside0.mk (cfGets A c l (strOfNums (cap sec)) sec sub (strOfNums (cap key)) key A6 c6 (vals os key) w6 (Kd.C_below HCC.out HB6.out) HC0.out HBQ.out.ok.z.sized HBQ.out.ok.n HBQ.out.ok.s (cap_alike sec HBQ.out.ok.s.sm) HBQ.out.ok.k (cap_alike key HBQ.out.ok.k.sm) hC6 hl6 (Nat.le_trans (vals_len _ _) (Nat.le_trans (spec_len HBQ.out.ok.z HSO.out) (by omega))) (fun os' h => by rw [same_options HBQ.out.ok.a h HSO.out]))
         clear hr hb hl6 hC6)
      | (go_at_call 7; (with_reducible refine HG.out.mono ?_); rintro e w7 ⟨rfl, hb⟩; have HB7 : Aside0 (Below w.heap.size w w7) := ⟨HB6.out.trans ((hb).mono HB6.out.size)⟩; clear hb)
      )
    · go_ret
      exact ⟨rfl, HB2.out⟩
    · go_ret
      exact ⟨rfl, HB7.out⟩
#print axioms law
end Go.Proofs.YtacndeejapfkiaaDoor.WalkL
