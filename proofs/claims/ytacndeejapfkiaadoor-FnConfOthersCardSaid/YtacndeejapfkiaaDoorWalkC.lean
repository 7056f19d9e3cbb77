/- cfAre, cfGets and FnConfCase, walked. -/
import Derived.Test.YtacndeejapfkiaaDoorPureT
import Derived.Test.YtacndeejapfkiaaDoorHandK
set_option linter.unusedVariables false
set_option linter.unusedSimpArgs false
namespace Go.Proofs.YtacndeejapfkiaaDoor.WalkC
open Go.RowKit Go.Proofs.YtacndeejapfkiaaDoorW.PrintWords Go.Proofs.YtacndeejapfkiaaDoorW.PrintLast Go.Proofs.YtacndeejapfkiaaDoorW.PrintMore Go.Proofs.YtacndeejapfkiaaDoor.QAll Txt Ptr SepK HandA HandB HandC HandD HandE HandF HandG HandH PureS PureT

/-- What cfAre says where it says yes. -/
structure Are (l : List S36) (sec sub key : ByteArray) : Prop where
  z : Tight l
  n : Named l
  a : Apart l
  s : Word sec
  k : Word key
/-- A word's contract. -/
theorem wordC (s : ByteArray) (hs : s.size ≤ 140737488351232) : ∃ b, (∀ W, Calls Tryd.prog 15 #[.string s] W fun e w' => e = .returned (.bool b) ∧ Below W.heap.size W w') ∧ (b = true → Word s) := by
  obtain ⟨b, ⟨K, h⟩, hq⟩ := word s hs
  exact ⟨b, fun W => (spec_IsConfWord.calls K s b W (h K (Nat.le_refl _))).mono fun e w' ⟨h1, h2⟩ => ⟨h1, Drawn0.below h2⟩, hq⟩
theorem valueC (s : ByteArray) (hs : s.size ≤ 140737488351232) : ∃ b, ∀ W, Calls Tryd.prog 16 #[.string s] W fun e w' => e = .returned (.bool b) ∧ Below W.heap.size W w' := by
  obtain ⟨b, K, h⟩ := value s hs
  exact ⟨b, fun W => (spec_IsValue.calls K s b W (h K (Nat.le_refl _))).mono fun e w' ⟨h1, h2⟩ => ⟨h1, Drawn0.below h2⟩⟩

set_option maxHeartbeats 8000000 in
set_option maxRecDepth 100000 in
theorem cfAre (A : Option Addr) (c : Nat) (l : List S36) (sec sub key val : ByteArray) (w : World) (hC : Kd.C k36 w A l.length l) (hc : l.length ≤ c) (hz : SzS l) (h1 : sec.size ≤ 140737488351232) (h2 : sub.size ≤ 140737488351232) (h3 : key.size ≤ 140737488351232) (h4 : val.size ≤ 140737488351232) :
    Calls Tryd.prog 6 #[.slice A l.length c, .string sec, .string sub, .string key, .string val] w fun e w' => ∃ b, e = .returned (.bool b) ∧ (b = true → Are l sec sub key) ∧ Below w.heap.size w w' := by
  obtain ⟨b14, ⟨k14, h14⟩, q14⟩ := sections l hz
  obtain ⟨b1, hs, q1⟩ := wordC sec h1
  obtain ⟨b2, hu, q2⟩ := wordC sub h2
  obtain ⟨b3, hk, q3⟩ := wordC key h3
  obtain ⟨b4, hv⟩ := valueC val h4
  have H14 := Aside0.mk (fun W (hb : Below w.heap.size w W) => spec_AreSections.calls k14 A c l b14 W (Kd.C_below hC hb) hc h14)
  have HS := Aside0.mk hs
  have HU := Aside0.mk hu
  have HK := Aside0.mk hk
  have HV := Aside0.mk hv
  have Q14 := Aside0.mk q14
  have Q1 := Aside0.mk q1
  have Q3 := Aside0.mk q3
  have HB0 : Aside0 (Below w.heap.size w w) := ⟨Below.refl _ _⟩
  clear hC hc hz h1 h2 h3 h4 h14 q14 hs q1 hu q2 hk q3 hv
  cases b14 with
  | false =>
    go_enter Tryd.func6, Tryd.ntmps6
    go_wp2_with (first
      | (go_at_call 14; (with_reducible refine (H14.out _ HB0.out).mono ?_); rintro e w1 ⟨rfl, hb⟩; have HB1 : Aside0 (Below w.heap.size w w1) := ⟨HB0.out.trans (hb.mono HB0.out.size)⟩; clear hb)
      )
    go_ret
    exact ⟨false, rfl, fun e => by (cases e), HB1.out⟩
  | true =>
    have HQ14 := Aside0.mk (Q14.out rfl)
    clear Q14
    cases b1 with
    | false =>
      go_enter Tryd.func6, Tryd.ntmps6
      go_wp2_with (first
        | (go_at_call 14; (with_reducible refine (H14.out _ HB0.out).mono ?_); rintro e w1 ⟨rfl, hb⟩; have HB1 : Aside0 (Below w.heap.size w w1) := ⟨HB0.out.trans (hb.mono HB0.out.size)⟩; clear hb)
        | (go_at_call 15; (with_reducible refine (HS.out _).mono ?_); rintro e w2 ⟨rfl, hb⟩; have HB2 : Aside0 (Below w.heap.size w w2) := ⟨HB1.out.trans ((hb).mono HB1.out.size)⟩; clear hb)
        )
      go_ret
      exact ⟨false, rfl, fun e => by (cases e), HB2.out⟩
    | true =>
      have HQ1 := Aside0.mk (Q1.out rfl)
      clear Q1
      by_cases hsub : sub.toList = []
      · have hs1 : sub.toList.isEmpty = true := by rw [hsub]; rfl
        clear hsub
        cases b3 with
        | false =>
          go_enter Tryd.func6, Tryd.ntmps6
          go_wp2_with (first
            | (go_at_call 14; (with_reducible refine (H14.out _ HB0.out).mono ?_); rintro e w1 ⟨rfl, hb⟩; have HB1 : Aside0 (Below w.heap.size w w1) := ⟨HB0.out.trans (hb.mono HB0.out.size)⟩; clear hb)
            | (go_at_call 15; (with_reducible refine (HS.out _).mono ?_); rintro e w2 ⟨rfl, hb⟩; have HB2 : Aside0 (Below w.heap.size w w2) := ⟨HB1.out.trans ((hb).mono HB1.out.size)⟩; clear hb)
            | (go_at_call 15; (with_reducible refine (HK.out _).mono ?_); rintro e w3 ⟨rfl, hb⟩; have HB3 : Aside0 (Below w.heap.size w w3) := ⟨HB2.out.trans ((hb).mono HB2.out.size)⟩; clear hb)
            )
          go_ret
          exact ⟨false, rfl, fun e => by (cases e), HB3.out⟩
        | true =>
          have HQ3 := Aside0.mk (Q3.out rfl)
          clear Q3
          cases b4 with
          | false =>
            go_enter Tryd.func6, Tryd.ntmps6
            go_wp2_with (first
              | (go_at_call 14; (with_reducible refine (H14.out _ HB0.out).mono ?_); rintro e w1 ⟨rfl, hb⟩; have HB1 : Aside0 (Below w.heap.size w w1) := ⟨HB0.out.trans (hb.mono HB0.out.size)⟩; clear hb)
              | (go_at_call 15; (with_reducible refine (HS.out _).mono ?_); rintro e w2 ⟨rfl, hb⟩; have HB2 : Aside0 (Below w.heap.size w w2) := ⟨HB1.out.trans ((hb).mono HB1.out.size)⟩; clear hb)
              | (go_at_call 15; (with_reducible refine (HK.out _).mono ?_); rintro e w3 ⟨rfl, hb⟩; have HB3 : Aside0 (Below w.heap.size w w3) := ⟨HB2.out.trans ((hb).mono HB2.out.size)⟩; clear hb)
              | (go_at_call 16; (with_reducible refine (HV.out _).mono ?_); rintro e w4 ⟨rfl, hb⟩; have HB4 : Aside0 (Below w.heap.size w w4) := ⟨HB3.out.trans (hb.mono HB3.out.size)⟩; clear hb)
              )
            go_ret
            exact ⟨false, rfl, fun e => by (cases e), HB4.out⟩
          | true =>
            go_enter Tryd.func6, Tryd.ntmps6
            go_wp2_with (first
              | (go_at_call 14; (with_reducible refine (H14.out _ HB0.out).mono ?_); rintro e w1 ⟨rfl, hb⟩; have HB1 : Aside0 (Below w.heap.size w w1) := ⟨HB0.out.trans (hb.mono HB0.out.size)⟩; clear hb)
              | (go_at_call 15; (with_reducible refine (HS.out _).mono ?_); rintro e w2 ⟨rfl, hb⟩; have HB2 : Aside0 (Below w.heap.size w w2) := ⟨HB1.out.trans ((hb).mono HB1.out.size)⟩; clear hb)
              | (go_at_call 15; (with_reducible refine (HK.out _).mono ?_); rintro e w3 ⟨rfl, hb⟩; have HB3 : Aside0 (Below w.heap.size w w3) := ⟨HB2.out.trans ((hb).mono HB2.out.size)⟩; clear hb)
              | (go_at_call 16; (with_reducible refine (HV.out _).mono ?_); rintro e w4 ⟨rfl, hb⟩; have HB4 : Aside0 (Below w.heap.size w w4) := ⟨HB3.out.trans (hb.mono HB3.out.size)⟩; clear hb)
              )
            go_ret
            exact ⟨true, rfl, fun _ => ⟨HQ14.out.1, HQ14.out.2.1, HQ14.out.2.2, HQ1.out, HQ3.out⟩, HB4.out⟩
      · have hs1 : sub.toList.isEmpty = false := by cases h : sub.toList with | nil => exact absurd h hsub | cons _ _ => rfl
        clear hsub
        cases b2 with
        | false =>
          go_enter Tryd.func6, Tryd.ntmps6
          go_wp2_with (first
            | (go_at_call 14; (with_reducible refine (H14.out _ HB0.out).mono ?_); rintro e w1 ⟨rfl, hb⟩; have HB1 : Aside0 (Below w.heap.size w w1) := ⟨HB0.out.trans (hb.mono HB0.out.size)⟩; clear hb)
            | (go_at_call 15; (with_reducible refine (HS.out _).mono ?_); rintro e w2 ⟨rfl, hb⟩; have HB2 : Aside0 (Below w.heap.size w w2) := ⟨HB1.out.trans ((hb).mono HB1.out.size)⟩; clear hb)
            | (go_at_call 15; (with_reducible refine (HU.out _).mono ?_); rintro e w3 ⟨rfl, hb⟩; have HB3 : Aside0 (Below w.heap.size w w3) := ⟨HB2.out.trans ((hb).mono HB2.out.size)⟩; clear hb)
            )
          go_ret
          exact ⟨false, rfl, fun e => by (cases e), HB3.out⟩
        | true =>
          cases b3 with
          | false =>
            go_enter Tryd.func6, Tryd.ntmps6
            go_wp2_with (first
              | (go_at_call 14; (with_reducible refine (H14.out _ HB0.out).mono ?_); rintro e w1 ⟨rfl, hb⟩; have HB1 : Aside0 (Below w.heap.size w w1) := ⟨HB0.out.trans (hb.mono HB0.out.size)⟩; clear hb)
              | (go_at_call 15; (with_reducible refine (HS.out _).mono ?_); rintro e w2 ⟨rfl, hb⟩; have HB2 : Aside0 (Below w.heap.size w w2) := ⟨HB1.out.trans ((hb).mono HB1.out.size)⟩; clear hb)
              | (go_at_call 15; (with_reducible refine (HU.out _).mono ?_); rintro e w3 ⟨rfl, hb⟩; have HB3 : Aside0 (Below w.heap.size w w3) := ⟨HB2.out.trans ((hb).mono HB2.out.size)⟩; clear hb)
              | (go_at_call 15; (with_reducible refine (HK.out _).mono ?_); rintro e w4 ⟨rfl, hb⟩; have HB4 : Aside0 (Below w.heap.size w w4) := ⟨HB3.out.trans ((hb).mono HB3.out.size)⟩; clear hb)
              )
            go_ret
            exact ⟨false, rfl, fun e => by (cases e), HB4.out⟩
          | true =>
            have HQ3 := Aside0.mk (Q3.out rfl)
            clear Q3
            cases b4 with
            | false =>
              go_enter Tryd.func6, Tryd.ntmps6
              go_wp2_with (first
                | (go_at_call 14; (with_reducible refine (H14.out _ HB0.out).mono ?_); rintro e w1 ⟨rfl, hb⟩; have HB1 : Aside0 (Below w.heap.size w w1) := ⟨HB0.out.trans (hb.mono HB0.out.size)⟩; clear hb)
                | (go_at_call 15; (with_reducible refine (HS.out _).mono ?_); rintro e w2 ⟨rfl, hb⟩; have HB2 : Aside0 (Below w.heap.size w w2) := ⟨HB1.out.trans ((hb).mono HB1.out.size)⟩; clear hb)
                | (go_at_call 15; (with_reducible refine (HU.out _).mono ?_); rintro e w3 ⟨rfl, hb⟩; have HB3 : Aside0 (Below w.heap.size w w3) := ⟨HB2.out.trans ((hb).mono HB2.out.size)⟩; clear hb)
                | (go_at_call 15; (with_reducible refine (HK.out _).mono ?_); rintro e w4 ⟨rfl, hb⟩; have HB4 : Aside0 (Below w.heap.size w w4) := ⟨HB3.out.trans ((hb).mono HB3.out.size)⟩; clear hb)
                | (go_at_call 16; (with_reducible refine (HV.out _).mono ?_); rintro e w5 ⟨rfl, hb⟩; have HB5 : Aside0 (Below w.heap.size w w5) := ⟨HB4.out.trans (hb.mono HB4.out.size)⟩; clear hb)
                )
              go_ret
              exact ⟨false, rfl, fun e => by (cases e), HB5.out⟩
            | true =>
              go_enter Tryd.func6, Tryd.ntmps6
              go_wp2_with (first
                | (go_at_call 14; (with_reducible refine (H14.out _ HB0.out).mono ?_); rintro e w1 ⟨rfl, hb⟩; have HB1 : Aside0 (Below w.heap.size w w1) := ⟨HB0.out.trans (hb.mono HB0.out.size)⟩; clear hb)
                | (go_at_call 15; (with_reducible refine (HS.out _).mono ?_); rintro e w2 ⟨rfl, hb⟩; have HB2 : Aside0 (Below w.heap.size w w2) := ⟨HB1.out.trans ((hb).mono HB1.out.size)⟩; clear hb)
                | (go_at_call 15; (with_reducible refine (HU.out _).mono ?_); rintro e w3 ⟨rfl, hb⟩; have HB3 : Aside0 (Below w.heap.size w w3) := ⟨HB2.out.trans ((hb).mono HB2.out.size)⟩; clear hb)
                | (go_at_call 15; (with_reducible refine (HK.out _).mono ?_); rintro e w4 ⟨rfl, hb⟩; have HB4 : Aside0 (Below w.heap.size w w4) := ⟨HB3.out.trans ((hb).mono HB3.out.size)⟩; clear hb)
                | (go_at_call 16; (with_reducible refine (HV.out _).mono ?_); rintro e w5 ⟨rfl, hb⟩; have HB5 : Aside0 (Below w.heap.size w w5) := ⟨HB4.out.trans (hb.mono HB4.out.size)⟩; clear hb)
                )
              go_ret
              exact ⟨true, rfl, fun _ => ⟨HQ14.out.1, HQ14.out.2.1, HQ14.out.2.2, HQ1.out, HQ3.out⟩, HB5.out⟩
#print axioms cfAre
end Go.Proofs.YtacndeejapfkiaaDoor.WalkC
