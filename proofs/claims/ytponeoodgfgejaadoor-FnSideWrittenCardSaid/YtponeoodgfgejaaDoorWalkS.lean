/- The law FnSideWritten, walked. -/
import Derived.Test.YtponeoodgfgejaaDoorPureS
import Derived.Test.YtponeoodgfgejaaDoorHandN
set_option linter.unusedVariables false
set_option linter.unusedSimpArgs false
namespace Go.Proofs.YtponeoodgfgejaaDoor.WalkS
open Go.RowKit Go.Proofs.YtponeoodgfgejaaDoorW.PrintWords Go.Proofs.YtponeoodgfgejaaDoor.QAll Txt PureA PureP HandC HandD HandF HandN SidD SidE SidF PureS

set_option maxHeartbeats 8000000 in
set_option maxRecDepth 100000 in
theorem law (wide : Bool) (A0 : Option Addr) (c0 : Nat) (l0 : List S39) (aE aU aI : Addr) (W : World) (hC : Kd.C k39 W A0 l0.length l0) (hc : l0.length ≤ c0) (hs : Sent W aE aU aI) :
    Calls Tryd.prog 3 #[.bool wide, .slice A0 l0.length c0] W fun e w' => e = .returned (.bool true) ∧ Below W.heap.size W w' := by
  have HS := Aside0.mk hs
  have HC := Aside0.mk hC
  have HCc := Aside0.mk hc
  clear hs hC hc
  obtain ⟨r1, ⟨K1, hk1⟩, hr1⟩ := fits_f l0
  have hf1 := hk1 K1 (Nat.le_refl _)
  have HF1 : Aside0 (∀ W1, Below W.heap.size W W1 → Calls Tryd.prog 5 #[.slice A0 l0.length c0] W1 fun e w' => e = .returned (.bool r1) ∧ Below W1.heap.size W1 w') := ⟨fun W1 hb => laws_zzFits40.calls K1 A0 c0 l0 r1 W1 (Kd.C_below HC.out hb) HCc.out hf1⟩
  have HWK : Aside0 (∀ W1, Below W.heap.size W W1 → Calls Tryd.prog 7 #[] W1 fun e w' => e = .returned (.bool true) ∧ Below W1.heap.size W1 w') := ⟨fun W1 hb => works aE aU aI W1 (HS.out.below hb)⟩
  clear hk1 hf1
  cases r1 with
  | false =>
    clear hr1
    go_enter Tryd.func3, Tryd.ntmps3
    go_wp2_with (first | (go_at_call 5; (with_reducible refine (HF1.out _ (Below.refl _ _)).mono ?_); rintro e w1 ⟨rfl, hd⟩; have HB1 := Aside0.mk hd; clear hd))
    go_ret
    exact ⟨rfl, HB1.out⟩
  | true =>
    have hle := hr1 rfl
    clear hr1
    obtain ⟨r2, ⟨K2, hk2⟩, hr2⟩ := good_f l0 hle
    have hf2 := hk2 K2 (Nat.le_refl _)
    have HF2 : Aside0 (∀ W1, Below W.heap.size W W1 → Calls Tryd.prog 6 #[.slice A0 l0.length c0] W1 fun e w' => e = .returned (.bool r2) ∧ Below W1.heap.size W1 w') := ⟨fun W1 hb => laws_sideGood.calls K2 A0 c0 l0 r2 W1 (Kd.C_below HC.out hb) HCc.out hf2⟩
    clear hk2 hf2
    cases r2 with
    | false =>
      clear hr2 hle
      go_enter Tryd.func3, Tryd.ntmps3
      go_wp2_with (first
        | (go_at_call 5; (with_reducible refine (HF1.out _ (Below.refl _ _)).mono ?_); rintro e w1 ⟨rfl, hd⟩; have HB1 := Aside0.mk hd; clear hd)
        | (go_at_call 6; (with_reducible refine (HF2.out _ HB1.out).mono ?_); rintro e w2 ⟨rfl, hd⟩; have HB2 := Aside0.mk (below_step HB1.out hd); clear hd)
        | (go_at_call 7; (with_reducible refine (HWK.out _ HB2.out).mono ?_); rintro e w3 ⟨rfl, hd⟩; have HB3 := Aside0.mk (below_step HB2.out hd); clear hd))
      go_ret
      exact ⟨rfl, HB3.out⟩
    | true =>
      obtain ⟨hlen, hgood⟩ := hr2 rfl
      have hch : ∀ c, ∃ K, ∀ W1, Below W.heap.size W W1 → Calls Tryd.prog 13 #[.slice A0 l0.length c0, .int .i64 c] W1 fun e w' => ∃ v0_ : Value, e = .returned (v0_) ∧ Kd.R (Kd.int .u8) 5 w' W1.heap.size (fun _ => True) v0_ (chS c l0) ∧ Below W1.heap.size W1 w' ∧ K = K := fun c => by
        obtain ⟨K, hK⟩ := chan_f c l0 hle (by have := chS_bound c l0 hgood; omega)
        exact ⟨0, fun W1 hb => (spec_ChannelText.calls K A0 c0 l0 c _ W1 (Kd.C_below HC.out hb) HCc.out (hK K (Nat.le_refl _))).mono (fun e w' ⟨v, h1, h2, h3⟩ => ⟨v, h1, h2, h3, rfl⟩)⟩
      have HCH : Aside0 (∀ c W1, Below W.heap.size W W1 → Calls Tryd.prog 13 #[.slice A0 l0.length c0, .int .i64 c] W1 fun e w' => ∃ v0_ : Value, e = .returned (v0_) ∧ Kd.R (Kd.int .u8) 5 w' W1.heap.size (fun _ => True) v0_ (chS c l0) ∧ Below W1.heap.size W1 w') := ⟨fun c W1 hb => by
        obtain ⟨K, hK⟩ := hch c
        exact (hK W1 hb).mono (fun e w' ⟨v, h1, h2, h3, _⟩ => ⟨v, h1, h2, h3⟩)⟩
      have HSC : Aside0 (∀ W1, Below W.heap.size W W1 → Calls Tryd.prog 9 #[.slice A0 l0.length c0] W1 fun x w' => ∃ B d, x = .returned (.slice B l0.length d) ∧ Kd.C k56 w' B l0.length (l0.map conv) ∧ Below W1.heap.size W1 w') := ⟨fun W1 hb => sideChunks l0 A0 c0 W1 hlen (Kd.C_below HC.out hb)⟩
      have HMX : Aside0 (∀ W1 B d, Kd.C k56 W1 B l0.length (l0.map conv) → Calls Tryd.prog 8 #[.bool wide, .slice B l0.length d] W1 fun x w' => ∃ qs B2 d2, Got (mxOf wide) (l0.map conv) (l0.map conv).length qs ∧ x = .returned (.tuple #[.slice B2 (enc qs).length d2, .bool true]) ∧ (enc qs).length ≤ d2 ∧ Kd.C (Kd.int .u8) w' B2 (enc qs).length (enc qs) ∧ Below W1.heap.size W1 w') := ⟨fun W1 B d hB => by
        have := mux wide (l0.map conv) B d W1 (fine l0 hlen hgood)
        rw [List.length_map] at this
        have := this hB
        rw [List.length_map]
        exact this⟩
      have HSM : Aside0 (∀ W1, Calls Tryd.prog 11 #[.bool wide] W1 fun e w' => e = .returned (.int .i64 (if wide then 65516 else 1000)) ∧ Drawn0 W1 w') := ⟨fun W1 => laws_sideMost.calls wide _ W1 (by cases wide <;> rfl)⟩
      have HCK : Aside0 (∀ W1 B2 d2 qs, Got (mxOf wide) (l0.map conv) (l0.map conv).length qs → (enc qs).length ≤ d2 → Kd.C (Kd.int .u8) W1 B2 (enc qs).length (enc qs) → Calls Tryd.prog 10 #[.slice B2 (enc qs).length d2, .int .i64 (if wide then 65516 else 1000)] W1 fun x w' => ∃ A c, x = .returned (.tuple #[.slice A qs.length c, .bool true]) ∧ qs.length ≤ c ∧ Kd.C k39 w' A qs.length (qs.map toC) ∧ Below W1.heap.size W1 w') := ⟨fun W1 B2 d2 qs hg hd hB => by
        refine chunks qs (if wide then 60000 else 999) _ (by cases wide <;> decide) B2 d2 W1 hd hB (by have := hg.n; rw [List.length_map] at this; omega) (fun q hq => ?_)
        obtain ⟨c, t, e, h1, h2, h3, h4⟩ := hg.pc q hq
        refine ⟨c, t, e, by omega, by omega, ?_, by omega⟩
        cases wide with
        | true => exact h4
        | false => exact h3⟩
      have HC2 : Aside0 (∀ c W1 A d qs, Got (mxOf wide) (l0.map conv) (l0.map conv).length qs → qs.length ≤ d → Kd.C k39 W1 A qs.length (qs.map toC) → Calls Tryd.prog 13 #[.slice A qs.length d, .int .i64 c] W1 fun e w' => ∃ v0_ : Value, e = .returned (v0_) ∧ Kd.R (Kd.int .u8) 5 w' W1.heap.size (fun _ => True) v0_ (chS c l0) ∧ Below W1.heap.size W1 w') := ⟨fun c W1 A d qs hg hd hA => by
        have hb := back c _ l0 qs hg
        obtain ⟨K, hK⟩ := chan_f c (qs.map toC) (by rw [List.length_map]; have := hg.n; rw [List.length_map] at this; omega) (by rw [hb]; have := chS_bound c l0 hgood; omega)
        have := spec_ChannelText.calls K A d (qs.map toC) c _ W1 (by rw [List.length_map]; exact hA) (by rw [List.length_map]; exact hd) (hK K (Nat.le_refl _))
        rw [hb, List.length_map] at this
        exact this⟩
      have HE3 : Aside0 (chS 3 l0 = []) := ⟨chS_err l0 hgood⟩
      have H13 : Aside0 (∀ W1 A d qs, Got (mxOf wide) (l0.map conv) (l0.map conv).length qs → qs.length ≤ d → Kd.C k39 W1 A qs.length (qs.map toC) → Calls Tryd.prog 13 #[.slice A qs.length d, .int .i64 3] W1 fun e w' => ∃ B c, e = .returned (.slice B 0 c) ∧ Below W1.heap.size W1 w') := ⟨fun W1 A d qs hg hd hA => (HC2.out 3 W1 A d qs hg hd hA).mono (fun e w' ⟨v, h1, h2, h3⟩ => by
        rw [HE3.out] at h2
        obtain ⟨B, c, rfl, _, _⟩ := Kd.R_reads h2
        exact ⟨B, c, h1, h3⟩)⟩
      have HDS : Aside0 (∀ c W1 A1 c1 A2 c2, Kd.C (Kd.int .u8) W1 A1 (chS c l0).length (chS c l0) → (chS c l0).length ≤ c1 → Kd.C (Kd.int .u8) W1 A2 (chS c l0).length (chS c l0) → (chS c l0).length ≤ c2 → Calls Tryd.prog 12 #[.slice A1 (chS c l0).length c1, .slice A2 (chS c l0).length c2] W1 fun e w' => e = .returned (.bool true) ∧ Drawn0 W1 w') := ⟨fun c W1 A1 c1 A2 c2 h1 h2 h3 h4 => laws_deltaSame.calls A1 c1 (chS c l0) A2 c2 (chS c l0) true W1 h1 h2 h3 h4 (by unfold laws_deltaSame.f; simp)⟩
      clear hr2 hlen hgood hch hle
      obtain ⟨most, hmost⟩ : ∃ m : Int, m = (if wide then 65516 else 1000) := ⟨_, rfl⟩
      simp only [← hmost] at HSM HCK
      clear hmost
      go_enter Tryd.func3, Tryd.ntmps3
      go_wp2_with (first
        | (go_at_call 5; (with_reducible refine (HF1.out _ (Below.refl _ _)).mono ?_); rintro e w1 ⟨rfl, hd⟩; have HB1 := Aside0.mk hd; clear hd)
        | (go_at_call 6; (with_reducible refine (HF2.out _ HB1.out).mono ?_); rintro e w2 ⟨rfl, hd⟩; have HB2 := Aside0.mk (below_step HB1.out hd); clear hd)
        | (go_at_call 9; (with_reducible refine (HSC.out _ HB2.out).mono ?_); rintro e w3 ⟨B3, d3, rfl, hC3, hb3⟩; have HB3 := Aside0.mk (below_step HB2.out hb3); have HC3 := Aside0.mk hC3; clear hb3 hC3)
        | (go_at_call 8; (with_reducible refine (HMX.out _ _ _ HC3.out).mono ?_); rintro e w4 ⟨qs, B4, d4, hg4, rfl, hd4, hC4, hb4⟩; have HB4 := Aside0.mk (below_step HB3.out hb4); have HG := Aside0.mk hg4; have HD4 := Aside0.mk hd4; have HC4 := Aside0.mk hC4; clear hb4 hC4 hd4 hg4)
        | (go_at_call 11; (with_reducible refine (HSM.out _).mono ?_); rintro e w5 ⟨rfl, hd5⟩; have HB5 := Aside0.mk (below_step HB4.out (Drawn0.below hd5)); have HC5 := Aside0.mk (Kd.C_below HC4.out (Drawn0.below hd5)); clear hd5)
        | (go_at_call 10; (with_reducible refine (HCK.out _ _ _ _ HG.out HD4.out HC5.out).mono ?_); rintro e w6 ⟨A6, c6, rfl, hc6, hC6, hb6⟩; have HB6 := Aside0.mk (below_step HB5.out hb6); have HC6 := Aside0.mk hC6; have Hc6 := Aside0.mk hc6; clear hb6 hC6 hc6)
        | fail)
      have HBA : Aside0 (Below w6.heap.size w6 (w6.alloc (.cells #[.int .i64 1, .int .i64 2] 3))) := ⟨below_alloc (Below.refl _ _) _⟩
      have HRW : Aside0 ((w6.alloc (.cells #[.int .i64 1, .int .i64 2] 3)).heap[w6.heap.size]? = some (.cells #[.int .i64 1, .int .i64 2] 3 (0, 0))) := ⟨heap_alloc_new w6 _⟩
      have HSZ : Aside0 (w6.heap.size < (w6.alloc (.cells #[.int .i64 1, .int .i64 2] 3)).heap.size) := ⟨by show _ < (w6.heap.push _).size; simp⟩
      go_loopg [40] 2 (fun gk v40 w' => ∃ i : Nat, v40 = .int .i64 (i : Int) ∧ gk + i = 2 ∧ Aside0 (Below (w6.alloc (.cells #[.int .i64 1, .int .i64 2] 3)).heap.size (w6.alloc (.cells #[.int .i64 1, .int .i64 2] 3)) w'))
      case atStart => exact ⟨0, rfl, rfl, ⟨Below.refl _ _⟩⟩
      case round =>
        obtain ⟨i, rfl, hi, HBL⟩ := hrel
        have HBx : Aside0 (Below w6.heap.size w6 wr) := ⟨HBA.out.trans (HBL.out.mono HBA.out.size)⟩
        have hrow : wr.heap[w6.heap.size]? = some (.cells #[.int .i64 1, .int .i64 2] 3 (0, 0)) := (HBL.out.block _ HSZ.out).trans HRW.out
        have y0 : wr.cell? ⟨w6.heap.size, 0, none⟩ = some (.int .i64 1) := (Lib.cell_of_heap hrow 0).trans rfl
        have y1 : wr.cell? ⟨w6.heap.size, 1, none⟩ = some (.int .i64 2) := (Lib.cell_of_heap hrow 1).trans rfl
        clear hrow
        have hi3 : i = 0 ∨ i = 1 ∨ i = 2 := by omega
        rcases hi3 with rfl | rfl | rfl
        · go_wp2_with (first
            | (go_at_call 13; (with_reducible refine (HC2.out _ _ _ _ _ HG.out Hc6.out (Kd.C_below HC6.out HBx.out)).mono ?_); rintro e w8 ⟨v8, rfl, hr8, hb8⟩; have HX8 := Aside0.mk hb8; have HB8 := Aside0.mk (below_step HBx.out hb8); obtain ⟨A8, c8, rfl, hc8, hC8⟩ := Kd.R_reads hr8; have HC8 := Aside0.mk hC8; have Hc8 := Aside0.mk hc8; clear hb8 hC8 hr8 hc8)
            | (go_at_call 13; (with_reducible refine (HCH.out _ _ (below_step HB6.out HB8.out)).mono ?_); rintro e w9 ⟨v9, rfl, hr9, hb9⟩; have HX9 := Aside0.mk (below_step HX8.out hb9); have HB9 := Aside0.mk (below_step HB8.out hb9); have HC8b := Aside0.mk (Kd.C_below HC8.out hb9); obtain ⟨A9, c9, rfl, hc9, hC9⟩ := Kd.R_reads hr9; have HC9 := Aside0.mk hC9; have Hc9 := Aside0.mk hc9; clear hb9 hC9 hr9 hc9)
            | (go_at_call 12; (with_reducible refine (HDS.out _ _ _ _ _ _ HC8b.out Hc8.out HC9.out Hc9.out).mono ?_); rintro e w10 ⟨rfl, hd10⟩; have HX10 := Aside0.mk (below_step HX9.out (Drawn0.below hd10)); clear hd10)
            | fail)
          go_roundg (gk - 1)
          case measure => omega
          case rel => exact ⟨1, rfl, by omega, ⟨below_step HBL.out HX10.out⟩⟩
        · go_wp2_with (first
            | (go_at_call 13; (with_reducible refine (HC2.out _ _ _ _ _ HG.out Hc6.out (Kd.C_below HC6.out HBx.out)).mono ?_); rintro e w8 ⟨v8, rfl, hr8, hb8⟩; have HX8 := Aside0.mk hb8; have HB8 := Aside0.mk (below_step HBx.out hb8); obtain ⟨A8, c8, rfl, hc8, hC8⟩ := Kd.R_reads hr8; have HC8 := Aside0.mk hC8; have Hc8 := Aside0.mk hc8; clear hb8 hC8 hr8 hc8)
            | (go_at_call 13; (with_reducible refine (HCH.out _ _ (below_step HB6.out HB8.out)).mono ?_); rintro e w9 ⟨v9, rfl, hr9, hb9⟩; have HX9 := Aside0.mk (below_step HX8.out hb9); have HB9 := Aside0.mk (below_step HB8.out hb9); have HC8b := Aside0.mk (Kd.C_below HC8.out hb9); obtain ⟨A9, c9, rfl, hc9, hC9⟩ := Kd.R_reads hr9; have HC9 := Aside0.mk hC9; have Hc9 := Aside0.mk hc9; clear hb9 hC9 hr9 hc9)
            | (go_at_call 12; (with_reducible refine (HDS.out _ _ _ _ _ _ HC8b.out Hc8.out HC9.out Hc9.out).mono ?_); rintro e w10 ⟨rfl, hd10⟩; have HX10 := Aside0.mk (below_step HX9.out (Drawn0.below hd10)); clear hd10)
            | fail)
          go_roundg (gk - 1)
          case measure => omega
          case rel => exact ⟨2, rfl, by omega, ⟨below_step HBL.out HX10.out⟩⟩
        · go_wp2_with (first
            | (go_at_call 13; (with_reducible refine (H13.out _ _ _ _ HG.out Hc6.out (Kd.C_below HC6.out HBx.out)).mono ?_); rintro e w8 ⟨A8, c8, rfl, hb8⟩; have HB8 := Aside0.mk (below_step HBx.out hb8); clear hb8)
            | (go_at_call 7; (with_reducible refine (HWK.out _ (below_step HB6.out HB8.out)).mono ?_); rintro e w9 ⟨rfl, hd⟩; have HB9 := Aside0.mk (below_step HB8.out hd); clear hd)
            | fail)
          go_ret
          exact ⟨rfl, below_step HB6.out HB9.out⟩
#print axioms law
end Go.Proofs.YtponeoodgfgejaaDoor.WalkS
