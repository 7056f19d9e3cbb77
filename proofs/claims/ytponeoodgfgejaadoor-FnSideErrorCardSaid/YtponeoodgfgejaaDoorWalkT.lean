/- The law FnSideError, walked. -/
import Derived.Test.YtponeoodgfgejaaDoorPureS
import Derived.Test.YtponeoodgfgejaaDoorSidM
import Derived.Test.YtponeoodgfgejaaDoorSidK
import Derived.Test.YtponeoodgfgejaaDoorHandN
set_option linter.unusedVariables false
set_option linter.unusedSimpArgs false
namespace Go.Proofs.YtponeoodgfgejaaDoor.WalkT
open Go.RowKit Go.Proofs.YtponeoodgfgejaaDoorW.PrintWords Go.Proofs.YtponeoodgfgejaaDoor.QAll Txt PureA PureP HandC HandD HandF HandN SidD SidE SidF SidG SidH SidK SidL SidM PureS

theorem txt_pay (c : Int) (l : List S39) : txt c (l.map pay) = chS c l := by
  unfold txt chS
  rw [List.map_map]
  congr 1
  apply List.map_congr_left
  intro x _
  simp [pay]
theorem lent_of_C {W w : World} {A : Option Addr} {n : Nat} {l : List S39} (h : Kd.C k39 W A n l) (hb : Below W.heap.size W w) : ReadsRow ((lent W k39).K w) (lent W k39).sz w A n l := ReadsRow.imp_ h hb (fun _ _ h => h)
/-- The arguments of the guards. -/
structure Okk (l : List S39) (t : List Int) : Prop where
  n : l.length ≤ 60
  at_ : ∀ x ∈ l, Ok x
  t0 : t ≠ []
  t1 : t.length ≤ 900
theorem len_all {l : List S39} {t : List Int} (h : Okk l t) : (enc ((l ++ [(⟨3, t⟩ : S39)]).map pay)).length ≤ 60010 * 61 := by
  have := enc_pay_le (l ++ [(⟨3, t⟩ : S39)]) (fun x hx => by
    rcases List.mem_append.1 hx with hx | hx
    · exact (h.at_ x hx).2.2
    · obtain rfl := List.mem_singleton.1 hx
      have := h.t1
      show t.length ≤ 60000
      omega)
  rw [List.length_append, List.length_singleton] at this
  have := h.n
  omega
theorem rng {l : List S39} {t : List Int} (h : Okk l t) : ∀ x ∈ l ++ [(⟨3, t⟩ : S39)], 1 ≤ x.f0 ∧ x.f0 ≤ 3 ∧ x.f1.length ≤ 60000 := fun x hx => by
  rcases List.mem_append.1 hx with hx | hx
  · have := h.at_ x hx
    have h1 := this.1
    exact ⟨by omega, by omega, this.2.2⟩
  · obtain rfl := List.mem_singleton.1 hx
    have := h.t1
    exact ⟨by show (1 : Int) ≤ 3; omega, by show (3 : Int) ≤ 3; omega, by show t.length ≤ 60000; omega⟩

set_option maxHeartbeats 16000000 in
set_option maxRecDepth 100000 in
theorem law (wide : Bool) (A0 : Option Addr) (c0 : Nat) (l0 : List S39) (A2 : Option Addr) (c2 : Nat) (t : List Int) (aE aU aI : Addr) (W : World) (hC : Kd.C k39 W A0 l0.length l0) (hc : l0.length ≤ c0) (hC2 : Kd.C (Kd.int .u8) W A2 t.length t) (hc2 : t.length ≤ c2) (hs : Sent W aE aU aI) :
    Calls Tryd.prog 4 #[.bool wide, .slice A0 l0.length c0, .slice A2 t.length c2] W fun e w' => e = .returned (.bool true) ∧ Below W.heap.size W w' := by
  have HS := Aside0.mk hs
  have HC := Aside0.mk hC
  have HCc := Aside0.mk hc
  have HC2 := Aside0.mk hC2
  have HCc2 := Aside0.mk hc2
  clear hs hC hc hC2 hc2
  obtain ⟨r1, ⟨K1, hk1⟩, hr1⟩ := fits_f l0
  have hf1 := hk1 K1 (Nat.le_refl _)
  have HF1 : Aside0 (∀ W1, Below W.heap.size W W1 → Calls Tryd.prog 5 #[.slice A0 l0.length c0] W1 fun e w' => e = .returned (.bool r1) ∧ Below W1.heap.size W1 w') := ⟨fun W1 hb => laws_zzFits40.calls K1 A0 c0 l0 r1 W1 (Kd.C_below HC.out hb) HCc.out hf1⟩
  have HWK : Aside0 (∀ W1, Below W.heap.size W W1 → Calls Tryd.prog 7 #[] W1 fun e w' => e = .returned (.bool true) ∧ Below W1.heap.size W1 w') := ⟨fun W1 hb => works aE aU aI W1 (HS.out.below hb)⟩
  clear hk1 hf1
  cases r1 with
  | false =>
    clear hr1
    go_enter Tryd.func4, Tryd.ntmps4
    go_wp2_with (first | (go_at_call 5; (with_reducible refine (HF1.out _ (Below.refl _ _)).mono ?_); rintro e w1 ⟨rfl, hd⟩; have HB1 := Aside0.mk hd; clear hd))
    go_ret
    exact ⟨rfl, HB1.out⟩
  | true =>
    have hle := hr1 rfl
    clear hr1
    by_cases hbig : (2147483647 : Int) < (t.length : Int)
    · have d1 : decide ((2147483647 : Int) < (t.length : Int)) = true := decide_eq_true hbig
      have d1n : decide (2147483647 < t.length) = true := decide_eq_true (by omega)
      clear hle hbig
      go_enter Tryd.func4, Tryd.ntmps4
      go_wp2_with (first | (go_at_call 5; (with_reducible refine (HF1.out _ (Below.refl _ _)).mono ?_); rintro e w1 ⟨rfl, hd⟩; have HB1 := Aside0.mk hd; clear hd))
      go_ret
      exact ⟨rfl, HB1.out⟩
    · have d1 : decide ((2147483647 : Int) < (t.length : Int)) = false := decide_eq_false hbig
      have d1n : decide (2147483647 < t.length) = false := decide_eq_false (by omega)
      obtain ⟨r2, ⟨K2, hk2⟩, hr2⟩ := good_f l0 hle
      have hf2 := hk2 K2 (Nat.le_refl _)
      have HF2 : Aside0 (∀ W1, Below W.heap.size W W1 → Calls Tryd.prog 6 #[.slice A0 l0.length c0] W1 fun e w' => e = .returned (.bool r2) ∧ Below W1.heap.size W1 w') := ⟨fun W1 hb => laws_sideGood.calls K2 A0 c0 l0 r2 W1 (Kd.C_below HC.out hb) HCc.out hf2⟩
      clear hk2 hf2
      cases r2 with
      | false =>
        clear hr2 hle hbig
        go_enter Tryd.func4, Tryd.ntmps4
        go_wp2_with (first
          | (go_at_call 5; (with_reducible refine (HF1.out _ (Below.refl _ _)).mono ?_); rintro e w1 ⟨rfl, hd⟩; have HB1 := Aside0.mk hd; clear hd)
          | (go_at_call 6; (with_reducible refine (HF2.out _ HB1.out).mono ?_); rintro e w2 ⟨rfl, hd⟩; have HB2 := Aside0.mk (below_step HB1.out hd); clear hd)
          | (go_at_call 7; (with_reducible refine (HWK.out _ HB2.out).mono ?_); rintro e w3 ⟨rfl, hd⟩; have HB3 := Aside0.mk (below_step HB2.out hd); clear hd))
        go_ret
        exact ⟨rfl, HB3.out⟩
      | true =>
        obtain ⟨hlen, hgood⟩ := hr2 rfl
        clear hr2
        by_cases ht0 : t = []
        · subst ht0
          clear hlen hgood hle hbig
          go_enter Tryd.func4, Tryd.ntmps4
          go_wp2_with (first
            | (go_at_call 5; (with_reducible refine (HF1.out _ (Below.refl _ _)).mono ?_); rintro e w1 ⟨rfl, hd⟩; have HB1 := Aside0.mk hd; clear hd)
            | (go_at_call 6; (with_reducible refine (HF2.out _ HB1.out).mono ?_); rintro e w2 ⟨rfl, hd⟩; have HB2 := Aside0.mk (below_step HB1.out hd); clear hd)
            | (go_at_call 7; (with_reducible refine (HWK.out _ HB2.out).mono ?_); rintro e w3 ⟨rfl, hd⟩; have HB3 := Aside0.mk (below_step HB2.out hd); clear hd))
          go_ret
          exact ⟨rfl, HB3.out⟩
        · have hpos : 0 < t.length := List.length_pos_iff.2 ht0
          have d2 : ((t.length : Int) == 0) = false := by rw [beq_eq_false_iff_ne]; omega
          by_cases h900 : (900 : Int) < (t.length : Int)
          · have d3 : decide ((900 : Int) < (t.length : Int)) = true := decide_eq_true h900
            have d3n : decide (900 < t.length) = true := decide_eq_true (by omega)
            clear hlen hgood hle hbig ht0 hpos h900
            go_enter Tryd.func4, Tryd.ntmps4
            go_wp2_with (first
              | (go_at_call 5; (with_reducible refine (HF1.out _ (Below.refl _ _)).mono ?_); rintro e w1 ⟨rfl, hd⟩; have HB1 := Aside0.mk hd; clear hd)
              | (go_at_call 6; (with_reducible refine (HF2.out _ HB1.out).mono ?_); rintro e w2 ⟨rfl, hd⟩; have HB2 := Aside0.mk (below_step HB1.out hd); clear hd)
              | (go_at_call 7; (with_reducible refine (HWK.out _ HB2.out).mono ?_); rintro e w3 ⟨rfl, hd⟩; have HB3 := Aside0.mk (below_step HB2.out hd); clear hd))
            go_ret
            exact ⟨rfl, HB3.out⟩
          · have d3 : decide ((900 : Int) < (t.length : Int)) = false := decide_eq_false h900
            have d3n : decide (900 < t.length) = false := decide_eq_false (by omega)
            have hok : Okk l0 t := ⟨hlen, hgood, ht0, by omega⟩
            have HOK := Aside0.mk hok
            clear hlen hgood hle hbig ht0 hpos h900 hok
            have HSM : Aside0 (∀ W1, Calls Tryd.prog 11 #[.bool wide] W1 fun e w' => e = .returned (.int .i64 (if wide then 65516 else 1000)) ∧ Drawn0 W1 w') := ⟨fun W1 => laws_sideMost.calls wide _ W1 (by cases wide <;> rfl)⟩
            obtain ⟨m0, hm0⟩ : ∃ m : Int, m = (if wide then 65516 else 1000) := ⟨_, rfl⟩
            simp only [← hm0] at HSM
            have hm1 : 1000 ≤ m0 ∧ m0 ≤ 65516 ∧ m0 ≤ mxD wide + 6 := by rw [hm0]; cases wide <;> decide
            have hm2 : m0 - 10 ≤ mxD wide := by rw [hm0]; cases wide <;> decide
            have HCL : Aside0 (∀ W1 B d, Kd.C k39 W1 B (l0.length + 1) (l0 ++ [(⟨3, t⟩ : S39)]) → Calls Tryd.prog 14 #[.slice B (l0.length + 1) d] W1 fun x w' => ∃ v, x = .returned v ∧ Kd.R (Kd.int .u8) 5 w' W1.heap.size (fun _ => True) v (enc ((l0 ++ [(⟨3, t⟩ : S39)]).map pay)) ∧ Below W1.heap.size W1 w') := ⟨fun W1 B d hB => by
              have := chunkLines (l0 ++ [(⟨3, t⟩ : S39)]) B d W1 (by rw [List.length_append]; have := HOK.out.n; simp; omega) (rng HOK.out)
              rw [List.length_append] at this
              exact this hB⟩
            have HEL := Aside0.mk (len_all HOK.out)
            obtain ⟨D, hD⟩ : ∃ D, D = enc ((l0 ++ [(⟨3, t⟩ : S39)]).map pay) := ⟨_, rfl⟩
            have hqs : (l0 ++ [(⟨3, t⟩ : S39)]).map pay = l0.map pay ++ [3 :: t] := by rw [List.map_append]; rfl
            rw [← hD] at HEL
            simp only [← hD] at HCL
            have hmw : wrap64 (m0 - 10) = m0 - 10 := by unfold wrap64; omega
            have hm1a : 1000 ≤ m0 := hm1.1
            have hm1b : m0 ≤ 65516 := hm1.2.1
            by_cases hall : ∀ q ∈ (l0 ++ [(⟨3, t⟩ : S39)]).map pay, (q.length : Int) ≤ m0 - 10
            · have HCK : Aside0 (∀ W1 B d, D.length ≤ d → Kd.C (Kd.int .u8) W1 B D.length D → Calls Tryd.prog 10 #[.slice B D.length d, .int .i64 (m0 - 10)] W1 fun x w' => ∃ n A c, x = .returned (.tuple #[.slice A n c, .bool true]) ∧ Below W1.heap.size W1 w') := ⟨fun W1 B d hd hB => by
                have := chunks ((l0 ++ [(⟨3, t⟩ : S39)]).map pay) (m0 - 11).toNat (m0 - 10) (by omega) B d W1 (by rw [← hD]; exact hd) (by rw [← hD]; exact hB) (by rw [List.length_map, List.length_append]; have := HOK.out.n; simp; omega) (fun q hq => by
                  have h1 := hall q hq
                  obtain ⟨x, hx, rfl⟩ := List.mem_map.1 hq
                  obtain ⟨r1, r2, r3⟩ := rng HOK.out x hx
                  refine ⟨x.f0, x.f1, rfl, r1, r2, ?_, by omega⟩
                  have e : (pay x).length = x.f1.length + 1 := rfl
                  rw [e] at h1
                  omega)
                rw [← hD] at this
                exact this.mono (fun e w' ⟨A, c, h1, _, _, h2⟩ => ⟨_, A, c, h1, h2⟩)⟩
              have hpk : Pks (mxD wide) (l0.map pay) t := by
                refine ⟨fun q hq => ?_, HOK.out.t0, by have := hall (3 :: t) (by rw [hqs]; simp); rw [List.length_cons] at this; omega, by have := HOK.out.t1; omega⟩
                have h1 := hall q (by rw [hqs]; exact List.mem_append_left _ hq)
                obtain ⟨x, hx, rfl⟩ := List.mem_map.1 hq
                have h2 := HOK.out.at_ x hx
                have e : (pay x).length = x.f1.length + 1 := rfl
                rw [e] at h1
                exact ⟨x.f0, x.f1, rfl, h2.1, h2.2.1, by omega, by have := h2.2.2; omega⟩
              have HT1 : Aside0 (txt 1 (l0.map pay) = chS 1 l0) := ⟨txt_pay 1 l0⟩
              have HDX : Aside0 (∀ W1 B d, Below W.heap.size W W1 → D.length ≤ d → Kd.C (Kd.int .u8) W1 B D.length D → Calls Tryd.prog 15 #[.bool wide, .slice B D.length d, .int .i64 64] W1 fun x w' => ∃ B2 d2 v, x = .returned (.tuple #[.slice B2 (chS 1 l0).length d2, v, .bool false]) ∧ (chS 1 l0).length ≤ d2 ∧ Kd.C (Kd.int .u8) w' B2 (chS 1 l0).length (chS 1 l0) ∧ Below W1.heap.size W1 w') := ⟨fun W1 B d hb hd hB => by
                have := demux wide (l0.map pay) t B D d W1 aE aU aI (by rw [hD, hqs]) hpk hB hd (HS.out.below hb) (by have := HEL.out; omega) (by rw [HT1.out]; have := chS_bound 1 l0 HOK.out.at_; have := HOK.out.n; omega)
                rw [HT1.out] at this
                exact this⟩
              have HCH : Aside0 (∀ W1, Below W.heap.size W W1 → Calls Tryd.prog 13 #[.slice A0 l0.length c0, .int .i64 1] W1 fun e w' => ∃ v0_ : Value, e = .returned (v0_) ∧ Kd.R (Kd.int .u8) 5 w' W1.heap.size (fun _ => True) v0_ (chS 1 l0) ∧ Below W1.heap.size W1 w') := ⟨fun W1 hb => by
                obtain ⟨K, hK⟩ := chan_f 1 l0 (by have := HOK.out.n; omega) (by have := chS_bound 1 l0 HOK.out.at_; have := HOK.out.n; omega)
                exact spec_ChannelText.calls K A0 c0 l0 1 _ W1 (Kd.C_below HC.out hb) HCc.out (hK K (Nat.le_refl _))⟩
              have HDS : Aside0 (∀ W1 A1 c1 A2 c2, Kd.C (Kd.int .u8) W1 A1 (chS 1 l0).length (chS 1 l0) → (chS 1 l0).length ≤ c1 → Kd.C (Kd.int .u8) W1 A2 (chS 1 l0).length (chS 1 l0) → (chS 1 l0).length ≤ c2 → Calls Tryd.prog 12 #[.slice A1 (chS 1 l0).length c1, .slice A2 (chS 1 l0).length c2] W1 fun e w' => e = .returned (.bool true) ∧ Drawn0 W1 w') := ⟨fun W1 A1 c1 A2 c2 h1 h2 h3 h4 => laws_deltaSame.calls A1 c1 (chS 1 l0) A2 c2 (chS 1 l0) true W1 h1 h2 h3 h4 (by unfold laws_deltaSame.f; simp)⟩
              clear hm0 hm1 hm2 hD hqs hall hpk
              go_enter Tryd.func4, Tryd.ntmps4
              go_wp2_with (first
                | (go_at_call 5; (with_reducible refine (HF1.out _ (Below.refl _ _)).mono ?_); rintro e w1 ⟨rfl, hd⟩; have HB1 := Aside0.mk hd; clear hd)
                | (go_at_call 6; (with_reducible refine (HF2.out _ HB1.out).mono ?_); rintro e w2 ⟨rfl, hd⟩; have HB2 := Aside0.mk (below_step HB1.out hd); clear hd)
                | ((with_reducible refine gate_dst (N := 35) rfl ?_)
                   refine Kd.R_lit (lent W k39) _ 39 ?hg (N := 35) ?hd (xs := ([] : List S39)) (inner := []) (ok := fun _ => True) (okp := fun _ => True) ?hr ?hp (fun _ hk => hk) trivial (Below.refl _ _) (Nat.le_refl _) (by simp) ?_
                   (case hd => rfl)
                   (case hg => rfl)
                   (case hr => first | (go_simp; done) | (go_simp; rfl))
                   (case hp => exact Reps.none _ _)
                   intro v35 w3 ho3 hb3 hg3 hn3
                   have HO3 := Aside0.mk (Kd.R_lower ho3 HB2.out.size)
                   have HB3 := Aside0.mk (below_step HB2.out hb3)
                   clear ho3 hb3 hg3 hn3)
                | ((with_reducible refine gate_builtin (b := .append) (xs := #[.tmp 35, .tmp 36]) rfl ?_)
                   at_builtin
                   refine Kd.R_append_rows (lent W k39) (w0 := W) W.heap.size rfl (.tmp 35) (.tmp 36) 22 39 (.agg #[.int .i64 0, .slice none 0 0]) 32 rfl Tryd.underlying22 info39 rfl (by show 0 < 2; decide) (by decide) v35 [] l0 _ _ _ (fun _ => True) (fun _ => False) rfl rfl HO3.out (lent_of_C HC.out HB3.out) (fun _ _ h => h) (fun _ h => h.elim) (fun _ _ => trivial) HB3.out HB3.out.size ?aL ?_
                   (case aL => have := HOK.out.n; simp; omega)
                   intro v37 w4 ho4 hb4 hg4 hat4
                   have HO4 : Aside0 ((lent W k39).R 39 w4 W.heap.size (fun _ => True) v37 l0) := ⟨ho4⟩
                   have HB4 := Aside0.mk hb4
                   clear ho4 hb4 hg4 hat4)
                | ((with_reducible refine gate_builtin (b := .append) (xs := #[.tmp 37, .tmp 40]) rfl ?_)
                   at_builtin
                   refine Kd.R_append (lent W k39) (w0 := W) W.heap.size rfl (.tmp 37) (.tmp 40) 22 39 (.agg #[.int .i64 0, .slice none 0 0]) 32 rfl Tryd.underlying22 info39 rfl (by show 0 < 2; decide) (by decide) v37 l0 ⟨3, t⟩ [.int .i64 3, .slice A2 t.length c2] (fun _ => True) (fun _ => False) rfl ?hx (k39_mk W ⟨3, t⟩ (A1 := A2) (c1 := c2) HCc2.out HC2.out) (fun _ h => h.elim) (fun _ _ => trivial) HO4.out HB4.out HB4.out.size ?hlen ?_
                   (case hx => first | (go_simp; done) | (simp [Act.eval]; done))
                   (case hlen => have := HOK.out.n; omega)
                   intro v41 w5 ho5 hb5 hg5 hat5
                   obtain ⟨A41, c41, rfl, hc41, hC41⟩ := Kd.R_reads ho5
                   have HC41 : Aside0 (Kd.C k39 w5 A41 (l0.length + 1) (l0 ++ [(⟨3, t⟩ : S39)])) := ⟨by have := C_of_lent hC41 hb5; rw [List.length_append] at this; exact this⟩
                   have HB5 := Aside0.mk hb5
                   clear ho5 hb5 hg5 hat5 hc41 hC41)
                | (go_at_call 14; (with_reducible refine (HCL.out _ _ _ HC41.out).mono ?_); rintro e w6 ⟨v6, rfl, hr6, hb6⟩; obtain ⟨A6, c6, rfl, hc6, hC6⟩ := Kd.R_reads hr6; have HB6 := Aside0.mk (below_step HB5.out hb6); have HC6 := Aside0.mk hC6; have HD6 := Aside0.mk hc6; clear hb6 hr6 hc6 hC6)
                | (go_at_call 11; (with_reducible refine (HSM.out _).mono ?_); rintro e w7 ⟨rfl, hd7⟩; have HB7 := Aside0.mk (below_step HB6.out (Drawn0.below hd7)); have HC7 := Aside0.mk (Kd.C_below HC6.out (Drawn0.below hd7)); clear hd7)
                | (go_at_call 10; (with_reducible refine (HCK.out _ _ _ HD6.out HC7.out).mono ?_); rintro e w8 ⟨n8, A8, c8, rfl, hb8⟩; have HB8 := Aside0.mk (below_step HB7.out hb8); have HC8 := Aside0.mk (Kd.C_below HC7.out hb8); clear hb8)
                | (go_at_call 15; (with_reducible refine (HDX.out _ _ _ HB8.out HD6.out HC8.out).mono ?_); rintro e w9 ⟨B9, d9, v9, rfl, hd9, hC9, hb9⟩; have HB9 := Aside0.mk (below_step HB8.out hb9); have HC9 := Aside0.mk hC9; have HD9 := Aside0.mk hd9; clear hb9 hC9 hd9)
                | (go_at_call 13; (with_reducible refine (HCH.out _ HB9.out).mono ?_); rintro e w10 ⟨v10, rfl, hr10, hb10⟩; obtain ⟨A10, c10, rfl, hc10, hC10⟩ := Kd.R_reads hr10; have HB10 := Aside0.mk (below_step HB9.out hb10); have HC10 := Aside0.mk hC10; have Hc10 := Aside0.mk hc10; have HC9b := Aside0.mk (Kd.C_below HC9.out hb10); clear hb10 hr10 hc10 hC10)
                | (go_at_call 12; (with_reducible refine (HDS.out _ _ _ _ _ HC9b.out HD9.out HC10.out Hc10.out).mono ?_); rintro e w11 ⟨rfl, hd11⟩; have HB11 := Aside0.mk (below_step HB10.out (Drawn0.below hd11)); clear hd11)
                | (go_at_call 7; (with_reducible refine (HWK.out _ HB11.out).mono ?_); rintro e w12 ⟨rfl, hd⟩; have HB12 := Aside0.mk (below_step HB11.out hd); clear hd)
                | fail)
              go_ret
              exact ⟨rfl, HB12.out⟩
            · have HCK : Aside0 (∀ W1 B d, D.length ≤ d → Kd.C (Kd.int .u8) W1 B D.length D → Calls Tryd.prog 10 #[.slice B D.length d, .int .i64 (m0 - 10)] W1 fun x w' => x = .returned (.tuple #[.slice none 0 0, .bool false]) ∧ Below W1.heap.size W1 w') := ⟨fun W1 B d hd hB => by
                have hbad : ∃ q ∈ (l0 ++ [(⟨3, t⟩ : S39)]).map pay, m0 - 10 < (q.length : Int) := by
                  apply Classical.byContradiction
                  intro hn
                  exact hall (fun q hq => by
                    apply Classical.byContradiction
                    intro h2
                    exact hn ⟨q, hq, by omega⟩)
                have := chunksBad ((l0 ++ [(⟨3, t⟩ : S39)]).map pay) (m0 - 10) hbad B d W1 (by rw [← hD]; exact hd) (by rw [← hD]; exact hB) (by rw [List.length_map, List.length_append]; have := HOK.out.n; simp; omega) (fun q hq => by
                  obtain ⟨x, hx, rfl⟩ := List.mem_map.1 hq
                  obtain ⟨r1, r2, r3⟩ := rng HOK.out x hx
                  exact ⟨x.f0, x.f1, rfl, r1, r2, by omega⟩)
                rw [← hD] at this
                exact this⟩
              clear hm0 hm1 hm2 hD hqs hall
              go_enter Tryd.func4, Tryd.ntmps4
              go_wp2_with (first
                | (go_at_call 5; (with_reducible refine (HF1.out _ (Below.refl _ _)).mono ?_); rintro e w1 ⟨rfl, hd⟩; have HB1 := Aside0.mk hd; clear hd)
                | (go_at_call 6; (with_reducible refine (HF2.out _ HB1.out).mono ?_); rintro e w2 ⟨rfl, hd⟩; have HB2 := Aside0.mk (below_step HB1.out hd); clear hd)
                | ((with_reducible refine gate_dst (N := 35) rfl ?_)
                   refine Kd.R_lit (lent W k39) _ 39 ?hg (N := 35) ?hd (xs := ([] : List S39)) (inner := []) (ok := fun _ => True) (okp := fun _ => True) ?hr ?hp (fun _ hk => hk) trivial (Below.refl _ _) (Nat.le_refl _) (by simp) ?_
                   (case hd => rfl)
                   (case hg => rfl)
                   (case hr => first | (go_simp; done) | (go_simp; rfl))
                   (case hp => exact Reps.none _ _)
                   intro v35 w3 ho3 hb3 hg3 hn3
                   have HO3 := Aside0.mk (Kd.R_lower ho3 HB2.out.size)
                   have HB3 := Aside0.mk (below_step HB2.out hb3)
                   clear ho3 hb3 hg3 hn3)
                | ((with_reducible refine gate_builtin (b := .append) (xs := #[.tmp 35, .tmp 36]) rfl ?_)
                   at_builtin
                   refine Kd.R_append_rows (lent W k39) (w0 := W) W.heap.size rfl (.tmp 35) (.tmp 36) 22 39 (.agg #[.int .i64 0, .slice none 0 0]) 32 rfl Tryd.underlying22 info39 rfl (by show 0 < 2; decide) (by decide) v35 [] l0 _ _ _ (fun _ => True) (fun _ => False) rfl rfl HO3.out (lent_of_C HC.out HB3.out) (fun _ _ h => h) (fun _ h => h.elim) (fun _ _ => trivial) HB3.out HB3.out.size ?aL ?_
                   (case aL => have := HOK.out.n; simp; omega)
                   intro v37 w4 ho4 hb4 hg4 hat4
                   have HO4 : Aside0 ((lent W k39).R 39 w4 W.heap.size (fun _ => True) v37 l0) := ⟨ho4⟩
                   have HB4 := Aside0.mk hb4
                   clear ho4 hb4 hg4 hat4)
                | ((with_reducible refine gate_builtin (b := .append) (xs := #[.tmp 37, .tmp 40]) rfl ?_)
                   at_builtin
                   refine Kd.R_append (lent W k39) (w0 := W) W.heap.size rfl (.tmp 37) (.tmp 40) 22 39 (.agg #[.int .i64 0, .slice none 0 0]) 32 rfl Tryd.underlying22 info39 rfl (by show 0 < 2; decide) (by decide) v37 l0 ⟨3, t⟩ [.int .i64 3, .slice A2 t.length c2] (fun _ => True) (fun _ => False) rfl ?hx (k39_mk W ⟨3, t⟩ (A1 := A2) (c1 := c2) HCc2.out HC2.out) (fun _ h => h.elim) (fun _ _ => trivial) HO4.out HB4.out HB4.out.size ?hlen ?_
                   (case hx => first | (go_simp; done) | (simp [Act.eval]; done))
                   (case hlen => have := HOK.out.n; omega)
                   intro v41 w5 ho5 hb5 hg5 hat5
                   obtain ⟨A41, c41, rfl, hc41, hC41⟩ := Kd.R_reads ho5
                   have HC41 : Aside0 (Kd.C k39 w5 A41 (l0.length + 1) (l0 ++ [(⟨3, t⟩ : S39)])) := ⟨by have := C_of_lent hC41 hb5; rw [List.length_append] at this; exact this⟩
                   have HB5 := Aside0.mk hb5
                   clear ho5 hb5 hg5 hat5 hc41 hC41)
                | (go_at_call 14; (with_reducible refine (HCL.out _ _ _ HC41.out).mono ?_); rintro e w6 ⟨v6, rfl, hr6, hb6⟩; obtain ⟨A6, c6, rfl, hc6, hC6⟩ := Kd.R_reads hr6; have HB6 := Aside0.mk (below_step HB5.out hb6); have HC6 := Aside0.mk hC6; have HD6 := Aside0.mk hc6; clear hb6 hr6 hc6 hC6)
                | (go_at_call 11; (with_reducible refine (HSM.out _).mono ?_); rintro e w7 ⟨rfl, hd7⟩; have HB7 := Aside0.mk (below_step HB6.out (Drawn0.below hd7)); have HC7 := Aside0.mk (Kd.C_below HC6.out (Drawn0.below hd7)); clear hd7)
                | (go_at_call 10; (with_reducible refine (HCK.out _ _ _ HD6.out HC7.out).mono ?_); rintro e w8 ⟨rfl, hb8⟩; have HB8 := Aside0.mk (below_step HB7.out hb8); clear hb8)
                | (go_at_call 7; (with_reducible refine (HWK.out _ HB8.out).mono ?_); rintro e w12 ⟨rfl, hd⟩; have HB12 := Aside0.mk (below_step HB8.out hd); clear hd)
                | fail)
              go_ret
              exact ⟨rfl, HB12.out⟩
#print axioms law
end Go.Proofs.YtponeoodgfgejaaDoor.WalkT
