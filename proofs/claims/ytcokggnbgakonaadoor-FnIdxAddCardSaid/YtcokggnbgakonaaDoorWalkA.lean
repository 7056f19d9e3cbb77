/- FnIdxAdd, walked. -/
import Derived.Test.YtcokggnbgakonaaDoorHandK
set_option linter.unusedVariables false
set_option linter.unusedSimpArgs false
namespace Go.Proofs.YtcokggnbgakonaaDoor.WalkA
open Go.RowKit Go.Proofs.YtcokggnbgakonaaDoorW.PrintWords Go.Proofs.YtcokggnbgakonaaDoorW.PrintLast Go.Proofs.YtcokggnbgakonaaDoorW.PrintMore Go.Proofs.YtcokggnbgakonaaDoor.QAll Go.Lib Txt Ptr HandH HandF HandI HandJ PureF HandK

theorem get31 (l : List S31) (i : Nat) (h : i < l.length) : l[i]? = some (rd_T31 l (i : Int)) := by
  unfold rd_T31
  rw [Int.toNat_natCast, List.getD_eq_getElem?_getD, List.getElem?_eq_getElem h]
  rfl
theorem fits_l (l : List S31) (hl : l.length ≤ 2147483647) : ∀ (n i : Nat), i + n = l.length → ∃ b, Ev (fun k => laws_zzFits17.l0 k l (l.length : Int) (i : Int)) b ∧ (b = true → ∀ x ∈ l.drop i, x.f8.size ≤ 2147483647 ∧ x.f9.size ≤ 2147483647)
  | 0, i, h => by
    refine ⟨true, ev_now fun m => ?_, fun _ x hx => ?_⟩
    · simp only [laws_zzFits17.l0]
      rw [if_neg (by omega)]
    · rw [List.drop_of_length_le (by omega)] at hx
      cases hx
  | n + 1, i, h => by
    have w1 : wrap64 ((i : Int) + 1) = ((i + 1 : Nat) : Int) := by rw [w64 _ (by omega) (by omega)]; push_cast; rfl
    have hi1 : (i : Int) < (l.length : Int) := by omega
    have hi0 : (0 : Int) ≤ (i : Int) := by omega
    have hg := get31 l i (by omega)
    refine ev_good (f := fun k => laws_zzFits17.l0 k l (l.length : Int) ((i + 1 : Nat) : Int)) (Q' := ∀ x ∈ l.drop (i + 1), x.f8.size ≤ 2147483647 ∧ x.f9.size ≤ 2147483647) ?_ (fits_l l hl n (i + 1) (by omega))
    simp only [laws_zzFits17.l0, hi1, hi0, w1, if_true]
    generalize rd_T31 l (i : Int) = y at hg ⊢
    have hd : l.drop i = y :: l.drop (i + 1) := by
      obtain ⟨h1, h2⟩ := List.getElem?_eq_some_iff.1 hg
      rw [List.drop_eq_getElem_cons h1, h2]
    unfold laws_zzFits18.f
    by_cases h8 : (y.f8.size : Int) > 2147483647
    · right
      intro m
      simp only [h8, if_true]
      rfl
    · by_cases h9 : (y.f9.size : Int) > 2147483647
      · right
        intro m
        simp only [h8, h9, if_true, if_false]
        rfl
      · left
        refine ⟨fun m => ?_, fun ha x hx => ?_⟩
        · simp only [h8, h9, if_false]
          rfl
        · rw [hd] at hx
          rcases List.mem_cons.1 hx with rfl | hx
          · omega
          · exact ha x hx
theorem fits (l : List S31) : ∃ b, (∃ k, laws_zzFits17.f k l = some b) ∧ (b = true → ∀ x ∈ l, x.f8.size ≤ 2147483647 ∧ x.f9.size ≤ 2147483647) := by
  by_cases hl : (l.length : Int) > 2147483647
  · exact ⟨false, ⟨0, by unfold laws_zzFits17.f; rw [if_pos hl]⟩, fun e => by cases e⟩
  · obtain ⟨b, ⟨K, hb⟩, hq⟩ := fits_l l (by omega) l.length 0 (by omega)
    exact ⟨b, ⟨K, by unfold laws_zzFits17.f; rw [if_neg hl]; exact hb K (Nat.le_refl _)⟩, fun e x hx => hq e x (by simpa using hx)⟩
theorem same_l (l : List S31) (hl : l.length ≤ 2147483647) : ∀ (n i : Nat), i + n = l.length → Ev (fun k => spec_SameFiles.l0 k l l (l.length : Int) (i : Int)) true
  | 0, i, h => by
    refine ev_now fun m => ?_
    simp only [spec_SameFiles.l0]
    rw [if_neg (by omega)]
  | n + 1, i, h => by
    have w1 : wrap64 ((i : Int) + 1) = ((i + 1 : Nat) : Int) := by rw [w64 _ (by omega) (by omega)]; push_cast; rfl
    have hi1 : (i : Int) < (l.length : Int) := by omega
    have hi0 : (0 : Int) ≤ (i : Int) := by omega
    refine ev_round (same_l l hl n (i + 1) (by omega)) fun m hm => ?_
    simp only [spec_SameFiles.l0, hi1, hi0, w1, if_true]
    rw [if_neg (by simp)]
    exact hm
theorem same (l : List S31) (hl : l.length ≤ 2147483647) : ∃ k, spec_SameFiles.f k l l = some true := by
  obtain ⟨K, hb⟩ := same_l l hl l.length 0 (by omega)
  exact ⟨K, by unfold spec_SameFiles.f; rw [if_pos rfl]; exact hb K (Nat.le_refl _)⟩

/-- What the answer of AreFiles says. -/
def Good (l : List S31) (b : Bool) : Prop := b = true → l.length ≤ 1000 ∧ ∀ x ∈ l, Plain x
theorem Good.ok {l : List S31} (h : Good l true) : l.length ≤ 1000 ∧ ∀ x ∈ l, Plain x := h rfl

set_option maxHeartbeats 8000000 in
set_option maxRecDepth 100000 in
theorem law (A0 : Option Addr) (c0 : Nat) (l0 : List S31) (a1 : ByteArray) (w : World) (ev : Value) (hr0 : Kd.C k31 w A0 l0.length l0) (hc0 : l0.length ≤ c0) (hl0 : l0.length ≤ 140737488351232) (ha1 : a1.size ≤ 140737488351232) (hE : w.cell? ⟨0, 0, none⟩ = some ev) :
    Calls Tryd.prog 3 #[.slice A0 l0.length c0, .string a1] w fun e w' => e = .returned (.bool true) ∧ Below w.heap.size w w' := by
  obtain ⟨b4, ⟨k4, h4⟩, h4q⟩ := fits l0
  have HF := Aside0.mk (fun W (hb : Below w.heap.size w W) => laws_zzFits17.calls k4 A0 c0 l0 b4 W (Kd.C_below hr0 hb) hc0 h4)
  have H4Q := Aside0.mk h4q
  have HR0 := Aside0.mk hr0
  have HC0 := Aside0.mk hc0
  have HE : Aside0 (∀ W, Below w.heap.size w W → W.cell? ⟨0, 0, none⟩ = some ev) := ⟨fun W hb => pw_cell_below hb hE⟩
  clear h4 h4q hr0 hc0 hE
  cases b4 with
  | false =>
    clear H4Q
    go_enter Tryd.func3, Tryd.ntmps3
    go_wp2_with (first
      | (go_at_call 4; (with_reducible refine (HF.out _ (Below.refl _ _)).mono ?_); rintro e w1 ⟨rfl, hb⟩; have HB1 := Aside0.mk hb; clear hb))
    go_ret
    exact ⟨rfl, HB1.out⟩
  | true =>
    by_cases hsz : a1.size ≤ 2147483647
    rotate_left
    · have d1 : decide (2147483647 < (a1.size : Int)) = true := decide_eq_true (by omega)
      have d2 : decide (2147483647 < a1.size) = true := decide_eq_true (by omega)
      clear hsz
      go_enter Tryd.func3, Tryd.ntmps3
      go_wp2_with (first
        | (go_at_call 4; (with_reducible refine (HF.out _ (Below.refl _ _)).mono ?_); rintro e w1 ⟨rfl, hb⟩; have HB1 := Aside0.mk hb; clear hb))
      go_ret
      exact ⟨rfl, HB1.out⟩
    have d1 : decide (2147483647 < (a1.size : Int)) = false := decide_eq_false (by omega)
    have d2 : decide (2147483647 < a1.size) = false := decide_eq_false (by omega)
    obtain ⟨b6, k6, h6⟩ := fileName a1 hsz
    have H6 := Aside0.mk (fun W => spec_IsFileName.calls k6 a1 b6 W (h6 k6 (Nat.le_refl _)))
    have HAR := Aside0.mk (fun W (hb : Below w.heap.size w W) => areFiles A0 c0 l0 W (Kd.C_below HR0.out hb) HC0.out (H4Q.out rfl))
    clear hsz h6
    cases b6 with
    | false =>
      go_enter Tryd.func3, Tryd.ntmps3
      go_wp2_with (first
        | (go_at_call 4; (with_reducible refine (HF.out _ (Below.refl _ _)).mono ?_); rintro e w1 ⟨rfl, hb⟩; have HB1 := Aside0.mk hb; clear hb)
        | (go_at_call 5; (with_reducible refine (HAR.out _ HB1.out).mono ?_); rintro e w2 ⟨b, rfl, hbq, hb⟩; have HB2 : Aside0 (Below w.heap.size w w2) := ⟨HB1.out.trans (hb.mono HB1.out.size)⟩; have HBQ : Aside0 (Good l0 b) := ⟨hbq⟩; clear hb hbq; cases b)
        | (go_at_call 6; (with_reducible refine (H6.out _).mono ?_); rintro e w3 ⟨rfl, hb⟩; have HB3 : Aside0 (Below w.heap.size w w3) := ⟨HB2.out.trans ((Drawn0.below hb).mono HB2.out.size)⟩; clear hb))
      · go_ret
        exact ⟨rfl, HB2.out⟩
      · go_ret
        exact ⟨rfl, HB3.out⟩
    | true =>
      go_enter Tryd.func3, Tryd.ntmps3
      go_wp2_with (first
        | (go_at_call 4; (with_reducible refine (HF.out _ (Below.refl _ _)).mono ?_); rintro e w1 ⟨rfl, hb⟩; have HB1 := Aside0.mk hb; clear hb)
        | (go_at_call 5; (with_reducible refine (HAR.out _ HB1.out).mono ?_); rintro e w2 ⟨b, rfl, hbq, hb⟩; have HB2 : Aside0 (Below w.heap.size w w2) := ⟨HB1.out.trans (hb.mono HB1.out.size)⟩; have HBQ : Aside0 (Good l0 b) := ⟨hbq⟩; clear hb hbq; cases b)
        | (go_at_call 6; (with_reducible refine (H6.out _).mono ?_); rintro e w3 ⟨rfl, hb⟩; have HB3 : Aside0 (Below w.heap.size w w3) := ⟨HB2.out.trans ((Drawn0.below hb).mono HB2.out.size)⟩; clear hb)
        | (go_at_call 7; (with_reducible refine (addFile A0 c0 l0 a1 (file0 a1) ev _ (Kd.C_below HR0.out HB3.out) HC0.out HBQ.out.ok.1 (fun x hx => (HBQ.out.ok.2 x hx).fit) (fun x hx => (HBQ.out.ok.2 x hx).ent) (ent_file0 a1) (HE.out _ HB3.out)).mono ?_); rintro e w4 ⟨v, rfl, hr, hb⟩
           obtain ⟨A1, c1, rfl, hcl1, hC1⟩ := Kd.R_reads hr
           have hn : (l0 ++ [file0 a1]).length = l0.length + 1 := by simp
           obtain ⟨ad, e1, y0, y1, y2, y3, y4, y5, y6, y7, y8, y9, y10, y11, y12, y13, y14⟩ := at_T31 hC1 (l0.length : Int) (by omega) (by rw [hn]; omega)
           subst e1
           have hy : (rd_T31 (l0 ++ [file0 a1]) (l0.length : Int)).f9 = a1 := by unfold rd_T31; rw [Int.toNat_natCast, List.getD_eq_getElem?_getD, List.getElem?_append_right (Nat.le_refl _), Nat.sub_self]; rfl
           rw [hy, Int.toNat_natCast] at y11
           have hlen := HBQ.out.ok.1
           have hT := Kd.C_take (m := l0.length) hC1 (by rw [hn]; omega)
           rw [List.take_left'  rfl] at hT
           obtain ⟨k8, h8⟩ := same l0 (by omega)
           have HB4 : Aside0 (Below w.heap.size w w4) := ⟨HB3.out.trans (hb.mono HB3.out.size)⟩
           have H8 := Aside0.mk (spec_SameFiles.calls k8 (some ad) c1 l0 A0 c0 l0 true w4 hT (by omega) (Kd.C_below HR0.out HB4.out) HC0.out h8)
           have HY := Aside0.mk y11
           have hc1n : l0.length + 1 ≤ c1 := by omega
           rw [hn]
           have hi1 : (l0.length : Int) ≤ 1000 := by omega
           clear hr hb hC1 hT h8 y0 y1 y2 y3 y4 y5 y6 y7 y8 y9 y10 y11 y12 y13 y14 hy hn hcl1 hlen)
        | (go_at_call 8; (with_reducible refine H8.out.mono ?_); rintro e w5 ⟨rfl, hb⟩; have HB5 : Aside0 (Below w.heap.size w w5) := ⟨HB4.out.trans ((Drawn0.below hb).mono HB4.out.size)⟩; have hy5 := pw_cell_below (Drawn0.below hb) HY.out; clear hb))
      · go_ret
        exact ⟨rfl, HB2.out⟩
      · go_ret
        exact ⟨rfl, HB5.out⟩
#print axioms law
end Go.Proofs.YtcokggnbgakonaaDoor.WalkA
