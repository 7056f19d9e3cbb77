/- FnConfOthers, walked. -/
import Derived.Test.YtacndeejapfkiaaDoorHandU
import Derived.Test.YtacndeejapfkiaaDoorWalkL
set_option linter.unusedVariables false
set_option linter.unusedSimpArgs false
namespace Go.Proofs.YtacndeejapfkiaaDoor.WalkM
open Go.RowKit Go.Proofs.YtacndeejapfkiaaDoorW.PrintWords Go.Proofs.YtacndeejapfkiaaDoorW.PrintLast Go.Proofs.YtacndeejapfkiaaDoorW.PrintMore Go.Proofs.YtacndeejapfkiaaDoor.QAll Txt Ptr SepK HandA HandB HandC HandD HandE HandF HandG HandH HandK PureS PureT WalkC WalkG WalkL HandN HandO HandP HandQ HandR HandS HandT PureU HandU

theorem beq_ne {a b : ByteArray} (h : a ≠ b) : (a.toList == b.toList) = false := by
  cases hh : a.toList == b.toList with
  | false => rfl
  | true => exact absurd (ba_ext (eq_of_beq hh)) h
theorem beq_eq {a b : ByteArray} (h : a = b) : (a.toList == b.toList) = true := by rw [h]; exact beq_self_eq_true _
/-- What is asked of a list got from l: that the option has the values that it had. -/
theorem gets {l l2 : List S36} {sec sub key whr part oth : ByteArray} {f : List S42 → List S42} {os0 : List S42} (ha : Apart l) (h : Upd l sec sub f l2) (hf : Mild f key) (hne : ¬ (sec = whr ∧ sub = part ∧ key = oth)) (hs : SpecOpt l whr part os0) : ∀ os, OptIs l2 whr whr part os → vals os oth = vals os0 oth := by
  intro os ho
  obtain ⟨os1, h1, e⟩ := upd_get h hf hne ho
  rw [e, same_options ha h1 hs]

set_option maxHeartbeats 16000000 in
set_option maxRecDepth 100000 in
theorem law (A : Option Addr) (c : Nat) (l : List S36) (sec sub key val whr part oth : ByteArray) (w : World) (hC : Kd.C k36 w A l.length l) (hc : l.length ≤ c) (hz : SzS l) :
    Calls Tryd.prog 4 #[.slice A l.length c, .string sec, .string sub, .string key, .string val, .string whr, .string part, .string oth] w fun e w' => e = .returned (.bool true) ∧ Below w.heap.size w w' := by
  obtain ⟨b5, k5, h5⟩ := fits l
  have HF := Aside0.mk (fun W (hb : Below w.heap.size w W) => laws_zzFits1.calls k5 A c l b5 W (Kd.C_below hC hb) hc h5)
  have HCC := Aside0.mk hC
  have HC0 := Aside0.mk hc
  have HSZ := Aside0.mk hz
  clear h5 hC hc hz
  cases b5 with
  | false =>
    go_enter Tryd.func4, Tryd.ntmps4
    go_wp2_with (first
      | (go_at_call 5; (with_reducible refine (HF.out _ (Below.refl _ _)).mono ?_); rintro e w1 ⟨rfl, hb⟩; have HB1 := Aside0.mk hb; clear hb)
      )
    go_ret
    exact ⟨rfl, HB1.out⟩
  | true =>
    by_cases hs1 : sec.size ≤ 2147483647
    rotate_left
    · have d1 : decide (2147483647 < (sec.size : Int)) = true := decide_eq_true (by omega)
      have e1 : decide (2147483647 < sec.size) = true := decide_eq_true (by omega)
      clear hs1
      go_enter Tryd.func4, Tryd.ntmps4
      go_wp2_with (first
        | (go_at_call 5; (with_reducible refine (HF.out _ (Below.refl _ _)).mono ?_); rintro e w1 ⟨rfl, hb⟩; have HB1 := Aside0.mk hb; clear hb)
        )
      go_ret
      exact ⟨rfl, HB1.out⟩
    have d1 : decide (2147483647 < (sec.size : Int)) = false := decide_eq_false (by omega)
    have e1 : decide (2147483647 < sec.size) = false := decide_eq_false (by omega)
    have HS1 := Aside0.mk hs1
    clear hs1
    by_cases hs2 : sub.size ≤ 2147483647
    rotate_left
    · have d2 : decide (2147483647 < (sub.size : Int)) = true := decide_eq_true (by omega)
      have e2 : decide (2147483647 < sub.size) = true := decide_eq_true (by omega)
      clear hs2
      go_enter Tryd.func4, Tryd.ntmps4
      go_wp2_with (first
        | (go_at_call 5; (with_reducible refine (HF.out _ (Below.refl _ _)).mono ?_); rintro e w1 ⟨rfl, hb⟩; have HB1 := Aside0.mk hb; clear hb)
        )
      go_ret
      exact ⟨rfl, HB1.out⟩
    have d2 : decide (2147483647 < (sub.size : Int)) = false := decide_eq_false (by omega)
    have e2 : decide (2147483647 < sub.size) = false := decide_eq_false (by omega)
    have HS2 := Aside0.mk hs2
    clear hs2
    by_cases hs3 : key.size ≤ 2147483647
    rotate_left
    · have d3 : decide (2147483647 < (key.size : Int)) = true := decide_eq_true (by omega)
      have e3 : decide (2147483647 < key.size) = true := decide_eq_true (by omega)
      clear hs3
      go_enter Tryd.func4, Tryd.ntmps4
      go_wp2_with (first
        | (go_at_call 5; (with_reducible refine (HF.out _ (Below.refl _ _)).mono ?_); rintro e w1 ⟨rfl, hb⟩; have HB1 := Aside0.mk hb; clear hb)
        )
      go_ret
      exact ⟨rfl, HB1.out⟩
    have d3 : decide (2147483647 < (key.size : Int)) = false := decide_eq_false (by omega)
    have e3 : decide (2147483647 < key.size) = false := decide_eq_false (by omega)
    have HS3 := Aside0.mk hs3
    clear hs3
    by_cases hs4 : val.size ≤ 2147483647
    rotate_left
    · have d4 : decide (2147483647 < (val.size : Int)) = true := decide_eq_true (by omega)
      have e4 : decide (2147483647 < val.size) = true := decide_eq_true (by omega)
      clear hs4
      go_enter Tryd.func4, Tryd.ntmps4
      go_wp2_with (first
        | (go_at_call 5; (with_reducible refine (HF.out _ (Below.refl _ _)).mono ?_); rintro e w1 ⟨rfl, hb⟩; have HB1 := Aside0.mk hb; clear hb)
        )
      go_ret
      exact ⟨rfl, HB1.out⟩
    have d4 : decide (2147483647 < (val.size : Int)) = false := decide_eq_false (by omega)
    have e4 : decide (2147483647 < val.size) = false := decide_eq_false (by omega)
    have HS4 := Aside0.mk hs4
    clear hs4
    by_cases hs5 : whr.size ≤ 2147483647
    rotate_left
    · have d5 : decide (2147483647 < (whr.size : Int)) = true := decide_eq_true (by omega)
      have e5 : decide (2147483647 < whr.size) = true := decide_eq_true (by omega)
      clear hs5
      go_enter Tryd.func4, Tryd.ntmps4
      go_wp2_with (first
        | (go_at_call 5; (with_reducible refine (HF.out _ (Below.refl _ _)).mono ?_); rintro e w1 ⟨rfl, hb⟩; have HB1 := Aside0.mk hb; clear hb)
        )
      go_ret
      exact ⟨rfl, HB1.out⟩
    have d5 : decide (2147483647 < (whr.size : Int)) = false := decide_eq_false (by omega)
    have e5 : decide (2147483647 < whr.size) = false := decide_eq_false (by omega)
    have HS5 := Aside0.mk hs5
    clear hs5
    by_cases hs6 : part.size ≤ 2147483647
    rotate_left
    · have d6 : decide (2147483647 < (part.size : Int)) = true := decide_eq_true (by omega)
      have e6 : decide (2147483647 < part.size) = true := decide_eq_true (by omega)
      clear hs6
      go_enter Tryd.func4, Tryd.ntmps4
      go_wp2_with (first
        | (go_at_call 5; (with_reducible refine (HF.out _ (Below.refl _ _)).mono ?_); rintro e w1 ⟨rfl, hb⟩; have HB1 := Aside0.mk hb; clear hb)
        )
      go_ret
      exact ⟨rfl, HB1.out⟩
    have d6 : decide (2147483647 < (part.size : Int)) = false := decide_eq_false (by omega)
    have e6 : decide (2147483647 < part.size) = false := decide_eq_false (by omega)
    have HS6 := Aside0.mk hs6
    clear hs6
    by_cases hs7 : oth.size ≤ 2147483647
    rotate_left
    · have d7 : decide (2147483647 < (oth.size : Int)) = true := decide_eq_true (by omega)
      have e7 : decide (2147483647 < oth.size) = true := decide_eq_true (by omega)
      clear hs7
      go_enter Tryd.func4, Tryd.ntmps4
      go_wp2_with (first
        | (go_at_call 5; (with_reducible refine (HF.out _ (Below.refl _ _)).mono ?_); rintro e w1 ⟨rfl, hb⟩; have HB1 := Aside0.mk hb; clear hb)
        )
      go_ret
      exact ⟨rfl, HB1.out⟩
    have d7 : decide (2147483647 < (oth.size : Int)) = false := decide_eq_false (by omega)
    have e7 : decide (2147483647 < oth.size) = false := decide_eq_false (by omega)
    have HS7 := Aside0.mk hs7
    clear hs7
    by_cases e1 : sec = whr
    rotate_left
    · have HNE : Aside0 (¬ (sec = whr ∧ sub = part ∧ key = oth)) := ⟨fun h => e1 h.1⟩
      have q1 := beq_ne e1
      clear e1
      go_enter Tryd.func4, Tryd.ntmps4
      go_wp2_with (first
        | (go_at_call 5; (with_reducible refine (HF.out _ (Below.refl _ _)).mono ?_); rintro e w1 ⟨rfl, hb⟩; have HB1 := Aside0.mk hb; clear hb)
        | (go_at_call 6; (with_reducible refine (cfAre A c l sec sub key val _ (Kd.C_below HCC.out HB1.out) HC0.out HSZ.out (by have := HS1.out; omega) (by have := HS2.out; omega) (by have := HS3.out; omega) (by have := HS4.out; omega)).mono ?_); rintro e w2 ⟨b2, rfl, hbq, hb⟩; have HB2 : Aside0 (Below w.heap.size w w2) := ⟨HB1.out.trans ((hb).mono HB1.out.size)⟩; have HQ1 : Aside0 (WalkL.Good l sec sub key b2) := ⟨hbq⟩; clear hb hbq; cases b2)
        | (go_at_call 6; (with_reducible refine (cfAre A c l whr part oth val _ (Kd.C_below HCC.out HB2.out) HC0.out HSZ.out (by have := HS5.out; omega) (by have := HS6.out; omega) (by have := HS7.out; omega) (by have := HS4.out; omega)).mono ?_); rintro e w3 ⟨b3, rfl, hbq, hb⟩; have HB3 : Aside0 (Below w.heap.size w w3) := ⟨HB2.out.trans ((hb).mono HB2.out.size)⟩; have HQ2 : Aside0 (WalkL.Good l whr part oth b3) := ⟨hbq⟩; clear hb hbq; cases b3)
        | (go_at_call 10; (with_reducible refine (optionsOf_ A c l whr part w3 (Kd.C_below HCC.out HB3.out) HC0.out HQ2.out.ok.z.sized).mono ?_); rintro e w5 ⟨os, B, b, rfl, hlb, hcs, hso, hb⟩
           have HB5 : Aside0 (Below w.heap.size w w5) := ⟨HB3.out.trans ((hb).mono HB3.out.size)⟩
           obtain ⟨k9, h9⟩ := values os oth (spec_len HQ2.out.ok.z hso)
           have HVC := Aside0.mk (spec_Values.calls k9 B b os oth (vals os oth) w5 (hcs w5 hb) hlb h9)
           have HSO := Aside0.mk hso
           clear h9 hcs hso hb hlb)
        | (go_at_call 9; (with_reducible refine HVC.out.mono ?_); rintro e w6 ⟨v, rfl, hr, hb⟩
           obtain ⟨A6, c6, rfl, hl6, hC6⟩ := Kd.R_reads hr
           have HB6 : Aside0 (Below w.heap.size w w6) := ⟨HB5.out.trans ((hb).mono HB5.out.size)⟩
           have HC6 := Aside0.mk hC6
           have HL6 := Aside0.mk hl6
           clear hr hb hl6 hC6)
        | (go_at_call 11; (with_reducible refine (implSet A c l sec sub key val w6 (Kd.C_below HCC.out HB6.out) HC0.out HQ1.out.ok.z HQ1.out.ok.n HQ1.out.ok.s HQ1.out.ok.k).mono ?_); rintro e w7 ⟨v, l2, rfl, hr, hu, hb⟩
           obtain ⟨A7, c7, rfl, hl, hC⟩ := Kd.R_reads hr
           have HB7 : Aside0 (Below w.heap.size w w7) := ⟨HB6.out.trans ((hb).mono HB6.out.size)⟩
           have hw6 : Kd.C Kd.string w7 A6 (vals os oth).length (vals os oth) := Kd.C_below HC6.out hb
           have HB67 : Aside0 (Below w6.heap.size w6 w7) := ⟨hb⟩
           have HG7 := Aside0.mk (cfGets A7 c7 l2 whr whr part oth oth A6 c6 (vals os oth) w7 hC hl (upd_sized hu (mild_set key val) HQ1.out.ok.z) (upd_named hu (mild_set key val) HQ1.out.ok.n HQ1.out.ok.s HQ1.out.ok.k) HQ2.out.ok.s (FoldL.refl _) HQ2.out.ok.k (FoldL.refl _) hw6 HL6.out (Nat.le_trans (vals_len _ _) (Nat.le_trans (spec_len HQ2.out.ok.z HSO.out) (by omega))) (gets HQ1.out.ok.a hu (mild_set key val) HNE.out HSO.out))
           clear hr hb hl hC hu hw6)
        | (go_at_call 7; (with_reducible refine HG7.out.mono ?_); rintro e w8 ⟨rfl, hb⟩; have HB8 : Aside0 (Below w.heap.size w w8) := ⟨HB7.out.trans ((hb).mono HB7.out.size)⟩; have HB78 : Aside0 (Below w7.heap.size w7 w8) := ⟨hb⟩; clear hb)
        | (go_at_call 12; (with_reducible refine (implAdd A c l sec sub key val w8 (Kd.C_below HCC.out HB8.out) HC0.out HQ1.out.ok.z HQ1.out.ok.n HQ1.out.ok.s HQ1.out.ok.k).mono ?_); rintro e w9 ⟨v, l3, rfl, hr, hu, hb⟩
           obtain ⟨A9, c9, rfl, hl, hC⟩ := Kd.R_reads hr
           have HB9 : Aside0 (Below w.heap.size w w9) := ⟨HB8.out.trans ((hb).mono HB8.out.size)⟩
           have hw6 : Kd.C Kd.string w9 A6 (vals os oth).length (vals os oth) := Kd.C_below HC6.out ((HB67.out.trans (HB78.out.mono HB67.out.size)).trans (hb.mono (HB67.out.trans (HB78.out.mono HB67.out.size)).size))
           have HG9 := Aside0.mk (cfGets A9 c9 l3 whr whr part oth oth A6 c6 (vals os oth) w9 hC hl (upd_sized hu (mild_add key val) HQ1.out.ok.z) (upd_named hu (mild_add key val) HQ1.out.ok.n HQ1.out.ok.s HQ1.out.ok.k) HQ2.out.ok.s (FoldL.refl _) HQ2.out.ok.k (FoldL.refl _) hw6 HL6.out (Nat.le_trans (vals_len _ _) (Nat.le_trans (spec_len HQ2.out.ok.z HSO.out) (by omega))) (gets HQ1.out.ok.a hu (mild_add key val) HNE.out HSO.out))
           clear hr hb hl hC hu hw6)
        | (go_at_call 7; (with_reducible refine HG9.out.mono ?_); rintro e w10 ⟨rfl, hb⟩; have HB10 : Aside0 (Below w.heap.size w w10) := ⟨HB9.out.trans ((hb).mono HB9.out.size)⟩; clear hb)
        )
      · go_ret
        exact ⟨rfl, HB2.out⟩
      · go_ret
        exact ⟨rfl, HB3.out⟩
      · go_ret
        exact ⟨rfl, HB10.out⟩
    have q1 := beq_eq e1
    clear e1
    by_cases e2 : sub = part
    rotate_left
    · have HNE : Aside0 (¬ (sec = whr ∧ sub = part ∧ key = oth)) := ⟨fun h => e2 h.2.1⟩
      have q2 := beq_ne e2
      clear e2
      go_enter Tryd.func4, Tryd.ntmps4
      go_wp2_with (first
        | (go_at_call 5; (with_reducible refine (HF.out _ (Below.refl _ _)).mono ?_); rintro e w1 ⟨rfl, hb⟩; have HB1 := Aside0.mk hb; clear hb)
        | (go_at_call 6; (with_reducible refine (cfAre A c l sec sub key val _ (Kd.C_below HCC.out HB1.out) HC0.out HSZ.out (by have := HS1.out; omega) (by have := HS2.out; omega) (by have := HS3.out; omega) (by have := HS4.out; omega)).mono ?_); rintro e w2 ⟨b2, rfl, hbq, hb⟩; have HB2 : Aside0 (Below w.heap.size w w2) := ⟨HB1.out.trans ((hb).mono HB1.out.size)⟩; have HQ1 : Aside0 (WalkL.Good l sec sub key b2) := ⟨hbq⟩; clear hb hbq; cases b2)
        | (go_at_call 6; (with_reducible refine (cfAre A c l whr part oth val _ (Kd.C_below HCC.out HB2.out) HC0.out HSZ.out (by have := HS5.out; omega) (by have := HS6.out; omega) (by have := HS7.out; omega) (by have := HS4.out; omega)).mono ?_); rintro e w3 ⟨b3, rfl, hbq, hb⟩; have HB3 : Aside0 (Below w.heap.size w w3) := ⟨HB2.out.trans ((hb).mono HB2.out.size)⟩; have HQ2 : Aside0 (WalkL.Good l whr part oth b3) := ⟨hbq⟩; clear hb hbq; cases b3)
        | (go_at_call 10; (with_reducible refine (optionsOf_ A c l whr part w3 (Kd.C_below HCC.out HB3.out) HC0.out HQ2.out.ok.z.sized).mono ?_); rintro e w5 ⟨os, B, b, rfl, hlb, hcs, hso, hb⟩
           have HB5 : Aside0 (Below w.heap.size w w5) := ⟨HB3.out.trans ((hb).mono HB3.out.size)⟩
           obtain ⟨k9, h9⟩ := values os oth (spec_len HQ2.out.ok.z hso)
           have HVC := Aside0.mk (spec_Values.calls k9 B b os oth (vals os oth) w5 (hcs w5 hb) hlb h9)
           have HSO := Aside0.mk hso
           clear h9 hcs hso hb hlb)
        | (go_at_call 9; (with_reducible refine HVC.out.mono ?_); rintro e w6 ⟨v, rfl, hr, hb⟩
           obtain ⟨A6, c6, rfl, hl6, hC6⟩ := Kd.R_reads hr
           have HB6 : Aside0 (Below w.heap.size w w6) := ⟨HB5.out.trans ((hb).mono HB5.out.size)⟩
           have HC6 := Aside0.mk hC6
           have HL6 := Aside0.mk hl6
           clear hr hb hl6 hC6)
        | (go_at_call 11; (with_reducible refine (implSet A c l sec sub key val w6 (Kd.C_below HCC.out HB6.out) HC0.out HQ1.out.ok.z HQ1.out.ok.n HQ1.out.ok.s HQ1.out.ok.k).mono ?_); rintro e w7 ⟨v, l2, rfl, hr, hu, hb⟩
           obtain ⟨A7, c7, rfl, hl, hC⟩ := Kd.R_reads hr
           have HB7 : Aside0 (Below w.heap.size w w7) := ⟨HB6.out.trans ((hb).mono HB6.out.size)⟩
           have hw6 : Kd.C Kd.string w7 A6 (vals os oth).length (vals os oth) := Kd.C_below HC6.out hb
           have HB67 : Aside0 (Below w6.heap.size w6 w7) := ⟨hb⟩
           have HG7 := Aside0.mk (cfGets A7 c7 l2 whr whr part oth oth A6 c6 (vals os oth) w7 hC hl (upd_sized hu (mild_set key val) HQ1.out.ok.z) (upd_named hu (mild_set key val) HQ1.out.ok.n HQ1.out.ok.s HQ1.out.ok.k) HQ2.out.ok.s (FoldL.refl _) HQ2.out.ok.k (FoldL.refl _) hw6 HL6.out (Nat.le_trans (vals_len _ _) (Nat.le_trans (spec_len HQ2.out.ok.z HSO.out) (by omega))) (gets HQ1.out.ok.a hu (mild_set key val) HNE.out HSO.out))
           clear hr hb hl hC hu hw6)
        | (go_at_call 7; (with_reducible refine HG7.out.mono ?_); rintro e w8 ⟨rfl, hb⟩; have HB8 : Aside0 (Below w.heap.size w w8) := ⟨HB7.out.trans ((hb).mono HB7.out.size)⟩; have HB78 : Aside0 (Below w7.heap.size w7 w8) := ⟨hb⟩; clear hb)
        | (go_at_call 12; (with_reducible refine (implAdd A c l sec sub key val w8 (Kd.C_below HCC.out HB8.out) HC0.out HQ1.out.ok.z HQ1.out.ok.n HQ1.out.ok.s HQ1.out.ok.k).mono ?_); rintro e w9 ⟨v, l3, rfl, hr, hu, hb⟩
           obtain ⟨A9, c9, rfl, hl, hC⟩ := Kd.R_reads hr
           have HB9 : Aside0 (Below w.heap.size w w9) := ⟨HB8.out.trans ((hb).mono HB8.out.size)⟩
           have hw6 : Kd.C Kd.string w9 A6 (vals os oth).length (vals os oth) := Kd.C_below HC6.out ((HB67.out.trans (HB78.out.mono HB67.out.size)).trans (hb.mono (HB67.out.trans (HB78.out.mono HB67.out.size)).size))
           have HG9 := Aside0.mk (cfGets A9 c9 l3 whr whr part oth oth A6 c6 (vals os oth) w9 hC hl (upd_sized hu (mild_add key val) HQ1.out.ok.z) (upd_named hu (mild_add key val) HQ1.out.ok.n HQ1.out.ok.s HQ1.out.ok.k) HQ2.out.ok.s (FoldL.refl _) HQ2.out.ok.k (FoldL.refl _) hw6 HL6.out (Nat.le_trans (vals_len _ _) (Nat.le_trans (spec_len HQ2.out.ok.z HSO.out) (by omega))) (gets HQ1.out.ok.a hu (mild_add key val) HNE.out HSO.out))
           clear hr hb hl hC hu hw6)
        | (go_at_call 7; (with_reducible refine HG9.out.mono ?_); rintro e w10 ⟨rfl, hb⟩; have HB10 : Aside0 (Below w.heap.size w w10) := ⟨HB9.out.trans ((hb).mono HB9.out.size)⟩; clear hb)
        )
      · go_ret
        exact ⟨rfl, HB2.out⟩
      · go_ret
        exact ⟨rfl, HB3.out⟩
      · go_ret
        exact ⟨rfl, HB10.out⟩
    have q2 := beq_eq e2
    clear e2
    by_cases e3 : key = oth
    rotate_left
    · have HNE : Aside0 (¬ (sec = whr ∧ sub = part ∧ key = oth)) := ⟨fun h => e3 h.2.2⟩
      have q3 := beq_ne e3
      clear e3
      go_enter Tryd.func4, Tryd.ntmps4
      go_wp2_with (first
        | (go_at_call 5; (with_reducible refine (HF.out _ (Below.refl _ _)).mono ?_); rintro e w1 ⟨rfl, hb⟩; have HB1 := Aside0.mk hb; clear hb)
        | (go_at_call 6; (with_reducible refine (cfAre A c l sec sub key val _ (Kd.C_below HCC.out HB1.out) HC0.out HSZ.out (by have := HS1.out; omega) (by have := HS2.out; omega) (by have := HS3.out; omega) (by have := HS4.out; omega)).mono ?_); rintro e w2 ⟨b2, rfl, hbq, hb⟩; have HB2 : Aside0 (Below w.heap.size w w2) := ⟨HB1.out.trans ((hb).mono HB1.out.size)⟩; have HQ1 : Aside0 (WalkL.Good l sec sub key b2) := ⟨hbq⟩; clear hb hbq; cases b2)
        | (go_at_call 6; (with_reducible refine (cfAre A c l whr part oth val _ (Kd.C_below HCC.out HB2.out) HC0.out HSZ.out (by have := HS5.out; omega) (by have := HS6.out; omega) (by have := HS7.out; omega) (by have := HS4.out; omega)).mono ?_); rintro e w3 ⟨b3, rfl, hbq, hb⟩; have HB3 : Aside0 (Below w.heap.size w w3) := ⟨HB2.out.trans ((hb).mono HB2.out.size)⟩; have HQ2 : Aside0 (WalkL.Good l whr part oth b3) := ⟨hbq⟩; clear hb hbq; cases b3)
        | (go_at_call 10; (with_reducible refine (optionsOf_ A c l whr part w3 (Kd.C_below HCC.out HB3.out) HC0.out HQ2.out.ok.z.sized).mono ?_); rintro e w5 ⟨os, B, b, rfl, hlb, hcs, hso, hb⟩
           have HB5 : Aside0 (Below w.heap.size w w5) := ⟨HB3.out.trans ((hb).mono HB3.out.size)⟩
           obtain ⟨k9, h9⟩ := values os oth (spec_len HQ2.out.ok.z hso)
           have HVC := Aside0.mk (spec_Values.calls k9 B b os oth (vals os oth) w5 (hcs w5 hb) hlb h9)
           have HSO := Aside0.mk hso
           clear h9 hcs hso hb hlb)
        | (go_at_call 9; (with_reducible refine HVC.out.mono ?_); rintro e w6 ⟨v, rfl, hr, hb⟩
           obtain ⟨A6, c6, rfl, hl6, hC6⟩ := Kd.R_reads hr
           have HB6 : Aside0 (Below w.heap.size w w6) := ⟨HB5.out.trans ((hb).mono HB5.out.size)⟩
           have HC6 := Aside0.mk hC6
           have HL6 := Aside0.mk hl6
           clear hr hb hl6 hC6)
        | (go_at_call 11; (with_reducible refine (implSet A c l sec sub key val w6 (Kd.C_below HCC.out HB6.out) HC0.out HQ1.out.ok.z HQ1.out.ok.n HQ1.out.ok.s HQ1.out.ok.k).mono ?_); rintro e w7 ⟨v, l2, rfl, hr, hu, hb⟩
           obtain ⟨A7, c7, rfl, hl, hC⟩ := Kd.R_reads hr
           have HB7 : Aside0 (Below w.heap.size w w7) := ⟨HB6.out.trans ((hb).mono HB6.out.size)⟩
           have hw6 : Kd.C Kd.string w7 A6 (vals os oth).length (vals os oth) := Kd.C_below HC6.out hb
           have HB67 : Aside0 (Below w6.heap.size w6 w7) := ⟨hb⟩
           have HG7 := Aside0.mk (cfGets A7 c7 l2 whr whr part oth oth A6 c6 (vals os oth) w7 hC hl (upd_sized hu (mild_set key val) HQ1.out.ok.z) (upd_named hu (mild_set key val) HQ1.out.ok.n HQ1.out.ok.s HQ1.out.ok.k) HQ2.out.ok.s (FoldL.refl _) HQ2.out.ok.k (FoldL.refl _) hw6 HL6.out (Nat.le_trans (vals_len _ _) (Nat.le_trans (spec_len HQ2.out.ok.z HSO.out) (by omega))) (gets HQ1.out.ok.a hu (mild_set key val) HNE.out HSO.out))
           clear hr hb hl hC hu hw6)
        | (go_at_call 7; (with_reducible refine HG7.out.mono ?_); rintro e w8 ⟨rfl, hb⟩; have HB8 : Aside0 (Below w.heap.size w w8) := ⟨HB7.out.trans ((hb).mono HB7.out.size)⟩; have HB78 : Aside0 (Below w7.heap.size w7 w8) := ⟨hb⟩; clear hb)
        | (go_at_call 12; (with_reducible refine (implAdd A c l sec sub key val w8 (Kd.C_below HCC.out HB8.out) HC0.out HQ1.out.ok.z HQ1.out.ok.n HQ1.out.ok.s HQ1.out.ok.k).mono ?_); rintro e w9 ⟨v, l3, rfl, hr, hu, hb⟩
           obtain ⟨A9, c9, rfl, hl, hC⟩ := Kd.R_reads hr
           have HB9 : Aside0 (Below w.heap.size w w9) := ⟨HB8.out.trans ((hb).mono HB8.out.size)⟩
           have hw6 : Kd.C Kd.string w9 A6 (vals os oth).length (vals os oth) := Kd.C_below HC6.out ((HB67.out.trans (HB78.out.mono HB67.out.size)).trans (hb.mono (HB67.out.trans (HB78.out.mono HB67.out.size)).size))
           have HG9 := Aside0.mk (cfGets A9 c9 l3 whr whr part oth oth A6 c6 (vals os oth) w9 hC hl (upd_sized hu (mild_add key val) HQ1.out.ok.z) (upd_named hu (mild_add key val) HQ1.out.ok.n HQ1.out.ok.s HQ1.out.ok.k) HQ2.out.ok.s (FoldL.refl _) HQ2.out.ok.k (FoldL.refl _) hw6 HL6.out (Nat.le_trans (vals_len _ _) (Nat.le_trans (spec_len HQ2.out.ok.z HSO.out) (by omega))) (gets HQ1.out.ok.a hu (mild_add key val) HNE.out HSO.out))
           clear hr hb hl hC hu hw6)
        | (go_at_call 7; (with_reducible refine HG9.out.mono ?_); rintro e w10 ⟨rfl, hb⟩; have HB10 : Aside0 (Below w.heap.size w w10) := ⟨HB9.out.trans ((hb).mono HB9.out.size)⟩; clear hb)
        )
      · go_ret
        exact ⟨rfl, HB2.out⟩
      · go_ret
        exact ⟨rfl, HB3.out⟩
      · go_ret
        exact ⟨rfl, HB10.out⟩
    have q3 := beq_eq e3
    clear e3
    go_enter Tryd.func4, Tryd.ntmps4
    go_wp2_with (first
      | (go_at_call 5; (with_reducible refine (HF.out _ (Below.refl _ _)).mono ?_); rintro e w1 ⟨rfl, hb⟩; have HB1 := Aside0.mk hb; clear hb)
      | (go_at_call 6; (with_reducible refine (cfAre A c l sec sub key val _ (Kd.C_below HCC.out HB1.out) HC0.out HSZ.out (by have := HS1.out; omega) (by have := HS2.out; omega) (by have := HS3.out; omega) (by have := HS4.out; omega)).mono ?_); rintro e w2 ⟨b2, rfl, hbq, hb⟩; have HB2 : Aside0 (Below w.heap.size w w2) := ⟨HB1.out.trans ((hb).mono HB1.out.size)⟩; have HQ1 : Aside0 (WalkL.Good l sec sub key b2) := ⟨hbq⟩; clear hb hbq; cases b2)
      | (go_at_call 6; (with_reducible refine (cfAre A c l whr part oth val _ (Kd.C_below HCC.out HB2.out) HC0.out HSZ.out (by have := HS5.out; omega) (by have := HS6.out; omega) (by have := HS7.out; omega) (by have := HS4.out; omega)).mono ?_); rintro e w3 ⟨b3, rfl, hbq, hb⟩; have HB3 : Aside0 (Below w.heap.size w w3) := ⟨HB2.out.trans ((hb).mono HB2.out.size)⟩; have HQ2 : Aside0 (WalkL.Good l whr part oth b3) := ⟨hbq⟩; clear hb hbq; cases b3)
      )
    · go_ret
      exact ⟨rfl, HB2.out⟩
    · go_ret
      exact ⟨rfl, HB3.out⟩
    · go_ret
      exact ⟨rfl, HB3.out⟩
#print axioms law
end Go.Proofs.YtacndeejapfkiaaDoor.WalkM
