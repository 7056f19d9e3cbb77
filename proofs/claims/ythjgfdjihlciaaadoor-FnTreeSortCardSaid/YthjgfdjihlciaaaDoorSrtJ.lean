/- sort.pdqsort, sort.Sort, walked over any state that holds an array; breakPatterns is asked for. -/
import Derived.Test.YthjgfdjihlciaaaDoorSrtB
import Derived.Test.YthjgfdjihlciaaaDoorSrtC
import Derived.Test.YthjgfdjihlciaaaDoorSrtE
import Derived.Test.YthjgfdjihlciaaaDoorSrtF
import Derived.Test.YthjgfdjihlciaaaDoorSrtG
import Derived.Test.YthjgfdjihlciaaaDoorSrtH
import Derived.Sort.Walk13a
import Derived.Sort.AssemblyPlain
set_option linter.unusedVariables false
set_option linter.unusedSimpArgs false
namespace Go.Proofs.YthjgfdjihlciaaaDoor.SrtJ
open Go.RowKit Go.Proofs.YthjgfdjihlciaaaDoorW.PrintWords Go.Proofs.YthjgfdjihlciaaaDoorW.PrintLast Go.Proofs.YthjgfdjihlciaaaDoorW.PrintMore Go.Proofs.YthjgfdjihlciaaaDoor.QAll SrtA SrtF Go.Sort
section
variable {α : Type} [Inhabited α] {A : Option Addr} {n c : Nat} {lt : α → α → Bool} {blk : Nat} {St : World → Array α → Prop}
/-- What is asked of breakPatterns. -/
def Breaks (A : Option Addr) (n c : Nat) (St : World → Array α → Prop) : Prop := ∀ (a b : Nat) (d : Array α) (w : World), St w d → a + 12 < b → b ≤ n → Calls Tryd.prog 27 #[.iface 34 (.slice A n c), .int .i64 (a : Int), .int .i64 (b : Int)] w fun e w' => e = .returned (.tuple #[]) ∧ St w' (breakPatterns d a b)
theorem eighth {a b m : Nat} (h1 : a ≤ m) (h2 : a ≤ b) : decide ((m : Int) - (a : Int) ≥ ((b : Int) - (a : Int)) / 8) = decide (m - a ≥ (b - a) / 8) := decide_eq_decide.2 (by omega)
theorem eighth' {a b m : Nat} (h1 : m ≤ b) (h2 : a ≤ b) : decide ((b : Int) - (m : Int) ≥ ((b : Int) - (a : Int)) / 8) = decide (b - m ≥ (b - a) / 8) := decide_eq_decide.2 (by omega)
theorem code_two {h : Hint} (e : code h = 2) : h = .decreasing := by cases h <;> simp_all [code]
set_option maxHeartbeats 16000000 in
set_option maxRecDepth 1000000 in
theorem pdqsort (S : Sorter A n c lt blk St) (hO : SWO lt) (HB : Breaks A n c St) : ∀ (N a b limit : Nat) (d : Array α) (w : World), b - a < N → St w d → a ≤ b → b ≤ n → limit ≤ 2000 → Go.Sort.Below lt a b d →
    Calls Tryd.prog 20 #[.iface 34 (.slice A n c), .int .i64 (a : Int), .int .i64 (b : Int), .int .i64 (limit : Int)] w fun e w' => e = .returned (.tuple #[]) ∧ St w' (pdq lt d a b limit true true) := by
  have hmL := fun W => method34 foundLess 212 A n c W
  have hnL := fun W => nilAhead34 foundLess 212 A n c W
  have hn := S.small
  intro N
  induction N with
  | zero => intro _ _ _ _ _ h; exact absurd h (Nat.not_lt_zero _)
  | succ N ih =>
    intro a b limit d w hN hSt hab hb hlimit hBel0
    have IH := Aside0.mk ih
    have HSt := Aside0.mk hSt
    have hsz := S.size hSt
    obtain ⟨R, hR⟩ : ∃ R, R = pdq lt d a b limit true true := ⟨_, rfl⟩
    rw [← hR]
    have HR := Aside0.mk hR.symm
    have HB0 := Aside0.mk hBel0
    clear ih hSt hR hBel0
    go_enter Tryd.func20, Tryd.ntmps20
    go_wp2
    go_loopg [1, 2, 3, 8, 9] (b - a) (fun gk v1 v2 v3 v8 v9 w' => ∃ (x y lim : Nat) (wb wp : Bool) (dk : Array α), v1 = .int .i64 (x : Int) ∧ v2 = .int .i64 (y : Int) ∧ v3 = .int .i64 (lim : Int) ∧ v8 = .bool wb ∧ v9 = .bool wp ∧
      Aside0 (x ≤ y ∧ y ≤ n ∧ y - x ≤ gk ∧ gk ≤ b - a ∧ lim ≤ limit) ∧ Aside0 (Go.Sort.Below lt x y dk) ∧ Aside0 (St w' dk) ∧ Aside0 (pdq lt dk x y lim wb wp = R))
    case atStart => exact ⟨a, b, limit, true, true, d, rfl, rfl, rfl, rfl, rfl, ⟨hab, hb, Nat.le_refl _, Nat.le_refl _, Nat.le_refl _⟩, HB0, HSt, HR⟩
    case round =>
      obtain ⟨x, y, lim, wb, wp, dk, rfl, rfl, rfl, rfl, rfl, HI, HBl, HS, HE⟩ := hrel
      obtain ⟨hxy, hyn, hk, hkN, hlim⟩ := HI.out
      have hds := S.size HS.out
      by_cases h12 : y - x ≤ 12
      · have h12z : (y : Int) - (x : Int) ≤ 12 := by omega
        have HC := Aside0.mk (SrtB.insertionSort S x y dk wr HS.out hxy hyn)
        have HF : Aside0 (R = insertionSort lt dk x y) := ⟨by rw [← HE.out, pdq_small h12]⟩
        go_wp2_with (first | (go_at_call 25; (with_reducible refine HC.out.mono ?_); rintro e w1 ⟨rfl, hs1⟩; have HS1 := Aside0.mk hs1; clear hs1))
        (try simp only [Exit.inBlock, Exit.then])
        refine bodyPost_ret (results_none rfl _ _ _) rfl ?_
        exact ⟨rfl, by rw [HF.out]; exact HS1.out⟩
      have h12z : ¬ (y : Int) - (x : Int) ≤ 12 := by omega
      by_cases hl0 : lim = 0
      · subst hl0
        have HC := Aside0.mk (SrtE.heapSort S x y dk wr HS.out (by omega) hyn)
        have HF : Aside0 (R = heapSort lt dk x y) := ⟨by rw [← HE.out, pdq_heap h12 rfl]⟩
        go_wp2_with (first | (go_at_call 26; (with_reducible refine HC.out.mono ?_); rintro e w1 ⟨rfl, hs1⟩; have HS1 := Aside0.mk hs1; clear hs1))
        (try simp only [Exit.inBlock, Exit.then])
        refine bodyPost_ret (results_none rfl _ _ _) rfl ?_
        exact ⟨rfl, by rw [HF.out]; exact HS1.out⟩
      have hl0z : ¬ (lim : Int) = 0 := by omega
      obtain ⟨s1, B1, hc1, s2, B2, hpv, s3, B3⟩ := rd_facts (lt := lt) (limit := lim) (wb := wb) (wp := wp) hO partialInsertionSort_holds reverseRange_holds (show x < y by omega) (show y ≤ dk.size by omega) HBl.out
      have HB3 := Aside0.mk B3
      have HS3 := Aside0.mk s3
      have HLL : Aside0 ((rd lt dk x y lim wb wp).lim ≤ lim) := ⟨rd_lim_le⟩
      clear B1 B2 B3
      go_upto_if 35 with fail
      go_cut [3] from 19 (fun v3 wc => v3 = .int .i64 ((rd lt dk x y lim wb wp).lim : Int) ∧ Aside0 (St wc (rd lt dk x y lim wb wp).d1))
      case first =>
        cases wb
        · have HC := Aside0.mk (HB x y dk wr HS.out (by omega) hyn)
          go_wp2_with (first | (go_at_call 27; (with_reducible refine HC.out.mono ?_); rintro e w1 ⟨rfl, hs1⟩; have HS1 := Aside0.mk hs1; clear hs1))
          go_meet
          case rel =>
            refine ⟨?_, ⟨HS1.out⟩⟩
            show Value.int .i64 ((lim : Int) - 1) = Value.int .i64 ((lim - 1 : Nat) : Int)
            congr 1
            omega
        · go_wp2_with fail
          go_meet
          case rel => exact ⟨rfl, HS⟩
      case rest =>
        obtain ⟨rfl, HS1⟩ := hcut
        have HCP : Aside0 (Calls Tryd.prog 28 #[.iface 34 (.slice A n c), .int .i64 (x : Int), .int .i64 (y : Int)] wc fun e w' => e = .returned (.tuple #[.int .i64 ((rd lt dk x y lim wb wp).c.1 : Nat), .int .i64 (code (rd lt dk x y lim wb wp).c.2)]) ∧ St w' (rd lt dk x y lim wb wp).d1) := ⟨SrtF.choosePivot S x y (rd lt dk x y lim wb wp).d1 wc HS1.out (by omega) hyn⟩
        go_upto_if 50 with (first | (go_at_call 28; (with_reducible refine HCP.out.mono ?_); rintro e w2 ⟨rfl, hs2⟩; have HS2 := Aside0.mk hs2; clear hs2))
        go_cut [11, 12] from 19 (fun v11 v12 wc => v11 = .int .i64 ((rd lt dk x y lim wb wp).pivot : Int) ∧ v12 = .int .i64 (code (rd lt dk x y lim wb wp).hint) ∧ Aside0 (St wc (rd lt dk x y lim wb wp).d2))
        case first =>
          by_cases hh : (rd lt dk x y lim wb wp).c.2 = .decreasing
          · have hcode : code (rd lt dk x y lim wb wp).c.2 = 2 := by rw [hh]; rfl
            obtain ⟨e2, epv, eht⟩ := rd_dec hh
            have HC := Aside0.mk (SrtC.reverseRange S x y (rd lt dk x y lim wb wp).d1 w2 HS2.out (by omega) hyn)
            go_wp2_with (first | (go_at_call 29; (with_reducible refine HC.out.mono ?_); rintro e w3 ⟨rfl, hs3⟩; have HS4 := Aside0.mk hs3; clear hs3))
            go_meet
            case rel =>
              refine ⟨?_, by rw [eht]; rfl, ⟨by rw [e2]; exact HS4.out⟩⟩
              rw [epv]
              congr 1
              omega
          · have hcode : ¬ code (rd lt dk x y lim wb wp).c.2 = 2 := fun h => hh (code_two h)
            obtain ⟨e2, epv, eht⟩ := rd_not hh
            go_wp2_with fail
            go_meet
            case rel => exact ⟨by rw [epv], by rw [eht], ⟨by rw [e2]; exact HS2.out⟩⟩
        case rest =>
          obtain ⟨rfl, rfl, HS4⟩ := hcut
          go_upto_region 15 with fail
          go_cut [12, 68] from 19 (fun v12 v68 wx => v12 = .int .i64 (code (rd lt dk x y lim wb wp).hint) ∧ v68 = .bool (wb && wp && decide ((rd lt dk x y lim wb wp).hint = .increasing)) ∧ wx = wc)
          case first =>
            cases wb <;> cases wp <;> cases hh3 : (rd lt dk x y lim _ _).hint <;>
              (have hcode3 := congrArg code hh3
               simp only [code] at hcode3
               go_wp2_with fail
               go_meet
               exact ⟨by simp [hh3, code], by simp [hh3, code], rfl⟩)
          case rest =>
            obtain ⟨rfl, rfl, rfl⟩ := hcut
            go_upto_if 68 with fail
            go_cut [] from 19 (fun wx => Aside0 ((rd lt dk x y lim wb wp).pi.2 = false) ∧ Aside0 (St wx (rd lt dk x y lim wb wp).pi.1))
            case first =>
              cases h68 : (wb && wp && decide ((rd lt dk x y lim wb wp).hint = .increasing))
              · have epi := rd_pi_no h68
                go_wp2_with fail
                go_meet
                case rel => exact ⟨⟨by rw [epi]⟩, ⟨by rw [epi]; exact HS4.out⟩⟩
              · have epi := rd_pi_yes h68
                have hc := SrtG.partialInsertionSort S x y (rd lt dk x y lim wb wp).d2 wc HS4.out (by omega) hyn
                rw [← epi] at hc
                cases hp : (rd lt dk x y lim wb wp).pi.2 with
                | false =>
                  rw [hp] at hc
                  have HC := Aside0.mk hc
                  have HP := Aside0.mk hp
                  clear hc hp
                  go_wp2_with (first | (go_at_call 30; (with_reducible refine HC.out.mono ?_); rintro e w4 ⟨rfl, hs4⟩; have HS5 := Aside0.mk hs4; clear hs4))
                  go_meet
                  case rel => exact ⟨HP, HS5⟩
                | true =>
                  rw [hp] at hc
                  have HC := Aside0.mk hc
                  have HF : Aside0 (R = (rd lt dk x y lim wb wp).pi.1) := ⟨by rw [← HE.out, pdq_done h12 hl0 hp]⟩
                  clear hc hp
                  go_wp2_with (first | (go_at_call 30; (with_reducible refine HC.out.mono ?_); rintro e w4 ⟨rfl, hs4⟩; have HS5 := Aside0.mk hs4; clear hs4))
                  (try simp only [Exit.inBlock, Exit.then])
                  refine bodyPost_ret (results_none rfl _ _ _) rfl ?_
                  exact ⟨rfl, by rw [HF.out]; exact HS5.out⟩
            case rest =>
              obtain ⟨HP2, HS5⟩ := hcut
              go_upto_region 17 with fail
              go_cut [82] from 19 (fun v82 wx => v82 = .bool (decide (x > 0) && !lt (rd lt dk x y lim wb wp).pi.1[x - 1]! (rd lt dk x y lim wb wp).pi.1[(rd lt dk x y lim wb wp).pivot]!) ∧ Aside0 (St wx (rd lt dk x y lim wb wp).pi.1))
              case first =>
                rcases Nat.eq_zero_or_pos x with hx0 | hx0
                · have hx0z : decide ((x : Int) > 0) = false := decide_eq_false (by omega)
                  have hx0y : decide (0 < (x : Int)) = false := decide_eq_false (by omega)
                  go_wp2_with fail
                  go_meet
                  case rel => exact ⟨by simp [hx0], HS5⟩
                · have hx0z : (x : Int) > 0 := by omega
                  have hl := S.less' (x - 1) (rd lt dk x y lim wb wp).pivot HS5.out (by omega) (by omega)
                  rw [show ((x - 1 : Nat) : Int) = (x : Int) - 1 by omega] at hl
                  cases hlv : lt (rd lt dk x y lim wb wp).pi.1[x - 1]! (rd lt dk x y lim wb wp).pi.1[(rd lt dk x y lim wb wp).pivot]! <;>
                    (rw [hlv] at hl
                     have HLS := Aside0.mk hl
                     clear hl
                     go_wp2_with (first | (go_at_call 61; (with_reducible refine HLS.out.mono ?_); rintro e w6 ⟨rfl, hs6, hb6⟩; have HS6 := Aside0.mk hs6; clear hs6 hb6))
                     go_meet
                     exact ⟨by simp [hx0, hlv], HS6⟩)
              case rest =>
                obtain ⟨rfl, HS6⟩ := hcut
                have hp2 := HP2.out
                have B3 := HB3.out
                have hlm := HLL.out
                cases h87 : (decide (x > 0) && !lt (rd lt dk x y lim wb wp).pi.1[x - 1]! (rd lt dk x y lim wb wp).pi.1[(rd lt dk x y lim wb wp).pivot]!)
                · obtain ⟨⟨mid, ap, d4⟩, hx⟩ : ∃ r, partition lt (rd lt dk x y lim wb wp).pi.1 x y (rd lt dk x y lim wb wp).pivot = r := ⟨_, rfl⟩
                  obtain ⟨r1, r2, r3, r4, r5, r6, r7⟩ := round_part hO (partition_holds lt) hpv.1 hpv.2 (show y ≤ (rd lt dk x y lim wb wp).pi.1.size by omega) B3 hx
                  have hc := SrtH.partition S x y (rd lt dk x y lim wb wp).pivot (rd lt dk x y lim wb wp).pi.1 wc HS6.out hpv.1 hpv.2 hyn
                  rw [hx] at hc
                  have HC := Aside0.mk hc
                  have X := Aside0.mk hx
                  clear hx hc
                  go_upto_if 108 with (first | (go_at_call 32; (with_reducible refine HC.out.mono ?_); rintro e w7 ⟨rfl, hs7⟩; have HS7 := Aside0.mk hs7; clear hs7))
                  by_cases h4 : mid - x < y - mid
                  · have h4z : (mid : Int) - (x : Int) < (y : Int) - (mid : Int) := by omega
                    have HIH := Aside0.mk (IH.out x mid (rd lt dk x y lim wb wp).lim d4 w7 (by omega) HS7.out (by omega) (by omega) (by omega) r4)
                    obtain ⟨pL, sL⟩ := pdq_sorts lt hO d4 x mid (rd lt dk x y lim wb wp).lim true true (by omega) (by omega) r4
                    have HBN := Aside0.mk (r6 _ pL sL).1
                    have HFN : Aside0 (pdq lt (pdq lt d4 x mid (rd lt dk x y lim wb wp).lim true true) (mid + 1) y (rd lt dk x y lim wb wp).lim (decide (mid - x ≥ (y - x) / 8)) ap = R) := ⟨by rw [← HE.out, pdq_left h12 hl0 hp2 h87 (by rw [X.out]; exact ⟨r1, r2⟩) (by rw [X.out]; exact h4), X.out]⟩
                    clear pL sL r6 r7
                    go_wp2_with (first | (go_at_call 20; (with_reducible refine HIH.out.mono ?_); rintro e w8 ⟨rfl, hs8⟩; have HS8 := Aside0.mk hs8; clear hs8))
                    go_roundg (y - (mid + 1))
                    case measure => omega
                    case rel =>
                      refine ⟨mid + 1, y, (rd lt dk x y lim wb wp).lim, _, ap, _, by push_cast; rfl, rfl, rfl, ?_, rfl, ⟨by omega⟩, HBN, HS8, HFN⟩
                      exact congrArg Value.bool (eighth (by omega) (by omega))
                  · have h4z : ¬ (mid : Int) - (x : Int) < (y : Int) - (mid : Int) := by omega
                    have hih := IH.out (mid + 1) y (rd lt dk x y lim wb wp).lim d4 w7 (by omega) HS7.out (by omega) (by omega) (by omega) r5
                    rw [show ((mid + 1 : Nat) : Int) = (mid : Int) + 1 by omega] at hih
                    have HIH := Aside0.mk hih
                    obtain ⟨pL, sL⟩ := pdq_sorts lt hO d4 (mid + 1) y (rd lt dk x y lim wb wp).lim true true (by omega) (by omega) r5
                    have HBN := Aside0.mk (r7 _ pL sL).1
                    have HFN : Aside0 (pdq lt (pdq lt d4 (mid + 1) y (rd lt dk x y lim wb wp).lim true true) x mid (rd lt dk x y lim wb wp).lim (decide (y - mid ≥ (y - x) / 8)) ap = R) := ⟨by rw [← HE.out, pdq_right h12 hl0 hp2 h87 (by rw [X.out]; exact ⟨r1, r2⟩) (by rw [X.out]; exact h4), X.out]⟩
                    clear pL sL r6 r7 hih
                    go_wp2_with (first | (go_at_call 20; (with_reducible refine HIH.out.mono ?_); rintro e w8 ⟨rfl, hs8⟩; have HS8 := Aside0.mk hs8; clear hs8))
                    go_roundg (mid - x)
                    case measure => omega
                    case rel =>
                      refine ⟨x, mid, (rd lt dk x y lim wb wp).lim, _, ap, _, rfl, rfl, rfl, ?_, rfl, ⟨by omega⟩, HBN, HS8, HFN⟩
                      exact congrArg Value.bool (eighth' (by omega) (by omega))
                · have h87' := h87
                  simp only [Bool.and_eq_true, decide_eq_true_eq, Bool.not_eq_true'] at h87'
                  obtain ⟨⟨mid, d4⟩, hx⟩ : ∃ r, partitionEqual lt (rd lt dk x y lim wb wp).pi.1 x y (rd lt dk x y lim wb wp).pivot = r := ⟨_, rfl⟩
                  obtain ⟨r1, r2, r3, r4, _⟩ := round_eq hO (partitionEqual_holds lt) h87'.1 hpv.1 hpv.2 (show y ≤ (rd lt dk x y lim wb wp).pi.1.size by omega) B3 h87'.2 hx
                  have hc := SrtH.partitionEqual S x y (rd lt dk x y lim wb wp).pivot (rd lt dk x y lim wb wp).pi.1 wc HS6.out hpv.1 hpv.2 hyn
                  rw [hx] at hc
                  have HC := Aside0.mk hc
                  have HFN : Aside0 (pdq lt d4 mid y (rd lt dk x y lim wb wp).lim wb wp = R) := ⟨by rw [← HE.out, pdq_eq h12 hl0 hp2 h87 (by rw [hx]; exact ⟨r1, r2⟩), hx]⟩
                  clear hx hc
                  go_wp2_with (first | (go_at_call 31; (with_reducible refine HC.out.mono ?_); rintro e w7 ⟨rfl, hs7⟩; have HS7 := Aside0.mk hs7; clear hs7))
                  go_roundg (y - mid)
                  case measure => omega
                  case rel => exact ⟨mid, y, (rd lt dk x y lim wb wp).lim, wb, wp, d4, rfl, rfl, rfl, rfl, rfl, ⟨by omega⟩, ⟨r4⟩, HS7, HFN⟩
#print axioms pdqsort
end
end Go.Proofs.YthjgfdjihlciaaaDoor.SrtJ
