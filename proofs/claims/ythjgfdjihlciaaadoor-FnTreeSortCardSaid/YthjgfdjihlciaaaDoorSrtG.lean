/- sort.partialInsertionSort, walked over any state that holds an array. -/
import Derived.Test.YthjgfdjihlciaaaDoorSrtA
import Derived.Sort.WalkA6
set_option linter.unusedVariables false
set_option linter.unusedSimpArgs false
namespace Go.Proofs.YthjgfdjihlciaaaDoor.SrtG
open Go.RowKit Go.Proofs.YthjgfdjihlciaaaDoorW.PrintWords Go.Proofs.YthjgfdjihlciaaaDoorW.PrintLast Go.Proofs.YthjgfdjihlciaaaDoorW.PrintMore Go.Proofs.YthjgfdjihlciaaaDoor.QAll SrtA Go.Sort
section
variable {α : Type} [Inhabited α] {A : Option Addr} {n c : Nat} {lt : α → α → Bool} {blk : Nat} {St : World → Array α → Prop}
/-- Less and Swap at (j, j - 1), in any world of the state. -/
theorem lessB (S : Sorter A n c lt blk St) (j : Nat) (d : Array α) (v : Bool) (hj : 1 ≤ j) (hn : j < n) (hv : lt d[j]! d[j - 1]! = v) : ∀ W, St W d → Calls Tryd.prog 61 #[.slice A n c, .int .i64 (j : Int), .int .i64 ((j : Int) - 1)] W fun e w' => e = .returned (.bool v) ∧ St w' d := fun W h => by
  have := S.less' j (j - 1) h hn (by omega)
  rw [show ((j - 1 : Nat) : Int) = (j : Int) - 1 by omega, hv] at this
  exact this.mono fun e w' h' => ⟨h'.1, h'.2.1⟩
theorem swapB (S : Sorter A n c lt blk St) (j : Nat) (d : Array α) (hj : 1 ≤ j) (hn : j < n) : ∀ W, St W d → Calls Tryd.prog 62 #[.slice A n c, .int .i64 (j : Int), .int .i64 ((j : Int) - 1)] W fun e w' => e = .returned (.tuple #[]) ∧ St w' (swp d j (j - 1)) := fun W h => by
  have := S.swap j (j - 1) h hn (by omega)
  rw [show ((j - 1 : Nat) : Int) = (j : Int) - 1 by omega] at this
  exact this.mono fun e w' h' => ⟨h'.1, h'.2.1⟩
set_option maxHeartbeats 16000000 in
set_option maxRecDepth 100000 in
theorem partialInsertionSort (S : Sorter A n c lt blk St) (a b : Nat) (d : Array α) (w : World) (hSt : St w d) (hab : a < b) (hb : b ≤ n) :
    Calls Tryd.prog 30 #[.iface 34 (.slice A n c), .int .i64 (a : Int), .int .i64 (b : Int)] w fun e w' => e = .returned (.bool (Sort.partialInsertionSort lt d a b).2) ∧ St w' (Sort.partialInsertionSort lt d a b).1 := by
  have hmL := fun W => method34 foundLess 212 A n c W
  have hmS := fun W => method34 foundSwap 212 A n c W
  have hnL := fun W => nilAhead34 foundLess 212 A n c W
  have hnS := fun W => nilAhead34 foundSwap 212 A n c W
  have HSt := Aside0.mk hSt
  have hn := S.small
  obtain ⟨R, hR⟩ : ∃ R, R = Sort.partialInsertionSort lt d a b := ⟨_, rfl⟩
  rw [← hR]
  have HR : Aside0 (partialIns lt a b 5 (a + 1) d = R) := ⟨by rw [hR]; rfl⟩
  clear hSt hR
  go_enter Tryd.func30, Tryd.ntmps30
  go_wp2
  go_loopg [7, 8] 5 (fun gk v7 v8 w' => ∃ (i j : Nat) (dk : Array α), v7 = .int .i64 (i : Int) ∧ v8 = .int .i64 (j : Int) ∧ Aside0 (j + gk = 5) ∧ Aside0 (a < i ∧ i ≤ b) ∧ Aside0 (St w' dk) ∧ Aside0 (partialIns lt a b gk i dk = R))
  case atStart => exact ⟨a + 1, 0, d, by push_cast; rfl, rfl, ⟨by omega⟩, ⟨by omega⟩, HSt, HR⟩
  case round =>
    obtain ⟨i, j, dk, rfl, rfl, HK, HI, HS, HE⟩ := hrel
    by_cases hz : gk = 0
    · subst hz
      have hj5 : j = 5 := by have := HK.out; omega
      subst hj5
      have HF : Aside0 (R = (dk, false)) := ⟨HE.out.symm⟩
      go_wp2
      go_ret
      rw [HF.out]
      exact ⟨rfl, HS.out⟩
    obtain ⟨g0, rfl⟩ : ∃ m, gk = m + 1 := ⟨gk - 1, by omega⟩
    have hj4 : j < 5 := by have := HK.out; omega
    have zj : decide ((j : Int) < 5) = true := decide_eq_true (by omega)
    go_wp2
    go_loopg [7] (b - i) (fun gk v7 w' => ∃ (x : Nat), v7 = .int .i64 (x : Int) ∧ Aside0 (x + gk = b) ∧ Aside0 (i ≤ x ∧ x ≤ b) ∧ Aside0 (St w' dk) ∧ Aside0 (scanSorted lt dk b x = scanSorted lt dk b i))
    case atStart => exact ⟨i, rfl, ⟨by have := HI.out; omega⟩, ⟨by have := HI.out; omega⟩, HS, ⟨rfl⟩⟩
    case round =>
      obtain ⟨x, rfl, HKX, HX, HSX, HEX⟩ := hrel
      have hx1 : x ≤ b := HX.out.2
      have hx2 : a < x := by have := HX.out; have := HI.out; omega
      by_cases hxb : x < b
      rotate_left
      · have hxe : x = b := by omega
        have HF : Aside0 (R = (dk, true)) := ⟨by
          rw [← HE.out]
          have h1 : scanSorted lt dk b i = b := by rw [← HEX.out, scanSorted_stop lt dk b x (Or.inl hxb), hxe]
          simp only [partialIns, h1, if_true]⟩
        subst hxe
        clear hxb
        go_wp2
        go_ret
        rw [HF.out]
        exact ⟨rfl, HSX.out⟩
      have hxn : x < n := by omega
      cases hlv : lt dk[x]! dk[x - 1]! with
      | false =>
        have HL := Aside0.mk (lessB S x dk false (by omega) hxn hlv)
        have HF := Aside0.mk (scanSorted_go lt dk b x hxb hlv)
        obtain ⟨g1, rfl⟩ : ∃ m, gk = m + 1 := ⟨gk - 1, by have := HKX.out; omega⟩
        clear hlv
        go_wp2_with (first
          | (go_at_call 61; (with_reducible refine (HL.out _ HSX.out).mono ?_); rintro e w2 ⟨rfl, hs2⟩; have HS2 := Aside0.mk hs2; clear hs2))
        go_roundg g1
        case measure => omega
        case rel => exact ⟨x + 1, by push_cast; rfl, ⟨by have := HKX.out; omega⟩, ⟨by have := HX.out; omega⟩, HS2, ⟨by rw [← HEX.out, HF.out]⟩⟩
      | true =>
        have HL := Aside0.mk (lessB S x dk true (by omega) hxn hlv)
        have HXK : Aside0 (scanSorted lt dk b i = x) := ⟨by rw [← HEX.out, scanSorted_stop lt dk b x (Or.inr hlv)]⟩
        have hxe : ¬ x = b := by omega
        have hxi : ((x : Int) == (b : Int)) = false := by rw [beq_eq_false_iff_ne]; omega
        clear hlv
        by_cases h50 : b - a < 50
        · have HF : Aside0 (R = (dk, false)) := ⟨by
            rw [← HE.out]
            simp only [partialIns, HXK.out, if_neg hxe, if_pos h50]⟩
          go_wp2_with (first
            | (go_at_call 61; (with_reducible refine (HL.out _ HSX.out).mono ?_); rintro e w2 ⟨rfl, hs2⟩; have HS2 := Aside0.mk hs2; clear hs2))
          go_ret
          rw [HF.out]
          exact ⟨rfl, HS2.out⟩
        have z50 : decide ((b : Int) - (a : Int) < 50) = false := decide_eq_false (by omega)
        have HSW := Aside0.mk (swapB S x dk (by omega) hxn)
        obtain ⟨d1, hd1⟩ : ∃ d1, d1 = swp dk x (x - 1) := ⟨_, rfl⟩
        rw [← hd1] at HSW
        obtain ⟨d2, hd2⟩ : ∃ d2, d2 = (if x - a ≥ 2 then shiftDown lt (x - 1) d1 else d1) := ⟨_, rfl⟩
        obtain ⟨d3, hd3⟩ : ∃ d3, d3 = (if b - x ≥ 2 then shiftUp lt b (x + 1) d2 else d2) := ⟨_, rfl⟩
        have HR2 : Aside0 (partialIns lt a b g0 x d3 = R) := ⟨by
          rw [← HE.out]
          simp only [partialIns, HXK.out, if_neg hxe, if_neg h50]
          rw [← hd1, ← hd2, ← hd3]⟩
        have HD2 := Aside0.mk hd2
        have HD3 := Aside0.mk hd3
        clear hd1 hd2 hd3
        by_cases hdn : 2 ≤ x - a
        rotate_left
        · have HE2 : Aside0 (d2 = d1) := ⟨by rw [HD2.out, if_neg hdn]⟩
          have HSW2 : Aside0 (∀ W, St W dk → Calls Tryd.prog 62 #[.slice A n c, .int .i64 (x : Int), .int .i64 ((x : Int) - 1)] W fun e w' => e = .returned (.tuple #[]) ∧ St w' d2) := ⟨by rw [HE2.out]; exact HSW.out⟩
          have zdn : decide (2 ≤ (x : Int) - (a : Int)) = false := decide_eq_false (by omega)
          by_cases hup : 2 ≤ b - x
          rotate_left
          · exact absurd h50 (by omega)
          have zup : decide (2 ≤ (b : Int) - (x : Int)) = true := decide_eq_true (by omega)
          go_wp2_with (first
            | (go_at_call 61; (with_reducible refine (HL.out _ HSX.out).mono ?_); rintro e w2 ⟨rfl, hs_⟩; have HS2 := Aside0.mk hs_; clear hs_)
            | (go_at_call 62; (with_reducible refine (HSW2.out _ HS2.out).mono ?_); rintro e w3 ⟨rfl, hs_⟩; have HS3 := Aside0.mk hs_; clear hs_))
          go_loopg [10] b (fun gk v10 w' => ∃ (y : Nat) (dj : Array α), v10 = .int .i64 (y : Int) ∧ Aside0 (y + gk = b + (x + 1)) ∧ Aside0 (x < y ∧ y ≤ b) ∧ Aside0 (St w' dj) ∧ Aside0 (shiftUp lt b y dj = d3))
          case atStart => exact ⟨x + 1, d2, by push_cast; rfl, ⟨by omega⟩, ⟨by omega⟩, HS3, ⟨by rw [HD3.out, if_pos hup]⟩⟩
          case round =>
            obtain ⟨y, dj, rfl, HKY, HY, HSY, HEY⟩ := hrel
            have hy1 : y ≤ b := HY.out.2
            have hy2 : x < y := HY.out.1
            by_cases hyb : y < b
            rotate_left
            · have HE3 : Aside0 (d3 = dj) := ⟨by rw [← HEY.out, shiftUp_stop lt b y dj (Or.inl hyb)]⟩
              go_wp2
              go_roundg g0
              case measure => omega
              case rel => exact ⟨x, j + 1, d3, rfl, by push_cast; rfl, ⟨by have := HK.out; omega⟩, ⟨by omega⟩, ⟨by rw [HE3.out]; exact HSY.out⟩, HR2⟩
            have hyn : y < n := by omega
            cases hlw : lt dj[y]! dj[y - 1]! with
            | false =>
              have HLY := Aside0.mk (lessB S y dj false (by omega) hyn hlw)
              have HE3 : Aside0 (d3 = dj) := ⟨by rw [← HEY.out, shiftUp_stop lt b y dj (Or.inr hlw)]⟩
              clear hlw
              go_wp2_with (first
                | (go_at_call 61; (with_reducible refine (HLY.out _ HSY.out).mono ?_); rintro e w8 ⟨rfl, hs_⟩; have HS8 := Aside0.mk hs_; clear hs_))
              go_roundg g0
              case measure => omega
              case rel => exact ⟨x, j + 1, d3, rfl, by push_cast; rfl, ⟨by have := HK.out; omega⟩, ⟨by omega⟩, ⟨by rw [HE3.out]; exact HS8.out⟩, HR2⟩
            | true =>
              have HLY := Aside0.mk (lessB S y dj true (by omega) hyn hlw)
              have HSWY := Aside0.mk (swapB S y dj (by omega) hyn)
              have HF := Aside0.mk (shiftUp_go lt b y dj hyb hlw)
              obtain ⟨g3, rfl⟩ : ∃ m, gk = m + 1 := ⟨gk - 1, by have := HKY.out; omega⟩
              clear hlw
              go_wp2_with (first
                | (go_at_call 61; (with_reducible refine (HLY.out _ HSY.out).mono ?_); rintro e w8 ⟨rfl, hs_⟩; have HS8 := Aside0.mk hs_; clear hs_)
                | (go_at_call 62; (with_reducible refine (HSWY.out _ HS8.out).mono ?_); rintro e w9 ⟨rfl, hs_⟩; have HS9 := Aside0.mk hs_; clear hs_))
              go_roundg g3
              case measure => omega
              case rel => exact ⟨y + 1, _, by push_cast; rfl, ⟨by have := HKY.out; omega⟩, ⟨by omega⟩, HS9, ⟨by rw [← HEY.out, HF.out]⟩⟩
        have zdn : decide (2 ≤ (x : Int) - (a : Int)) = true := decide_eq_true (by omega)
        go_wp2_with (first
          | (go_at_call 61; (with_reducible refine (HL.out _ HSX.out).mono ?_); rintro e w2 ⟨rfl, hs_⟩; have HS2 := Aside0.mk hs_; clear hs_)
          | (go_at_call 62; (with_reducible refine (HSW.out _ HS2.out).mono ?_); rintro e w3 ⟨rfl, hs_⟩; have HS3 := Aside0.mk hs_; clear hs_))
        go_loopg [9] b (fun gk v9 w' => ∃ (y : Nat) (dj : Array α), v9 = .int .i64 (y : Int) ∧ Aside0 (y ≤ gk) ∧ Aside0 (y < x) ∧ Aside0 (St w' dj) ∧ Aside0 (shiftDown lt y dj = d2))
        case atStart => exact ⟨x - 1, d1, by first | rfl | (congr 1; omega), ⟨by omega⟩, ⟨by omega⟩, HS3, ⟨by rw [HD2.out, if_pos hdn]⟩⟩
        case round =>
          obtain ⟨y, dj, rfl, HKY, HY, HSY, HEY⟩ := hrel
          have hy2 : y < x := HY.out
          by_cases hy0 : y = 0
          · subst hy0
            have HE2 : Aside0 (d2 = dj) := ⟨by rw [← HEY.out]; rfl⟩
            have HS7 : Aside0 (St wr d2) := ⟨by rw [HE2.out]; exact HSY.out⟩
            by_cases hup : 2 ≤ b - x
            rotate_left
            · have HE3 : Aside0 (d3 = d2) := ⟨by rw [HD3.out, if_neg hup]⟩
              go_wp2
              go_roundg g0
              case measure => omega
              case rel => exact ⟨x, j + 1, d3, rfl, by push_cast; rfl, ⟨by have := HK.out; omega⟩, ⟨by omega⟩, ⟨by rw [HE3.out]; exact HS7.out⟩, HR2⟩
            have zup : decide (2 ≤ (b : Int) - (x : Int)) = true := decide_eq_true (by omega)
            go_wp2
            go_loopg [10] b (fun gk v10 w' => ∃ (y : Nat) (dj : Array α), v10 = .int .i64 (y : Int) ∧ Aside0 (y + gk = b + (x + 1)) ∧ Aside0 (x < y ∧ y ≤ b) ∧ Aside0 (St w' dj) ∧ Aside0 (shiftUp lt b y dj = d3))
            case atStart => exact ⟨x + 1, d2, by push_cast; rfl, ⟨by omega⟩, ⟨by omega⟩, HS7, ⟨by rw [HD3.out, if_pos hup]⟩⟩
            case round =>
              obtain ⟨y, dj, rfl, HKY, HY, HSY, HEY⟩ := hrel
              have hy1 : y ≤ b := HY.out.2
              have hy2 : x < y := HY.out.1
              by_cases hyb : y < b
              rotate_left
              · have HE3 : Aside0 (d3 = dj) := ⟨by rw [← HEY.out, shiftUp_stop lt b y dj (Or.inl hyb)]⟩
                go_wp2
                go_roundg g0
                case measure => omega
                case rel => exact ⟨x, j + 1, d3, rfl, by push_cast; rfl, ⟨by have := HK.out; omega⟩, ⟨by omega⟩, ⟨by rw [HE3.out]; exact HSY.out⟩, HR2⟩
              have hyn : y < n := by omega
              cases hlw : lt dj[y]! dj[y - 1]! with
              | false =>
                have HLY := Aside0.mk (lessB S y dj false (by omega) hyn hlw)
                have HE3 : Aside0 (d3 = dj) := ⟨by rw [← HEY.out, shiftUp_stop lt b y dj (Or.inr hlw)]⟩
                clear hlw
                go_wp2_with (first
                  | (go_at_call 61; (with_reducible refine (HLY.out _ HSY.out).mono ?_); rintro e w8 ⟨rfl, hs_⟩; have HS8 := Aside0.mk hs_; clear hs_))
                go_roundg g0
                case measure => omega
                case rel => exact ⟨x, j + 1, d3, rfl, by push_cast; rfl, ⟨by have := HK.out; omega⟩, ⟨by omega⟩, ⟨by rw [HE3.out]; exact HS8.out⟩, HR2⟩
              | true =>
                have HLY := Aside0.mk (lessB S y dj true (by omega) hyn hlw)
                have HSWY := Aside0.mk (swapB S y dj (by omega) hyn)
                have HF := Aside0.mk (shiftUp_go lt b y dj hyb hlw)
                obtain ⟨g3, rfl⟩ : ∃ m, gk = m + 1 := ⟨gk - 1, by have := HKY.out; omega⟩
                clear hlw
                go_wp2_with (first
                  | (go_at_call 61; (with_reducible refine (HLY.out _ HSY.out).mono ?_); rintro e w8 ⟨rfl, hs_⟩; have HS8 := Aside0.mk hs_; clear hs_)
                  | (go_at_call 62; (with_reducible refine (HSWY.out _ HS8.out).mono ?_); rintro e w9 ⟨rfl, hs_⟩; have HS9 := Aside0.mk hs_; clear hs_))
                go_roundg g3
                case measure => omega
                case rel => exact ⟨y + 1, _, by push_cast; rfl, ⟨by have := HKY.out; omega⟩, ⟨by omega⟩, HS9, ⟨by rw [← HEY.out, HF.out]⟩⟩
          have hy1 : 1 ≤ y := by omega
          have hyn : y < n := by omega
          cases hlw : lt dj[y]! dj[y - 1]! with
          | false =>
            have HE2 : Aside0 (d2 = dj) := ⟨by rw [← HEY.out, shiftDown_stop lt y dj (Or.inr hlw)]⟩
            have HLY : Aside0 (∀ W, St W dj → Calls Tryd.prog 61 #[.slice A n c, .int .i64 (y : Int), .int .i64 ((y : Int) - 1)] W fun e w' => e = .returned (.bool false) ∧ St w' d2) := ⟨by rw [HE2.out]; exact lessB S y dj false hy1 hyn hlw⟩
            clear hlw
            by_cases hup : 2 ≤ b - x
            rotate_left
            · have HE3 : Aside0 (d3 = d2) := ⟨by rw [HD3.out, if_neg hup]⟩
              go_wp2_with (first
                | (go_at_call 61; (with_reducible refine (HLY.out _ HSY.out).mono ?_); rintro e w7 ⟨rfl, hs_⟩; have HS7 := Aside0.mk hs_; clear hs_))
              go_roundg g0
              case measure => omega
              case rel => exact ⟨x, j + 1, d3, rfl, by push_cast; rfl, ⟨by have := HK.out; omega⟩, ⟨by omega⟩, ⟨by rw [HE3.out]; exact HS7.out⟩, HR2⟩
            have zup : decide (2 ≤ (b : Int) - (x : Int)) = true := decide_eq_true (by omega)
            go_wp2_with (first
              | (go_at_call 61; (with_reducible refine (HLY.out _ HSY.out).mono ?_); rintro e w7 ⟨rfl, hs_⟩; have HS7 := Aside0.mk hs_; clear hs_))
            go_loopg [10] b (fun gk v10 w' => ∃ (y : Nat) (dj : Array α), v10 = .int .i64 (y : Int) ∧ Aside0 (y + gk = b + (x + 1)) ∧ Aside0 (x < y ∧ y ≤ b) ∧ Aside0 (St w' dj) ∧ Aside0 (shiftUp lt b y dj = d3))
            case atStart => exact ⟨x + 1, d2, by push_cast; rfl, ⟨by omega⟩, ⟨by omega⟩, HS7, ⟨by rw [HD3.out, if_pos hup]⟩⟩
            case round =>
              obtain ⟨y, dj, rfl, HKY, HY, HSY, HEY⟩ := hrel
              have hy1 : y ≤ b := HY.out.2
              have hy2 : x < y := HY.out.1
              by_cases hyb : y < b
              rotate_left
              · have HE3 : Aside0 (d3 = dj) := ⟨by rw [← HEY.out, shiftUp_stop lt b y dj (Or.inl hyb)]⟩
                go_wp2
                go_roundg g0
                case measure => omega
                case rel => exact ⟨x, j + 1, d3, rfl, by push_cast; rfl, ⟨by have := HK.out; omega⟩, ⟨by omega⟩, ⟨by rw [HE3.out]; exact HSY.out⟩, HR2⟩
              have hyn : y < n := by omega
              cases hlw : lt dj[y]! dj[y - 1]! with
              | false =>
                have HLY := Aside0.mk (lessB S y dj false (by omega) hyn hlw)
                have HE3 : Aside0 (d3 = dj) := ⟨by rw [← HEY.out, shiftUp_stop lt b y dj (Or.inr hlw)]⟩
                clear hlw
                go_wp2_with (first
                  | (go_at_call 61; (with_reducible refine (HLY.out _ HSY.out).mono ?_); rintro e w8 ⟨rfl, hs_⟩; have HS8 := Aside0.mk hs_; clear hs_))
                go_roundg g0
                case measure => omega
                case rel => exact ⟨x, j + 1, d3, rfl, by push_cast; rfl, ⟨by have := HK.out; omega⟩, ⟨by omega⟩, ⟨by rw [HE3.out]; exact HS8.out⟩, HR2⟩
              | true =>
                have HLY := Aside0.mk (lessB S y dj true (by omega) hyn hlw)
                have HSWY := Aside0.mk (swapB S y dj (by omega) hyn)
                have HF := Aside0.mk (shiftUp_go lt b y dj hyb hlw)
                obtain ⟨g3, rfl⟩ : ∃ m, gk = m + 1 := ⟨gk - 1, by have := HKY.out; omega⟩
                clear hlw
                go_wp2_with (first
                  | (go_at_call 61; (with_reducible refine (HLY.out _ HSY.out).mono ?_); rintro e w8 ⟨rfl, hs_⟩; have HS8 := Aside0.mk hs_; clear hs_)
                  | (go_at_call 62; (with_reducible refine (HSWY.out _ HS8.out).mono ?_); rintro e w9 ⟨rfl, hs_⟩; have HS9 := Aside0.mk hs_; clear hs_))
                go_roundg g3
                case measure => omega
                case rel => exact ⟨y + 1, _, by push_cast; rfl, ⟨by have := HKY.out; omega⟩, ⟨by omega⟩, HS9, ⟨by rw [← HEY.out, HF.out]⟩⟩
          | true =>
            have HLY := Aside0.mk (lessB S y dj true hy1 hyn hlw)
            have HSWY := Aside0.mk (swapB S y dj hy1 hyn)
            have HF := Aside0.mk (shiftDown_go lt y dj hy1 hlw)
            obtain ⟨g3, rfl⟩ : ∃ m, gk = m + 1 := ⟨gk - 1, by have := HKY.out; omega⟩
            have HC1 : Aside0 (((y - 1 : Nat) : Int) = (y : Int) - 1) := ⟨by omega⟩
            clear hlw
            go_wp2_with (first
              | (go_at_call 61; (with_reducible refine (HLY.out _ HSY.out).mono ?_); rintro e w8 ⟨rfl, hs_⟩; have HS8 := Aside0.mk hs_; clear hs_)
              | (go_at_call 62; (with_reducible refine (HSWY.out _ HS8.out).mono ?_); rintro e w9 ⟨rfl, hs_⟩; have HS9 := Aside0.mk hs_; clear hs_))
            go_roundg g3
            case measure => omega
            case rel => exact ⟨y - 1, _, by rw [HC1.out], ⟨by have := HKY.out; omega⟩, ⟨by omega⟩, HS9, ⟨by rw [← HEY.out, HF.out]⟩⟩
#print axioms partialInsertionSort
end
end Go.Proofs.YthjgfdjihlciaaaDoor.SrtG
