/- sort.partitionEqual, sort.partition, walked over any state that holds an array. -/
import Derived.Test.YthjgfdjihlciaaaDoorSrtA
import Derived.Sort.WalkC
import Derived.Sort.WalkC4
set_option linter.unusedVariables false
set_option linter.unusedSimpArgs false
namespace Go.Proofs.YthjgfdjihlciaaaDoor.SrtH
open Go.RowKit Go.Proofs.YthjgfdjihlciaaaDoorW.PrintWords Go.Proofs.YthjgfdjihlciaaaDoorW.PrintLast Go.Proofs.YthjgfdjihlciaaaDoorW.PrintMore Go.Proofs.YthjgfdjihlciaaaDoor.QAll SrtA Go.Sort
section
variable {α : Type} [Inhabited α] {A : Option Addr} {n c : Nat} {lt : α → α → Bool} {blk : Nat} {St : World → Array α → Prop}
theorem lessAt (S : Sorter A n c lt blk St) (i j : Nat) (d : Array α) (v : Bool) (hi : i < n) (hj : j < n) (hv : lt d[i]! d[j]! = v) : ∀ W, St W d → Calls Tryd.prog 61 #[.slice A n c, .int .i64 (i : Int), .int .i64 (j : Int)] W fun e w' => e = .returned (.bool v) ∧ St w' d := fun W h => by
  have := S.less' i j h hi hj
  rw [hv] at this
  exact this.mono fun e w' h' => ⟨h'.1, h'.2.1⟩
theorem swapAt (S : Sorter A n c lt blk St) (i j : Nat) (d : Array α) (hi : i < n) (hj : j < n) : ∀ W, St W d → Calls Tryd.prog 62 #[.slice A n c, .int .i64 (i : Int), .int .i64 (j : Int)] W fun e w' => e = .returned (.tuple #[]) ∧ St w' (swp d i j) := fun W h =>
  (S.swap i j h hi hj).mono fun e w' h' => ⟨h'.1, h'.2.1⟩
set_option maxHeartbeats 16000000 in
set_option maxRecDepth 100000 in
theorem partitionEqual (S : Sorter A n c lt blk St) (a b pivot : Nat) (d : Array α) (w : World) (hSt : St w d) (hap : a ≤ pivot) (hpb : pivot < b) (hb : b ≤ n) :
    Calls Tryd.prog 31 #[.iface 34 (.slice A n c), .int .i64 (a : Int), .int .i64 (b : Int), .int .i64 (pivot : Int)] w fun e w' => e = .returned (.int .i64 ((Sort.partitionEqual lt d a b pivot).1 : Nat)) ∧ St w' (Sort.partitionEqual lt d a b pivot).2 := by
  have hmL := fun W => method34 foundLess 212 A n c W
  have hmS := fun W => method34 foundSwap 212 A n c W
  have hnL := fun W => nilAhead34 foundLess 212 A n c W
  have hnS := fun W => nilAhead34 foundSwap 212 A n c W
  have HSt := Aside0.mk hSt
  have hn := S.small
  obtain ⟨R, hR⟩ : ∃ R, R = Sort.partitionEqual lt d a b pivot := ⟨_, rfl⟩
  rw [← hR]
  have HR : Aside0 (partEqLoop lt a (a + 1) (b - 1) (swp d a pivot) = R) := ⟨by rw [hR]; rfl⟩
  have HSW0 := Aside0.mk (swapAt S a pivot d (by omega) (by omega))
  have HC0 : Aside0 (((b - 1 : Nat) : Int) = (b : Int) - 1) := ⟨by omega⟩
  clear hSt hR
  go_enter Tryd.func31, Tryd.ntmps31
  go_wp2_with (first | (go_at_call 62; (with_reducible refine (HSW0.out _ HSt.out).mono ?_); rintro e w1 ⟨rfl, hs_⟩; have HS1 := Aside0.mk hs_; clear hs_))
  go_loopg [9, 10] (b + 1) (fun gk v9 v10 w' => ∃ (i j : Nat) (dk : Array α), v9 = .int .i64 (i : Int) ∧ v10 = .int .i64 (j : Int) ∧ Aside0 (j + 1 - i < gk) ∧ Aside0 (a < i ∧ j < n ∧ i ≤ j + 1) ∧ Aside0 (St w' dk) ∧ Aside0 (partEqLoop lt a i j dk = R))
  case atStart => exact ⟨a + 1, b - 1, _, by push_cast; rfl, by rw [HC0.out], ⟨by omega⟩, ⟨by omega⟩, HS1, HR⟩
  case round =>
    obtain ⟨i, j, dk, rfl, rfl, HK, HI, HS, HE⟩ := hrel
    have hi0 : a < i := HI.out.1
    have hj0 : j < n := HI.out.2.1
    have hij : i ≤ j + 1 := HI.out.2.2
    obtain ⟨g0, rfl⟩ : ∃ m, gk = m + 1 := ⟨gk - 1, by have := HK.out; omega⟩
    go_wp2
    go_loopg [9] (j + 1) (fun gk v w' => ∃ x : Nat, v = .int .i64 (x : Int) ∧ Aside0 (j + 1 - x ≤ gk) ∧ Aside0 (i ≤ x ∧ x ≤ j + 1) ∧ Aside0 (St w' dk) ∧ Aside0 (scanUp (fun x => !lt dk[a]! x) dk j x = scanUp (fun x => !lt dk[a]! x) dk j i))
    case atStart => exact ⟨i, rfl, ⟨by omega⟩, ⟨by omega⟩, HS, ⟨rfl⟩⟩
    case round =>
      obtain ⟨x, rfl, HKX, HX, HSX, HEX⟩ := hrel
      have hx1 : i ≤ x := HX.out.1
      have hx2 : x ≤ j + 1 := HX.out.2
      by_cases hxj : x ≤ j
      rotate_left
      · have HI2 : Aside0 (x = scanUp (fun x => !lt dk[a]! x) dk j i) := ⟨by rw [← HEX.out, scanUp_end _ _ _ _ (Or.inl hxj)]⟩
        have zx : decide ((x : Int) ≤ (j : Int)) = false := decide_eq_false (by omega)
        go_wp2
        go_loopg [10] (j + 1) (fun gk v w' => ∃ y : Nat, v = .int .i64 (y : Int) ∧ Aside0 (y ≤ gk) ∧ Aside0 (y ≤ j ∧ x ≤ y + 1) ∧ Aside0 (St w' dk) ∧ Aside0 (scanDown (fun x => lt dk[a]! x) dk x y = scanDown (fun x => lt dk[a]! x) dk x j))
        case atStart => exact ⟨j, rfl, ⟨by omega⟩, ⟨by omega⟩, HSX, ⟨rfl⟩⟩
        case round =>
          obtain ⟨y, rfl, HKY, HY, HSY, HEY⟩ := hrel
          have hy1 : y ≤ j := HY.out.1
          have hy2 : x ≤ y + 1 := HY.out.2
          have hyn : y < n := by omega
          by_cases hxy : x ≤ y
          rotate_left
          · have HJ2 : Aside0 (y = scanDown (fun x => lt dk[a]! x) dk x j) := ⟨by rw [← HEY.out, scanDown_end _ _ _ _ (Or.inl hxy)]⟩
            have zy : decide ((x : Int) ≤ (y : Int)) = false := decide_eq_false (by omega)
            have zxy : decide ((y : Int) < (x : Int)) = true := decide_eq_true (by omega)
            have HF : Aside0 (R = (x, dk)) := ⟨by rw [← HE.out, partEq_break lt a i j dk HI2.out HJ2.out (by omega)]⟩
            go_wp2
            go_ret
            rw [HF.out]
            exact ⟨rfl, HSY.out⟩
          exact absurd hxj (by omega)
      have zx : decide ((x : Int) ≤ (j : Int)) = true := decide_eq_true (by omega)
      cases hlv : lt dk[a]! dk[x]! with
      | true =>
        have HLX := Aside0.mk (lessAt S a x dk true (by omega) (by omega) hlv)
        have HI2 : Aside0 (x = scanUp (fun x => !lt dk[a]! x) dk j i) := ⟨by rw [← HEX.out, scanUp_end _ _ _ _ (Or.inr (by simp [hlv]))]⟩
        clear hlv
        go_wp2_with (first
          | (go_at_call 61; (with_reducible refine (HLX.out _ HSX.out).mono ?_); rintro e w4 ⟨rfl, hs_⟩; have HS4 := Aside0.mk hs_; clear hs_))
        go_loopg [10] (j + 1) (fun gk v w' => ∃ y : Nat, v = .int .i64 (y : Int) ∧ Aside0 (y ≤ gk) ∧ Aside0 (y ≤ j ∧ x ≤ y + 1) ∧ Aside0 (St w' dk) ∧ Aside0 (scanDown (fun x => lt dk[a]! x) dk x y = scanDown (fun x => lt dk[a]! x) dk x j))
        case atStart => exact ⟨j, rfl, ⟨by omega⟩, ⟨by omega⟩, HS4, ⟨rfl⟩⟩
        case round =>
          obtain ⟨y, rfl, HKY, HY, HSY, HEY⟩ := hrel
          have hy1 : y ≤ j := HY.out.1
          have hy2 : x ≤ y + 1 := HY.out.2
          have hyn : y < n := by omega
          by_cases hxy : x ≤ y
          rotate_left
          · have HJ2 : Aside0 (y = scanDown (fun x => lt dk[a]! x) dk x j) := ⟨by rw [← HEY.out, scanDown_end _ _ _ _ (Or.inl hxy)]⟩
            have zy : decide ((x : Int) ≤ (y : Int)) = false := decide_eq_false (by omega)
            have zxy : decide ((y : Int) < (x : Int)) = true := decide_eq_true (by omega)
            have HF : Aside0 (R = (x, dk)) := ⟨by rw [← HE.out, partEq_break lt a i j dk HI2.out HJ2.out (by omega)]⟩
            go_wp2
            go_ret
            rw [HF.out]
            exact ⟨rfl, HSY.out⟩
          have zy : decide ((x : Int) ≤ (y : Int)) = true := decide_eq_true (by omega)
          cases hlw : lt dk[a]! dk[y]! with
          | false =>
            have HLY := Aside0.mk (lessAt S a y dk false (by omega) (by omega) hlw)
            have HJ2 : Aside0 (y = scanDown (fun x => lt dk[a]! x) dk x j) := ⟨by rw [← HEY.out, scanDown_end _ _ _ _ (Or.inr (by simp [hlw]))]⟩
            clear hlw
            have hlt2 : x < y := scans_lt lt a i j dk (by omega) HI2.out HJ2.out hxy
            have zxy : decide ((y : Int) < (x : Int)) = false := decide_eq_false (by omega)
            have HSW := Aside0.mk (swapAt S x y dk (by omega) hyn)
            have HF : Aside0 (partEqLoop lt a (x + 1) (y - 1) (swp dk x y) = R) := ⟨by rw [← HE.out, partEq_go lt a i j dk HI2.out HJ2.out (by omega)]⟩
            have HC2 : Aside0 (((y - 1 : Nat) : Int) = (y : Int) - 1) := ⟨by omega⟩
            go_wp2_with (first
              | (go_at_call 61; (with_reducible refine (HLY.out _ HSY.out).mono ?_); rintro e w6 ⟨rfl, hs_⟩; have HS6 := Aside0.mk hs_; clear hs_)
              | (go_at_call 62; (with_reducible refine (HSW.out _ HS6.out).mono ?_); rintro e w7 ⟨rfl, hs_⟩; have HS7 := Aside0.mk hs_; clear hs_))
            go_roundg g0
            case measure => omega
            case rel => exact ⟨x + 1, y - 1, swp dk x y, by push_cast; rfl, by rw [HC2.out], ⟨by have := HK.out; omega⟩, ⟨by omega⟩, HS7, HF⟩
          | true =>
            have HLY := Aside0.mk (lessAt S a y dk true (by omega) (by omega) hlw)
            have HF := Aside0.mk (scanDown_go (fun x => lt dk[a]! x) dk x y hxy (by omega) (by simp [hlw]))
            obtain ⟨g3, rfl⟩ : ∃ m, gk = m + 1 := ⟨gk - 1, by have := HKY.out; omega⟩
            have HC1 : Aside0 (((y - 1 : Nat) : Int) = (y : Int) - 1) := ⟨by omega⟩
            clear hlw
            go_wp2_with (first
              | (go_at_call 61; (with_reducible refine (HLY.out _ HSY.out).mono ?_); rintro e w6 ⟨rfl, hs_⟩; have HS6 := Aside0.mk hs_; clear hs_))
            go_roundg g3
            case measure => omega
            case rel => exact ⟨y - 1, by rw [HC1.out], ⟨by have := HKY.out; omega⟩, ⟨by omega⟩, HS6, ⟨by rw [← HEY.out, HF.out]⟩⟩
      | false =>
        have HLX := Aside0.mk (lessAt S a x dk false (by omega) (by omega) hlv)
        have HF := Aside0.mk (scanUp_go (fun x => !lt dk[a]! x) dk j x hxj (by simp [hlv]))
        obtain ⟨g2, rfl⟩ : ∃ m, gk = m + 1 := ⟨gk - 1, by have := HKX.out; omega⟩
        clear hlv
        go_wp2_with (first
          | (go_at_call 61; (with_reducible refine (HLX.out _ HSX.out).mono ?_); rintro e w4 ⟨rfl, hs_⟩; have HS4 := Aside0.mk hs_; clear hs_))
        go_roundg g2
        case measure => omega
        case rel => exact ⟨x + 1, by push_cast; rfl, ⟨by have := HKX.out; omega⟩, ⟨by omega⟩, HS4, ⟨by rw [← HEX.out, HF.out]⟩⟩
#print axioms partitionEqual
set_option maxHeartbeats 32000000 in
set_option maxRecDepth 100000 in
theorem partition (S : Sorter A n c lt blk St) (a b pivot : Nat) (d : Array α) (w : World) (hSt : St w d) (hap : a ≤ pivot) (hpb : pivot < b) (hb : b ≤ n) :
    Calls Tryd.prog 32 #[.iface 34 (.slice A n c), .int .i64 (a : Int), .int .i64 (b : Int), .int .i64 (pivot : Int)] w fun e w' => e = .returned (.tuple #[.int .i64 ((Sort.partition lt d a b pivot).1 : Nat), .bool (Sort.partition lt d a b pivot).2.1]) ∧ St w' (Sort.partition lt d a b pivot).2.2 := by
  have hmL := fun W => method34 foundLess 212 A n c W
  have hmS := fun W => method34 foundSwap 212 A n c W
  have hnL := fun W => nilAhead34 foundLess 212 A n c W
  have hnS := fun W => nilAhead34 foundSwap 212 A n c W
  have HSt := Aside0.mk hSt
  have hn := S.small
  obtain ⟨R, hR⟩ : ∃ R, R = Sort.partition lt d a b pivot := ⟨_, rfl⟩
  rw [← hR]
  have HRR := Aside0.mk hR
  have HSW0 := Aside0.mk (swapAt S a pivot d (by omega) (by omega))
  obtain ⟨i, hi⟩ : ∃ i, i = a + 1 := ⟨_, rfl⟩
  obtain ⟨j, hj⟩ : ∃ j, j = b - 1 := ⟨_, rfl⟩
  obtain ⟨dk, hdk⟩ : ∃ dk, dk = swp d a pivot := ⟨_, rfl⟩
  rw [← hdk] at HSW0
  have HID := Aside0.mk hi
  have HJD := Aside0.mk hj
  have HDK := Aside0.mk hdk
  have hi0 : a < i := by omega
  have hj0 : j < n := by omega
  have hij : i ≤ j + 1 := by omega
  have HJB : Aside0 (j < b) := ⟨by omega⟩
  have ci : (a : Int) + 1 = (i : Int) := by omega
  have cj : (b : Int) - 1 = (j : Int) := by omega
  clear hSt hR hi hj hdk
  go_enter Tryd.func32, Tryd.ntmps32
  go_wp2_with (first | (go_at_call 62; (with_reducible refine (HSW0.out _ HSt.out).mono ?_); rintro e w1 ⟨rfl, hs_⟩; have HS1 := Aside0.mk hs_; clear hs_))
  clear ci cj
  go_loopg [10] (j + 1) (fun gk v w' => ∃ x : Nat, v = .int .i64 (x : Int) ∧ Aside0 (j + 1 - x ≤ gk) ∧ Aside0 (i ≤ x ∧ x ≤ j + 1) ∧ Aside0 (St w' dk) ∧ Aside0 (scanUp (fun x => lt x dk[a]!) dk j x = scanUp (fun x => lt x dk[a]!) dk j i))
  case atStart => exact ⟨i, rfl, ⟨by omega⟩, ⟨by omega⟩, HS1, ⟨rfl⟩⟩
  case round =>
    obtain ⟨x, rfl, HKX, HX, HSX, HEX⟩ := hrel
    have hx1 : i ≤ x := HX.out.1
    have hx2 : x ≤ j + 1 := HX.out.2
    by_cases hxj : x ≤ j
    rotate_left
    · have HI2 : Aside0 (x = scanUp (fun x => lt x dk[a]!) dk j i) := ⟨by rw [← HEX.out, scanUp_end _ _ _ _ (Or.inl hxj)]⟩
      have zx : decide ((x : Int) ≤ (j : Int)) = false := decide_eq_false (by omega)
      go_wp2
      go_loopg [11] (j + 1) (fun gk v w' => ∃ y : Nat, v = .int .i64 (y : Int) ∧ Aside0 (y ≤ gk) ∧ Aside0 (y ≤ j ∧ x ≤ y + 1) ∧ Aside0 (St w' dk) ∧ Aside0 (scanDown (fun x => !lt x dk[a]!) dk x y = scanDown (fun x => !lt x dk[a]!) dk x j))
      case atStart => exact ⟨j, rfl, ⟨by omega⟩, ⟨by omega⟩, HSX, ⟨rfl⟩⟩
      case round =>
        obtain ⟨y, rfl, HKY, HY, HSY, HEY⟩ := hrel
        have hy1 : y ≤ j := HY.out.1
        have hy2 : x ≤ y + 1 := HY.out.2
        have hyn : y < n := by omega
        by_cases hxy : x ≤ y
        rotate_left
        · have HJ2 : Aside0 (y = scanDown (fun x => !lt x dk[a]!) dk x j) := ⟨by rw [← HEY.out, scanDown_end _ _ _ _ (Or.inl hxy)]⟩
          have zy : decide ((x : Int) ≤ (y : Int)) = false := decide_eq_false (by omega)
          have zxy : decide ((y : Int) < (x : Int)) = true := decide_eq_true (by omega)
          have HF : Aside0 (R = (y, true, swp dk y a)) := ⟨by rw [HRR.out]; exact part_first_break lt d a b pivot HID.out HJD.out HDK.out HI2.out HJ2.out (by omega)⟩
          have HSW := Aside0.mk (swapAt S y a dk hyn (by omega))
          go_wp2_with (first
            | (go_at_call 62; (with_reducible refine (HSW.out _ HSY.out).mono ?_); rintro e w7 ⟨rfl, hs_⟩; have HS7 := Aside0.mk hs_; clear hs_))
          go_ret2
          rw [HF.out]
          exact ⟨rfl, HS7.out⟩
        exact absurd hxj (by omega)
    have zx : decide ((x : Int) ≤ (j : Int)) = true := decide_eq_true (by omega)
    cases hlv : lt dk[x]! dk[a]! with
    | false =>
      have HLX := Aside0.mk (lessAt S x a dk false (by omega) (by omega) hlv)
      have HI2 : Aside0 (x = scanUp (fun x => lt x dk[a]!) dk j i) := ⟨by rw [← HEX.out, scanUp_end _ _ _ _ (Or.inr (by simp [hlv]))]⟩
      clear hlv
      go_wp2_with (first
        | (go_at_call 61; (with_reducible refine (HLX.out _ HSX.out).mono ?_); rintro e w4 ⟨rfl, hs_⟩; have HS4 := Aside0.mk hs_; clear hs_))
      go_loopg [11] (j + 1) (fun gk v w' => ∃ y : Nat, v = .int .i64 (y : Int) ∧ Aside0 (y ≤ gk) ∧ Aside0 (y ≤ j ∧ x ≤ y + 1) ∧ Aside0 (St w' dk) ∧ Aside0 (scanDown (fun x => !lt x dk[a]!) dk x y = scanDown (fun x => !lt x dk[a]!) dk x j))
      case atStart => exact ⟨j, rfl, ⟨by omega⟩, ⟨by omega⟩, HS4, ⟨rfl⟩⟩
      case round =>
        obtain ⟨y, rfl, HKY, HY, HSY, HEY⟩ := hrel
        have hy1 : y ≤ j := HY.out.1
        have hy2 : x ≤ y + 1 := HY.out.2
        have hyn : y < n := by omega
        by_cases hxy : x ≤ y
        rotate_left
        · have HJ2 : Aside0 (y = scanDown (fun x => !lt x dk[a]!) dk x j) := ⟨by rw [← HEY.out, scanDown_end _ _ _ _ (Or.inl hxy)]⟩
          have zy : decide ((x : Int) ≤ (y : Int)) = false := decide_eq_false (by omega)
          have zxy : decide ((y : Int) < (x : Int)) = true := decide_eq_true (by omega)
          have HF : Aside0 (R = (y, true, swp dk y a)) := ⟨by rw [HRR.out]; exact part_first_break lt d a b pivot HID.out HJD.out HDK.out HI2.out HJ2.out (by omega)⟩
          have HSW := Aside0.mk (swapAt S y a dk hyn (by omega))
          go_wp2_with (first
            | (go_at_call 62; (with_reducible refine (HSW.out _ HSY.out).mono ?_); rintro e w7 ⟨rfl, hs_⟩; have HS7 := Aside0.mk hs_; clear hs_))
          go_ret2
          rw [HF.out]
          exact ⟨rfl, HS7.out⟩
        have zy : decide ((x : Int) ≤ (y : Int)) = true := decide_eq_true (by omega)
        cases hlw : lt dk[y]! dk[a]! with
        | true =>
          have HLY := Aside0.mk (lessAt S y a dk true (by omega) (by omega) hlw)
          have HJ2 : Aside0 (y = scanDown (fun x => !lt x dk[a]!) dk x j) := ⟨by rw [← HEY.out, scanDown_end _ _ _ _ (Or.inr (by simp [hlw]))]⟩
          clear hlw
          have hlt2 : x < y := part_scans_lt lt a i j dk (by omega) HI2.out HJ2.out hxy
          have zxy : decide ((y : Int) < (x : Int)) = false := decide_eq_false (by omega)
          have HSW := Aside0.mk (swapAt S x y dk (by omega) hyn)
          have HRP := Aside0.mk (part_first_go lt d a b pivot HID.out HJD.out HDK.out HI2.out HJ2.out (by omega))
          have HC2 : Aside0 (((y - 1 : Nat) : Int) = (y : Int) - 1) := ⟨by omega⟩
          go_wp2_with (first
            | (go_at_call 61; (with_reducible refine (HLY.out _ HSY.out).mono ?_); rintro e w6 ⟨rfl, hs_⟩; have HS6 := Aside0.mk hs_; clear hs_)
            | (go_at_call 62; (with_reducible refine (HSW.out _ HS6.out).mono ?_); rintro e w7 ⟨rfl, hs_⟩; have HS7 := Aside0.mk hs_; clear hs_))
          obtain ⟨R0, hR0⟩ : ∃ R0, R0 = partLoop lt a (x + 1) (y - 1) (swp dk x y) := ⟨_, rfl⟩
          have HR : Aside0 (R = (R0.1, false, swp R0.2 R0.1 a)) := ⟨by rw [HRR.out, HRP.out, hR0]⟩
          have HR0 := Aside0.mk hR0
          clear hR0
          go_loopg [10, 11] (b + 1) (fun gk v10 v11 w' => ∃ (i j : Nat) (dk : Array α), v10 = .int .i64 (i : Int) ∧ v11 = .int .i64 (j : Int) ∧ Aside0 (j + 1 - i < gk) ∧ Aside0 (a < i ∧ j < n ∧ i ≤ j + 1) ∧ Aside0 (St w' dk) ∧ Aside0 (partLoop lt a i j dk = R0))
          case atStart => exact ⟨x + 1, y - 1, _, by push_cast; rfl, by rw [HC2.out], ⟨by have := HJB.out; omega⟩, ⟨by omega⟩, HS7, ⟨HR0.out.symm⟩⟩
          case round =>
            clear hlt2 hx1 hx2 hxy hyn zxy zx zy hi0 hj0 hij hy1 hy2
            obtain ⟨i, j, dk, rfl, rfl, HK, HI, HS, HE⟩ := hrel
            have hi0 : a < i := HI.out.1
            have hj0 : j < n := HI.out.2.1
            have hij : i ≤ j + 1 := HI.out.2.2
            obtain ⟨g0, rfl⟩ : ∃ m, gk = m + 1 := ⟨gk - 1, by have := HK.out; omega⟩
            go_wp2
            go_loopg [10] (j + 1) (fun gk v w' => ∃ x : Nat, v = .int .i64 (x : Int) ∧ Aside0 (j + 1 - x ≤ gk) ∧ Aside0 (i ≤ x ∧ x ≤ j + 1) ∧ Aside0 (St w' dk) ∧ Aside0 (scanUp (fun x => lt x dk[a]!) dk j x = scanUp (fun x => lt x dk[a]!) dk j i))
            case atStart => exact ⟨i, rfl, ⟨by omega⟩, ⟨by omega⟩, HS, ⟨rfl⟩⟩
            case round =>
              obtain ⟨x, rfl, HKX, HX, HSX, HEX⟩ := hrel
              have hx1 : i ≤ x := HX.out.1
              have hx2 : x ≤ j + 1 := HX.out.2
              by_cases hxj : x ≤ j
              rotate_left
              · have HI2 : Aside0 (x = scanUp (fun x => lt x dk[a]!) dk j i) := ⟨by rw [← HEX.out, scanUp_end _ _ _ _ (Or.inl hxj)]⟩
                have zx : decide ((x : Int) ≤ (j : Int)) = false := decide_eq_false (by omega)
                go_wp2
                go_loopg [11] (j + 1) (fun gk v w' => ∃ y : Nat, v = .int .i64 (y : Int) ∧ Aside0 (y ≤ gk) ∧ Aside0 (y ≤ j ∧ x ≤ y + 1) ∧ Aside0 (St w' dk) ∧ Aside0 (scanDown (fun x => !lt x dk[a]!) dk x y = scanDown (fun x => !lt x dk[a]!) dk x j))
                case atStart => exact ⟨j, rfl, ⟨by omega⟩, ⟨by omega⟩, HSX, ⟨rfl⟩⟩
                case round =>
                  obtain ⟨y, rfl, HKY, HY, HSY, HEY⟩ := hrel
                  have hy1 : y ≤ j := HY.out.1
                  have hy2 : x ≤ y + 1 := HY.out.2
                  have hyn : y < n := by omega
                  by_cases hxy : x ≤ y
                  rotate_left
                  · have HJ2 : Aside0 (y = scanDown (fun x => !lt x dk[a]!) dk x j) := ⟨by rw [← HEY.out, scanDown_end _ _ _ _ (Or.inl hxy)]⟩
                    have zy : decide ((x : Int) ≤ (y : Int)) = false := decide_eq_false (by omega)
                    have zxy : decide ((y : Int) < (x : Int)) = true := decide_eq_true (by omega)
                    have HF : Aside0 (R = (y, false, swp dk y a)) := ⟨by rw [HR.out, HE.out.symm, part_break lt a i j dk HI2.out HJ2.out (by omega)]⟩
                    have HSW := Aside0.mk (swapAt S y a dk hyn (by omega))
                    go_wp2_with (first
                      | (go_at_call 62; (with_reducible refine (HSW.out _ HSY.out).mono ?_); rintro e w7 ⟨rfl, hs_⟩; have HS7 := Aside0.mk hs_; clear hs_))
                    go_ret2
                    rw [HF.out]
                    exact ⟨rfl, HS7.out⟩
                  exact absurd hxj (by omega)
              have zx : decide ((x : Int) ≤ (j : Int)) = true := decide_eq_true (by omega)
              cases hlv : lt dk[x]! dk[a]! with
              | false =>
                have HLX := Aside0.mk (lessAt S x a dk false (by omega) (by omega) hlv)
                have HI2 : Aside0 (x = scanUp (fun x => lt x dk[a]!) dk j i) := ⟨by rw [← HEX.out, scanUp_end _ _ _ _ (Or.inr (by simp [hlv]))]⟩
                clear hlv
                go_wp2_with (first
                  | (go_at_call 61; (with_reducible refine (HLX.out _ HSX.out).mono ?_); rintro e w4 ⟨rfl, hs_⟩; have HS4 := Aside0.mk hs_; clear hs_))
                go_loopg [11] (j + 1) (fun gk v w' => ∃ y : Nat, v = .int .i64 (y : Int) ∧ Aside0 (y ≤ gk) ∧ Aside0 (y ≤ j ∧ x ≤ y + 1) ∧ Aside0 (St w' dk) ∧ Aside0 (scanDown (fun x => !lt x dk[a]!) dk x y = scanDown (fun x => !lt x dk[a]!) dk x j))
                case atStart => exact ⟨j, rfl, ⟨by omega⟩, ⟨by omega⟩, HS4, ⟨rfl⟩⟩
                case round =>
                  obtain ⟨y, rfl, HKY, HY, HSY, HEY⟩ := hrel
                  have hy1 : y ≤ j := HY.out.1
                  have hy2 : x ≤ y + 1 := HY.out.2
                  have hyn : y < n := by omega
                  by_cases hxy : x ≤ y
                  rotate_left
                  · have HJ2 : Aside0 (y = scanDown (fun x => !lt x dk[a]!) dk x j) := ⟨by rw [← HEY.out, scanDown_end _ _ _ _ (Or.inl hxy)]⟩
                    have zy : decide ((x : Int) ≤ (y : Int)) = false := decide_eq_false (by omega)
                    have zxy : decide ((y : Int) < (x : Int)) = true := decide_eq_true (by omega)
                    have HF : Aside0 (R = (y, false, swp dk y a)) := ⟨by rw [HR.out, HE.out.symm, part_break lt a i j dk HI2.out HJ2.out (by omega)]⟩
                    have HSW := Aside0.mk (swapAt S y a dk hyn (by omega))
                    go_wp2_with (first
                      | (go_at_call 62; (with_reducible refine (HSW.out _ HSY.out).mono ?_); rintro e w7 ⟨rfl, hs_⟩; have HS7 := Aside0.mk hs_; clear hs_))
                    go_ret2
                    rw [HF.out]
                    exact ⟨rfl, HS7.out⟩
                  have zy : decide ((x : Int) ≤ (y : Int)) = true := decide_eq_true (by omega)
                  cases hlw : lt dk[y]! dk[a]! with
                  | true =>
                    have HLY := Aside0.mk (lessAt S y a dk true (by omega) (by omega) hlw)
                    have HJ2 : Aside0 (y = scanDown (fun x => !lt x dk[a]!) dk x j) := ⟨by rw [← HEY.out, scanDown_end _ _ _ _ (Or.inr (by simp [hlw]))]⟩
                    clear hlw
                    have hlt2 : x < y := part_scans_lt lt a i j dk (by omega) HI2.out HJ2.out hxy
                    have zxy : decide ((y : Int) < (x : Int)) = false := decide_eq_false (by omega)
                    have HSW := Aside0.mk (swapAt S x y dk (by omega) hyn)
                    have HF : Aside0 (partLoop lt a (x + 1) (y - 1) (swp dk x y) = R0) := ⟨by rw [← HE.out, part_go lt a i j dk HI2.out HJ2.out (by omega)]⟩
                    have HC2 : Aside0 (((y - 1 : Nat) : Int) = (y : Int) - 1) := ⟨by omega⟩
                    go_wp2_with (first
                      | (go_at_call 61; (with_reducible refine (HLY.out _ HSY.out).mono ?_); rintro e w6 ⟨rfl, hs_⟩; have HS6 := Aside0.mk hs_; clear hs_)
                      | (go_at_call 62; (with_reducible refine (HSW.out _ HS6.out).mono ?_); rintro e w7 ⟨rfl, hs_⟩; have HS7 := Aside0.mk hs_; clear hs_))
                    go_roundg g0
                    case measure => omega
                    case rel => exact ⟨x + 1, y - 1, swp dk x y, by push_cast; rfl, by rw [HC2.out], ⟨by have := HK.out; omega⟩, ⟨by omega⟩, HS7, HF⟩
                  | false =>
                    have HLY := Aside0.mk (lessAt S y a dk false (by omega) (by omega) hlw)
                    have HF := Aside0.mk (scanDown_go (fun x => !lt x dk[a]!) dk x y hxy (by omega) (by simp [hlw]))
                    obtain ⟨g3, rfl⟩ : ∃ m, gk = m + 1 := ⟨gk - 1, by have := HKY.out; omega⟩
                    have HC1 : Aside0 (((y - 1 : Nat) : Int) = (y : Int) - 1) := ⟨by omega⟩
                    clear hlw
                    go_wp2_with (first
                      | (go_at_call 61; (with_reducible refine (HLY.out _ HSY.out).mono ?_); rintro e w6 ⟨rfl, hs_⟩; have HS6 := Aside0.mk hs_; clear hs_))
                    go_roundg g3
                    case measure => omega
                    case rel => exact ⟨y - 1, by rw [HC1.out], ⟨by have := HKY.out; omega⟩, ⟨by omega⟩, HS6, ⟨by rw [← HEY.out, HF.out]⟩⟩
              | true =>
                have HLX := Aside0.mk (lessAt S x a dk true (by omega) (by omega) hlv)
                have HF := Aside0.mk (scanUp_go (fun x => lt x dk[a]!) dk j x hxj (by simp [hlv]))
                obtain ⟨g2, rfl⟩ : ∃ m, gk = m + 1 := ⟨gk - 1, by have := HKX.out; omega⟩
                clear hlv
                go_wp2_with (first
                  | (go_at_call 61; (with_reducible refine (HLX.out _ HSX.out).mono ?_); rintro e w4 ⟨rfl, hs_⟩; have HS4 := Aside0.mk hs_; clear hs_))
                go_roundg g2
                case measure => omega
                case rel => exact ⟨x + 1, by push_cast; rfl, ⟨by have := HKX.out; omega⟩, ⟨by omega⟩, HS4, ⟨by rw [← HEX.out, HF.out]⟩⟩
        | false =>
          have HLY := Aside0.mk (lessAt S y a dk false (by omega) (by omega) hlw)
          have HF := Aside0.mk (scanDown_go (fun x => !lt x dk[a]!) dk x y hxy (by omega) (by simp [hlw]))
          obtain ⟨g3, rfl⟩ : ∃ m, gk = m + 1 := ⟨gk - 1, by have := HKY.out; omega⟩
          have HC1 : Aside0 (((y - 1 : Nat) : Int) = (y : Int) - 1) := ⟨by omega⟩
          clear hlw
          go_wp2_with (first
            | (go_at_call 61; (with_reducible refine (HLY.out _ HSY.out).mono ?_); rintro e w6 ⟨rfl, hs_⟩; have HS6 := Aside0.mk hs_; clear hs_))
          go_roundg g3
          case measure => omega
          case rel => exact ⟨y - 1, by rw [HC1.out], ⟨by have := HKY.out; omega⟩, ⟨by omega⟩, HS6, ⟨by rw [← HEY.out, HF.out]⟩⟩
    | true =>
      have HLX := Aside0.mk (lessAt S x a dk true (by omega) (by omega) hlv)
      have HF := Aside0.mk (scanUp_go (fun x => lt x dk[a]!) dk j x hxj (by simp [hlv]))
      obtain ⟨g2, rfl⟩ : ∃ m, gk = m + 1 := ⟨gk - 1, by have := HKX.out; omega⟩
      clear hlv
      go_wp2_with (first
        | (go_at_call 61; (with_reducible refine (HLX.out _ HSX.out).mono ?_); rintro e w4 ⟨rfl, hs_⟩; have HS4 := Aside0.mk hs_; clear hs_))
      go_roundg g2
      case measure => omega
      case rel => exact ⟨x + 1, by push_cast; rfl, ⟨by have := HKX.out; omega⟩, ⟨by omega⟩, HS4, ⟨by rw [← HEX.out, HF.out]⟩⟩
#print axioms partition
end
end Go.Proofs.YthjgfdjihlciaaaDoor.SrtH
