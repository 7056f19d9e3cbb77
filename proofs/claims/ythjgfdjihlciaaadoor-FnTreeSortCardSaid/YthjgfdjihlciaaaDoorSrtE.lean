/- sort.heapSort, walked over any state that holds an array. -/
import Derived.Test.YthjgfdjihlciaaaDoorSrtA
import Derived.Sort.WalkA
import Derived.Test.YthjgfdjihlciaaaDoorSrtD
import Derived.Sort.WalkB2
set_option linter.unusedVariables false
set_option linter.unusedSimpArgs false
namespace Go.Proofs.YthjgfdjihlciaaaDoor.SrtE
open Go.RowKit Go.Proofs.YthjgfdjihlciaaaDoorW.PrintWords Go.Proofs.YthjgfdjihlciaaaDoorW.PrintLast Go.Proofs.YthjgfdjihlciaaaDoorW.PrintMore Go.Proofs.YthjgfdjihlciaaaDoor.QAll SrtA SrtD Go.Sort
section
variable {α : Type} [Inhabited α] {A : Option Addr} {n c : Nat} {lt : α → α → Bool} {blk : Nat} {St : World → Array α → Prop}
set_option maxHeartbeats 8000000 in
set_option maxRecDepth 100000 in
theorem heapSort (S : Sorter A n c lt blk St) (a b : Nat) (d : Array α) (w : World) (hSt : St w d) (hab : a < b) (hb : b ≤ n) :
    Calls Tryd.prog 26 #[.iface 34 (.slice A n c), .int .i64 (a : Int), .int .i64 (b : Int)] w fun e w' => e = .returned (.tuple #[]) ∧ St w' (Sort.heapSort lt d a b) := by
  have hmS := fun W => method34 foundSwap 212 A n c W
  have hnS := fun W => nilAhead34 foundSwap 212 A n c W
  have HSt := Aside0.mk hSt
  have hn := S.small
  obtain ⟨m, hm⟩ : ∃ m, m = b - a := ⟨_, rfl⟩
  obtain ⟨q, hq⟩ : ∃ q, q = (b - a - 1) / 2 := ⟨_, rfl⟩
  have hsub : (b : Int) - (a : Int) = (m : Int) := by omega
  have hq0 : q = (m - 1) / 2 := by rw [hq, hm]
  have hq1 : ((m : Int) - 1).tdiv 2 = (q : Int) := by rw [Int.tdiv_eq_ediv_of_nonneg (by omega)]; omega
  clear hq0
  have hm1 : 1 ≤ m := by omega
  have hm2 : a + m ≤ n := by omega
  have HM := Aside0.mk hm
  have HQ := Aside0.mk hq
  have hq3 : q ≤ 1000 := by omega
  have HQ3 := Aside0.mk hq3
  clear hSt hm hq
  go_enter Tryd.func26, Tryd.ntmps26
  go_wp2
  clear hq1 hsub
  go_loopg [9] (q + 1) (fun gk v9 w' => ∃ (dk : Array α), v9 = .int .i64 ((gk : Int) - 1) ∧ Aside0 (gk ≤ q + 1) ∧ Aside0 (St w' dk) ∧ Aside0 (heapBuild lt m a gk dk = heapBuild lt m a (q + 1) d))
  case atStart => exact ⟨d, by push_cast; first | rfl | (congr 1; omega), ⟨Nat.le_refl _⟩, HSt, ⟨rfl⟩⟩
  case round =>
    obtain ⟨dk, rfl, HK, HS, HE⟩ := hrel
    by_cases hz : gk = 0
    · subst hz
      have z0 : ¬ (0 : Int) ≤ ((0 : Nat) : Int) - 1 := by omega
      have z1 : decide ((0 : Int) ≤ ((0 : Nat) : Int) - 1) = false := decide_eq_false z0
      have HD : Aside0 (heapBuild lt m a (q + 1) d = dk) := ⟨by rw [← HE.out]; rfl⟩
      go_wp2
      go_loopg [10] m (fun gk v10 w' => ∃ (dj : Array α), v10 = .int .i64 ((gk : Int) - 1) ∧ Aside0 (gk ≤ m) ∧ Aside0 (St w' dj) ∧ Aside0 (heapPop lt a gk dj = heapPop lt a m dk))
      case atStart => exact ⟨dk, by first | rfl | (push_cast; rfl), ⟨Nat.le_refl _⟩, HS, ⟨rfl⟩⟩
      case round =>
        obtain ⟨dj, rfl, HKJ, HSJ, HEJ⟩ := hrel
        by_cases hz : gk = 0
        · subst hz
          have y0 : ¬ (0 : Int) ≤ ((0 : Nat) : Int) - 1 := by omega
          have y1 : decide ((0 : Int) ≤ ((0 : Nat) : Int) - 1) = false := decide_eq_false y0
          have HF : Aside0 (Sort.heapSort lt d a b = dj) := ⟨by
            unfold Sort.heapSort
            rw [← HM.out, show (m - 1) / 2 = q by rw [HQ.out, HM.out], HD.out, ← HEJ.out]
            rfl⟩
          go_wp2
          go_end0
          exact ⟨rfl, by rw [HF.out]; exact HSJ.out⟩
        obtain ⟨g1, rfl⟩ : ∃ m, gk = m + 1 := ⟨gk - 1, by omega⟩
        have hg1 := HKJ.out
        have y0 : (0 : Int) ≤ ((g1 + 1 : Nat) : Int) - 1 := by omega
        have e1 : (((g1 + 1 : Nat) : Int) - 1) = (g1 : Int) := by omega
        have y2 : (0 : Int) ≤ (g1 : Int) := by omega
        have hsw := S.swap a (a + g1) HSJ.out (by omega) (by omega)
        rw [show ((a + g1 : Nat) : Int) = (a : Int) + (g1 : Int) by push_cast; rfl] at hsw
        have HSW := Aside0.mk hsw
        have HSD : Aside0 (∀ W, St W (swp dj a (a + g1)) → Calls Tryd.prog 36 #[.iface 34 (.slice A n c), .int .i64 0, .int .i64 (g1 : Int), .int .i64 (a : Int)] W fun e w' => e = .returned (.tuple #[]) ∧ St w' (Sort.siftDown lt g1 a 0 (swp dj a (a + g1)))) := ⟨fun W h => siftDown S 0 g1 a _ W h (by omega) (by omega)⟩
        rw [e1]
        clear e1 hsw y0
        go_wp2_with (first
          | (go_at_call 62; (with_reducible refine HSW.out.mono ?_); rintro e w3 ⟨rfl, hs3, hk3⟩; have HS3 := Aside0.mk hs3; clear hs3 hk3)
          | (go_at_call 36; (with_reducible refine (HSD.out _ HS3.out).mono ?_); rintro e w4 ⟨rfl, hs4⟩; have HS4 := Aside0.mk hs4; clear hs4))
        go_roundg g1
        case measure => omega
        case rel => exact ⟨_, rfl, ⟨by omega⟩, HS4, ⟨by rw [← HEJ.out]; rfl⟩⟩
    obtain ⟨g0, rfl⟩ : ∃ m, gk = m + 1 := ⟨gk - 1, by omega⟩
    have hg0 := HK.out
    have e1 : (((g0 + 1 : Nat) : Int) - 1) = (g0 : Int) := by omega
    have y2 : (0 : Int) ≤ (g0 : Int) := by omega
    have HSD := Aside0.mk (siftDown S g0 m a dk wr HS.out (by have := HQ3.out; omega) hm2)
    rw [e1]
    clear e1
    go_wp2_with (first
      | (go_at_call 36; (with_reducible refine HSD.out.mono ?_); rintro e w4 ⟨rfl, hs4⟩; have HS4 := Aside0.mk hs4; clear hs4))
    go_roundg g0
    case measure => omega
    case rel => exact ⟨_, rfl, ⟨by omega⟩, HS4, ⟨by rw [← HE.out]; rfl⟩⟩
end
end Go.Proofs.YthjgfdjihlciaaaDoor.SrtE
