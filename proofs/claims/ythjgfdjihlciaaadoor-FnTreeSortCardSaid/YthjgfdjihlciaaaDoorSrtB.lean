/- sort.insertionSort, sort.reverseRange, walked over any state that holds an array. -/
import Derived.Test.YthjgfdjihlciaaaDoorSrtA
import Derived.Sort.WalkA
import Derived.Sort.WalkA6
set_option linter.unusedVariables false
set_option linter.unusedSimpArgs false
namespace Go.Proofs.YthjgfdjihlciaaaDoor.SrtB
open Go.RowKit Go.Proofs.YthjgfdjihlciaaaDoorW.PrintWords Go.Proofs.YthjgfdjihlciaaaDoorW.PrintLast Go.Proofs.YthjgfdjihlciaaaDoorW.PrintMore Go.Proofs.YthjgfdjihlciaaaDoor.QAll SrtA Go.Sort
section
variable {α : Type} [Inhabited α] {A : Option Addr} {n c : Nat} {lt : α → α → Bool} {blk : Nat} {St : World → Array α → Prop}
set_option maxHeartbeats 8000000 in
set_option maxRecDepth 100000 in
theorem insertionSort (S : Sorter A n c lt blk St) (a b : Nat) (d : Array α) (w : World) (hSt : St w d) (hab : a ≤ b) (hb : b ≤ n) :
    Calls Tryd.prog 25 #[.iface 34 (.slice A n c), .int .i64 (a : Int), .int .i64 (b : Int)] w fun e w' => e = .returned (.tuple #[]) ∧ St w' (Sort.insertionSort lt d a b) := by
  have hmL := fun W => method34 foundLess 212 A n c W
  have hmS := fun W => method34 foundSwap 212 A n c W
  have hnL := fun W => nilAhead34 foundLess 212 A n c W
  have hnS := fun W => nilAhead34 foundSwap 212 A n c W
  have HSt := Aside0.mk hSt
  have hn := S.small
  clear hSt
  go_enter Tryd.func25, Tryd.ntmps25
  go_wp2
  go_loopg [6] (b + 1) (fun gk v6 w' => ∃ (i : Nat) (dk : Array α), v6 = .int .i64 (i : Int) ∧ Aside0 (i + gk = b + a + 2) ∧ Aside0 (a < i ∧ i ≤ b + 1) ∧ Aside0 (St w' dk) ∧ Aside0 (insOuter lt a b i dk = insOuter lt a b (a + 1) d))
  case atStart => exact ⟨a + 1, d, by push_cast; rfl, ⟨by omega⟩, ⟨by omega⟩, HSt, ⟨rfl⟩⟩
  case round =>
    obtain ⟨i, dk, rfl, HK, HI, HS, HE⟩ := hrel
    have hi1 := HI.out.1
    have hi2 := HI.out.2
    by_cases hlt : i < b
    rotate_left
    · have z0 : ¬ (i : Int) < (b : Int) := by omega
      have z1 : decide ((i : Int) < (b : Int)) = false := decide_eq_false z0
      have HF : Aside0 (Sort.insertionSort lt d a b = dk) := ⟨by unfold Sort.insertionSort; rw [← HE.out, insOuter_stop _ _ _ _ _ hlt]⟩
      clear hlt
      go_wp2
      go_end0
      exact ⟨rfl, by rw [HF.out]; exact HS.out⟩
    obtain ⟨g0, rfl⟩ : ∃ m, gk = m + 1 := ⟨gk - 1, by have := HK.out; omega⟩
    have z0 : (i : Int) < (b : Int) := by omega
    have z1 : decide ((i : Int) < (b : Int)) = true := decide_eq_true z0
    have hw1 : wrap64 ((i : Int) + 1) = (i : Int) + 1 := by unfold wrap64; omega
    have HLT := Aside0.mk hlt
    clear hlt
    go_wp2
    go_loopg [7] (i - a) (fun gj v7 w' => ∃ (j : Nat) (dj : Array α), v7 = .int .i64 (j : Int) ∧ Aside0 (j = a + gj ∧ j ≤ i) ∧ Aside0 (St w' dj) ∧ Aside0 (insInner lt a j dj = insInner lt a i dk))
    case atStart => exact ⟨i, dk, rfl, ⟨by omega⟩, HS, ⟨rfl⟩⟩
    case round =>
      obtain ⟨j, dj, rfl, HJ, HSJ, HEJ⟩ := hrel
      have hj2 := HJ.out.2
      have HOUT : Aside0 ((j ≤ a ∨ lt dj[j]! dj[j - 1]! = false) → insOuter lt a b (i + 1) dj = insOuter lt a b (a + 1) d) := ⟨fun hs => by
        rw [← HE.out, insOuter_go _ _ _ _ _ HLT.out, ← HEJ.out, insInner_stop _ _ _ _ hs]⟩
      by_cases hja : a < j
      rotate_left
      · have y0 : ¬ (a : Int) < (j : Int) := by omega
        have y1 : decide ((a : Int) < (j : Int)) = false := decide_eq_false y0
        have HF := Aside0.mk (HOUT.out (Or.inl (by omega)))
        clear hja
        go_wp2
        go_roundg g0
        case measure => omega
        case rel => exact ⟨i + 1, dj, by push_cast; rfl, ⟨by have := HK.out; omega⟩, ⟨by omega⟩, HSJ, HF⟩
      obtain ⟨g1, rfl⟩ : ∃ m, gk = m + 1 := ⟨gk - 1, by have := HJ.out; omega⟩
      have y0 : (a : Int) < (j : Int) := by omega
      have y1 : decide ((a : Int) < (j : Int)) = true := decide_eq_true y0
      have hw2 : wrap64 ((j : Int) - 1) = (j : Int) - 1 := by unfold wrap64; omega
      have hc1 : (((j - 1 : Nat) : Int)) = (j : Int) - 1 := by omega
      have hl := S.less' j (j - 1) HSJ.out (by omega) (by omega)
      rw [hc1] at hl
      have HLS := Aside0.mk hl
      have HSW : Aside0 (∀ W, St W dj → Calls Tryd.prog 62 #[.slice A n c, .int .i64 (j : Int), .int .i64 ((j : Int) - 1)] W fun e w' => e = .returned (.tuple #[]) ∧ St w' (swp dj j (j - 1)) ∧ Kept blk W w') := ⟨fun W h => by
        have := S.swap j (j - 1) h (by omega) (by omega)
        rwa [hc1] at this⟩
      have HC1 := Aside0.mk hc1
      clear hl hc1
      cases hlv : lt dj[j]! dj[j - 1]! with
      | true =>
        rw [hlv] at HLS
        have HF := Aside0.mk (insInner_go lt a j dj hja hlv)
        clear hja
        go_wp2_with (first
          | (go_at_call 61; (with_reducible refine HLS.out.mono ?_); rintro e w2 ⟨rfl, hs2, hb2⟩; have HS2 := Aside0.mk hs2; clear hs2 hb2)
          | (go_at_call 62; (with_reducible refine (HSW.out _ HS2.out).mono ?_); rintro e w3 ⟨rfl, hs3, hk3⟩; have HS3 := Aside0.mk hs3; clear hs3 hk3))
        go_roundg g1
        case measure => omega
        case rel => exact ⟨j - 1, swp dj j (j - 1), by rw [HC1.out], ⟨by have := HJ.out; omega⟩, HS3, ⟨by rw [← HEJ.out, HF.out]⟩⟩
      | false =>
        rw [hlv] at HLS
        have HF := Aside0.mk (HOUT.out (Or.inr hlv))
        clear hja
        go_wp2_with (first
          | (go_at_call 61; (with_reducible refine HLS.out.mono ?_); rintro e w2 ⟨rfl, hs2, hb2⟩; have HS2 := Aside0.mk hs2; clear hs2 hb2))
        go_roundg g0
        case measure => omega
        case rel => exact ⟨i + 1, dj, by push_cast; rfl, ⟨by have := HK.out; omega⟩, ⟨by omega⟩, HS2, HF⟩
#print axioms insertionSort
end
end Go.Proofs.YthjgfdjihlciaaaDoor.SrtB
