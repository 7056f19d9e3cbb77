/- sort.reverseRange, walked over any state that holds an array. -/
import Derived.Test.YthjgfdjihlciaaaDoorSrtA
import Derived.Sort.WalkA
import Derived.Sort.WalkB2
set_option linter.unusedVariables false
set_option linter.unusedSimpArgs false
namespace Go.Proofs.YthjgfdjihlciaaaDoor.SrtC
open Go.RowKit Go.Proofs.YthjgfdjihlciaaaDoorW.PrintWords Go.Proofs.YthjgfdjihlciaaaDoorW.PrintLast Go.Proofs.YthjgfdjihlciaaaDoorW.PrintMore Go.Proofs.YthjgfdjihlciaaaDoor.QAll SrtA Go.Sort
section
variable {α : Type} [Inhabited α] {A : Option Addr} {n c : Nat} {lt : α → α → Bool} {blk : Nat} {St : World → Array α → Prop}
set_option maxHeartbeats 8000000 in
set_option maxRecDepth 100000 in
theorem reverseRange (S : Sorter A n c lt blk St) (a b : Nat) (d : Array α) (w : World) (hSt : St w d) (hab : a < b) (hb : b ≤ n) :
    Calls Tryd.prog 29 #[.iface 34 (.slice A n c), .int .i64 (a : Int), .int .i64 (b : Int)] w fun e w' => e = .returned (.tuple #[]) ∧ St w' (Sort.reverseRange d a b) := by
  have hmS := fun W => method34 foundSwap 212 A n c W
  have hnS := fun W => nilAhead34 foundSwap 212 A n c W
  have HSt := Aside0.mk hSt
  have hn := S.small
  have hw0 : wrap64 ((b : Int) - 1) = ((b - 1 : Nat) : Int) := by unfold wrap64; omega
  clear hSt
  go_enter Tryd.func29, Tryd.ntmps29
  go_wp2
  clear hw0
  go_loopg [6, 7] b (fun gk v6 v7 w' => ∃ (i j : Nat) (dk : Array α), v6 = .int .i64 (i : Int) ∧ v7 = .int .i64 (j : Int) ∧ Aside0 (j - i ≤ gk) ∧ Aside0 (j < n ∧ i ≤ n) ∧ Aside0 (St w' dk) ∧ Aside0 (reverseLoop i j dk = reverseLoop a (b - 1) d))
  case atStart => exact ⟨a, b - 1, d, rfl, by first | rfl | (congr 1; omega), ⟨by omega⟩, ⟨by omega⟩, HSt, ⟨rfl⟩⟩
  case round =>
    obtain ⟨i, j, dk, rfl, rfl, HK, HI, HS, HE⟩ := hrel
    have hi1 := HI.out.1
    have hi2 := HI.out.2
    by_cases hlt : i < j
    rotate_left
    · have z0 : ¬ (i : Int) < (j : Int) := by omega
      have z1 : decide ((i : Int) < (j : Int)) = false := decide_eq_false z0
      have HF : Aside0 (Sort.reverseRange d a b = dk) := ⟨by unfold Sort.reverseRange; rw [← HE.out, reverseLoop, if_neg hlt]⟩
      clear hlt
      go_wp2
      go_end0
      exact ⟨rfl, by rw [HF.out]; exact HS.out⟩
    obtain ⟨g0, rfl⟩ : ∃ m, gk = m + 1 := ⟨gk - 1, by have := HK.out; omega⟩
    have z0 : (i : Int) < (j : Int) := by omega
    have z1 : decide ((i : Int) < (j : Int)) = true := decide_eq_true z0
    have hw1 : wrap64 ((i : Int) + 1) = (i : Int) + 1 := by unfold wrap64; omega
    have hw2 : wrap64 ((j : Int) - 1) = (j : Int) - 1 := by unfold wrap64; omega
    have HSW := Aside0.mk (S.swap i j HS.out (by omega) hi1)
    have HF : Aside0 (reverseLoop (i + 1) (j - 1) (swp dk i j) = reverseLoop a (b - 1) d) := ⟨by rw [← HE.out, reverseLoop.eq_def i j, if_pos hlt]⟩
    have HC1 : Aside0 (((j - 1 : Nat) : Int) = (j : Int) - 1) := ⟨by omega⟩
    clear hlt
    go_wp2_with (first
      | (go_at_call 62; (with_reducible refine HSW.out.mono ?_); rintro e w3 ⟨rfl, hs3, hk3⟩; have HS3 := Aside0.mk hs3; clear hs3 hk3))
    go_roundg g0
    case measure => omega
    case rel => exact ⟨i + 1, j - 1, swp dk i j, by push_cast; rfl, by rw [HC1.out], ⟨by have := HK.out; omega⟩, ⟨by omega⟩, HS3, HF⟩
end
end Go.Proofs.YthjgfdjihlciaaaDoor.SrtC
