/- sort.siftDown, walked over any state that holds an array. -/
import Derived.Test.YthjgfdjihlciaaaDoorSrtA
import Derived.Sort.WalkA
import Derived.Sort.WalkB2
set_option linter.unusedVariables false
set_option linter.unusedSimpArgs false
namespace Go.Proofs.YthjgfdjihlciaaaDoor.SrtD
open Go.RowKit Go.Proofs.YthjgfdjihlciaaaDoorW.PrintWords Go.Proofs.YthjgfdjihlciaaaDoorW.PrintLast Go.Proofs.YthjgfdjihlciaaaDoorW.PrintMore Go.Proofs.YthjgfdjihlciaaaDoor.QAll SrtA Go.Sort
section
variable {α : Type} [Inhabited α] {A : Option Addr} {n c : Nat} {lt : α → α → Bool} {blk : Nat} {St : World → Array α → Prop}
set_option maxHeartbeats 8000000 in
set_option maxRecDepth 100000 in
theorem siftDown (S : Sorter A n c lt blk St) (root hi first : Nat) (d : Array α) (w : World) (hSt : St w d) (hr : root ≤ 1000) (hf : first + hi ≤ n) :
    Calls Tryd.prog 36 #[.iface 34 (.slice A n c), .int .i64 (root : Int), .int .i64 (hi : Int), .int .i64 (first : Int)] w fun e w' => e = .returned (.tuple #[]) ∧ St w' (Sort.siftDown lt hi first root d) := by
  have hmL := fun W => method34 foundLess 212 A n c W
  have hmS := fun W => method34 foundSwap 212 A n c W
  have hnL := fun W => nilAhead34 foundLess 212 A n c W
  have hnS := fun W => nilAhead34 foundSwap 212 A n c W
  have HSt := Aside0.mk hSt
  have hn := S.small
  clear hSt
  go_enter Tryd.func36, Tryd.ntmps36
  go_wp2
  go_loopg [8] hi (fun gk v8 w' => ∃ (r : Nat) (dk : Array α), v8 = .int .i64 (r : Int) ∧ Aside0 (hi - r ≤ gk) ∧ Aside0 (r ≤ 1000) ∧ Aside0 (St w' dk) ∧ Aside0 (Sort.siftDown lt hi first r dk = Sort.siftDown lt hi first root d))
  case atStart => exact ⟨root, d, rfl, ⟨by omega⟩, ⟨hr⟩, HSt, ⟨rfl⟩⟩
  case round =>
    obtain ⟨r, dk, rfl, HK, HI, HS, HE⟩ := hrel
    have hi1 := HI.out
    by_cases hlt : 2 * r + 1 < hi
    rotate_left
    · have z0 : (hi : Int) ≤ 2 * (r : Int) + 1 := by omega
      have z1 : decide ((hi : Int) ≤ 2 * (r : Int) + 1) = true := decide_eq_true z0
      have HF : Aside0 (Sort.siftDown lt hi first root d = dk) := ⟨by rw [← HE.out, Sort.siftDown, dif_pos (by omega)]⟩
      clear hlt
      go_wp2
      go_end0
      exact ⟨rfl, by rw [HF.out]; exact HS.out⟩
    obtain ⟨g0, rfl⟩ : ∃ m, gk = m + 1 := ⟨gk - 1, by have := HK.out; omega⟩
    have z0 : ¬ (hi : Int) ≤ 2 * (r : Int) + 1 := by omega
    have z1 : decide ((hi : Int) ≤ 2 * (r : Int) + 1) = false := decide_eq_false z0
    have cr : ((first + r : Nat) : Int) = (first : Int) + (r : Int) := by push_cast; rfl
    have cl : ((first + (2 * r + 1) : Nat) : Int) = (first : Int) + (2 * (r : Int) + 1) := by push_cast; rfl
    have ch : ((first + (2 * r + 2) : Nat) : Int) = (first : Int) + (2 * (r : Int) + 1 + 1) := by push_cast; omega
    have ch2 : ((first + (2 * r + 2) : Nat) : Int) = (first : Int) + (2 * (r : Int) + 1) + 1 := by push_cast; omega
    have HLc : Aside0 (2 * r + 2 < hi → Calls Tryd.prog 61 #[.slice A n c, .int .i64 ((first : Int) + (2 * (r : Int) + 1)), .int .i64 ((first : Int) + (2 * (r : Int) + 1) + 1)] wr fun e w' => e = .returned (.bool (lt dk[first + (2 * r + 1)]! dk[first + (2 * r + 2)]!)) ∧ St w' dk ∧ Below wr.heap.size wr w') := ⟨fun h => by
      have := S.less' (first + (2 * r + 1)) (first + (2 * r + 2)) HS.out (by omega) (by omega)
      rw [cl, ch2] at this
      exact this⟩
    have HLl : Aside0 (∀ W, St W dk → Calls Tryd.prog 61 #[.slice A n c, .int .i64 ((first : Int) + (r : Int)), .int .i64 ((first : Int) + (2 * (r : Int) + 1))] W fun e w' => e = .returned (.bool (lt dk[first + r]! dk[first + (2 * r + 1)]!)) ∧ St w' dk ∧ Below W.heap.size W w') := ⟨fun W h => by
      have := S.less' (first + r) (first + (2 * r + 1)) h (by omega) (by omega)
      rw [cl, cr] at this
      exact this⟩
    have HLr : Aside0 (2 * r + 2 < hi → ∀ W, St W dk → Calls Tryd.prog 61 #[.slice A n c, .int .i64 ((first : Int) + (r : Int)), .int .i64 ((first : Int) + (2 * (r : Int) + 1 + 1))] W fun e w' => e = .returned (.bool (lt dk[first + r]! dk[first + (2 * r + 2)]!)) ∧ St w' dk ∧ Below W.heap.size W w') := ⟨fun h W hs => by
      have := S.less' (first + r) (first + (2 * r + 2)) hs (by omega) (by omega)
      rw [ch, cr] at this
      exact this⟩
    have HSl : Aside0 (∀ W, St W dk → Calls Tryd.prog 62 #[.slice A n c, .int .i64 ((first : Int) + (r : Int)), .int .i64 ((first : Int) + (2 * (r : Int) + 1))] W fun e w' => e = .returned (.tuple #[]) ∧ St w' (swp dk (first + r) (first + (2 * r + 1))) ∧ Kept blk W w') := ⟨fun W h => by
      have := S.swap (first + r) (first + (2 * r + 1)) h (by omega) (by omega)
      rw [cl, cr] at this
      exact this⟩
    have HSr : Aside0 (2 * r + 2 < hi → ∀ W, St W dk → Calls Tryd.prog 62 #[.slice A n c, .int .i64 ((first : Int) + (r : Int)), .int .i64 ((first : Int) + (2 * (r : Int) + 1 + 1))] W fun e w' => e = .returned (.tuple #[]) ∧ St w' (swp dk (first + r) (first + (2 * r + 2))) ∧ Kept blk W w') := ⟨fun h W hs => by
      have := S.swap (first + r) (first + (2 * r + 2)) hs (by omega) (by omega)
      rw [ch, cr] at this
      exact this⟩
    clear cr cl ch ch2
    by_cases hrt : 2 * r + 2 < hi ∧ lt dk[first + (2 * r + 1)]! dk[first + (2 * r + 2)]! = true
    · obtain ⟨h2, h3⟩ := hrt
      have y0 : 2 * (r : Int) + 1 + 1 < (hi : Int) := by omega
      have y1 : decide (2 * (r : Int) + 1 + 1 < (hi : Int)) = true := decide_eq_true y0
      have HL1 := Aside0.mk (HLc.out h2)
      have HL2 := Aside0.mk (HLr.out h2)
      have HS2 := Aside0.mk (HSr.out h2)
      rw [h3] at HL1
      cases h4 : lt dk[first + r]! dk[first + (2 * r + 2)]! with
      | true =>
        rw [h4] at HL2
        have HF : Aside0 (Sort.siftDown lt hi first (2 * r + 2) (swp dk (first + r) (first + (2 * r + 2))) = Sort.siftDown lt hi first root d) := ⟨by rw [← HE.out, sd_right_go lt dk h2 h3 h4]⟩
        have HH := Aside0.mk h2
        clear h3 h4
        go_wp2_with (first
          | (go_at_call 61; (with_reducible refine HL1.out.mono ?_); rintro e w2 ⟨rfl, hs2, hb2⟩; have HT2 := Aside0.mk hs2; clear hs2 hb2 HL1)
          | (go_at_call 61; (with_reducible refine (HL2.out _ HT2.out).mono ?_); rintro e w3 ⟨rfl, hs3, hb3⟩; have HT3 := Aside0.mk hs3; clear hs3 hb3)
          | (go_at_call 62; (with_reducible refine (HS2.out _ HT3.out).mono ?_); rintro e w4 ⟨rfl, hs4, hk4⟩; have HT4 := Aside0.mk hs4; clear hs4 hk4))
        go_roundg g0
        case measure => omega
        case rel => exact ⟨2 * r + 2, _, by push_cast; first | rfl | (congr 1; omega), ⟨by have := HK.out; omega⟩, ⟨by have := HH.out; omega⟩, HT4, HF⟩
      | false =>
        rw [h4] at HL2
        have HF : Aside0 (Sort.siftDown lt hi first root d = dk) := ⟨by rw [← HE.out, sd_right_stop lt dk h2 h3 h4]⟩
        clear h3 h4
        go_wp2_with (first
          | (go_at_call 61; (with_reducible refine HL1.out.mono ?_); rintro e w2 ⟨rfl, hs2, hb2⟩; have HT2 := Aside0.mk hs2; clear hs2 hb2 HL1)
          | (go_at_call 61; (with_reducible refine (HL2.out _ HT2.out).mono ?_); rintro e w3 ⟨rfl, hs3, hb3⟩; have HT3 := Aside0.mk hs3; clear hs3 hb3))
        ((try simp only [Exit.inBlock, Exit.then]); refine bodyPost_ret (results_none rfl _ _ _) rfl ?_)
        exact ⟨rfl, by rw [HF.out]; exact HT3.out⟩
    · have h3 : 2 * r + 2 < hi → lt dk[first + (2 * r + 1)]! dk[first + (2 * r + 2)]! = false := fun h => by
        cases q : lt dk[first + (2 * r + 1)]! dk[first + (2 * r + 2)]! with
        | true => exact absurd ⟨h, q⟩ hrt
        | false => rfl
      by_cases h2 : 2 * r + 2 < hi
      · have y0 : 2 * (r : Int) + 1 + 1 < (hi : Int) := by omega
        have y1 : decide (2 * (r : Int) + 1 + 1 < (hi : Int)) = true := decide_eq_true y0
        have HL1 := Aside0.mk (HLc.out h2)
        rw [h3 h2] at HL1
        cases h4 : lt dk[first + r]! dk[first + (2 * r + 1)]! with
        | true =>
          rw [h4] at HLl
          have HF : Aside0 (Sort.siftDown lt hi first (2 * r + 1) (swp dk (first + r) (first + (2 * r + 1))) = Sort.siftDown lt hi first root d) := ⟨by rw [← HE.out, sd_left_go lt dk hlt h3 h4]⟩
          have HH := Aside0.mk hlt
          clear h3 h4 hrt
          go_wp2_with (first
            | (go_at_call 61; (with_reducible refine HL1.out.mono ?_); rintro e w2 ⟨rfl, hs2, hb2⟩; have HT2 := Aside0.mk hs2; clear hs2 hb2 HL1)
            | (go_at_call 61; (with_reducible refine (HLl.out _ HT2.out).mono ?_); rintro e w3 ⟨rfl, hs3, hb3⟩; have HT3 := Aside0.mk hs3; clear hs3 hb3)
            | (go_at_call 62; (with_reducible refine (HSl.out _ HT3.out).mono ?_); rintro e w4 ⟨rfl, hs4, hk4⟩; have HT4 := Aside0.mk hs4; clear hs4 hk4))
          go_roundg g0
          case measure => omega
          case rel => exact ⟨2 * r + 1, _, by push_cast; rfl, ⟨by have := HK.out; omega⟩, ⟨by have := HH.out; omega⟩, HT4, HF⟩
        | false =>
          rw [h4] at HLl
          have HF : Aside0 (Sort.siftDown lt hi first root d = dk) := ⟨by rw [← HE.out, sd_left_stop lt dk hlt h3 h4]⟩
          clear h3 h4 hrt
          go_wp2_with (first
            | (go_at_call 61; (with_reducible refine HL1.out.mono ?_); rintro e w2 ⟨rfl, hs2, hb2⟩; have HT2 := Aside0.mk hs2; clear hs2 hb2 HL1)
            | (go_at_call 61; (with_reducible refine (HLl.out _ HT2.out).mono ?_); rintro e w3 ⟨rfl, hs3, hb3⟩; have HT3 := Aside0.mk hs3; clear hs3 hb3))
          ((try simp only [Exit.inBlock, Exit.then]); refine bodyPost_ret (results_none rfl _ _ _) rfl ?_)
          exact ⟨rfl, by rw [HF.out]; exact HT3.out⟩
      · have y0 : ¬ 2 * (r : Int) + 1 + 1 < (hi : Int) := by omega
        have y1 : decide (2 * (r : Int) + 1 + 1 < (hi : Int)) = false := decide_eq_false y0
        cases h4 : lt dk[first + r]! dk[first + (2 * r + 1)]! with
        | true =>
          rw [h4] at HLl
          have HF : Aside0 (Sort.siftDown lt hi first (2 * r + 1) (swp dk (first + r) (first + (2 * r + 1))) = Sort.siftDown lt hi first root d) := ⟨by rw [← HE.out, sd_left_go lt dk hlt h3 h4]⟩
          have HH := Aside0.mk hlt
          clear h3 h4 hrt
          go_wp2_with (first
            | (go_at_call 61; (with_reducible refine (HLl.out _ HS.out).mono ?_); rintro e w3 ⟨rfl, hs3, hb3⟩; have HT3 := Aside0.mk hs3; clear hs3 hb3)
            | (go_at_call 62; (with_reducible refine (HSl.out _ HT3.out).mono ?_); rintro e w4 ⟨rfl, hs4, hk4⟩; have HT4 := Aside0.mk hs4; clear hs4 hk4))
          go_roundg g0
          case measure => omega
          case rel => exact ⟨2 * r + 1, _, by push_cast; rfl, ⟨by have := HK.out; omega⟩, ⟨by have := HH.out; omega⟩, HT4, HF⟩
        | false =>
          rw [h4] at HLl
          have HF : Aside0 (Sort.siftDown lt hi first root d = dk) := ⟨by rw [← HE.out, sd_left_stop lt dk hlt h3 h4]⟩
          clear h3 h4 hrt
          go_wp2_with (first
            | (go_at_call 61; (with_reducible refine (HLl.out _ HS.out).mono ?_); rintro e w3 ⟨rfl, hs3, hb3⟩; have HT3 := Aside0.mk hs3; clear hs3 hb3))
          ((try simp only [Exit.inBlock, Exit.then]); refine bodyPost_ret (results_none rfl _ _ _) rfl ?_)
          exact ⟨rfl, by rw [HF.out]; exact HT3.out⟩
end
end Go.Proofs.YthjgfdjihlciaaaDoor.SrtD
