/- sort.breakPatterns, walked over any state that holds an array. -/
import Derived.Test.YthjgfdjihlciaaaDoorSrtJ
import Derived.Test.YthjgfdjihlciaaaDoorShelf
import Derived.Sort.Walk7
import Derived.Sort.LotD5
set_option linter.unusedVariables false
set_option linter.unusedSimpArgs false
namespace Go.Proofs.YthjgfdjihlciaaaDoor.SrtI
open Go.RowKit Go.Proofs.YthjgfdjihlciaaaDoorW.PrintWords Go.Proofs.YthjgfdjihlciaaaDoorW.PrintLast Go.Proofs.YthjgfdjihlciaaaDoorW.PrintMore Go.Proofs.YthjgfdjihlciaaaDoor.QAll SrtA SrtF SrtJ Go.Sort
section
variable {α : Type} [Inhabited α] {A : Option Addr} {n c : Nat} {lt : α → α → Bool} {blk : Nat} {St : World → Array α → Prop}
/-- The generator's block, beside the state. -/
structure Rn (St : World → Array α → Prop) (blk : Nat) (w : World) (d : Array α) (g : Nat) (r : Nat) : Prop where
  st : St w d
  ne : blk < g
  ct : w.heap[g]? = some (.cells #[.int .u64 (r : Int)] 74 (0, 0))
theorem Rn.next (S : Sorter A n c lt blk St) {w : World} {d : Array α} {g r : Nat} (h : Rn St blk w d g r) (r' : Nat) : Rn St blk ((w.setCell ⟨g, 0, none⟩ (.int .u64 (r' : Int))).drewN 3) d g r' :=
  ⟨S.below (S.put g 0 _ h.st h.ne) (pw_below_drewN (Below.refl _ _) 3), h.ne, blk_drewN (blk_put h.ct 0 _ rfl) 3⟩
set_option maxHeartbeats 16000000 in
set_option maxRecDepth 1000000 in
theorem breakPatterns (S : Sorter A n c lt blk St) : Breaks A n c St := by
  intro a b d w hSt hab hb
  have hmS := fun W => method34 foundSwap 212 A n c W
  have hnS := fun W => nilAhead34 foundSwap 212 A n c W
  have hn := S.small
  obtain ⟨L, hL⟩ : ∃ L, L = b - a := ⟨_, rfl⟩
  have hbL : b = a + L := by omega
  obtain ⟨R, hR⟩ : ∃ R, R = Go.Sort.breakPatterns d a b := ⟨_, rfl⟩
  rw [← hR]
  rw [hbL, breakPatterns_eq d a L (by omega)] at hR
  obtain ⟨M, hM⟩ : ∃ M : Nat, M = 1 <<< bitsLen L := ⟨_, rfl⟩
  have hM1 : 1 ≤ M := by rw [hM, Nat.one_shiftLeft]; exact Nat.two_pow_pos _
  have hM2 : M ≤ 2 * L := by rw [hM, Nat.one_shiftLeft]; exact two_pow_bitsLen_le (by omega)
  have HNP : Aside0 (∀ W, Calls Tryd.prog 37 #[.int .i64 (L : Int)] W fun e w' => e = .returned (.int .u64 (M : Int)) ∧ w' = W) := ⟨fun W => by rw [hM]; exact Tryd.nextPowerOfTwo L (by omega) W⟩
  rw [← hM] at hR
  obtain ⟨q, hq⟩ : ∃ q, q = L / 4 := ⟨_, rfl⟩
  rw [← hq] at hR
  have hq3 : 3 ≤ q := by omega
  have hq4 : 4 * q ≤ L := by omega
  have hsub : (b : Int) - (a : Int) = (L : Int) := by omega
  have hq2 : (L : Int).tdiv 4 = (q : Int) := by rw [Int.tdiv_eq_ediv_of_nonneg (by omega)]; omega
  have hq1 : (L : Int) / 4 = (q : Int) := by omega
  have h8 : (8 : Int) ≤ (L : Int) := by omega
  have HR := Aside0.mk hR
  have hL2 : a + L ≤ n := by omega
  obtain ⟨g, hg⟩ : ∃ g, g = w.heap.size := ⟨_, rfl⟩
  have H0 : Aside0 (Rn St blk (w.alloc (.cells #[.int .u64 (L : Int)] 74)) d g L) := ⟨⟨S.below hSt (below_alloc (Below.refl _ _) _), by rw [hg]; exact S.pos hSt, by rw [hg]; exact blk_new _ _⟩⟩
  clear hM hq hR hL hbL hSt
  go_enter Tryd.func27, Tryd.ntmps27
  go_upto_region 3 with fail
  simp only [← hg]
  clear hg
  go_wp2_with (first | (go_at_call 37; (with_reducible refine (HNP.out _).mono ?_); rintro e w1 ⟨rfl, hw⟩; replace hw := hw.symm; subst hw))
  clear HNP
  go_loopg [9] 3 (fun gk v9 w' => ∃ (t : Nat) (r : UInt64) (dk : Array α), v9 = .int .i64 ((a : Int) + (q : Int) * 2 - 1 + (t : Int)) ∧ Aside0 (t + gk = 3) ∧ Aside0 (Rn St blk w' dk g r.toNat) ∧ Aside0 (bpRest a L M (a + q * 2 - 1) (3 - t) t (r, dk) = R))
  case atStart => exact ⟨0, UInt64.ofNat L, d, by simp, ⟨rfl⟩, ⟨by rw [show (UInt64.ofNat L).toNat = L from by simp; omega]; exact H0.out⟩, ⟨HR.out.symm⟩⟩
  case round =>
    obtain ⟨t, r, dk, rfl, HT, HN, HE⟩ := hrel
    by_cases hz : gk = 0
    · subst hz
      have ht3 : t = 3 := by have := HT.out; omega
      subst ht3
      have y0 : ¬ ((a : Int) + (q : Int) * 2 - 1 + ((3 : Nat) : Int) ≤ (a : Int) + (q : Int) * 2 + 1) := by omega
      have HF : Aside0 (R = dk) := ⟨by rw [← HE.out]; rfl⟩
      go_wp2
      go_end0
      exact ⟨rfl, by rw [HF.out]; exact HN.out.st⟩
    obtain ⟨g0, rfl⟩ : ∃ m, gk = m + 1 := ⟨gk - 1, by omega⟩
    have ht3 : t < 3 := by have := HT.out; omega
    have y0 : (a : Int) + (q : Int) * 2 - 1 + (t : Int) ≤ (a : Int) + (q : Int) * 2 + 1 := by omega
    obtain ⟨X, hX⟩ : ∃ X : Nat, X = r.toNat := ⟨_, rfl⟩
    have lX : X < 18446744073709551616 := by rw [hX]; exact r.toNat_lt
    obtain ⟨X', hX'⟩ : ∃ X' : Nat, X' = xorNextN X := ⟨_, rfl⟩
    have lX' : X' < 18446744073709551616 := by rw [hX']; exact xorNextN_lt X lX
    obtain ⟨O, hOd⟩ : ∃ O : Nat, O = X' &&& (M - 1) := ⟨_, rfl⟩
    have lO : O ≤ M - 1 := by rw [hOd]; exact Nat.and_le_right
    have eAnd : bits .and .u64 (X' : Int) ((M : Int) - 1) = (O : Int) := by
      rw [show ((M : Int) - 1) = ((M - 1 : Nat) : Int) by omega, bits_and_u64_nat _ _ lX' (by omega), hOd]
    rw [← hX] at HN
    have HNX : Aside0 (Calls Tryd.prog 38 #[.pointer (some ⟨g, 0, none⟩)] wr fun e w' => e = .returned (.int .u64 (X' : Int)) ∧ Rn St blk w' dk g X') := ⟨by
      refine (Tryd.xorshift_Next g 0 X lX wr ((blk_cell HN.out.ct 0).trans rfl) (blk_frozen HN.out.ct 0)).mono ?_
      rintro e w' ⟨rfl, rfl⟩
      rw [← hX']
      exact ⟨rfl, HN.out.next S X'⟩⟩
    have HV : Aside0 (X' = (xorNext r).toNat ∧ O = (xorNext r).toNat &&& (M - 1)) := ⟨by
      have e : X' = (xorNext r).toNat := by rw [hX', hX, xorNext_toNat]
      exact ⟨e, by rw [hOd, e]⟩⟩
    clear hX hX' hOd lX
    have HSW : Aside0 (∀ o, o < L → ∀ W, Rn St blk W dk g X' → Calls Tryd.prog 62 #[.slice A n c, .int .i64 ((a : Int) + (q : Int) * 2 - 1 + (t : Int)), .int .i64 ((a : Int) + (o : Int))] W fun e w' => e = .returned (.tuple #[]) ∧ Rn St blk w' (swp dk (a + q * 2 - 1 + t) (a + o)) g X') := ⟨fun o ho W hW => by
      have := S.swap (a + q * 2 - 1 + t) (a + o) hW.st (by omega) (by omega)
      rw [show ((a + q * 2 - 1 + t : Nat) : Int) = (a : Int) + (q : Int) * 2 - 1 + (t : Int) by omega, show ((a + o : Nat) : Int) = (a : Int) + (o : Int) by push_cast; rfl] at this
      refine this.mono ?_
      rintro e w' ⟨rfl, hs, hk⟩
      exact ⟨rfl, hs, hW.ne, (hk.blk g (blk_lt hW.ct) (by have := hW.ne; omega)).trans hW.ct⟩⟩
    by_cases hLO : L ≤ O
    · have hLOz : (L : Int) ≤ (O : Int) := by omega
      have HW2 := Aside0.mk (HSW.out (O - L) (by omega))
      have HW3 : Aside0 (∀ W, Rn St blk W dk g X' → Calls Tryd.prog 62 #[.slice A n c, .int .i64 ((a : Int) + (q : Int) * 2 - 1 + (t : Int)), .int .i64 ((a : Int) + ((O : Int) - (L : Int)))] W fun e w' => e = .returned (.tuple #[]) ∧ Rn St blk w' (swp dk (a + q * 2 - 1 + t) (a + (O - L))) g X') := ⟨by
        have := HW2.out
        rwa [show ((O - L : Nat) : Int) = (O : Int) - (L : Int) by omega] at this⟩
      have HF : Aside0 (bpRest a L M (a + q * 2 - 1) (3 - (t + 1)) (t + 1) (xorNext r, swp dk (a + q * 2 - 1 + t) (a + (O - L))) = R) := ⟨by rw [← HE.out, bp_step a L M _ t r dk (O - L) ht3 (by rw [← HV.out.2, if_pos (by omega)])]⟩
      clear HSW HW2
      go_wp2_with (first
        | (go_at_call 38; (with_reducible refine HNX.out.mono ?_); rintro e w2 ⟨rfl, h2⟩; have H2 := Aside0.mk h2; clear h2)
        | (go_at_call 62; (with_reducible refine (HW3.out _ H2.out).mono ?_); rintro e w3 ⟨rfl, h3⟩; have H3 := Aside0.mk h3; clear h3))
      go_roundg g0
      case measure => omega
      case rel => exact ⟨t + 1, xorNext r, _, by congr 1; push_cast; omega, ⟨by have := HT.out; omega⟩, ⟨by rw [← HV.out.1]; exact H3.out⟩, HF⟩
    · have hLOz : ¬ (L : Int) ≤ (O : Int) := by omega
      have HW3 := Aside0.mk (HSW.out O (by omega))
      have HF : Aside0 (bpRest a L M (a + q * 2 - 1) (3 - (t + 1)) (t + 1) (xorNext r, swp dk (a + q * 2 - 1 + t) (a + O)) = R) := ⟨by rw [← HE.out, bp_step a L M _ t r dk O ht3 (by rw [← HV.out.2, if_neg (by omega)])]⟩
      clear HSW
      go_wp2_with (first
        | (go_at_call 38; (with_reducible refine HNX.out.mono ?_); rintro e w2 ⟨rfl, h2⟩; have H2 := Aside0.mk h2; clear h2)
        | (go_at_call 62; (with_reducible refine (HW3.out _ H2.out).mono ?_); rintro e w3 ⟨rfl, h3⟩; have H3 := Aside0.mk h3; clear h3))
      go_roundg g0
      case measure => omega
      case rel => exact ⟨t + 1, xorNext r, _, by congr 1; push_cast; omega, ⟨by have := HT.out; omega⟩, ⟨by rw [← HV.out.1]; exact H3.out⟩, HF⟩
#print axioms breakPatterns
theorem lenOk (A : Option Addr) (n c : Nat) (w : World) : Calls Tryd.prog 60 #[.slice A n c] w fun e w' => e = .returned (.int .i64 (n : Int)) ∧ w' = w := by
  go_enter Tryd.func60, Tryd.ntmps60
  go_wp2
  go_ret
  exact ⟨rfl, rfl⟩
/-- sort.Sort: what the state holds behind it. -/
theorem sortSort (S : Sorter A n c lt blk St) (hO : SWO lt) (d : Array α) (w : World) (hSt : St w d) :
    Calls Tryd.prog 13 #[.iface 34 (.slice A n c)] w fun e w' => e = .returned (.tuple #[]) ∧ ∃ d', St w' d' ∧ PermIn 0 n d d' ∧ SortedIn lt 0 n d' := by
  have hmN := fun W => method34 foundLen 212 A n c W
  have hnN := fun W => nilAhead34 foundLen 212 A n c W
  have hn := S.small
  have hds := S.size hSt
  have HSt := Aside0.mk hSt
  have HLN := Aside0.mk (lenOk A n c)
  by_cases h1 : n ≤ 1
  · have h1z : (n : Int) ≤ 1 := by omega
    have HF : Aside0 (SortedIn lt 0 n d) := ⟨fun i j _ hij hj => by omega⟩
    clear hSt hds
    go_enter Tryd.func13, Tryd.ntmps13
    go_wp2_with (first | (go_at_call 60; (with_reducible refine (HLN.out _).mono ?_); rintro e w1 ⟨rfl, hw⟩; replace hw := hw.symm; subst hw))
    all_goals first
      | ((try simp only [Exit.inBlock, Exit.then]); refine bodyPost_ret (results_none rfl _ _ _) rfl ?_; exact ⟨rfl, d, HSt.out, permIn_refl _ _ _, HF.out⟩)
      | (go_end0; exact ⟨rfl, d, HSt.out, permIn_refl _ _ _, HF.out⟩)
  · have h1z : ¬ (n : Int) ≤ 1 := by omega
    have hbl : Lib.bitLen n ≤ 62 := Lib.bitLen_le n 62 (by omega) (by omega)
    have HBL : Aside0 (∀ W, Calls Tryd.prog 19 #[.int .u64 (n : Int)] W fun e w' => e = .returned (.int .i64 (Lib.bitLen n : Nat)) ∧ w' = W) := ⟨fun W => by
      have := Tryd.bits_Len (n : Int) W (by omega) (by omega)
      rwa [Int.toNat_natCast] at this⟩
    obtain ⟨lim, hlim⟩ : ∃ lim, lim = Lib.bitLen n := ⟨_, rfl⟩
    rw [← hlim] at hbl HBL
    have HPD : Aside0 (Calls Tryd.prog 20 #[.iface 34 (.slice A n c), .int .i64 0, .int .i64 (n : Int), .int .i64 (lim : Int)] w fun e w' => e = .returned (.tuple #[]) ∧ St w' (pdq lt d 0 n lim true true)) := ⟨pdqsort S hO (breakPatterns S) (n + 1) 0 n lim d w (by omega) hSt (Nat.zero_le _) (Nat.le_refl _) (by omega) (Or.inl rfl)⟩
    have HF := Aside0.mk (pdq_sorts lt hO d 0 n lim true true (Nat.zero_le _) (by omega) (Or.inl rfl))
    clear hSt hds hlim
    go_enter Tryd.func13, Tryd.ntmps13
    go_wp2_with (first
      | (go_at_call 60; (with_reducible refine (HLN.out _).mono ?_); rintro e w1 ⟨rfl, hw⟩; replace hw := hw.symm; subst hw)
      | (go_at_call 19; (with_reducible refine (HBL.out _).mono ?_); rintro e w2 ⟨rfl, hw⟩; replace hw := hw.symm; subst hw)
      | (go_at_call 20; (with_reducible refine HPD.out.mono ?_); rintro e w3 ⟨rfl, h3⟩; have H3 := Aside0.mk h3; clear h3))
    go_end0
    exact ⟨rfl, _, H3.out, HF.out.1, HF.out.2⟩
#print axioms sortSort
end
end Go.Proofs.YthjgfdjihlciaaaDoor.SrtI
