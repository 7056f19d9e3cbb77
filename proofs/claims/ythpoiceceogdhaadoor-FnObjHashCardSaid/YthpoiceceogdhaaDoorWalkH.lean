/- FnObjHash walked: the law. -/
import Derived.Test.YthpoiceceogdhaaDoorPureH
set_option linter.unusedVariables false
set_option linter.unusedSimpArgs false
namespace Go.Proofs.YthpoiceceogdhaaDoor.WalkH
open Go.RowKit Go.Proofs.YthpoiceceogdhaaDoorW.PrintWords Go.Proofs.YthpoiceceogdhaaDoor.QAll ShaA ShaP ShaB ShaC ShaD ShaE ShaF HshA HshB HshC HshD HshE PureH

set_option maxHeartbeats 8000000 in
set_option maxRecDepth 100000 in
theorem short (b n c : Nat) (A : Option Addr) (w : World) (hcell : w.cell? ⟨b, 0, none⟩ = some (.slice A n c)) (hn : n ≤ 2147483647) :
    Calls Tryd.prog 4 #[.slice (some ⟨b, 0, none⟩) 1 1] w fun e w' => e = .returned (.bool (decide (n ≤ 1000000))) ∧ w' = w := by
  go_enter Tryd.func4, Tryd.ntmps4
  go_wp2
  go_loopg [3, 8] 1 (fun g0 v3 v8 w' => ∃ k : Nat, v8 = .int .i64 (k : Int) ∧ k + g0 = 1 ∧ w' = w ∧ v3 = .int .i64 ((k * n : Nat) : Int) ∧ (k = 0 ∨ n ≤ 1000000))
  case atStart => exact ⟨0, rfl, by omega, rfl, by rw [Nat.zero_mul]; rfl, Or.inl rfl⟩
  case round =>
    obtain ⟨k, rfl, hkg, rfl, rfl, hk⟩ := hrel
    obtain rfl | rfl : k = 0 ∨ k = 1 := by omega
    · rw [Nat.zero_mul]
      by_cases hb : n ≤ 1000000
      · go_wp2
        go_roundg 0
        case measure => omega
        case rel => exact ⟨1, rfl, by omega, rfl, by rw [Nat.one_mul], Or.inr hb⟩
      · go_wp2
        go_ret
        first | exact ⟨rfl, rfl⟩ | exact ⟨by rw [decide_eq_false hb]; rfl, rfl⟩
    · have hb : n ≤ 1000000 := by omega
      go_wp2
      go_ret
      first | exact ⟨rfl, rfl⟩ | exact ⟨by rw [decide_eq_true hb]; rfl, rfl⟩
theorem tab_below {n : String} {k : IntKind} {zs : List Int} {w w' : World} (h : Lib.TabIs Tryd.prog w n k zs) (hb : Below w.heap.size w w') : Lib.TabIs Tryd.prog w' n k zs := by
  unfold Lib.TabIs World.var? at h ⊢
  cases hg : Tryd.prog.globalNamed n with
  | none => rw [hg] at h; cases h
  | some g =>
    rw [hg] at h
    simp only [Option.bind_some] at h ⊢
    have hlt : g < w.heap.size := by
      rcases Nat.lt_or_ge g w.heap.size with h' | h'
      · exact h'
      · rw [Array.getElem?_eq_none h'] at h; cases h
    rw [hb.block g hlt]
    exact h
theorem C_cells {W : World} {A : Option Addr} {D : List Int} (h : Kd.C (Kd.int .u8) W A D.length D) (hn : 0 < D.length) : ∃ ad, A = some ad ∧ ∀ (j : Nat) (x : Int), D[j]? = some x → W.cell? (ad.add j) = some (.int .u8 x) := by
  obtain ⟨ad, _, e, _, _, _⟩ := Kd.C_get h (0 : Int) 0 (by omega) (by omega)
  refine ⟨ad, e, fun j x hx => ?_⟩
  have hj := (List.getElem?_eq_some_iff.1 hx).1
  obtain ⟨ad', cs, e', _, hK, hr⟩ := Kd.C_get h (0 : Int) (j : Int) (by omega) (by omega)
  rw [e] at e'
  cases e'
  rw [Int.toNat_natCast, List.getD_eq_getElem?_getD, hx] at hK
  obtain rfl : cs = [.int .u8 x] := hK
  have := hr 0 _ rfl
  rw [Int.toNat_natCast] at this
  simpa [Kd.int, Kd.scalar] using this
theorem rd_of_C {W : World} {A : Option Addr} {c : Nat} {D : List Int} (h : Kd.C (Kd.int .u8) W A D.length D) (hc : D.length ≤ c) (hm : ∀ x ∈ D, 0 ≤ x ∧ x ≤ 255) : Rd8 W (.slice A (D.map Int.toNat).length c) (D.map Int.toNat) := by
  refine ⟨fun x hx => ?_, A, c, rfl, by rw [List.length_map]; exact hc, fun hp => ?_⟩
  · obtain ⟨y, hy, rfl⟩ := List.mem_map.1 hx
    have := hm y hy
    omega
  · rw [List.length_map] at hp
    obtain ⟨ad, e, hx⟩ := C_cells h hp
    refine ⟨ad, e, fun i x hi => ?_⟩
    rw [List.getElem?_map] at hi
    obtain ⟨y, hy, rfl⟩ := Option.map_eq_some_iff.1 hi
    have hr := hm y (List.mem_of_getElem? hy)
    rw [hx i y hy, Int.toNat_of_nonneg hr.1]
theorem C_of_BR {W : World} {B : Nat} {v : Value} {l : List Nat} (h : BR W B v l) : ∃ A c, v = .slice A (l.map (fun n : Nat => (n : Int))).length c ∧ (l.map (fun n : Nat => (n : Int))).length ≤ c ∧ Kd.C (Kd.int .u8) W A (l.map (fun n : Nat => (n : Int))).length (l.map (fun n : Nat => (n : Int))) := by
  have h2 : W.ownsRow B 5 1 v (l.map (fun n : Nat => (n : Int))).length (encs (fun x : Int => Value.int .u8 x) (l.map (fun n : Nat => (n : Int)))) := by
    have : encs (fun x : Int => Value.int .u8 x) (l.map (fun n : Nat => (n : Int))) = l.map vB := by
      unfold encs
      rw [List.map_map]
      rfl
    rw [this, List.length_map]
    exact h
  exact Kd.R_reads (Kd.R_of_own (h1 := fun _ => rfl) (ok := fun _ => True) h2 (fun _ _ => trivial))

set_option maxHeartbeats 8000000 in
set_option maxRecDepth 100000 in
theorem law (a0 : Int) (A1 : Option Addr) (c1 : Nat) (l1 : List Int) (w : World) (hr1 : Kd.C (Kd.int .u8) w A1 l1.length l1) (hc1 : l1.length ≤ c1) (hm : ∀ x ∈ l1, 0 ≤ x ∧ x ≤ 255)
    (hT : Lib.TabIs Tryd.prog w "internal/strconv.uint64pow10" .u64 Lib.pow10Tab) :
    Calls Tryd.prog 3 #[.int .i64 a0, .slice A1 l1.length c1] w fun e w' => e = .returned (.bool true) ∧ Below w.heap.size w w' := by
  have hR := rd_of_C hr1 hc1 hm
  obtain ⟨l, hl⟩ : ∃ l, l = l1.map Int.toNat := ⟨_, rfl⟩
  obtain ⟨n, hn⟩ : ∃ n, n = l1.length := ⟨_, rfl⟩
  have hln : l.length = n := by rw [hl, hn, List.length_map]
  rw [← hl, hln] at hR
  rw [← hn]
  have HR := Aside0.mk hR
  have HLN := Aside0.mk hln
  have HTAB := Aside0.mk hT
  obtain ⟨t, htf, ht0, ht1⟩ := obKind_f a0
  have HKF := Aside0.mk htf
  have HT := Aside0.mk (⟨ht0, ht1⟩ : 1 ≤ t ∧ t ≤ 4)
  clear hr1 hc1 hm hT hR hl hn hln htf
  by_cases hbig : n ≤ 2147483647
  rotate_left
  · go_enter Tryd.func3, Tryd.ntmps3
    go_wp2_with fail
    go_ret
    exact ⟨rfl, Below.refl _ _⟩
  by_cases hsm : n ≤ 1000000
  rotate_left
  · have HSH : Aside0 (Calls Tryd.prog 4 #[.slice (some ⟨w.heap.size, 0, none⟩) 1 1] (w.alloc (.cells #[.slice A1 n c1] 22)) _) := ⟨short w.heap.size n c1 A1 _ ((Lib.cell_of_heap (heap_alloc_new w _) 0).trans rfl) hbig⟩
    rw [decide_eq_false hsm] at HSH
    go_enter Tryd.func3, Tryd.ntmps3
    go_wp2_with (first
      | (go_at_call 4
         (with_reducible refine HSH.out.mono ?_)
         rintro e w1 ⟨rfl, rfl⟩)
      | fail)
    go_ret
    exact ⟨rfl, below_alloc (Below.refl _ _) _⟩
  have HSH : Aside0 (Calls Tryd.prog 4 #[.slice (some ⟨w.heap.size, 0, none⟩) 1 1] (w.alloc (.cells #[.slice A1 n c1] 22)) _) := ⟨short w.heap.size n c1 A1 _ ((Lib.cell_of_heap (heap_alloc_new w _) 0).trans rfl) hbig⟩
  rw [decide_eq_true hsm] at HSH
  have HSM := Aside0.mk hsm
  go_enter Tryd.func3, Tryd.ntmps3
  go_wp2_with (first
    | (go_at_call 4
       (with_reducible refine HSH.out.mono ?_)
       rintro e w1 ⟨rfl, hw1⟩
       have HB1 : Aside0 (Below w.heap.size w w1) := ⟨by rw [hw1]; exact below_alloc (Below.refl _ _) _⟩
       clear hw1)
    | (go_at_call 5
       (with_reducible refine (laws_obKind.calls a0 _ _ HKF.out).mono ?_)
       rintro e w2 ⟨rfl, hd2⟩
       have HB2 : Aside0 (Below w.heap.size w w2) := ⟨HB1.out.trans (hd2.below.mono HB1.out.size)⟩
       have HHO : Aside0 (Calls Tryd.prog 6 #[.int .i64 (t : Int), .slice A1 n c1] w2 _) := ⟨by
         have := hashOf t HT.out.1 HT.out.2 A1 c1 l w2 (by rw [HLN.out]; exact HR.out.below HB2.out) (by rw [HLN.out]; exact HSM.out) (fun W hW => tab_below HTAB.out (HB2.out.trans (hW.mono HB2.out.size)))
         rw [HLN.out] at this
         exact this⟩
       clear hd2)
    | (go_at_call 6
       (with_reducible refine HHO.out.mono ?_)
       rintro e w3 ⟨rfl, hb3⟩
       have HB3 : Aside0 (Below w.heap.size w w3) := ⟨HB2.out.trans (hb3.mono HB2.out.size)⟩
       clear hb3)
    | (go_at_call 9
       (with_reducible refine (spec_ObName.calls (t : Int) _ _ (obName_f t HT.out.1 HT.out.2)).mono ?_)
       rintro e w4 ⟨rfl, hd4⟩
       have HB4 : Aside0 (Below w.heap.size w w4) := ⟨HB3.out.trans (hd4.below.mono HB3.out.size)⟩
       have HOH : Aside0 (Calls Tryd.prog 8 #[.string (nm t), .slice A1 n c1] w4 _) := ⟨by
         have := objectHash (nm t) A1 c1 l w4 (nm_size t).1 (by rw [HLN.out]; exact HR.out.below HB4.out) (by rw [HLN.out]; exact HSM.out)
         rw [HLN.out] at this
         exact this⟩
       clear hd4)
    | (go_at_call 8
       (with_reducible refine HOH.out.mono ?_)
       rintro e w5 ⟨v5, rfl, hbr, hb5⟩
       have HB5 : Aside0 (Below w.heap.size w w5) := ⟨HB4.out.trans (hb5.mono HB4.out.size)⟩
       have hslt := sha1_lt (hd (nm t) n ++ l)
       have hsll := sha1_len (hd (nm t) n ++ l)
       generalize sha1 (hd (nm t) n ++ l) = SL at hbr hslt hsll ⊢
       obtain ⟨A5, c5, rfl, hc5, hC5⟩ := C_of_BR hbr
       have h20 : (SL.map (fun n : Nat => (n : Int))).length = 20 := by rw [List.length_map]; exact hsll
       have hhx := spec_Hex.calls 30 A5 c5 (SL.map (fun n : Nat => (n : Int))) (hexOf SL) w5 hC5 hc5 (hex_f SL hslt hsll)
       rw [h20] at hhx ⊢
       have HHX := Aside0.mk hhx
       clear hbr hb5 hc5 hC5 h20 hhx hslt hsll)
    | (go_at_call 7
       (with_reducible refine HHX.out.mono ?_)
       rintro e w6 ⟨rfl, hb6⟩
       have HB6 : Aside0 (Below w.heap.size w w6) := ⟨HB5.out.trans (hb6.mono HB5.out.size)⟩
       clear hb6)
    | fail)
  go_ret
  refine ⟨?_, HB6.out⟩
  first | rfl | simp
end Go.Proofs.YthpoiceceogdhaaDoor.WalkH
