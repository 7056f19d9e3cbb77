/- leadingZeros, tableSize, newDeltaIndexScanner, walked. -/
import Derived.Test.YtlboochpbplhlaaDoorHandP
set_option linter.unusedVariables false
set_option linter.unusedSimpArgs false
namespace Go.Proofs.YtlboochpbplhlaaDoor.HandQ
open Go.RowKit Go.Proofs.YtlboochpbplhlaaDoorW.PrintWords Go.Proofs.YtlboochpbplhlaaDoor.QAll PureD HandA HandB HandC HandD HandK HandN HandP

/-- The table len8tab. -/
def Tab8 (w : World) : Prop := 7 < w.heap.size ∧ ∀ i : Nat, i < 256 → ∃ v : Nat, w.cell? ⟨7, i, none⟩ = some (.int .u8 (v : Int)) ∧ v ≤ 8 ∧ (1 ≤ i → 1 ≤ v)
theorem Tab8.below {w W : World} (h : Tab8 w) (hb : Below w.heap.size w W) : Tab8 W := by
  refine ⟨Nat.lt_of_lt_of_le h.1 hb.size, fun i hi => ?_⟩
  obtain ⟨v, h1, h2⟩ := h.2 i hi
  exact ⟨v, (hb.cell (p := ⟨7, i, none⟩) h.1).trans h1, h2⟩

theorem und98 : Tryd.prog.underlying 98 = some (.array 256 5) := by kernel_rfl
theorem idx8 (x : Int) (i : Nat) (hx : x = (i : Int)) (hi : i < 256) (W : World) : (Instr.indexAt 98 (.pointer (some ⟨7, 0, none⟩)) (.int .u32 x)).run Tryd.prog W = .ok (.pointer (some ⟨7, i, none⟩)) W := by
  have hl : Tryd.prog.arrayLen 98 = 256 := by unfold Program.arrayLen; rw [und98]
  have he : Tryd.prog.elem 98 = 5 := by unfold Program.elem; rw [und98]
  obtain ⟨i0, hi0, _, hsz, _⟩ := info_parts info5'
  rw [run_indexAt_array W 98 ⟨7, 0, none⟩ .u32 x (by rw [hl, he]; exact und98), hl, he, hx, if_pos (by omega)]
  simp [sizeOf, typeInfo, hi0, hsz, Lib.addr_add]
set_option maxHeartbeats 4000000 in
set_option maxRecDepth 100000 in
theorem zeros (x : Int) (hx1 : 1 ≤ x) (hx : x < 65536) (w : World) (h : Tab8 w) :
    Calls Tryd.prog 57 #[.int .u32 x] w fun e w' => ∃ n : Nat, e = .returned (.int .i64 ((32 : Int) - n)) ∧ 1 ≤ n ∧ n ≤ 16 ∧ w' = w := by
  obtain ⟨-, ht⟩ := h
  have hA : decide ((65536 : Int) ≤ x) = false := decide_eq_false (by omega)
  by_cases h256 : 256 ≤ x
  · obtain ⟨v, hv, hv8, hv1⟩ := ht (x / 256).toNat (by omega)
    have hv1 := hv1 (by omega)
    have hidx := idx8 (x / 256) (x / 256).toNat (by omega) (by omega)
    generalize (x / 256).toNat = i at hv hidx
    clear ht hv1
    go_enter Tryd.func57, Tryd.ntmps57
    go_wp2
    go_ret
    refine ⟨v + 8, ?_, by omega, by omega, rfl⟩
    rw [show (32 : Int) - ((v + 8 : Nat) : Int) = 32 - (8 + (v : Int)) by omega]
    rfl
  · obtain ⟨v, hv, hv8, hv1⟩ := ht x.toNat (by omega)
    have hv1 := hv1 (by omega)
    have hidx := idx8 x x.toNat (by omega) (by omega)
    clear ht
    go_enter Tryd.func57, Tryd.ntmps57
    go_wp2
    go_ret
    exact ⟨v, rfl, by omega, by omega, rfl⟩
set_option maxHeartbeats 4000000 in
set_option maxRecDepth 100000 in
theorem tsize (x : Int) (hx1 : 1 ≤ x) (hx : x < 65536) (w : World) (h : Tab8 w) :
    Calls Tryd.prog 54 #[.int .i64 x] w fun e w' => ∃ n : Nat, e = .returned (.int .i64 (n : Int)) ∧ 1 ≤ n ∧ n ≤ 131072 ∧ w' = w := by
  have HZ := Aside0.mk (zeros x hx1 hx w h)
  have hw : IntKind.u32.wrap x = x := by rw [IntKind.wrap_u32]; omega
  clear h
  go_enter Tryd.func54, Tryd.ntmps54
  go_wp2_with (
    go_at_call 57
    (with_reducible refine HZ.out.mono ?_)
    rintro e w1 ⟨k, rfl, hk1, hk2, rfl⟩
    obtain rfl | rfl | rfl | rfl | rfl | rfl | rfl | rfl | rfl | rfl | rfl | rfl | rfl | rfl | rfl | rfl : k = 1 ∨ k = 2 ∨ k = 3 ∨ k = 4 ∨ k = 5 ∨ k = 6 ∨ k = 7 ∨ k = 8 ∨ k = 9 ∨ k = 10 ∨ k = 11 ∨ k = 12 ∨ k = 13 ∨ k = 14 ∨ k = 15 ∨ k = 16 := by omega)
  all_goals (go_ret; first | exact ⟨1, rfl, by omega, by omega, rfl⟩ | exact ⟨2, rfl, by omega, by omega, rfl⟩ | exact ⟨4, rfl, by omega, by omega, rfl⟩ | exact ⟨8, rfl, by omega, by omega, rfl⟩ | exact ⟨16, rfl, by omega, by omega, rfl⟩ | exact ⟨32, rfl, by omega, by omega, rfl⟩ | exact ⟨64, rfl, by omega, by omega, rfl⟩ | exact ⟨128, rfl, by omega, by omega, rfl⟩ | exact ⟨256, rfl, by omega, by omega, rfl⟩ | exact ⟨512, rfl, by omega, by omega, rfl⟩ | exact ⟨1024, rfl, by omega, by omega, rfl⟩ | exact ⟨2048, rfl, by omega, by omega, rfl⟩ | exact ⟨4096, rfl, by omega, by omega, rfl⟩ | exact ⟨8192, rfl, by omega, by omega, rfl⟩ | exact ⟨16384, rfl, by omega, by omega, rfl⟩ | exact ⟨32768, rfl, by omega, by omega, rfl⟩ | exact ⟨65536, rfl, by omega, by omega, rfl⟩ | exact ⟨131072, rfl, by omega, by omega, rfl⟩)


set_option maxHeartbeats 4000000 in
set_option maxRecDepth 100000 in
theorem small (A : Option Addr) (c L : Nat) (hL : L < 16) (w : World) :
    Calls Tryd.prog 46 #[.slice A L c, .int .i64 (L : Int)] w fun e w' => e = .returned (.pointer (some ⟨w.heap.size, 0, none⟩)) ∧ w' = w.alloc (.cells #[.slice none 0 0, .slice none 0 0, .slice none 0 0, .int .i64 0, .int .i64 0] 87) := by
  have h1 : Int.tmod (L : Int) 16 = L := by rw [Int.tmod_eq_emod_of_nonneg (by omega)]; omega
  go_enter Tryd.func46, Tryd.ntmps46
  go_wp2
  go_ret
  exact ⟨rfl, rfl⟩

theorem sz (w : World) (o : Obj) : (w.alloc o).heap.size = w.heap.size + 1 := by show (w.heap.push o).size = _; simp
theorem a0 (w : World) (a b c d : Obj) : ((((w.alloc a).alloc b).alloc c).alloc d).drew.heap[w.heap.size]? = some a :=
  (Below.heap_alloc _ d _ (by rw [sz, sz, sz]; omega)).trans ((Below.heap_alloc _ c _ (by rw [sz, sz]; omega)).trans ((Below.heap_alloc _ b _ (by rw [sz]; omega)).trans (heap_alloc_new w a)))
theorem a1 (w : World) (a b c d : Obj) : ((((w.alloc a).alloc b).alloc c).alloc d).drew.heap[w.heap.size + 1]? = some b := by
  have h := heap_alloc_new (w.alloc a) b
  rw [sz] at h
  exact (Below.heap_alloc _ d _ (by rw [sz, sz, sz]; omega)).trans ((Below.heap_alloc _ c _ (by rw [sz, sz]; omega)).trans h)
theorem a2 (w : World) (a b c d : Obj) : ((((w.alloc a).alloc b).alloc c).alloc d).drew.heap[w.heap.size + 1 + 1]? = some c := by
  have h := heap_alloc_new ((w.alloc a).alloc b) c
  rw [sz, sz] at h
  exact (Below.heap_alloc _ d _ (by rw [sz, sz, sz]; omega)).trans h
theorem a3 (w : World) (a b c d : Obj) : ((((w.alloc a).alloc b).alloc c).alloc d).drew.heap[w.heap.size + 1 + 1 + 1]? = some d := by
  have h := heap_alloc_new (((w.alloc a).alloc b).alloc c) d
  rw [sz, sz, sz] at h
  exact h
theorem aB (w : World) (a b c d : Obj) : Below w.heap.size w ((((w.alloc a).alloc b).alloc c).alloc d).drew :=
  below_drew (below_alloc (below_alloc (below_alloc (below_alloc (Below.refl _ _) _) _) _) _)
theorem scan_mk {W : World} {s tb eb xb ts n : Nat} {M1 M2 : Array Value} (h1 : M1 = madeCells (Value.int .i64 0).cells (ts * 1)) (h2 : M2 = madeCells (Value.int .i64 0).cells (n * 1)) (ht1 : 1 ≤ ts)
    (hs : W.heap[s]? = some (.cells #[.slice (some ⟨tb, 0, none⟩) ts ts, .slice (some ⟨eb, 0, none⟩) n n, .slice (some ⟨xb, 0, none⟩) n n, .int .i64 ((ts : Int) - 1), .int .i64 0] 87 (0, 0)))
    (ht : W.heap[tb]? = some (.cells M1 3 (0, 0))) (he : W.heap[eb]? = some (.cells M2 3 (0, 0))) (hx : W.heap[xb]? = some (.cells M2 3 (0, 0))) (n1 : s ≠ tb ∧ s ≠ eb ∧ s ≠ xb ∧ tb ≠ eb ∧ tb ≠ xb ∧ eb ≠ xb) :
    Scan W s tb eb xb ts n (ts - 1) 0 (List.replicate ts 0) (List.replicate n 0) (List.replicate n 0) := by
  obtain ⟨n1, n2, n3, n4, n5, n6⟩ := n1
  refine ⟨?_, ?_, ?_, ?_, n1, n2, n3, n4, n5, n6, by simp, by simp, by simp⟩
  · unfold Sc
    rw [show ((ts - 1 : Nat) : Int) = (ts : Int) - 1 by omega]
    exact hs
  · rw [h1, made_nats] at ht; exact ht
  · rw [h2, made_nats] at he; exact he
  · rw [h2, made_nats] at hx; exact hx
theorem held0 (ts n : Nat) : Held (List.replicate ts 0) (List.replicate n 0) 0 := by
  refine ⟨fun i t hi => ?_, fun i x hi => ?_⟩
  · rw [List.getElem?_replicate] at hi; split at hi <;> simp_all
  · rw [List.getElem?_replicate] at hi; split at hi <;> simp_all
theorem info3 : (Tryd.prog.info? 3).map (fun i => (i.zero, i.size, i.bytes)) = some (some (.int .i64 0), 1, 8) := by kernel_rfl
set_option maxHeartbeats 4000000 in
set_option maxRecDepth 100000 in
theorem big (B : Nat) (A : Option Addr) (c : Nat) (l : List Int) (w : World) (hBw : B ≤ w.heap.size) (hT : ∀ W, Below B w W → TabT W) (h8 : Tab8 w) (hS : Sd w B A c l) (h16 : 16 ≤ l.length) (hl : l.length ≤ 1000000) :
    Calls Tryd.prog 46 #[.slice A l.length c, .int .i64 (l.length : Int)] w fun e w' => ∃ s tb eb xb ts n cnt table entries next, e = .returned (.pointer (some ⟨s, 0, none⟩)) ∧ 1 ≤ ts ∧ ts ≤ 131072 ∧ n ≤ 62501 ∧ cnt < n ∧ Scan w' s tb eb xb ts n (ts - 1) cnt table entries next ∧ Held table next cnt ∧ Low entries 1000000 ∧
      (w.heap.size ≤ s ∧ w.heap.size ≤ tb ∧ w.heap.size ≤ eb ∧ w.heap.size ≤ xb) ∧ Below w.heap.size w w' := by
  obtain ⟨L, hL⟩ : ∃ L, L = l.length := ⟨_, rfl⟩
  obtain ⟨K, hK⟩ : ∃ K, K = L / 16 := ⟨_, rfl⟩
  have HT := Aside0.mk hT
  have HS := Aside0.mk hS
  have HL := Aside0.mk hL
  rw [← hL] at h16 hl ⊢
  have hm : Int.tmod (L : Int) 16 = ((L - K * 16 : Nat) : Int) := by rw [Int.tmod_eq_emod_of_nonneg (by omega)]; omega
  have hsub : (L : Int) - ((L - K * 16 : Nat) : Int) = (K : Int) * 16 := by omega
  have hq : Int.tdiv ((K : Int) * 16) 16 = K := by rw [Int.tdiv_eq_ediv_of_nonneg (by omega)]; omega
  have hK1 : 1 ≤ K := by omega
  have hK2 : K ≤ 62500 := by omega
  have HKL : Aside0 (K * 16 ≤ L) := ⟨by omega⟩
  have HZ : Aside0 (Calls Tryd.prog 54 #[.int .i64 (K : Int)] w _) := ⟨tsize K (by omega) (by omega) w h8⟩
  generalize ((L - K * 16 : Nat) : Int) = R at hm hsub
  clear hT hS hL h8 hK h16
  go_enter Tryd.func46, Tryd.ntmps46
  go_upto_region 6 with (
    go_at_call 54
    (with_reducible refine HZ.out.mono ?_)
    rintro e w1 ⟨ts, rfl, ht1, ht2, rfl⟩)
  obtain ⟨i0, hi, hz0, hz1, hz2⟩ := info_parts info3
  obtain ⟨M1, hM1⟩ : ∃ M, M = madeCells (Value.int .i64 0).cells (ts * 1) := ⟨_, rfl⟩
  obtain ⟨M2, hM2⟩ : ∃ M, M = madeCells (Value.int .i64 0).cells ((K + 1) * 1) := ⟨_, rfl⟩
  have hmk1 : ∀ W : World, (Instr.makeSlice 57 (.int .i64 (ts : Int)) (.int .i64 (ts : Int))).run Tryd.prog W = .ok (.slice (some ⟨W.heap.size, 0, none⟩) ts ts) (W.alloc (.cells M1 3)) := fun W => by
    have h := run_make (P := Tryd.prog) W 57 3 i0 (.int .i64 0) Tryd.underlying57 hi hz0 .i64 .i64 (ts : Int) ts (by omega) (by omega) (by rw [hz2]; omega) (by omega)
    rw [Int.toNat_natCast, hz1, ← hM1] at h
    exact h
  have hmk2 : ∀ W : World, (Instr.makeSlice 57 (.int .i64 ((K : Int) + 1)) (.int .i64 ((K : Int) + 1))).run Tryd.prog W = .ok (.slice (some ⟨W.heap.size, 0, none⟩) (K + 1) (K + 1)) (W.alloc (.cells M2 3)) := fun W => by
    have h := run_make (P := Tryd.prog) W 57 3 i0 (.int .i64 0) Tryd.underlying57 hi hz0 .i64 .i64 ((K : Int) + 1) ((K : Int) + 1) (by omega) (by omega) (by rw [hz2]; omega) (by omega)
    rw [show ((K : Int) + 1).toNat = K + 1 by omega, hz1, ← hM2] at h
    exact h
  have HM1 := Aside0.mk hM1
  have HM2 := Aside0.mk hM2
  clear hM1 hM2 hi hz0 hz1 hz2 i0
  go_cut [7] from 8 (fun v7 wx => ∃ s tb eb xb, v7 = .pointer (some ⟨s, 0, none⟩) ∧ Scan wx s tb eb xb ts (K + 1) (ts - 1) 0 (List.replicate ts 0) (List.replicate (K + 1) 0) (List.replicate (K + 1) 0) ∧ (w1.heap.size ≤ s ∧ w1.heap.size ≤ tb ∧ w1.heap.size ≤ eb ∧ w1.heap.size ≤ xb) ∧ Below w1.heap.size w1 wx)
  case first =>
    go_region
    all_goals (go_wp2_with fail; go_meet; exact ⟨_, _, _, _, rfl, scan_mk HM1.out HM2.out ht1 (a3 _ _ _ _ _) (by first | exact a0 _ _ _ _ _ | exact a1 _ _ _ _ _ | exact a2 _ _ _ _ _) (by first | exact a0 _ _ _ _ _ | exact a1 _ _ _ _ _ | exact a2 _ _ _ _ _) (by first | exact a0 _ _ _ _ _ | exact a1 _ _ _ _ _ | exact a2 _ _ _ _ _) (by omega), by omega, aB _ _ _ _ _⟩)
  case rest =>
    obtain ⟨s, tb, eb, xb, rfl, hSc, hfr, hb⟩ := hcut
    have hbB : Below B w1 wc := below_old hBw hb
    have HSC : Aside0 (Calls Tryd.prog 55 #[.pointer (some ⟨s, 0, none⟩), .slice A L c, .int .i64 ((K : Int) * 16)] wc _) := ⟨by
      have h := HandP.scan B s tb eb xb ts (K + 1) K A c l wc (Nat.le_trans hBw hb.size) (fun W hW => HT.out W (hbB.trans hW)) (HS.out.below hbB) (by omega) (by rw [← HL.out]; exact HKL.out) hK1 rfl ht1 (by omega) _ _ _ hSc (held0 _ _) (Low.rep _ _)
      rw [← HL.out, Int.natCast_mul] at h
      exact h⟩
    have HBB := Aside0.mk hb
    clear hSc hb hbB
    go_wp2_with (
      go_at_call 55
      (with_reducible refine HSC.out.mono ?_)
      rintro e w2 ⟨rfl, hof, cnt, table, entries, next, hc1, hc2, hc3, hc4⟩)
    go_ret
    exact ⟨s, tb, eb, xb, ts, K + 1, cnt, table, entries, next, rfl, ht1, ht2, by omega, by omega, hc2, hc3, (fun i e hi => Nat.le_trans (hc4 i e hi) (by omega)), hfr, HBB.out.trans (hof.below HBB.out.size (fun k hk => by rcases hk with rfl | rfl | rfl | rfl <;> omega))⟩
end Go.Proofs.YtlboochpbplhlaaDoor.HandQ
