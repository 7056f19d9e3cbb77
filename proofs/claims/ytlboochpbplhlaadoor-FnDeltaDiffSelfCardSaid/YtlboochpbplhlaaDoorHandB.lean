/- packfile.decodeOffset, walked where the bytes that the code names are there. -/
import Derived.Test.YtlboochpbplhlaaDoorHandA
set_option linter.unusedVariables false
set_option linter.unusedSimpArgs false
namespace Go.Proofs.YtlboochpbplhlaaDoor.HandB
open Go.RowKit Go.Proofs.YtlboochpbplhlaaDoorW.PrintWords Go.Proofs.YtlboochpbplhlaaDoor.QAll PureD HandA

/-- A table of masks and shifts: the bit m + i, and 8 i. -/
def Tab (w : World) (v m n : Nat) : Prop :=
  ∃ b o c, w.cell? ⟨v, 0, none⟩ = some (.slice (some ⟨b, o, none⟩) n c) ∧ n ≤ c ∧ b < w.heap.size ∧ v < w.heap.size ∧
    ∀ i, i < n → w.cell? ⟨b, o + i * 2, none⟩ = some (.int .u8 ((2 ^ (m + i) : Nat) : Int)) ∧ w.cell? ⟨b, o + i * 2 + 1, none⟩ = some (.int .u64 ((8 * i : Nat) : Int))
theorem Tab.below {w W : World} {v m n : Nat} (h : Tab w v m n) (hb : Below w.heap.size w W) : Tab W v m n := by
  obtain ⟨b, o, c, h1, h2, h3, h3', h4⟩ := h
  exact ⟨b, o, c, (hb.cell (World.block_lt_of_cell? w _ h1)).trans h1, h2, Nat.lt_of_lt_of_le h3 hb.size, Nat.lt_of_lt_of_le h3' hb.size, fun i hi => ⟨(hb.cell (World.block_lt_of_cell? w _ (h4 i hi).1)).trans (h4 i hi).1, (hb.cell (World.block_lt_of_cell? w _ (h4 i hi).2)).trans (h4 i hi).2⟩⟩

theorem bit_and (c i : Nat) (hc : c < 256) (hi : i < 8) : bits .and .u8 (c : Int) ((2 ^ i : Nat) : Int) = if c.testBit i = true then ((2 ^ i : Nat) : Int) else 0 := by
  have hp : 2 ^ i < 2 ^ 8 := Nat.pow_lt_pow_right (by omega) hi
  rw [(bits_nat .u8 8 (by decide) wraps_u8 c (2 ^ i) (by omega) hp).1, (by decide +kernel : ∀ c : Fin 256, ∀ i : Fin 8, c.val &&& 2 ^ i.val = if c.val.testBit i.val = true then 2 ^ i.val else 0) ⟨c, hc⟩ ⟨i, hi⟩]
  cases c.testBit i <;> rfl
theorem or8 (acc b k : Nat) (hk : k ≤ 6) (ha : acc < 256 ^ k) (hb : b < 256) : bits .or .u64 (acc : Int) (IntKind.u64.wrap ((b : Int) * 2 ^ (8 * k))) = ((acc + b * 256 ^ k : Nat) : Int) := by
  have hp : (256 : Nat) ^ k = 2 ^ (8 * k) := by rw [show (256 : Nat) = 2 ^ 8 from rfl, ← Nat.pow_mul]
  have hp2 : 2 ^ (8 * k) ≤ 2 ^ 48 := Nat.pow_le_pow_right (by omega) (by omega)
  have hs : b * 2 ^ (8 * k) < 2 ^ 56 := by
    have : b * 2 ^ (8 * k) ≤ 255 * 2 ^ 48 := Nat.mul_le_mul (by omega) hp2
    omega
  have he : (b : Int) * 2 ^ (8 * k) = ((b * 2 ^ (8 * k) : Nat) : Int) := by push_cast; rfl
  rw [hp] at ha
  rw [he, wraps_u64 _ (by omega) (by omega), (bits_nat .u64 63 (by decide) wraps_u64 _ _ (by omega) (by omega)).2]
  congr 1
  rw [hp, ← Nat.shiftLeft_eq, Nat.or_comm, ← Nat.shiftLeft_add_eq_or_of_lt ha, Nat.add_comm]
theorem dec_next {c m n i : Nat} {l : List Int} {x : Nat × List Int} (h : dec c m (n + 1) i l = some x) :
    (c.testBit (m + i) = false ∧ dec c m n (i + 1) l = some x) ∨ (c.testBit (m + i) = true ∧ ∃ b l' y, l = b :: l' ∧ dec c m n (i + 1) l' = some (y, x.2) ∧ x.1 = b.toNat * 256 ^ i + y) := by
  unfold dec at h
  cases ht : c.testBit (m + i) with
  | false => rw [ht, if_neg (by decide)] at h; exact .inl ⟨rfl, h⟩
  | true =>
    rw [ht, if_pos rfl] at h
    cases l with
    | nil => cases h
    | cons b l' =>
      simp only [Option.map_eq_some_iff] at h
      obtain ⟨⟨y, r⟩, h1, rfl⟩ := h
      exact .inr ⟨rfl, b, l', y, rfl, h1, rfl⟩

set_option maxHeartbeats 4000000 in
set_option maxRecDepth 100000 in
theorem offset (cN v B : Nat) (hcN : cN < 256) (A : Option Addr) (c : Nat) (l rest : List Int) (w : World) (hT : Tab w 3 0 4) (h : Sd w B A c l) (hB : B ≤ w.heap.size) (hd : dec cN 0 4 0 l = some (v, rest)) :
    Calls Tryd.prog 29 #[.int .u8 (cN : Int), .slice A l.length c] w fun e w' => ∃ A' c', e = .returned (.tuple #[.int .u64 (v : Int), .slice A' rest.length c', .nilIface]) ∧ Sd w' B A' c' rest ∧ Below w.heap.size w w' := by
  have HT := Aside0.mk hT
  obtain ⟨tb, tf, tc, ht1, ht2, ht3, ht3', ht4⟩ := hT
  have HD := Aside0.mk hd
  have HS := Aside0.mk h
  have HB := Aside0.mk hB
  have HT4 := Aside0.mk ht4
  have hlen : l.length ≤ 140737488355328 := h.2.1
  clear hd h hB ht4
  go_enter Tryd.func29, Tryd.ntmps29
  go_wp2
  go_loopg [1, 7, 12] 4 (fun g0 v1 v7 v12 w' => ∃ (k acc r c1 : Nat) (A1 : Option Addr) (l1 : List Int), v12 = .int .i64 (k : Int) ∧ v7 = .int .u64 (acc : Int) ∧ v1 = .slice A1 l1.length c1 ∧ k + g0 = 4 ∧ Aside0 (acc < 256 ^ k) ∧ Aside0 (dec cN 0 g0 k l1 = some (r, rest)) ∧ Aside0 (acc + r = v) ∧ Aside0 (Sd w' B A1 c1 l1) ∧ Aside0 (Below w.heap.size w w'))
  case atStart => exact ⟨0, 0, v, c, A, l, rfl, rfl, rfl, rfl, ⟨by simp⟩, HD, ⟨by omega⟩, ⟨HS.out⟩, ⟨by repeat (first | exact Below.refl _ _ | apply below_alloc | apply below_drew)⟩⟩
  case round =>
    obtain ⟨k, acc, r, c1, A1, l1, rfl, rfl, rfl, hk, HA, HD1, HR, HS1, HB1⟩ := hrel
    by_cases hk4 : k < 4
    · obtain ⟨g1, rfl⟩ : ∃ g1, gk = g1 + 1 := ⟨gk - 1, by omega⟩
      have hc1 : wr.cell? ⟨tb, tf + k * 2, none⟩ = some (.int .u8 ((2 ^ k : Nat) : Int)) := (HB1.out.cell (p := ⟨tb, tf + k * 2, none⟩) ht3).trans (by have := (HT4.out k hk4).1; rwa [Nat.zero_add] at this)
      have hc2 : wr.cell? ⟨tb, tf + k * 2 + 1, none⟩ = some (.int .u64 ((8 * k : Nat) : Int)) := (HB1.out.cell (p := ⟨tb, tf + k * 2 + 1, none⟩) ht3).trans (HT4.out k hk4).2
      have hbit := bit_and cN k hcN (by omega)
      have hM0 : ((2 ^ k : Nat) : Int) ≠ 0 := by have := Nat.pow_pos (n := k) (show 0 < 2 by omega); omega
      generalize hM : ((2 ^ k : Nat) : Int) = M at hc1 hbit hM0
      clear hM
      rcases dec_next HD1.out with ⟨hb, hd⟩ | ⟨hb, b, l2, y, rfl, hd, hr⟩
      · rw [Nat.zero_add] at hb
        rw [hb, if_neg (by decide)] at hbit
        go_wp2
        go_roundg g1
        case measure => omega
        case rel => exact ⟨k + 1, acc, r, c1, A1, l1, by push_cast; rfl, rfl, rfl, by omega, ⟨Nat.lt_of_lt_of_le HA.out (Nat.pow_le_pow_right (by omega) (by omega))⟩, ⟨hd⟩, HR, ⟨HS1.out.below (((Below.refl B wr).alloc (Nat.le_trans HB.out HB1.out.size) _))⟩, ⟨below_alloc HB1.out _⟩⟩
      · rw [Nat.zero_add] at hb
        rw [hb, if_pos rfl] at hbit
        have hMt : (M != 0) = true := bne_iff_ne.2 hM0
        have hbr := HS1.out.2.2.1 b (List.mem_cons_self ..)
        obtain ⟨bn, rfl⟩ := Int.eq_ofNat_of_zero_le hbr.1
        have hbw : IntKind.u64.wrap (bn : Int) = bn := wraps_u64 _ (by omega) (by omega)
        obtain ⟨g, o, rfl, hg⟩ := HS1.out.head
        have hgl : g < wr.heap.size := World.block_lt_of_cell? wr _ hg
        obtain ⟨A2, hcut0, hS2⟩ := HS1.out.cut .i64 1 (by simp)
        have hcut : ∀ W, (Instr.slice 22 (.slice (some ⟨g, o, none⟩) (l2.length + 1) c1) (some (.int .i64 1)) none none).run Tryd.prog W = .ok (.slice A2 l2.length (c1 - 1)) W := hcut0
        clear hcut0
        have hlen1 : (l2.length : Int) ≤ 140737488355328 := by have := HS1.out.2.1; simp at this; omega
        have HS2 := Aside0.mk hS2
        have HO := Aside0.mk (or8 acc bn k (by omega) HA.out (by omega))
        have hbn : bn ≤ 255 := by omega
        clear hS2 hbr
        go_wp2
        go_quiet (fail)
        go_wp2
        have HBN := Aside0.mk (pw_below_drewN (below_alloc HB1.out (.cells #[.int .u8 M, .int .u64 (8 * (k : Int))] 81)) nq)
        go_roundg g1
        case measure => omega
        case rel => exact ⟨k + 1, acc + bn * 256 ^ k, y, c1 - 1, A2, l2, by push_cast; rfl, by rw [HO.out], rfl, by omega, ⟨by have := HA.out; rw [Nat.pow_succ]; have h2 : bn * 256 ^ k ≤ 255 * 256 ^ k := Nat.mul_le_mul (by omega) (Nat.le_refl _); generalize bn * 256 ^ k = z at *; generalize 256 ^ k = x at *; omega⟩, ⟨hd⟩, ⟨by have := HR.out; rw [hr] at this; simp at this; omega⟩, ⟨HS2.out.below (pw_below_drewN ((Below.refl B wr).alloc (Nat.le_trans HB.out HB1.out.size) _) nq)⟩, ⟨HBN.out⟩⟩
    · obtain ⟨rfl, rfl⟩ : k = 4 ∧ gk = 0 := by omega
      have hd := HD1.out
      simp only [dec, Option.some.injEq, Prod.mk.injEq] at hd
      obtain ⟨rfl, rfl⟩ := hd
      go_wp2
      go_ret3
      rw [show acc = v from HR.out]
      exact ⟨_, _, rfl, HS1.out, HB1.out⟩
set_option maxHeartbeats 4000000 in
set_option maxRecDepth 100000 in
theorem size (cN v s B : Nat) (hs : s = if v = 0 then 65536 else v) (hcN : cN < 256) (A : Option Addr) (c : Nat) (l rest : List Int) (w : World) (hT : Tab w 4 4 3) (h : Sd w B A c l) (hB : B ≤ w.heap.size) (hd : dec cN 4 3 0 l = some (v, rest)) :
    Calls Tryd.prog 30 #[.int .u8 (cN : Int), .slice A l.length c] w fun e w' => ∃ A' c', e = .returned (.tuple #[.int .u64 (s : Int), .slice A' rest.length c', .nilIface]) ∧ Sd w' B A' c' rest ∧ Below w.heap.size w w' := by
  have HT := Aside0.mk hT
  obtain ⟨tb, tf, tc, ht1, ht2, ht3, ht3', ht4⟩ := hT
  have HD := Aside0.mk hd
  have HS := Aside0.mk h
  have HB := Aside0.mk hB
  have HT4 := Aside0.mk ht4
  have hlen : l.length ≤ 140737488355328 := h.2.1
  clear hd h hB ht4
  go_enter Tryd.func30, Tryd.ntmps30
  go_wp2
  go_loopg [1, 7, 12] 3 (fun g0 v1 v7 v12 w' => ∃ (k acc r c1 : Nat) (A1 : Option Addr) (l1 : List Int), v12 = .int .i64 (k : Int) ∧ v7 = .int .u64 (acc : Int) ∧ v1 = .slice A1 l1.length c1 ∧ k + g0 = 3 ∧ Aside0 (acc < 256 ^ k) ∧ Aside0 (dec cN 4 g0 k l1 = some (r, rest)) ∧ Aside0 (acc + r = v) ∧ Aside0 (Sd w' B A1 c1 l1) ∧ Aside0 (Below w.heap.size w w'))
  case atStart => exact ⟨0, 0, v, c, A, l, rfl, rfl, rfl, rfl, ⟨by simp⟩, HD, ⟨by omega⟩, ⟨HS.out⟩, ⟨by repeat (first | exact Below.refl _ _ | apply below_alloc | apply below_drew)⟩⟩
  case round =>
    obtain ⟨k, acc, r, c1, A1, l1, rfl, rfl, rfl, hk, HA, HD1, HR, HS1, HB1⟩ := hrel
    by_cases hk4 : k < 3
    · obtain ⟨g1, rfl⟩ : ∃ g1, gk = g1 + 1 := ⟨gk - 1, by omega⟩
      have hc1 : wr.cell? ⟨tb, tf + k * 2, none⟩ = some (.int .u8 ((2 ^ (4 + k) : Nat) : Int)) := (HB1.out.cell (p := ⟨tb, tf + k * 2, none⟩) ht3).trans (HT4.out k hk4).1
      have hc2 : wr.cell? ⟨tb, tf + k * 2 + 1, none⟩ = some (.int .u64 ((8 * k : Nat) : Int)) := (HB1.out.cell (p := ⟨tb, tf + k * 2 + 1, none⟩) ht3).trans (HT4.out k hk4).2
      have hbit := bit_and cN (4 + k) hcN (by omega)
      have hM0 : ((2 ^ (4 + k) : Nat) : Int) ≠ 0 := by have := Nat.pow_pos (n := 4 + k) (show 0 < 2 by omega); omega
      generalize hM : ((2 ^ (4 + k) : Nat) : Int) = M at hc1 hbit hM0
      clear hM
      rcases dec_next HD1.out with ⟨hb, hd⟩ | ⟨hb, b, l2, y, rfl, hd, hr⟩
      · rw [hb, if_neg (by decide)] at hbit
        go_wp2
        go_roundg g1
        case measure => omega
        case rel => exact ⟨k + 1, acc, r, c1, A1, l1, by push_cast; rfl, rfl, rfl, by omega, ⟨Nat.lt_of_lt_of_le HA.out (Nat.pow_le_pow_right (by omega) (by omega))⟩, ⟨hd⟩, HR, ⟨HS1.out.below (((Below.refl B wr).alloc (Nat.le_trans HB.out HB1.out.size) _))⟩, ⟨below_alloc HB1.out _⟩⟩
      · rw [hb, if_pos rfl] at hbit
        have hMt : (M != 0) = true := bne_iff_ne.2 hM0
        have hbr := HS1.out.2.2.1 b (List.mem_cons_self ..)
        obtain ⟨bn, rfl⟩ := Int.eq_ofNat_of_zero_le hbr.1
        have hbw : IntKind.u64.wrap (bn : Int) = bn := wraps_u64 _ (by omega) (by omega)
        obtain ⟨g, o, rfl, hg⟩ := HS1.out.head
        have hgl : g < wr.heap.size := World.block_lt_of_cell? wr _ hg
        obtain ⟨A2, hcut0, hS2⟩ := HS1.out.cut .i64 1 (by simp)
        have hcut : ∀ W, (Instr.slice 22 (.slice (some ⟨g, o, none⟩) (l2.length + 1) c1) (some (.int .i64 1)) none none).run Tryd.prog W = .ok (.slice A2 l2.length (c1 - 1)) W := hcut0
        clear hcut0
        have hlen1 : (l2.length : Int) ≤ 140737488355328 := by have := HS1.out.2.1; simp at this; omega
        have HS2 := Aside0.mk hS2
        have HO := Aside0.mk (or8 acc bn k (by omega) HA.out (by omega))
        have hbn : bn ≤ 255 := by omega
        clear hS2 hbr
        go_wp2
        go_quiet (fail)
        go_wp2
        have HBN := Aside0.mk (pw_below_drewN (below_alloc HB1.out (.cells #[.int .u8 M, .int .u64 (8 * (k : Int))] 81)) nq)
        go_roundg g1
        case measure => omega
        case rel => exact ⟨k + 1, acc + bn * 256 ^ k, y, c1 - 1, A2, l2, by push_cast; rfl, by rw [HO.out], rfl, by omega, ⟨by have := HA.out; rw [Nat.pow_succ]; have h2 : bn * 256 ^ k ≤ 255 * 256 ^ k := Nat.mul_le_mul (by omega) (Nat.le_refl _); generalize bn * 256 ^ k = z at *; generalize 256 ^ k = x at *; omega⟩, ⟨hd⟩, ⟨by have := HR.out; rw [hr] at this; simp at this; omega⟩, ⟨HS2.out.below (pw_below_drewN ((Below.refl B wr).alloc (Nat.le_trans HB.out HB1.out.size) _) nq)⟩, ⟨HBN.out⟩⟩
    · obtain ⟨rfl, rfl⟩ : k = 3 ∧ gk = 0 := by omega
      have hd := HD1.out
      simp only [dec, Option.some.injEq, Prod.mk.injEq] at hd
      obtain ⟨rfl, rfl⟩ := hd
      have hav : v = acc := by have := HR.out; omega
      rw [hav] at hs
      clear HR hav
      by_cases h0 : acc = 0
      · subst h0
        rw [if_pos rfl] at hs
        subst hs
        go_wp2
        go_ret3
        exact ⟨_, _, rfl, HS1.out, HB1.out⟩
      · rw [if_neg h0] at hs
        subst hs
        have h0' : ((s : Int) == 0) = false := beq_eq_false_iff_ne.2 (by omega)
        go_wp2
        go_ret3
        exact ⟨_, _, rfl, HS1.out, HB1.out⟩
end Go.Proofs.YtlboochpbplhlaaDoor.HandB
