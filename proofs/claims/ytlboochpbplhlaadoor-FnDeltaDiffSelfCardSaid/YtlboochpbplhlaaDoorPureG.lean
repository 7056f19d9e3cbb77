/- deltaEncodeSize, encodeCopyOperation and matchLength, as the program computes them. Plain Lean. -/
import Derived.Test.YtlboochpbplhlaaDoorPureF
import Derived.Test.YtlboochpbplhlaaDoorQDifx1
set_option linter.unusedVariables false
set_option linter.unusedSimpArgs false
namespace Go.Proofs.YtlboochpbplhlaaDoor.PureG
open Go.RowKit Go.Proofs.YtlboochpbplhlaaDoorW.PrintWords Go.Proofs.YtlboochpbplhlaaDoorW.PrintMore Go.Proofs.YtlboochpbplhlaaDoor.QDif PureD Txt PureE PureF

theorem wraps_i64 (n : Int) (h0 : 0 ≤ n) (h1 : n < 2 ^ 63) : IntKind.i64.wrap n = n := by rw [IntKind.wrap_i64]; omega
theorem and127 (x : Nat) (hx : x < 2 ^ 63) : Go.bits .and .i64 (x : Int) 127 = ((x % 128 : Nat) : Int) := by
  rw [show (127 : Int) = ((127 : Nat) : Int) from rfl, (bits_nat .i64 63 (by decide) wraps_i64 x 127 hx (by decide)).1]
  rw [show (127 : Nat) = 2 ^ 7 - 1 from rfl, Nat.and_two_pow_sub_one_eq_mod]
theorem or128 (x : Nat) (hx : x < 128) : Go.bits .or .i64 (x : Int) 128 = ((x + 128 : Nat) : Int) := by
  rw [show (128 : Int) = ((128 : Nat) : Int) from rfl, (bits_nat .i64 63 (by decide) wraps_i64 x 128 (by omega) (by decide)).2]
  rw [show x ||| 128 = x + 128 from (by decide +kernel : ∀ b : Fin 128, b.val ||| 128 = b.val + 128) ⟨x, hx⟩]

theorem esize_loop : ∀ (n : Nat) (acc : List Int), acc.length + (enc7 n).length ≤ 1000000 → n < 2 ^ 63 → Ev (fun k => packfile_deltaEncodeSize.l0 k ((n / 128 : Nat) : Int) acc ((n % 128 : Nat) : Int)) (acc ++ enc7 n) := by
  intro n
  induction n using Nat.strongRecOn with
  | ind n ih =>
    intro acc ha hn
    by_cases h : n < 128
    · rw [enc7_small h] at ha ⊢
      refine ev_now fun m => ?_
      rw [packfile_deltaEncodeSize.l0, if_pos (by omega), if_pos (by simp at ha; omega)]
      congr 3
      omega
    · rw [enc7_big h] at ha ⊢
      have h1 := ih (n / 128) (by omega) (acc ++ [((n % 128 + 128 : Nat) : Int)]) (by rw [List.length_append]; simp at ha ⊢; omega) (by omega)
      rw [List.append_assoc, List.singleton_append] at h1
      refine Ev.step (fun k => ?_) h1
      rw [packfile_deltaEncodeSize.l0, if_neg (by omega), if_pos (by simp at ha; omega), or128 _ (by omega), and127 _ (by omega)]
      congr 1
      congr 2
      omega
theorem esize_ok (n : Nat) (hn : n ≤ 2147483647) : Ev (fun k => packfile_deltaEncodeSize.f k (n : Int)) (enc7 n) := by
  have h := esize_loop n [] (by have := enc7_le n 8 (by omega) (by omega); simp; omega) (by omega)
  rw [List.nil_append] at h
  obtain ⟨K, h⟩ := h
  refine ⟨K, fun k hk => ?_⟩
  show packfile_deltaEncodeSize.l0 k ((n : Int) / 128) [] (Go.bits .and .i64 (n : Int) 127) = _
  rw [and127 _ (by omega)]
  exact h k hk

/-! ### encodeCopyOperation -/
theorem mask8 (o i : Nat) (ho : o < 2 ^ 62) (hi : i ≤ 6) : Go.bits .and .i64 (o : Int) (shl .i64 255 ((8 * i : Nat) : Int)) = ((o / 256 ^ i % 256 * 256 ^ i : Nat) : Int) := by
  have hp : (256 : Nat) ^ i = 2 ^ (8 * i) := by rw [show (256 : Nat) = 2 ^ 8 from rfl, ← Nat.pow_mul]
  have hp2 : 2 ^ (8 * i) ≤ 2 ^ 48 := Nat.pow_le_pow_right (by omega) (by omega)
  have h255 : 255 * 2 ^ (8 * i) < 2 ^ 63 := by omega
  have e : shl .i64 255 ((8 * i : Nat) : Int) = ((255 * 2 ^ (8 * i) : Nat) : Int) := by
    unfold shl
    rw [Int.toNat_natCast, show min (8 * i) IntKind.i64.bits = 8 * i from Nat.min_eq_left (by show 8 * i ≤ 64; omega)]
    rw [show (255 : Int) * 2 ^ (8 * i) = ((255 * 2 ^ (8 * i) : Nat) : Int) by rw [Int.natCast_mul, Int.natCast_pow]; rfl]
    exact wraps_i64 _ (by omega) (by omega)
  rw [e, (bits_nat .i64 63 (by decide) wraps_i64 o _ (by omega) h255).1]
  congr 1
  rw [hp]
  apply Nat.eq_of_testBit_eq
  intro j
  rw [Nat.testBit_and, ← Nat.shiftLeft_eq, Nat.testBit_shiftLeft, ← Nat.shiftLeft_eq, Nat.testBit_shiftLeft, show (256 : Nat) = 2 ^ 8 from rfl, Nat.testBit_mod_two_pow, ← Nat.shiftRight_eq_div_pow, Nat.testBit_shiftRight, show (255 : Nat) = 2 ^ 8 - 1 from rfl, Nat.testBit_two_pow_sub_one]
  by_cases h : j ≥ 8 * i
  · rw [show 8 * i + (j - 8 * i) = j by omega]
    simp [h, Bool.and_comm]
  · simp [h]
theorem or_code (c v i : Nat) (hc : c < 256) (hv : v + i < 8) : Go.bits .or .i64 (c : Int) (shl .i64 ((2 ^ v : Nat) : Int) (i : Int)) = ((c ||| 2 ^ (v + i) : Nat) : Int) := by
  have hp : 2 ^ (v + i) < 2 ^ 8 := Nat.pow_lt_pow_right (by omega) hv
  have e : shl .i64 ((2 ^ v : Nat) : Int) (i : Int) = ((2 ^ (v + i) : Nat) : Int) := by
    unfold shl
    rw [Int.toNat_natCast, show min i IntKind.i64.bits = i from Nat.min_eq_left (by show i ≤ 64; omega), show ((2 ^ v : Nat) : Int) * 2 ^ i = ((2 ^ (v + i) : Nat) : Int) by rw [Nat.pow_add, Int.natCast_mul, Int.natCast_pow, Int.natCast_pow]; rfl]
    exact wraps_i64 _ (Int.natCast_nonneg _) (by omega)
  rw [e]
  exact (bits_nat .i64 63 (by decide) wraps_i64 c _ (by omega) (by omega)).2
theorem code_lt (c v : Nat) (hc : c < 256) (hv : v < 8) : c ||| 2 ^ v < 256 := Nat.or_lt_two_pow (n := 8) hc (Nat.pow_lt_pow_right (by omega) hv)
theorem unmask (o i : Nat) (hi : i ≤ 6) : (shr .i64 ((o / 256 ^ i % 256 * 256 ^ i : Nat) : Int) ((8 * i : Nat) : Int)) % 256 = ((o / 256 ^ i % 256 : Nat) : Int) := by
  have hp : (256 : Nat) ^ i = 2 ^ (8 * i) := by rw [show (256 : Nat) = 2 ^ 8 from rfl, ← Nat.pow_mul]
  have hpos : 0 < 2 ^ (8 * i) := Nat.pow_pos (by omega)
  unfold shr
  rw [Int.toNat_natCast, show min (8 * i) IntKind.i64.bits = 8 * i from Nat.min_eq_left (by show 8 * i ≤ 64; omega), hp]
  rw [show ((2 : Int) ^ (8 * i)) = ((2 ^ (8 * i) : Nat) : Int) by rw [Int.natCast_pow]; rfl, ← Int.natCast_ediv, Nat.mul_div_cancel _ hpos]
  omega
def nz (v i : Nat) : Bool := decide (v / 256 ^ i % 256 ≠ 0)
theorem w8 (i : Nat) (hi : i ≤ 6) : IntKind.u64.wrap ((i : Int) * 8) = ((8 * i : Nat) : Int) := by rw [IntKind.wrap_u64]; omega
theorem w1 (i : Nat) (hi : i ≤ 6) : IntKind.u64.wrap ((i : Int) + 1) = ((i + 1 : Nat) : Int) := by rw [IntKind.wrap_u64]; omega

theorem ecopy1 (z : Nat) (hz : z < 2 ^ 62) : ∀ (d i c : Nat) (x : List Int), 3 - i = d → i ≤ 3 → c < 256 → x.length ≤ 4 + i →
    ∃ c' : Nat, c' < 256 ∧ (∀ j, j < 8 → c'.testBit j = (c.testBit j || (decide (4 + i ≤ j) && (decide (j < 7) && nz z (j - 4))))) ∧
      Ev (fun k => packfile_encodeCopyOperation.l1 k (z : Int) (c : Int) x (i : Int)) ((c' : Int) :: (x ++ put z (nz z) (3 - i) i)) := by
  intro d
  induction d with
  | zero =>
    intro i c x hd hi hc hx
    obtain rfl : i = 3 := by omega
    refine ⟨c, hc, fun j hj => ?_, ev_now fun m => ?_⟩
    · by_cases h7 : j < 7
      · rw [show decide (4 + 3 ≤ j) = false by simp; omega]; simp
      · rw [show decide (j < 7) = false by simp; omega]; simp
    · rw [packfile_encodeCopyOperation.l1, if_neg (by omega), Option.bind_some, if_pos (by simp; omega)]
      have : (c : Int) % 256 = c := by omega
      rw [this]
      simp [put]
  | succ d ih =>
    intro i c x hd hi hc hx
    have hgo : ∀ k, packfile_encodeCopyOperation.l1 (k + 1) (z : Int) (c : Int) x (i : Int) =
        if nz z i = true then packfile_encodeCopyOperation.l1 k (z : Int) ((c ||| 2 ^ (4 + i) : Nat) : Int) (x ++ [((z / 256 ^ i % 256 : Nat) : Int)]) ((i + 1 : Nat) : Int)
        else packfile_encodeCopyOperation.l1 k (z : Int) (c : Int) x ((i + 1 : Nat) : Int) := by
      intro k
      rw [packfile_encodeCopyOperation.l1, if_pos (by omega), w8 i (by omega), if_pos (by omega), mask8 z i hz (by omega), w1 i (by omega), unmask z i (by omega)]
      rw [show (16 : Int) = ((2 ^ 4 : Nat) : Int) from rfl, or_code c 4 i hc (by omega)]
      have hpos : 0 < 256 ^ i := Nat.pow_pos (by omega)
      by_cases h : z / 256 ^ i % 256 = 0
      · rw [h, Nat.zero_mul, if_pos (by rfl), if_neg (by simp [nz, h])]
      · have h2 : 0 < z / 256 ^ i % 256 * 256 ^ i := Nat.mul_pos (by omega) hpos
        rw [if_neg (by omega), if_pos (by omega), if_pos (by omega), if_pos (by simp [nz, h])]
    rw [show 3 - i = (3 - (i + 1)) + 1 by omega, put]
    cases hs : nz z i with
    | true =>
      obtain ⟨c', h1, h2, h3⟩ := ih (i + 1) (c ||| 2 ^ (4 + i)) (x ++ [((z / 256 ^ i % 256 : Nat) : Int)]) (by omega) (by omega) (code_lt c (4 + i) hc (by omega)) (by rw [List.length_append]; simp; omega)
      refine ⟨c', h1, fun j hj => ?_, Ev.step (fun k => ?_) (by rw [if_pos rfl, show x ++ ((z / 256 ^ i % 256 : Nat) : Int) :: put z (nz z) (3 - (i + 1)) (i + 1) = (x ++ [((z / 256 ^ i % 256 : Nat) : Int)]) ++ put z (nz z) (3 - (i + 1)) (i + 1) by simp]; exact h3)⟩
      · rw [h2 j hj, Nat.testBit_or, Nat.testBit_two_pow]
        by_cases hij : 4 + i = j
        · subst hij
          rw [Nat.add_sub_cancel_left, hs]
          simp; omega
        · have e1 : decide (4 + (i + 1) ≤ j) = decide (4 + i ≤ j) := by rw [decide_eq_decide]; omega
          rw [e1, decide_eq_false hij]
          simp
      · have := hgo k
        rw [hs, if_pos rfl] at this
        exact this
    | false =>
      obtain ⟨c', h1, h2, h3⟩ := ih (i + 1) c x (by omega) (by omega) hc (by omega)
      refine ⟨c', h1, fun j hj => ?_, Ev.step (fun k => ?_) (by rw [if_neg (by decide)]; exact h3)⟩
      · rw [h2 j hj]
        by_cases hij : 4 + i = j
        · subst hij
          rw [Nat.add_sub_cancel_left, hs]
          simp
        · have e1 : decide (4 + (i + 1) ≤ j) = decide (4 + i ≤ j) := by rw [decide_eq_decide]; omega
          rw [e1]
      · have := hgo k
        rw [hs, if_neg (by decide)] at this
        exact this

theorem ecopy0 (o z : Nat) (ho : o < 2 ^ 62) (hz : z < 2 ^ 62) : ∀ (d i c : Nat) (x : List Int), 4 - i = d → i ≤ 4 → c < 256 → x.length ≤ i →
    ∃ c' : Nat, c' < 256 ∧ (∀ j, j < 8 → c'.testBit j = (c.testBit j || (decide (i ≤ j) && (decide (j < 4) && nz o j)) || (decide (4 ≤ j) && (decide (j < 7) && nz z (j - 4))))) ∧
      Ev (fun k => packfile_encodeCopyOperation.l0 k (o : Int) (z : Int) (c : Int) x (i : Int)) ((c' : Int) :: (x ++ (put o (nz o) (4 - i) i ++ put z (nz z) 3 0))) := by
  intro d
  induction d with
  | zero =>
    intro i c x hd hi hc hx
    obtain rfl : i = 4 := by omega
    obtain ⟨c', h1, h2, h3⟩ := ecopy1 z hz 3 0 c x rfl (by omega) hc (by omega)
    refine ⟨c', h1, fun j hj => ?_, Ev.step (fun k => ?_) (by simpa [put] using h3)⟩
    · rw [h2 j hj]
      by_cases h4 : j < 4
      · rw [show decide (4 ≤ j) = false by simp; omega]; simp
      · rw [show decide (j < 4) = false by simp; omega]; simp
    · rw [packfile_encodeCopyOperation.l0, if_neg (by omega)]
  | succ d ih =>
    intro i c x hd hi hc hx
    have hgo : ∀ k, packfile_encodeCopyOperation.l0 (k + 1) (o : Int) (z : Int) (c : Int) x (i : Int) =
        if nz o i = true then packfile_encodeCopyOperation.l0 k (o : Int) (z : Int) ((c ||| 2 ^ i : Nat) : Int) (x ++ [((o / 256 ^ i % 256 : Nat) : Int)]) ((i + 1 : Nat) : Int)
        else packfile_encodeCopyOperation.l0 k (o : Int) (z : Int) (c : Int) x ((i + 1 : Nat) : Int) := by
      intro k
      rw [packfile_encodeCopyOperation.l0, if_pos (by omega), w8 i (by omega), if_pos (by omega), mask8 o i ho (by omega), w1 i (by omega), unmask o i (by omega)]
      have hor := or_code c 0 i hc (by omega)
      rw [Nat.zero_add] at hor
      rw [show (1 : Int) = ((2 ^ 0 : Nat) : Int) from rfl, hor]
      have hpos : 0 < 256 ^ i := Nat.pow_pos (by omega)
      by_cases h : o / 256 ^ i % 256 = 0
      · rw [h, Nat.zero_mul, if_pos (by rfl), if_neg (by simp [nz, h])]
      · have h2 : 0 < o / 256 ^ i % 256 * 256 ^ i := Nat.mul_pos (by omega) hpos
        rw [if_neg (by omega), if_pos (by omega), if_pos (by omega), if_pos (by simp [nz, h])]
    rw [show 4 - i = (4 - (i + 1)) + 1 by omega, put]
    cases hs : nz o i with
    | true =>
      obtain ⟨c', h1, h2, h3⟩ := ih (i + 1) (c ||| 2 ^ i) (x ++ [((o / 256 ^ i % 256 : Nat) : Int)]) (by omega) (by omega) (code_lt c i hc (by omega)) (by rw [List.length_append]; simp; omega)
      refine ⟨c', h1, fun j hj => ?_, Ev.step (fun k => ?_) (by rw [if_pos rfl, show x ++ (((o / 256 ^ i % 256 : Nat) : Int) :: put o (nz o) (4 - (i + 1)) (i + 1) ++ put z (nz z) 3 0) = (x ++ [((o / 256 ^ i % 256 : Nat) : Int)]) ++ (put o (nz o) (4 - (i + 1)) (i + 1) ++ put z (nz z) 3 0) by simp]; exact h3)⟩
      · rw [h2 j hj, Nat.testBit_or, Nat.testBit_two_pow]
        by_cases hij : i = j
        · subst hij
          rw [hs]
          have : decide (i < 4) = true := by simp; omega
          simp [this]
        · have e1 : decide (i + 1 ≤ j) = decide (i ≤ j) := by rw [decide_eq_decide]; omega
          rw [e1, decide_eq_false hij]
          simp
      · have := hgo k
        rw [hs, if_pos rfl] at this
        exact this
    | false =>
      obtain ⟨c', h1, h2, h3⟩ := ih (i + 1) c x (by omega) (by omega) hc (by omega)
      refine ⟨c', h1, fun j hj => ?_, Ev.step (fun k => ?_) (by rw [if_neg (by decide)]; exact h3)⟩
      · rw [h2 j hj]
        by_cases hij : i = j
        · subst hij
          rw [hs]
          simp
        · have e1 : decide (i + 1 ≤ j) = decide (i ≤ j) := by rw [decide_eq_decide]; omega
          rw [e1]
      · have := hgo k
        rw [hs, if_neg (by decide)] at this
        exact this
theorem put_len (v : Nat) (s : Nat → Bool) : ∀ (n i : Nat), (put v s n i).length ≤ n
  | 0, i => by simp [put]
  | n + 1, i => by
    have := put_len v s n (i + 1)
    rw [put]
    split
    · simp; omega
    · omega
theorem ecopy_ok (o z n : Nat) (ho : o + z ≤ n) (hn : n ≤ 16777216) (hz : 1 ≤ z) (hz2 : z ≤ 65536) :
    ∃ b : List Int, Ev (fun k => packfile_encodeCopyOperation.f k (o : Int) (z : Int)) b ∧ Enc n (.copy o z) b ∧ b.length ≤ 8 ∧ 1 ≤ b.length ∧ ∀ x ∈ b, 0 ≤ x ∧ x ≤ 255 := by
  obtain ⟨c, h1, h2, h3⟩ := ecopy0 o z (by omega) (by omega) 4 0 128 [] rfl (by omega) (by omega) (by simp)
  rw [List.nil_append] at h3
  have h128 : ∀ j, j < 8 → (128 : Nat).testBit j = decide (j = 7) := fun j hj => (by decide : ∀ j : Fin 8, (128 : Nat).testBit j.val = decide (j.val = 7)) ⟨j, hj⟩
  have hlow : ∀ j, j < 4 → c.testBit j = nz o j := fun j hj => by
    rw [h2 j (by omega), h128 j (by omega), decide_eq_false (show ¬ j = 7 by omega), decide_eq_true (show 0 ≤ j by omega), decide_eq_true hj, decide_eq_false (show ¬ 4 ≤ j by omega)]
    simp
  have hhigh : ∀ j, j < 3 → c.testBit (4 + j) = nz z j := fun j hj => by
    rw [h2 (4 + j) (by omega), h128 _ (by omega), decide_eq_false (show ¬ 4 + j = 7 by omega), decide_eq_false (show ¬ 4 + j < 4 by omega), decide_eq_true (show 4 ≤ 4 + j by omega), decide_eq_true (show 4 + j < 7 by omega), Nat.add_sub_cancel_left]
    simp
  have htop : c.testBit 7 = true := by rw [h2 7 (by omega), h128 7 (by omega)]; simp
  have hc128 : 128 ≤ c := by
    rcases Nat.lt_or_ge c 128 with h | h
    · rw [Nat.testBit_lt_two_pow (show c < 2 ^ 7 by omega)] at htop; cases htop
    · exact h
  refine ⟨(c : Int) :: (put o (nz o) 4 0 ++ put z (nz z) 3 0), h3, .copy c o z z _ ⟨hc128, by omega⟩ (fun rest => ⟨put z (nz z) 3 0 ++ rest, ?_, ?_⟩) (by rw [if_neg (by omega)]) ho, ?_, by simp, ?_⟩
  · rw [List.append_assoc, dec_put c 0 o (nz o) 4 0 _ (fun j _ hj => ⟨by rw [Nat.zero_add]; exact hlow j (by omega), fun h => by simpa [nz] using h⟩)]
    rw [Nat.pow_zero, Nat.div_one, Nat.mul_one, Nat.mod_eq_of_lt (by omega)]
  · rw [dec_put c 4 z (nz z) 3 0 _ (fun j _ hj => ⟨hhigh j (by omega), fun h => by simpa [nz] using h⟩)]
    rw [Nat.pow_zero, Nat.div_one, Nat.mul_one, Nat.mod_eq_of_lt (by omega)]
  · have h4 := put_len o (nz o) 4 0
    have h5 := put_len z (nz z) 3 0
    rw [List.length_cons, List.length_append]; omega
  · intro x hx
    rcases List.mem_cons.1 hx with rfl | hx
    · omega
    · rcases List.mem_append.1 hx with hx | hx
      · exact put_range _ _ _ _ x hx
      · exact put_range _ _ _ _ x hx

/-! ### matchLength -/
theorem rd_get (l : List Int) (i : Nat) (h : i < l.length) : rd l (i : Int) = l[i] := by
  unfold rd; rw [Int.toNat_natCast]; simp [List.getD, List.getElem?_eq_getElem h]
theorem take_more (l : List Int) (q m : Nat) (h : q + m < l.length) : (l.drop q).take (m + 1) = (l.drop q).take m ++ [l[q + m]] := by
  rw [List.take_add_one, List.getElem?_drop, List.getElem?_eq_getElem h]; rfl
theorem match_loop (src tgt : List Int) (p q : Nat) (hs : src.length ≤ 2147483647) (ht : tgt.length ≤ 2147483647) (hq : q ≤ 2147483647 * 2147483647) : ∀ (d m : Nat), tgt.length - (p + m) = d → p + m ≤ tgt.length → (m = 0 ∨ q + m ≤ src.length) → (src.drop q).take m = (tgt.drop p).take m →
    ∃ M : Nat, Ev (fun k => packfile_matchLength.l0 k src tgt ((p + m : Nat) : Int) ((q + m : Nat) : Int) (m : Int) (src.length : Int) (tgt.length : Int)) (M : Int) ∧ p + M ≤ tgt.length ∧ (M = 0 ∨ q + M ≤ src.length) ∧ (src.drop q).take M = (tgt.drop p).take M := by
  intro d
  induction d with
  | zero =>
    intro m hd hp hm he
    refine ⟨m, ev_now fun k => ?_, hp, hm, he⟩
    rw [packfile_matchLength.l0]
    split
    · rw [if_neg (by omega)]
    · rfl
  | succ d ih =>
    intro m hd hp hm he
    by_cases h1 : q + m < src.length
    · by_cases h3 : src[q + m] = tgt[p + m]
      · obtain ⟨M, h4, h5⟩ := ih (m + 1) (by omega) (by omega) (Or.inr (by omega)) (by rw [take_more src q m h1, take_more tgt p m (by omega), he, h3])
        refine ⟨M, Ev.step (fun k => ?_) h4, h5⟩
        rw [packfile_matchLength.l0, if_pos (by omega), if_pos (by omega), if_pos (by omega), if_pos (by omega), if_pos (by omega), if_pos (by omega), rd_get src _ h1, rd_get tgt (p + m) (by omega), if_pos h3, w64 _ (by omega) (by omega), w64 _ (by omega) (by omega), w64 _ (by omega) (by omega)]
        rfl
      · refine ⟨m, ev_now fun k => ?_, hp, hm, he⟩
        rw [packfile_matchLength.l0, if_pos (by omega), if_pos (by omega), if_pos (by omega), if_pos (by omega), if_pos (by omega), if_pos (by omega), rd_get src _ h1, rd_get tgt (p + m) (by omega), if_neg h3]
    · refine ⟨m, ev_now fun k => ?_, hp, hm, he⟩
      rw [packfile_matchLength.l0, if_neg (by omega)]
theorem match_ok (src tgt : List Int) (p q : Nat) (hs : src.length ≤ 2147483647) (ht : tgt.length ≤ 2147483647) (hq : q ≤ 2147483647 * 2147483647) (hp : p ≤ tgt.length) :
    ∃ M : Nat, Ev (fun k => packfile_matchLength.f k src tgt (p : Int) (q : Int)) (M : Int) ∧ p + M ≤ tgt.length ∧ (M = 0 ∨ q + M ≤ src.length) ∧ (src.drop q).take M = (tgt.drop p).take M :=
  match_loop src tgt p q hs ht hq (tgt.length - p) 0 rfl hp (Or.inl rfl) (by simp)
end Go.Proofs.YtlboochpbplhlaaDoor.PureG
