/- An instruction's bytes and a delta's, as the specification writes them. Plain Lean. -/
import Derived.Test.YtlboochpbplhlaaDoorPureE
set_option linter.unusedVariables false
set_option linter.unusedSimpArgs false
namespace Go.Proofs.YtlboochpbplhlaaDoor.PureF
open Go.RowKit Go.Proofs.YtlboochpbplhlaaDoorW.PrintWords Go.Proofs.YtlboochpbplhlaaDoorW.PrintMore Go.Proofs.YtlboochpbplhlaaDoor.QAll PureD Txt PureE

theorem or_set (c i : Nat) (hc : c < 256) (hi : i < 8) : Go.bits .or .u8 (c : Int) (shl .u8 1 (i : Int)) = ((c ||| 2 ^ i : Nat) : Int) := by
  have hp : 2 ^ i < 2 ^ 8 := Nat.pow_lt_pow_right (by omega) hi
  have e : shl .u8 1 (i : Int) = ((2 ^ i : Nat) : Int) := by
    unfold shl
    rw [Int.toNat_natCast, show min i IntKind.u8.bits = i from Nat.min_eq_left (by show i ≤ 8; omega), Int.one_mul, show ((2 : Int) ^ i) = ((2 ^ i : Nat) : Int) by push_cast; rfl]
    exact u8w _ (by omega)
  rw [e]
  exact (bits_nat .u8 8 (by decide) wraps_u8 c (2 ^ i) (by omega) hp).2
theorem or_lt (c i : Nat) (hc : c < 256) (hi : i < 8) : c ||| 2 ^ i < 256 := Nat.or_lt_two_pow (n := 8) hc (Nat.pow_lt_pow_right (by omega) hi)
theorem shr8 (o i : Nat) (hi : i ≤ 7) : shr .i64 (o : Int) (wrap64 (8 * (i : Int))) = ((o / 256 ^ i : Nat) : Int) := by
  unfold shr
  rw [w64 _ (by omega) (by omega), show (8 * (i : Int)).toNat = 8 * i by omega, show min (8 * i) IntKind.i64.bits = 8 * i from Nat.min_eq_left (by show 8 * i ≤ 64; omega), Nat.pow_mul' 2 8 i |> fun _ => show (256 : Nat) ^ i = 2 ^ (8 * i) by rw [Nat.pow_mul]]
  push_cast
  rfl

/-- The byte at place i, and whether it is written. -/
def byteAt (o z i : Nat) : Nat := if i < 4 then o / 256 ^ i % 256 else z / 256 ^ (i - 4) % 256
def sb (o z : Nat) (wd : Int) (i : Nat) : Bool := decide (byteAt o z i ≠ 0) || decide (Go.bits .and .i64 (shr .i64 wd (i : Int)) 1 = 1)
def tail (o z : Nat) (s : Nat → Bool) (i : Nat) : List Int := if i < 4 then put o s (4 - i) i ++ put z (fun j => s (4 + j)) 3 0 else put z (fun j => s (4 + j)) (7 - i) (i - 4)
theorem tail_step (o z : Nat) (s : Nat → Bool) (i : Nat) (hi : i < 7) : tail o z s i = if s i = true then ((byteAt o z i : Nat) : Int) :: tail o z s (i + 1) else tail o z s (i + 1) := by
  unfold tail byteAt
  by_cases h : i < 4
  · rw [if_pos h, if_pos h]
    obtain ⟨n, hn⟩ : ∃ n, 4 - i = n + 1 := ⟨3 - i, by omega⟩
    by_cases h3 : i + 1 < 4
    · rw [if_pos h3, hn, show 4 - (i + 1) = n by omega, put]
      cases s i <;> simp
    · obtain rfl : i = 3 := by omega
      rw [if_neg h3]
      simp only [put]
      cases s 3 <;> simp
  · rw [if_neg h, if_neg h, if_neg (show ¬ i + 1 < 4 by omega)]
    obtain ⟨n, hn⟩ : ∃ n, 7 - i = n + 1 := ⟨6 - i, by omega⟩
    rw [hn, show 7 - (i + 1) = n by omega, show i + 1 - 4 = i - 4 + 1 by omega, put, show 4 + (i - 4) = i by omega]

theorem step_loop (o z : Nat) (wd f2 : Int) (f3 : List Int) : ∀ (d i c : Nat) (x : List Int), 7 - i = d → i ≤ 7 → c < 256 → x.length ≤ i →
    ∃ c' : Nat, c' < 256 ∧ (∀ j, j < 8 → c'.testBit j = (c.testBit j || (decide (i ≤ j) && (decide (j < 7) && sb o z wd j)))) ∧
      Ev (fun k => spec_StepBytes.l0 k (z : Int) (c : Int) x (i : Int) true (o : Int) f2 f3 wd) ((c' : Int) :: (x ++ tail o z (sb o z wd) i)) := by
  intro d
  induction d with
  | zero =>
    intro i c x hd hi hc hx
    obtain rfl : i = 7 := by omega
    refine ⟨c, hc, fun j hj => ?_, ev_now fun m => ?_⟩
    · by_cases h7 : j < 7
      · rw [show decide (7 ≤ j) = false by simp; omega]; simp
      · rw [show decide (j < 7) = false by simp; omega]; simp
    · rw [spec_StepBytes.l0, if_neg (by omega), Option.bind_some, if_pos (by simp; omega)]
      simp [tail, put]
  | succ d ih =>
    intro i c x hd hi hc hx
    have hi7 : i < 7 := by omega
    have hB : byteAt o z i < 256 := by unfold byteAt; split <;> exact Nat.mod_lt _ (by omega)
    have hval : (if (i : Int) ≥ 4 then (shr .i64 (z : Int) (wrap64 (8 * (wrap64 ((i : Int) - 4))))) % 256 else (shr .i64 (o : Int) (wrap64 (8 * (i : Int)))) % 256) = ((byteAt o z i : Nat) : Int) := by
      unfold byteAt
      by_cases h4 : i < 4
      · rw [if_neg (by omega), if_pos h4, shr8 o i (by omega)]
        generalize o / 256 ^ i = q
        omega
      · rw [if_pos (by omega), if_neg h4, w64 ((i : Int) - 4) (by omega) (by omega), show (i : Int) - 4 = ((i - 4 : Nat) : Int) by omega, shr8 z (i - 4) (by omega)]
        generalize z / 256 ^ (i - 4) = q
        omega
    have hgo : ∀ k, spec_StepBytes.l0 (k + 1) (z : Int) (c : Int) x (i : Int) true (o : Int) f2 f3 wd =
        if sb o z wd i = true then spec_StepBytes.l0 k (z : Int) ((c ||| 2 ^ i : Nat) : Int) (x ++ [((byteAt o z i : Nat) : Int)]) ((i + 1 : Nat) : Int) true (o : Int) f2 f3 wd
        else spec_StepBytes.l0 k (z : Int) (c : Int) x ((i + 1 : Nat) : Int) true (o : Int) f2 f3 wd := by
      intro k
      have hw8 : 0 ≤ wrap64 (8 * (i : Int)) := by rw [w64 _ (by omega) (by omega)]; omega
      have hw1 : wrap64 ((i : Int) + 1) = ((i + 1 : Nat) : Int) := by rw [w64 _ (by omega) (by omega)]; omega
      have hxl : x.length < 140737488355328 := by omega
      rw [spec_StepBytes.l0, if_pos (by omega), if_pos hw8, or_set c i hc (by omega), hw1]
      unfold sb
      by_cases h4 : (i : Int) ≥ 4
      · rw [if_pos h4] at hval
        have hw84 : 0 ≤ wrap64 (8 * (wrap64 ((i : Int) - 4))) := by rw [w64 ((i : Int) - 4) (by omega) (by omega), w64 _ (by omega) (by omega)]; omega
        rw [if_pos h4, if_pos hw84, hval]
        by_cases hz : ((byteAt o z i : Nat) : Int) = 0
        · have hz' : byteAt o z i = 0 := by omega
          rw [if_pos hz, if_pos (by omega)]
          by_cases hw : Go.bits .and .i64 (shr .i64 wd (i : Int)) 1 = 1
          · rw [if_pos hw, if_pos hxl, if_pos (by simp [hw])]
          · rw [if_neg hw, if_neg (by simp [hz', hw])]
        · rw [if_neg hz, if_pos (by omega), if_pos hxl, if_pos (by rw [decide_eq_true (show byteAt o z i ≠ 0 by omega)]; rfl)]
      · rw [if_neg h4] at hval
        rw [if_neg h4, hval]
        by_cases hz : ((byteAt o z i : Nat) : Int) = 0
        · have hz' : byteAt o z i = 0 := by omega
          rw [if_pos hz, if_pos (by omega)]
          by_cases hw : Go.bits .and .i64 (shr .i64 wd (i : Int)) 1 = 1
          · rw [if_pos hw, if_pos hxl, if_pos (by simp [hw])]
          · rw [if_neg hw, if_neg (by simp [hz', hw])]
        · rw [if_neg hz, if_pos (by omega), if_pos hxl, if_pos (by rw [decide_eq_true (show byteAt o z i ≠ 0 by omega)]; rfl)]
    rw [tail_step o z _ i hi7]
    cases hs : sb o z wd i with
    | true =>
      obtain ⟨c', h1, h2, h3⟩ := ih (i + 1) (c ||| 2 ^ i) (x ++ [((byteAt o z i : Nat) : Int)]) (by omega) (by omega) (or_lt c i hc (by omega)) (by rw [List.length_append]; simp; omega)
      refine ⟨c', h1, fun j hj => ?_, Ev.step (fun k => ?_) (by rw [if_pos rfl, show x ++ ((byteAt o z i : Nat) : Int) :: tail o z (sb o z wd) (i + 1) = (x ++ [((byteAt o z i : Nat) : Int)]) ++ tail o z (sb o z wd) (i + 1) by simp]; exact h3)⟩
      · rw [h2 j hj, Nat.testBit_or, Nat.testBit_two_pow]
        by_cases hij : i = j
        · subst hij
          rw [hs]
          simp [hi7]
        · have e1 : decide (i + 1 ≤ j) = decide (i ≤ j) := by rw [decide_eq_decide]; omega
          rw [e1, decide_eq_false hij]
          simp
      · have := hgo k
        rw [hs, if_pos rfl] at this
        exact this
    | false =>
      obtain ⟨c', h1, h2, h3⟩ := ih (i + 1) c x (by omega) (by omega) hc (by omega)
      refine ⟨c', h1, fun j hj => ?_, Ev.step (fun k => ?_) (by rw [if_neg (by decide)]; exact h3)⟩
      · rw [h2 j hj]
        by_cases hij : i = j
        · subst hij
          rw [hs]
          simp
        · have e1 : decide (i + 1 ≤ j) = decide (i ≤ j) := by rw [decide_eq_decide]; omega
          rw [e1]
      · have := hgo k
        rw [hs, if_neg (by decide)] at this
        exact this

theorem tail_len (o z : Nat) (s : Nat → Bool) : ∀ (d i : Nat), 7 - i = d → i ≤ 7 → (tail o z s i).length ≤ 7 - i := by
  intro d
  induction d with
  | zero =>
    intro i hd hi
    obtain rfl : i = 7 := by omega
    simp [tail, put]
  | succ d ih =>
    intro i hd hi
    have := ih (i + 1) (by omega) (by omega)
    rw [tail_step o z s i (by omega)]
    split
    · rw [List.length_cons]; omega
    · omega
theorem step_ok (s : S38) (n : Nat) (hn : n ≤ 1000000) (hg : GoodS s n) (hr : ∀ x ∈ s.f3, 0 ≤ x ∧ x ≤ 255) :
    ∃ b, Ev (fun k => spec_StepBytes.f k s.f0 s.f1 s.f2 s.f3 s.f4) b ∧ Enc n (insOf s) b ∧ b.length ≤ 128 ∧ ∀ x ∈ b, 0 ≤ x ∧ x ≤ 255 := by
  unfold GoodS at hg
  unfold insOf
  cases h0 : s.f0 with
  | false =>
    rw [h0, if_neg (show ¬ (false = true) by decide)] at hg
    rw [if_neg (show ¬ (false = true) by decide)]
    refine ⟨(s.f3.length : Int) :: s.f3, ⟨0, fun k _ => ?_⟩, .put s.f3 hg.1 hg.2, by rw [List.length_cons]; omega, fun x hx => ?_⟩
    · show spec_StepBytes.f k false s.f1 s.f2 s.f3 s.f4 = _
      unfold spec_StepBytes.f
      rw [if_neg (show ¬ (false = true) by decide), Option.bind_some, if_pos (by simp; omega)]
      congr 1
      rw [List.singleton_append]
      congr 1
      omega
    · rcases List.mem_cons.1 hx with rfl | hx
      · omega
      · exact hr x hx
  | true =>
    rw [h0, if_pos rfl] at hg
    rw [if_pos rfl]
    obtain ⟨g1, g2, g3, g4⟩ := hg
    obtain ⟨o, ho⟩ := Int.eq_ofNat_of_zero_le g1
    obtain ⟨t, ht⟩ := Int.eq_ofNat_of_zero_le (show 0 ≤ s.f2 by omega)
    rw [ho] at g4 ⊢
    rw [ht] at g2 g3 g4 ⊢
    rw [Int.toNat_natCast, Int.toNat_natCast]
    obtain ⟨z, hz⟩ : ∃ z, z = if t = 65536 then 0 else t := ⟨_, rfl⟩
    obtain ⟨c, h1, h2, h3⟩ := step_loop o z s.f4 (t : Int) s.f3 7 0 128 [] rfl (by omega) (by omega) (by simp)
    rw [List.nil_append] at h3
    have h7 : c.testBit 7 = true := by rw [h2 7 (by omega), show (128 : Nat).testBit 7 = true by decide, Bool.true_or]
    have hc : 128 ≤ c := Nat.ge_two_pow_of_testBit h7
    have hbit : ∀ j, j < 7 → c.testBit j = sb o z s.f4 j := fun j hj => by
      have e : (128 : Nat).testBit j = false := (by decide : ∀ j : Fin 7, (128 : Nat).testBit j.val = false) ⟨j, hj⟩
      rw [h2 j (by omega), e, decide_eq_true hj]
      simp
    have hzero : ∀ j, sb o z s.f4 j = false → byteAt o z j = 0 := fun j hj => by
      unfold sb at hj
      rw [Bool.or_eq_false_iff, decide_eq_false_iff_not] at hj
      omega
    have htl : tail o z (sb o z s.f4) 0 = put o (sb o z s.f4) 4 0 ++ put z (fun j => sb o z s.f4 (4 + j)) 3 0 := rfl
    refine ⟨(c : Int) :: tail o z (sb o z s.f4) 0, ?_, ?_, ?_, ?_⟩
    · obtain ⟨K, hK⟩ := h3
      refine ⟨K + 1, fun k hk => ?_⟩
      obtain ⟨m, rfl⟩ : ∃ m, k = m + 1 := ⟨k - 1, by omega⟩
      have hm := hK m (by omega)
      show spec_StepBytes.f (m + 1) true (o : Int) (t : Int) s.f3 s.f4 = _
      unfold spec_StepBytes.f
      rw [if_pos rfl]
      by_cases h6 : t = 65536
      · rw [if_pos h6] at hz
        subst hz
        rw [if_pos (by omega), spec_StepBytes.j0]
        exact hm
      · rw [if_neg h6] at hz
        subst hz
        rw [if_neg (by omega), spec_StepBytes.j0]
        exact hm
    · refine .copy c o t z _ ⟨hc, by omega⟩ (fun rest => ?_) (by rw [hz]; split <;> simp_all; omega) (by omega)
      refine ⟨put z (fun j => sb o z s.f4 (4 + j)) 3 0 ++ rest, ?_, ?_⟩
      · rw [htl, List.append_assoc, dec_put c 0 o (sb o z s.f4) 4 0 _ (fun j _ hj => ⟨by rw [Nat.zero_add]; exact hbit j (by omega), fun hf => by have := hzero j hf; unfold byteAt at this; rwa [if_pos (by omega)] at this⟩)]
        congr 2
        simp
        omega
      · rw [dec_put c 4 z (fun j => sb o z s.f4 (4 + j)) 3 0 rest (fun j _ hj => ⟨hbit (4 + j) (by omega), fun hf => by have := hzero (4 + j) hf; unfold byteAt at this; rwa [if_neg (by omega), Nat.add_sub_cancel_left] at this⟩)]
        congr 2
        simp
        rw [hz]
        split <;> omega
    · have := tail_len o z (sb o z s.f4) 7 0 rfl (by omega)
      rw [List.length_cons]
      omega
    · intro x hx
      rcases List.mem_cons.1 hx with rfl | hx
      · omega
      · rw [htl] at hx
        rcases List.mem_append.1 hx with hx | hx
        · exact put_range _ _ _ _ x hx
        · exact put_range _ _ _ _ x hx
theorem steps_ok (b : List Int) (l : List S38) (hb : b.length ≤ 1000000) (hl : l.length ≤ 1000) (hg : ∀ s ∈ l, GoodS s b.length) (hr : ∀ s ∈ l, ∀ x ∈ s.f3, 0 ≤ x ∧ x ≤ 255) :
    ∀ (d i : Nat), i ≤ l.length → l.length - i = d → ∃ bs, Encs b.length ((l.drop i).map insOf) bs ∧ bs.length ≤ 128 * d ∧ (∀ x ∈ bs, 0 ≤ x ∧ x ≤ 255) ∧
      ∀ acc : List Int, acc.length ≤ 100 + 128 * i → Ev (fun k => spec_Delta.l0 k acc l (l.length : Int) (i : Int)) (acc ++ bs) := by
  intro d
  induction d with
  | zero =>
    intro i hi hd
    refine ⟨[], ?_, by simp, by simp, fun acc ha => ev_now fun m => ?_⟩
    · rw [List.drop_eq_nil_of_le (by omega)]; exact .nil
    · rw [spec_Delta.l0, if_neg (by omega), List.append_nil]
  | succ d ih =>
    intro i hi hd
    have hlt : i < l.length := by omega
    obtain ⟨e, h1, h2, h3, h4⟩ := step_ok l[i] b.length hb (hg _ (List.getElem_mem hlt)) (hr _ (List.getElem_mem hlt))
    obtain ⟨bs, k1, k2, k3, k4⟩ := ih (i + 1) (by omega) (by omega)
    refine ⟨e ++ bs, ?_, by rw [List.length_append]; omega, fun x hx => ?_, fun acc ha => ?_⟩
    · rw [List.drop_eq_getElem_cons hlt, List.map_cons]
      exact .cons h2 k1
    · rcases List.mem_append.1 hx with hx | hx
      · exact h4 x hx
      · exact k3 x hx
    · have h5 := k4 (acc ++ e) (by rw [List.length_append]; omega)
      rw [← List.append_assoc]
      refine ev2 h1 h5 fun m hm hm2 => ?_
      rw [spec_Delta.l0, if_pos (by omega), if_pos (by omega), if_pos (by omega), rd38 l i hlt, hm, Option.bind_some, if_pos (by omega), w64 _ (by omega) (by omega)]
      exact hm2
theorem delta_ok (b : List Int) (l : List S38) (hb : b.length ≤ 1000000) (hl : l.length ≤ 1000) (hg : ∀ s ∈ l, GoodS s b.length) (hr : ∀ s ∈ l, ∀ x ∈ s.f3, 0 ≤ x ∧ x ≤ 255) :
    ∃ bs, Encs b.length (l.map insOf) bs ∧ bs.length ≤ 128000 ∧ (∀ x ∈ bs, 0 ≤ x ∧ x ≤ 255) ∧ Ev (fun k => spec_Delta.f k b l) (enc7 b.length ++ (enc7 (made b (l.map insOf)).length ++ bs)) := by
  obtain ⟨bs, k1, k2, k3, k4⟩ := steps_ok b l hb hl hg hr l.length 0 (by omega) (by omega)
  rw [List.drop_zero] at k1
  refine ⟨bs, k1, by omega, k3, ?_⟩
  have hml := made_all_le b hb l hg
  have hm1 := enc7_le b.length 8 (by omega) (by omega)
  have hm2 := enc7_le (made b (l.map insOf)).length 8 (by omega) (by omega)
  obtain ⟨K1, e1⟩ := size7_ok b.length (by omega)
  obtain ⟨K2, e2⟩ := made_ok b l hb hl hg
  obtain ⟨K3, e3⟩ := size7_ok (made b (l.map insOf)).length (by omega)
  obtain ⟨K4, e4⟩ := k4 (enc7 b.length ++ enc7 (made b (l.map insOf)).length) (by rw [List.length_append]; omega)
  refine ⟨K1 + K2 + K3 + K4, fun k hk => ?_⟩
  have f1 := e1 k (by omega)
  have f2 := e2 k (by omega)
  have f3 := e3 k (by omega)
  have f4 := e4 k (by omega)
  dsimp only at f1 f2 f3 f4
  show spec_Delta.f k b l = _
  unfold spec_Delta.f
  rw [f1, Option.bind_some, f2, Option.bind_some, f3, Option.bind_some, if_pos (by omega), ← List.append_assoc]
  exact f4
end Go.Proofs.YtlboochpbplhlaaDoor.PureF
