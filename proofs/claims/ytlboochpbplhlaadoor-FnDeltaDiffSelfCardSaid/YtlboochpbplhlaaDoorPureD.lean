/- Plain laws of deltas: numbers in sevens of bits, places and sizes of copies by their bytes, and what instructions make. No program in sight. -/
import Derived.WalkKit
set_option linter.unusedVariables false
set_option linter.unusedSimpArgs false
namespace Go.Proofs.YtlboochpbplhlaaDoor.PureD

/-! ### numbers in sevens -/
def enc7 (n : Nat) : List Int := if n < 128 then [(n : Int)] else ((n % 128 + 128 : Nat) : Int) :: enc7 (n / 128)
termination_by n
decreasing_by omega
theorem enc7_small {n : Nat} (h : n < 128) : enc7 n = [(n : Int)] := by rw [enc7, if_pos h]
theorem enc7_big {n : Nat} (h : ¬ n < 128) : enc7 n = ((n % 128 + 128 : Nat) : Int) :: enc7 (n / 128) := by rw [enc7, if_neg h]
theorem enc7_pos (n : Nat) : 0 < (enc7 n).length := by
  by_cases h : n < 128
  · rw [enc7_small h]; simp
  · rw [enc7_big h]; simp
/-- The byte at place j. -/
def byte7 (n j : Nat) : Nat := n / 128 ^ j % 128 + (if n / 128 ^ (j + 1) = 0 then 0 else 128)
theorem byte7_zero (n : Nat) : byte7 n 0 = n % 128 + (if n / 128 = 0 then 0 else 128) := by simp [byte7]
theorem byte7_succ (n j : Nat) : byte7 n (j + 1) = byte7 (n / 128) j := by
  unfold byte7
  rw [Nat.div_div_eq_div_mul, Nat.div_div_eq_div_mul, ← Nat.pow_succ', ← Nat.pow_succ']
theorem byte7_lt (n j : Nat) : byte7 n j < 256 := by unfold byte7; split <;> omega
theorem byte7_mod (n j : Nat) : byte7 n j % 128 = n / 128 ^ j % 128 := by unfold byte7; split <;> omega
theorem byte7_last (n j : Nat) : byte7 n j < 128 ↔ n / 128 ^ (j + 1) = 0 := by unfold byte7; split <;> omega
theorem enc7_spec : ∀ (n j : Nat), (j < (enc7 n).length ↔ j = 0 ∨ n / 128 ^ j ≠ 0) ∧ (j < (enc7 n).length → (enc7 n)[j]? = some (byte7 n j : Int)) := by
  intro n
  induction n using Nat.strongRecOn with
  | ind n ih =>
    intro j
    by_cases h : n < 128
    · rw [enc7_small h]
      have h0 : n / 128 = 0 := Nat.div_eq_of_lt h
      refine ⟨?_, fun hj => ?_⟩
      · constructor
        · intro hj; left; simpa using hj
        · rintro (rfl | hj)
          · simp
          · cases j with
            | zero => simp
            | succ j => rw [Nat.pow_succ', ← Nat.div_div_eq_div_mul, h0, Nat.zero_div] at hj; exact absurd rfl hj
      · have : j = 0 := by simpa using hj
        subst this
        rw [byte7_zero, h0, if_pos rfl, Nat.mod_eq_of_lt h]; simp
    · rw [enc7_big h]
      have h0 : n / 128 ≠ 0 := by omega
      cases j with
      | zero => exact ⟨by simp, fun _ => by rw [byte7_zero, if_neg h0]; simp⟩
      | succ j =>
        obtain ⟨h1, h2⟩ := ih (n / 128) (by omega) j
        rw [List.length_cons, List.getElem?_cons_succ, byte7_succ, Nat.pow_succ', ← Nat.div_div_eq_div_mul]
        refine ⟨?_, fun hj => h2 (by omega)⟩
        rw [Nat.add_lt_add_iff_right, h1]
        constructor
        · rintro (rfl | h)
          · right; simpa using h0
          · exact .inr h
        · rintro (h | h)
          · omega
          · exact .inr h
theorem enc7_get (n j : Nat) (h : j < (enc7 n).length) : (enc7 n)[j]? = some (byte7 n j : Int) := (enc7_spec n j).2 h
theorem enc7_more (n j : Nat) (h : j < (enc7 n).length) : j + 1 < (enc7 n).length ↔ ¬ byte7 n j < 128 := by
  rw [byte7_last, (enc7_spec n (j + 1)).1]; simp
theorem enc7_le (n k : Nat) (h : n < 128 ^ k) (hk : 0 < k) : (enc7 n).length ≤ k := by
  rcases Nat.lt_or_ge k (enc7 n).length with h1 | h1
  · have := (enc7_spec n k).1.1 h1
    rcases this with rfl | h2
    · omega
    · exact absurd (Nat.div_eq_of_lt h) h2
  · exact h1
theorem enc7_or (n j : Nat) : n % 128 ^ j ||| (n / 128 ^ j % 128) <<< (7 * j) = n % 128 ^ (j + 1) := by
  have e : 128 ^ j = 2 ^ (7 * j) := by rw [Nat.pow_mul]
  have hl : n % 128 ^ j < 2 ^ (7 * j) := by rw [← e]; exact Nat.mod_lt _ (Nat.pow_pos (by omega))
  rw [Nat.or_comm, ← Nat.shiftLeft_add_eq_or_of_lt hl, Nat.shiftLeft_eq, ← e, Nat.pow_succ, Nat.mod_mul]
  rw [Nat.mul_comm, Nat.add_comm]
theorem enc7_all (n : Nat) : n % 128 ^ (enc7 n).length = n := by
  have h : ¬ ((enc7 n).length < (enc7 n).length) := Nat.lt_irrefl _
  rw [(enc7_spec n _).1] at h
  have h2 : n / 128 ^ (enc7 n).length = 0 := by
    rcases Nat.eq_zero_or_pos (n / 128 ^ (enc7 n).length) with h1 | h1
    · exact h1
    · exact absurd (.inr (by omega)) h
  have := Nat.div_add_mod n (128 ^ (enc7 n).length)
  rw [h2] at this; omega
theorem enc7_range (n : Nat) : ∀ x ∈ enc7 n, 0 ≤ x ∧ x ≤ 255 := by
  intro x hx
  obtain ⟨j, hj⟩ := List.mem_iff_getElem?.1 hx
  have hl : j < (enc7 n).length := (List.getElem?_eq_some_iff.1 hj).1
  rw [enc7_get n j hl] at hj
  cases hj
  have := byte7_lt n j
  omega

/-! ### a number by those of its bytes that are written -/
/-- n bytes from place i on, those of which the bit m + i of c is set. -/
def dec (c m : Nat) : Nat → Nat → List Int → Option (Nat × List Int)
  | 0, _, l => some (0, l)
  | n + 1, i, l => if c.testBit (m + i) = true then (match l with
      | [] => none
      | b :: l' => (dec c m n (i + 1) l').map fun x => (b.toNat * 256 ^ i + x.1, x.2))
    else dec c m n (i + 1) l
def put (v : Nat) (s : Nat → Bool) : Nat → Nat → List Int
  | 0, _ => []
  | n + 1, i => if s i = true then ((v / 256 ^ i % 256 : Nat) : Int) :: put v s n (i + 1) else put v s n (i + 1)
theorem dec_put (c m v : Nat) (s : Nat → Bool) : ∀ (n i : Nat) (r : List Int), (∀ j, i ≤ j → j < i + n → c.testBit (m + j) = s j ∧ (s j = false → v / 256 ^ j % 256 = 0)) →
    dec c m n i (put v s n i ++ r) = some (v / 256 ^ i % 256 ^ n * 256 ^ i, r)
  | 0, i, r, h => by simp [dec, put, Nat.mod_one]
  | n + 1, i, r, h => by
    obtain ⟨h1, h2⟩ := h i (Nat.le_refl _) (by omega)
    have ih := dec_put c m v s n (i + 1) r (fun j hj1 hj2 => h j (by omega) (by omega))
    have e : v / 256 ^ i % 256 ^ (n + 1) * 256 ^ i = v / 256 ^ i % 256 * 256 ^ i + v / 256 ^ (i + 1) % 256 ^ n * 256 ^ (i + 1) := by
      rw [Nat.pow_succ' (n := n), Nat.mod_mul, Nat.div_div_eq_div_mul, ← Nat.pow_succ, Nat.add_mul, Nat.pow_succ' (n := i)]
      congr 1
      rw [Nat.mul_comm 256, Nat.mul_assoc]
    unfold dec put
    cases hs : s i with
    | true =>
      rw [h1, hs, if_pos rfl, if_pos rfl, List.cons_append]
      simp only [ih, Option.map_some, Int.toNat_natCast]
      rw [e]
    | false =>
      rw [h1, hs, if_neg (by decide), if_neg (by decide), ih, e, h2 hs]; simp
theorem put_range (v : Nat) (s : Nat → Bool) : ∀ (n i : Nat), ∀ x ∈ put v s n i, 0 ≤ x ∧ x ≤ 255
  | 0, i, x, hx => by simp [put] at hx
  | n + 1, i, x, hx => by
    rw [put] at hx
    split at hx
    · rcases List.mem_cons.1 hx with rfl | hx
      · omega
      · exact put_range v s n (i + 1) x hx
    · exact put_range v s n (i + 1) x hx

/-! ### instructions -/
inductive Ins where
  | put (t : List Int)
  | copy (o s : Nat)
def Ins.made (src : List Int) : Ins → List Int
  | .put t => t
  | .copy o s => (src.drop o).take s
/-- An instruction's bytes. -/
inductive Enc (n : Nat) : Ins → List Int → Prop where
  | put (t : List Int) (h1 : 1 ≤ t.length) (h2 : t.length ≤ 127) : Enc n (.put t) ((t.length : Int) :: t)
  | copy (c o s s0 : Nat) (r : List Int) (hc : 128 ≤ c ∧ c ≤ 255) (hd : ∀ rest, ∃ r', dec c 0 4 0 (r ++ rest) = some (o, r') ∧ dec c 4 3 0 r' = some (s0, rest)) (hs : s = if s0 = 0 then 65536 else s0) (ho : o + s ≤ n) : Enc n (.copy o s) ((c : Int) :: r)
/-- All of them, one behind the other. -/
inductive Encs (n : Nat) : List Ins → List Int → Prop where
  | nil : Encs n [] []
  | cons {i : Ins} {is : List Ins} {b bs : List Int} (h : Enc n i b) (hs : Encs n is bs) : Encs n (i :: is) (b ++ bs)
def made (src : List Int) (is : List Ins) : List Int := is.flatMap (Ins.made src)
theorem made_cons (src : List Int) (i : Ins) (is : List Ins) : made src (i :: is) = i.made src ++ made src is := by simp [made]
theorem made_append (src : List Int) (is js : List Ins) : made src (is ++ js) = made src is ++ made src js := by simp [made]
theorem Encs.append {n : Nat} {is js : List Ins} {a b : List Int} (h : Encs n is a) (h' : Encs n js b) : Encs n (is ++ js) (a ++ b) := by
  induction h with
  | nil => exact h'
  | cons h _ ih => rw [List.cons_append, List.append_assoc]; exact .cons h ih
theorem Enc.made_pos {src : List Int} {i : Ins} {b : List Int} (h : Enc src.length i b) : 1 ≤ (i.made src).length := by
  cases h with
  | put t h1 h2 => exact h1
  | copy c o s s0 r hc hd hs ho =>
    rw [Ins.made, List.length_take, List.length_drop]
    split at hs <;> omega
end Go.Proofs.YtlboochpbplhlaaDoor.PureD
