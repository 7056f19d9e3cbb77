/- SHA-1 in plain words: blocks one behind the other, what a hash that has been written to holds, the padding. -/
import Derived.Test.YthpoiceceogdhaaDoorShaA
set_option linter.unusedVariables false
set_option linter.unusedSimpArgs false
namespace Go.Proofs.YthpoiceceogdhaaDoor.ShaP
open ShaA

/-- n blocks. -/
def blocks : Nat → S5 → List Nat → S5
  | 0, s, _ => s
  | n + 1, s, l => blocks n (stepW s (l.take 64)) (l.drop 64)
theorem blocks_add (a b : Nat) (s : S5) (l : List Nat) : blocks (a + b) s l = blocks b (blocks a s l) (l.drop (64 * a)) := by
  induction a generalizing s l with
  | zero => simp [blocks]
  | succ a ih =>
    rw [Nat.succ_add, blocks, ih, blocks, List.drop_drop]
    congr 2
    omega
theorem blocks_succ (n : Nat) (s : S5) (l : List Nat) : blocks (n + 1) s l = stepW (blocks n s l) ((l.drop (64 * n)).take 64) := by
  rw [blocks_add]
  rfl
theorem blocks_append (n : Nat) (s : S5) (l x : List Nat) (h : 64 * n ≤ l.length) : blocks n s (l ++ x) = blocks n s l := by
  induction n generalizing s l with
  | zero => rfl
  | succ n ih =>
    rw [blocks, blocks, List.take_append_of_le_length (by omega), List.drop_append_of_le_length (by omega), ih _ _ (by rw [List.length_drop]; omega)]
def init : S5 := ⟨1732584193, 4023233417, 2562383102, 271733878, 3285377520⟩
/-- The state behind the bytes m. -/
def stOf (m : List Nat) : S5 := blocks (m.length / 64) init m
/-- The bytes of m that wait for more. -/
def rest (m : List Nat) : List Nat := m.drop (64 * (m.length / 64))
theorem rest_length (m : List Nat) : (rest m).length = m.length % 64 := by unfold rest; rw [List.length_drop]; omega
theorem rest_mem {m : List Nat} {P : Nat → Prop} (h : ∀ x ∈ m, P x) : ∀ x ∈ rest m, P x := fun x hx => h x (List.mem_of_mem_drop hx)
theorem rest_app (m p : List Nat) : (m ++ p).drop (64 * (m.length / 64)) = rest m ++ p := by
  unfold rest
  rw [List.drop_append_of_le_length (by omega)]
theorem stOf_more (m p : List Nat) (n : Nat) (h : n = (rest m ++ p).length / 64) : stOf (m ++ p) = blocks n (stOf m) (rest m ++ p) := by
  subst h
  unfold stOf
  rw [← rest_app m p, ← blocks_append (m.length / 64) init m p (by omega), ← blocks_add]
  congr 1
  rw [rest_app]
  simp only [List.length_append, rest_length]
  omega
theorem rest_more (m p : List Nat) (n : Nat) (h : n = (rest m ++ p).length / 64) : rest (m ++ p) = (rest m ++ p).drop (64 * n) := by
  subst h
  rw [← rest_app m p, List.drop_drop]
  unfold rest
  congr 1
  rw [rest_app]
  simp only [List.length_append, rest_length]
  omega
theorem blocks_ok {s : S5} (h : s.Ok) : ∀ n l, (blocks n s l).Ok
  | 0, _ => h
  | n + 1, l => blocks_ok (stepW_ok _ _) n _
theorem init_ok : init.Ok := ⟨by decide, by decide, by decide, by decide, by decide⟩
theorem stOf_ok (m : List Nat) : (stOf m).Ok := blocks_ok init_ok _ _

/-- Zeros behind the first byte of the padding. -/
def zc (n : Nat) : Nat := (119 - n % 64) % 64
def be8 (x : Nat) : List Nat := [x / 72057594037927936 % 256, x / 281474976710656 % 256, x / 1099511627776 % 256, x / 4294967296 % 256, x / 16777216 % 256, x / 65536 % 256, x / 256 % 256, x % 256]
def padding (m : List Nat) : List Nat := 128 :: List.replicate (zc m.length) 0 ++ be8 (m.length * 8)
def be32 (x : Nat) : List Nat := [x / 16777216 % 256, x / 65536 % 256, x / 256 % 256, x % 256]
def outOf (s : S5) : List Nat := be32 s.a ++ (be32 s.b ++ (be32 s.c ++ (be32 s.d ++ be32 s.e)))
def sha1 (m : List Nat) : List Nat := outOf (stOf (m ++ padding m))
theorem be32_lt (x : Nat) : ∀ y ∈ be32 x, y < 256 := by
  intro y hy
  simp only [be32, List.mem_cons, List.not_mem_nil, or_false] at hy
  omega
theorem outOf_lt (s : S5) : ∀ y ∈ outOf s, y < 256 := by
  intro y hy
  simp only [outOf, List.mem_append] at hy
  rcases hy with h | h | h | h | h <;> exact be32_lt _ y h
theorem outOf_len (s : S5) : (outOf s).length = 20 := rfl
theorem sha1_len (m : List Nat) : (sha1 m).length = 20 := rfl
theorem sha1_lt (m : List Nat) : ∀ y ∈ sha1 m, y < 256 := outOf_lt _
theorem padding_len (m : List Nat) : (padding m).length = 9 + zc m.length := by
  unfold padding
  simp [be8]
  omega
theorem padded_len (m : List Nat) : (m.length + (padding m).length) % 64 = 0 := by
  rw [padding_len]
  unfold zc
  omega
end Go.Proofs.YthpoiceceogdhaaDoor.ShaP
