/- Plain laws: packet lines, and how they are read where the end is missing. Plain laws: what the specification's printed functions answer. -/
import Derived.Test.YtponeoodgfgejaaDoorHandC
import Derived.Test.YtponeoodgfgejaaDoorQAllx
import Derived.Laws.BitsLemmas
set_option linter.unusedVariables false
set_option linter.unusedSimpArgs false
namespace Go.Proofs.YtponeoodgfgejaaDoor.PureP
open Go.RowKit Go.Proofs.YtponeoodgfgejaaDoorW.PrintWords Go.Proofs.YtponeoodgfgejaaDoor.QAll Txt PureA HandC

/-- A digit in base 16. -/
def hd (x : Nat) : Int := if x < 10 then (48 + x : Nat) else (87 + x : Nat)
theorem hd_dg {x : Nat} (h : x < 16) : Dg (hd x) := by
  unfold Dg hd
  split <;> omega
theorem nib_hd {x : Nat} (h : x < 16) : nib (hd x) = x := by
  unfold nib hd
  split <;> split <;> omega
def hex4 (n : Nat) : List Int := [hd (n / 4096 % 16), hd (n / 256 % 16), hd (n / 16 % 16), hd (n % 16)]
/-- The packet line of a payload. -/
def lineOf (p : List Int) : List Int := if p = [] then [48, 48, 48, 48] else hex4 (p.length + 4) ++ p
def enc (l : List (List Int)) : List Int := (l.map lineOf).flatten
theorem lineOf_len (p : List Int) : (lineOf p).length = 4 + p.length := by
  unfold lineOf hex4
  split
  · rename_i h; subst h; rfl
  · simp; omega
theorem enc_cons (p : List Int) (l : List (List Int)) : enc (p :: l) = lineOf p ++ enc l := rfl
theorem enc_nil : enc [] = [] := rfl
/-- What is read where n bytes are left, and whether a whole line is the last. -/
def parse : List (List Int) → Nat → List (List Int) × Bool
  | [], _ => ([], true)
  | p :: l, n => if n = 0 then ([], true) else if n < 4 then ([], false) else if n < 4 + p.length then ([], false) else (p :: (parse l (n - (4 + p.length))).1, (parse l (n - (4 + p.length))).2)
theorem parse_zero (l : List (List Int)) : parse l 0 = ([], true) := by
  cases l <;> simp [parse]
theorem parse_part (p : List Int) (l : List (List Int)) (n : Nat) (h0 : 0 < n) (h1 : n < 4) : parse (p :: l) n = ([], false) := by
  unfold parse
  rw [if_neg (by omega), if_pos h1]
theorem parse_cut (p : List Int) (l : List (List Int)) (n : Nat) (h1 : 4 ≤ n) (h2 : n < 4 + p.length) : parse (p :: l) n = ([], false) := by
  unfold parse
  rw [if_neg (by omega), if_neg (by omega), if_pos h2]
theorem parse_all (p : List Int) (l : List (List Int)) (n : Nat) (h2 : 4 + p.length ≤ n) : parse (p :: l) n = (p :: (parse l (n - (4 + p.length))).1, (parse l (n - (4 + p.length))).2) := by
  rw [parse, if_neg (by omega), if_neg (by omega), if_neg (by omega)]
theorem parse_len (l : List (List Int)) : ∀ n, n < (enc l).length → (parse l n).1.length < l.length := by
  induction l with
  | nil => intro n h; simp [enc] at h
  | cons p l ih =>
    intro n h
    rw [enc_cons, List.length_append, lineOf_len] at h
    by_cases h0 : 4 + p.length ≤ n
    · rw [parse_all p l n h0]
      have := ih (n - (4 + p.length)) (by omega)
      simp only [List.length_cons]
      omega
    · by_cases h4 : 4 ≤ n
      · rw [parse_cut p l n h4 (by omega)]; simp
      · by_cases h00 : n = 0
        · subst h00; rw [parse_zero]; simp
        · rw [parse_part p l n (by omega) (by omega)]; simp
theorem parse_whole (l : List (List Int)) : parse l (enc l).length = (l, true) := by
  induction l with
  | nil => rfl
  | cons p l ih =>
    rw [enc_cons, List.length_append, lineOf_len, parse_all p l _ (by omega)]
    have e : 4 + p.length + (enc l).length - (4 + p.length) = (enc l).length := by omega
    rw [e, ih]
theorem parse_sub (l : List (List Int)) : ∀ n, ∀ p ∈ (parse l n).1, p ∈ l := by
  induction l with
  | nil => intro n p h; simp [parse] at h
  | cons q l ih =>
    intro n p h
    unfold parse at h
    split at h
    · simp at h
    · split at h
      · simp at h
      · split at h
        · simp at h
        · simp only [List.mem_cons] at h ⊢
          exact h.imp_right (ih _ p)
/-- A payload as the format takes it. -/
structure Good (p : List Int) : Prop where
  len : p.length ≤ 65516
  no : ¬ (strOfNums (p.take 4)).toList = (strOfNums [69, 82, 82, 32]).toList
theorem line_head (p : List Int) (h : p.length ≤ 65516) : ∃ d0 d1 d2 d3, lineOf p = [d0, d1, d2, d3] ++ p ∧ Dg d0 ∧ Dg d1 ∧ Dg d2 ∧ Dg d3 ∧ ((hexv d0 d1 d2 d3 = 0 ∧ p.length = 0) ∨ (5 ≤ hexv d0 d1 d2 d3 ∧ hexv d0 d1 d2 d3 ≤ 65520 ∧ (p.length : Int) = hexv d0 d1 d2 d3 - 4)) := by
  by_cases hp : p = []
  · subst hp
    exact ⟨48, 48, 48, 48, rfl, by unfold Dg; omega, by unfold Dg; omega, by unfold Dg; omega, by unfold Dg; omega, Or.inl ⟨by decide, rfl⟩⟩
  · have hl : 0 < p.length := List.length_pos_iff.2 hp
    refine ⟨_, _, _, _, by unfold lineOf; rw [if_neg hp]; rfl, hd_dg (by omega), hd_dg (by omega), hd_dg (by omega), hd_dg (by omega), Or.inr ?_⟩
    have e : hexv (hd ((p.length + 4) / 4096 % 16)) (hd ((p.length + 4) / 256 % 16)) (hd ((p.length + 4) / 16 % 16)) (hd ((p.length + 4) % 16)) = ((p.length + 4 : Nat) : Int) := by
      unfold hexv
      rw [nib_hd (by omega), nib_hd (by omega), nib_hd (by omega), nib_hd (by omega)]
      omega
    rw [e]
    omega
/-- One line is read: its digits, its payload, and what follows. -/
theorem step (D : List Int) (pos : Nat) (p : List Int) (r : List (List Int)) (hp : p.length ≤ 65516) (hD : D.drop pos = (enc (p :: r)).take (D.length - pos)) (h4 : pos + 4 ≤ D.length) :
    ∃ d0 d1 d2 d3, seg D pos 4 = [.int .u8 d0, .int .u8 d1, .int .u8 d2, .int .u8 d3] ∧ (D.drop pos).take 4 = [d0, d1, d2, d3] ∧ Dg d0 ∧ Dg d1 ∧ Dg d2 ∧ Dg d3 ∧ ((hexv d0 d1 d2 d3 = 0 ∧ p.length = 0) ∨ (5 ≤ hexv d0 d1 d2 d3 ∧ hexv d0 d1 d2 d3 ≤ 65520 ∧ (p.length : Int) = hexv d0 d1 d2 d3 - 4)) := by
  obtain ⟨d0, d1, d2, d3, e, h0, h1, h2, h3, h⟩ := line_head p hp
  have hd : (D.drop pos).take 4 = [d0, d1, d2, d3] := by
    rw [hD, enc_cons, e, List.append_assoc, List.take_take, Nat.min_eq_left (by omega)]
    rfl
  exact ⟨d0, d1, d2, d3, by unfold seg; rw [hd]; rfl, hd, h0, h1, h2, h3, h⟩
theorem step_body (D : List Int) (pos : Nat) (p : List Int) (r : List (List Int)) (hp : p.length ≤ 65516) (hD : D.drop pos = (enc (p :: r)).take (D.length - pos)) (h4 : pos + 4 + p.length ≤ D.length) :
    (D.drop (pos + 4)).take p.length = p ∧ D.drop (pos + 4 + p.length) = (enc r).take (D.length - (pos + 4 + p.length)) := by
  obtain ⟨d0, d1, d2, d3, e, _⟩ := line_head p hp
  have hA : D.drop (pos + 4) = (p ++ enc r).take (D.length - (pos + 4)) := by
    rw [← List.drop_drop, hD, enc_cons, e, List.append_assoc, List.drop_take]
    have : D.length - pos - 4 = D.length - (pos + 4) := by omega
    rw [this]
    rfl
  refine ⟨?_, ?_⟩
  · rw [hA, List.take_take, Nat.min_eq_left (by omega), List.take_left]
  · rw [← List.drop_drop, hA, List.drop_take, List.drop_left]
    have : D.length - (pos + 4) - p.length = D.length - (pos + 4 + p.length) := by omega
    rw [this]
#print axioms step
#print axioms step_body
#print axioms parse_whole
#print axioms parse_len
end Go.Proofs.YtponeoodgfgejaaDoor.PureP

set_option linter.unusedVariables false
set_option linter.unusedSimpArgs false
namespace Go.Proofs.YtponeoodgfgejaaDoor.PureQ
open Go.RowKit Go.Proofs.YtponeoodgfgejaaDoorW.PrintWords Go.Proofs.YtponeoodgfgejaaDoor.QAll Txt PureA HandC PureP

theorem wraps_i64 (n : Int) (h0 : 0 ≤ n) (h1 : n < 2 ^ 63) : IntKind.i64.wrap n = n := by rw [IntKind.wrap_i64]; omega
theorem and15 (x : Nat) (hx : x < 2 ^ 63) : Go.bits .and .i64 (x : Int) 15 = ((x % 16 : Nat) : Int) := by
  rw [show (15 : Int) = ((15 : Nat) : Int) from rfl, (bits_nat .i64 63 (by decide) wraps_i64 x 15 hx (by decide)).1]
  rw [show (15 : Nat) = 2 ^ 4 - 1 from rfl, Nat.and_two_pow_sub_one_eq_mod]
abbrev lit16 : ByteArray := ⟨#[48, 49, 50, 51, 52, 53, 54, 55, 56, 57, 97, 98, 99, 100, 101, 102]⟩
theorem bt_lit : ∀ x : Fin 16, bt lit16 ((x.val : Nat) : Int) = hd x.val := by decide +kernel
theorem hex_step (n s m : Nat) (acc : List Int) (hn : n < 65536) (ha : acc.length ≤ 4) (hs : s ≤ 12) : spec_Hex4.l0 (m + 1) (n : Int) acc (s : Int) = spec_Hex4.l0 m (n : Int) (acc ++ [hd (n / 2 ^ s % 16)]) ((s : Int) - 4) := by
  have h1 : shr .i64 (n : Int) (s : Int) = ((n / 2 ^ s : Nat) : Int) := by
    unfold shr
    rw [Int.toNat_natCast, Nat.min_eq_left (by show s ≤ 64; omega)]
    simp
  have h2 : n / 2 ^ s < 2 ^ 63 := Nat.lt_of_le_of_lt (Nat.div_le_self _ _) (by omega)
  have h3 : wrap64 ((s : Int) - 4) = (s : Int) - 4 := by unfold wrap64; omega
  rw [spec_Hex4.l0, h1, and15 _ h2, if_pos (by omega), if_pos (by omega), if_pos (by omega), if_pos (by omega), if_pos (by omega), h3]
  rw [show bt (⟨#[48, 49, 50, 51, 52, 53, 54, 55, 56, 57, 97, 98, 99, 100, 101, 102]⟩ : ByteArray) ((n / 2 ^ s % 16 : Nat) : Int) = hd (n / 2 ^ s % 16) from bt_lit ⟨n / 2 ^ s % 16, by omega⟩]
theorem hex4_f (n m : Nat) (hn : n < 65536) : spec_Hex4.f (m + 5) (n : Int) = some (hex4 n) := by
  unfold spec_Hex4.f
  rw [show (12 : Int) = ((12 : Nat) : Int) from rfl, hex_step n 12 (m + 4) [] hn (by simp) (by omega)]
  rw [show ((12 : Nat) : Int) - 4 = ((8 : Nat) : Int) from rfl, hex_step n 8 (m + 3) _ hn (by simp) (by omega)]
  rw [show ((8 : Nat) : Int) - 4 = ((4 : Nat) : Int) from rfl, hex_step n 4 (m + 2) _ hn (by simp) (by omega)]
  rw [show ((4 : Nat) : Int) - 4 = ((0 : Nat) : Int) from rfl, hex_step n 0 (m + 1) _ hn (by simp) (by omega)]
  rw [spec_Hex4.l0, if_neg (by omega)]
  unfold hex4
  simp
theorem line_f (p : List Int) (m : Nat) (hp : p.length ≤ 65516) : spec_Line.f (m + 5) p = some (lineOf p) := by
  unfold spec_Line.f lineOf
  by_cases h : p = []
  · subst h; rfl
  · have hl : 0 < p.length := List.length_pos_iff.2 h
    have hw : wrap64 ((p.length : Int) + 4) = ((p.length + 4 : Nat) : Int) := by unfold wrap64; omega
    rw [if_neg (by omega), if_neg h, hw, hex4_f _ _ (by omega)]
    show (if (hex4 (p.length + 4)).length + p.length < 140737488355328 then some (hex4 (p.length + 4) ++ p) else none) = _
    rw [if_pos (by show 4 + p.length < _; omega)]
#print axioms line_f
end Go.Proofs.YtponeoodgfgejaaDoor.PureQ
