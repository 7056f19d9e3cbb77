/- path.Match, at patterns of letters, digits, points, stars and question marks and at names without slashes, of ASCII: it tells what a pattern says. Plain Lean. -/
import Derived.Test.YtlnfkpmmnennbaaTxt
import Derived.Test.YtlnfkpmmnennbaaQAllx15
set_option linter.unusedVariables false
set_option linter.unusedSimpArgs false
namespace Go.Proofs.Ytlnfkpmmnennbaa.PureG
open Go.RowKit Go.Proofs.YtlnfkpmmnennbaaW.PrintWords Go.Proofs.Ytlnfkpmmnennbaa.QAll Txt

/-! ### what a pattern says -/
def globs : List UInt8 → List UInt8 → Bool
  | [], s => s.isEmpty
  | c :: p, s => if c = 42 then (List.range (s.length + 1)).any (fun i => globs p (s.drop i)) else
      match s with
      | [] => false
      | x :: t => (c == 63 || c == x) && globs p t
def mc : List UInt8 → List UInt8 → Option (List UInt8)
  | [], s => some s
  | _ :: _, [] => none
  | c :: cs, x :: xs => if c = 63 ∨ c = x then mc cs xs else none
def cut : List UInt8 → List UInt8 × List UInt8
  | [] => ([], [])
  | c :: l => if c = 42 then ([], c :: l) else (c :: (cut l).1, (cut l).2)
def strip : List UInt8 → List UInt8
  | [] => []
  | c :: l => if c = 42 then strip l else c :: l

theorem cut_app : ∀ l, (cut l).1 ++ (cut l).2 = l
  | [] => rfl
  | c :: l => by
    unfold cut
    split
    · rfl
    · simp [cut_app l]
theorem cut_no : ∀ l, ∀ c ∈ (cut l).1, c ≠ 42
  | [], c, h => by simp [cut] at h
  | a :: l, c, h => by
    unfold cut at h
    split at h
    · simp at h
    · rcases List.mem_cons.1 h with rfl | h
      · assumption
      · exact cut_no l c h
theorem cut_star : ∀ l, (cut l).2 = [] ∨ ∃ r, (cut l).2 = 42 :: r
  | [] => .inl rfl
  | c :: l => by
    unfold cut
    split
    · rename_i h; subst h; exact .inr ⟨l, rfl⟩
    · exact cut_star l
theorem strip_mem : ∀ l, ∀ c ∈ strip l, c ∈ l
  | [], c, h => by simp [strip] at h
  | a :: l, c, h => by
    unfold strip at h
    split at h
    · exact List.mem_cons_of_mem _ (strip_mem l c h)
    · exact h
theorem strip_len : ∀ l, (strip l).length ≤ l.length
  | [] => Nat.le_refl _
  | a :: l => by
    unfold strip
    split
    · have := strip_len l; simp; omega
    · exact Nat.le_refl _
theorem strip_head : ∀ l c r, strip l = c :: r → c ≠ 42
  | [], c, r, h => by simp [strip] at h
  | a :: l, c, r, h => by
    unfold strip at h
    split at h
    · exact strip_head l c r h
    · rename_i hn; cases h; exact hn

theorem globs_chunk : ∀ (chunk rest s : List UInt8), (∀ c ∈ chunk, c ≠ 42) → globs (chunk ++ rest) s = match mc chunk s with | some t => globs rest t | none => false
  | [], rest, s, _ => rfl
  | c :: cs, rest, [], h => by
    simp only [List.cons_append, globs, mc]
    rw [if_neg (h c List.mem_cons_self)]
  | c :: cs, rest, x :: xs, h => by
    simp only [List.cons_append, globs, mc]
    rw [if_neg (h c List.mem_cons_self), globs_chunk cs rest xs (fun c hc => h c (List.mem_cons_of_mem _ hc))]
    by_cases h1 : c = 63 ∨ c = x
    · rw [if_pos h1]
      have : (c == 63 || c == x) = true := by simpa using h1
      rw [this, Bool.true_and]
    · rw [if_neg h1]
      have : (c == 63 || c == x) = false := by simpa using h1
      rw [this, Bool.false_and]
theorem mc_some : ∀ (chunk s t : List UInt8), mc chunk s = some t → t = s.drop chunk.length ∧ chunk.length ≤ s.length
  | [], s, t, h => by cases h; exact ⟨rfl, Nat.zero_le _⟩
  | c :: cs, [], t, h => by cases h
  | c :: cs, x :: xs, t, h => by
    unfold mc at h
    split at h
    · have := mc_some cs xs t h
      exact ⟨by simpa using this.1, by simpa using this.2⟩
    · cases h
theorem globs_star (p s : List UInt8) : globs (42 :: p) s = true ↔ ∃ i, i ≤ s.length ∧ globs p (s.drop i) = true := by
  simp only [globs, if_true, List.any_eq_true, List.mem_range]
  constructor
  · rintro ⟨i, h1, h2⟩; exact ⟨i, by omega, h2⟩
  · rintro ⟨i, h1, h2⟩; exact ⟨i, by omega, h2⟩
theorem globs_stars (p s : List UInt8) : globs (42 :: 42 :: p) s = globs (42 :: p) s := by
  rw [Bool.eq_iff_iff, globs_star, globs_star]
  constructor
  · rintro ⟨i, h1, h2⟩
    obtain ⟨j, h3, h4⟩ := (globs_star _ _).1 h2
    rw [List.length_drop] at h3
    rw [List.drop_drop] at h4
    exact ⟨i + j, by omega, h4⟩
  · rintro ⟨i, h1, h2⟩
    exact ⟨0, Nat.zero_le _, (globs_star _ _).2 ⟨i, by simpa using h1, by simpa using h2⟩⟩
theorem globs_strip : ∀ (p s : List UInt8), globs (42 :: p) s = globs (42 :: strip p) s
  | [], s => rfl
  | c :: p, s => by
    unfold strip
    split
    · rename_i h; subst h; rw [globs_stars]; exact globs_strip p s
    · rfl
theorem globs_all (s : List UInt8) : globs [42] s = true := (globs_star _ _).2 ⟨s.length, Nat.le_refl _, by simp [globs]⟩
/-- What begins with a star takes a text as soon as it takes an end of it. -/
theorem globs_more (r s : List UInt8) (i : Nat) (h : globs (42 :: r) (s.drop i) = true) : globs (42 :: r) s = true := by
  obtain ⟨j, h1, h2⟩ := (globs_star _ _).1 h
  rw [List.drop_drop] at h2
  rw [List.length_drop] at h1
  by_cases hi : i ≤ s.length
  · exact (globs_star _ _).2 ⟨i + j, by omega, h2⟩
  · refine (globs_star _ _).2 ⟨s.length, Nat.le_refl _, ?_⟩
    rw [List.drop_of_length_le (by omega)] at h2
    rw [List.drop_length]; exact h2

/-! ### the characters -/
def Gc (c : UInt8) : Prop := c ≠ 91 ∧ c ≠ 92 ∧ c ≠ 93
def Nc (x : UInt8) : Prop := x.toNat < 128 ∧ x ≠ 47
theorem ne_int {c : UInt8} {n : Int} (k : UInt8) (hk : (k.toNat : Int) = n) (h : c ≠ k) : ¬ ((c.toNat : Int) = n) := by
  subst hk; exact fun e => h (u8_eq.1 e)
def starOf (x2 : Bool) : List UInt8 → Bool
  | [] => x2
  | c :: _ => if c = 42 then true else x2

/-! ### scanChunk -/
theorem scan_at (x0 : ByteArray) (x2 : Bool) (a b : List UInt8) (hx : x0.toList = a ++ b) (hb : b = [] ∨ ∃ r, b = 42 :: r) (hs : x0.size ≤ 140737488351232)
    (hg : ∀ c ∈ a, Gc c ∧ c ≠ 42) (d : Nat) : ∀ i : Nat, i ≤ a.length → a.length - i = d →
    ∃ cb rb : ByteArray, cb.toList = a ∧ rb.toList = b ∧ Ev (fun k => path_scanChunk.l1 k x0 x2 false i) (x2, cb, rb) := by
  have hsz : x0.size = a.length + b.length := by rw [← size_list, hx, List.length_append]
  induction d with
  | zero =>
    intro i hi hd
    obtain rfl : i = a.length := by omega
    rcases hb with rfl | ⟨r, rfl⟩
    · refine ⟨x0, ⟨#[]⟩, by simpa using hx, by rw [toList_lit], ev_now fun m => ?_⟩
      simp only [path_scanChunk.l1]
      rw [if_neg (by simp at hsz; omega)]
    · refine ⟨x0.extract 0 a.length, x0.extract a.length x0.size, ?_, ?_, ev_now fun m => ?_⟩
      · rw [ext_to, hx, List.take_left' rfl]
      · rw [ext_from, hx, List.drop_left' rfl]
      · simp only [path_scanChunk.l1]
        have hb : bt x0 (a.length : Nat) = 42 := by
          have := bt_get x0 a.length 42 (by rw [hx]; simp)
          rw [this]; rfl
        simp only [List.length_cons] at hsz
        rw [if_pos (by omega), if_pos (by omega), hb]
        rw [if_neg (by decide), if_neg (by decide), if_neg (by decide), if_pos rfl, if_neg (by decide), if_pos (by omega)]
        rfl
  | succ d ih =>
    intro i hi hd
    obtain ⟨cb, rb, h1, h2, h3⟩ := ih (i + 1) (by omega) (by omega)
    refine ⟨cb, rb, h1, h2, ev_round h3 fun m hm => ?_⟩
    have hl : i < a.length := by omega
    have hc : x0.toList[i]? = some a[i] := by rw [hx, List.getElem?_append_left hl, List.getElem?_eq_getElem hl]
    obtain ⟨⟨g1, g2, g3⟩, g4⟩ := hg a[i] (List.getElem_mem hl)
    simp only [path_scanChunk.l1]
    rw [if_pos (by omega), if_pos (by omega), bt_get x0 i _ hc]
    rw [if_neg (ne_int (n := 92) 92 rfl g2), if_neg (ne_int (n := 91) 91 rfl g1), if_neg (ne_int (n := 93) 93 rfl g3), if_neg (ne_int (n := 42) 42 rfl g4), w64 _ (by omega) (by omega)]
    exact hm

theorem scan_ok (l : List UInt8) : ∀ (x0 : ByteArray) (x2 : Bool), x0.toList = l → x0.size ≤ 140737488351232 → (∀ c ∈ l, Gc c) →
    ∃ cb rb : ByteArray, cb.toList = (cut (strip l)).1 ∧ rb.toList = (cut (strip l)).2 ∧ Ev (fun k => path_scanChunk.l0 k x0 x2) (starOf x2 l, cb, rb) := by
  induction l with
  | nil =>
    intro x0 x2 hx hs hg
    obtain ⟨cb, rb, h1, h2, h3⟩ := scan_at x0 x2 [] [] (by simpa using hx) (.inl rfl) hs (by simp) 0 0 (by simp) (by simp)
    refine ⟨cb, rb, h1, h2, ?_⟩
    have h4 : Ev (fun k => path_scanChunk.j1 k x0 x2) (x2, cb, rb) := ev_round h3 fun m hm => by simp only [path_scanChunk.j1]; exact hm
    refine ev_round h4 fun m hm => ?_
    simp only [path_scanChunk.l0]
    rw [if_neg (by have := size_nil hx; omega)]
    exact hm
  | cons c l ih =>
    intro x0 x2 hx hs hg
    have hsz := size_cons hx
    by_cases hc : c = 42
    · subst hc
      obtain ⟨cb, rb, h1, h2, h3⟩ := ih (x0.extract 1 x0.size) true (ext_tail hx) (by rw [← size_list, ext_tail hx]; omega) (fun c h => hg c (List.mem_cons_of_mem _ h))
      refine ⟨cb, rb, by simpa [strip] using h1, by simpa [strip] using h2, ?_⟩
      have e : starOf true l = true := by cases l <;> simp [starOf]
      rw [e] at h3
      refine ev_round h3 fun m hm => ?_
      simp only [path_scanChunk.l0, starOf, if_true]
      rw [if_pos (by omega), if_pos (by omega), bt_head hx, if_pos (by rfl), if_pos (by omega)]
      exact hm
    · have hst : strip (c :: l) = c :: l := by simp [strip, hc]
      rw [hst]
      obtain ⟨cb, rb, h1, h2, h3⟩ := scan_at x0 x2 (cut (c :: l)).1 (cut (c :: l)).2 (by rw [cut_app]; exact hx) (cut_star _) hs (fun c' h => ⟨hg c' (by rw [← cut_app (c :: l)]; exact List.mem_append_left _ h), cut_no _ c' h⟩) _ 0 (by simp) rfl
      refine ⟨cb, rb, h1, h2, ?_⟩
      have h4 : Ev (fun k => path_scanChunk.j1 k x0 x2) (x2, cb, rb) := ev_round h3 fun m hm => by simp only [path_scanChunk.j1]; exact hm
      simp only [starOf, hc, if_false]
      refine ev_round h4 fun m hm => ?_
      simp only [path_scanChunk.l0]
      rw [if_pos (by omega), if_pos (by omega), bt_head hx, if_neg (ne_int (n := 42) 42 rfl hc)]
      exact hm

/-! ### matchChunk -/
theorem decode_ok {x1 : ByteArray} {x : UInt8} {xs : List UInt8} (h : x1.toList = x :: xs) (hx : x.toNat < 128) : utf8_DecodeRuneInString.f x1 = some (wrap32 (x.toNat : Int), 1) := by
  unfold utf8_DecodeRuneInString.f
  have hs := size_cons h
  rw [if_neg (by rw [h]; simp), if_pos (by omega), bt_head h, if_pos (by omega)]

theorem j1_failed (x0 x1 : ByteArray) (c : UInt8) (l : List UInt8) (hx : x0.toList = c :: l) (g : Gc c) (r : ByteArray × Bool × Option Int) (h1 : Ev (fun k => path_matchChunk.l0 k (x0.extract 1 x0.size) x1 true) r) : Ev (fun k => path_matchChunk.j1 k x0 x1 true) r :=
  ev_round h1 fun m hm => by
    have hsz := size_cons hx
    have hb := bt_head hx
    obtain ⟨g1, g2, g3⟩ := g
    simp only [path_matchChunk.j1]
    rw [if_pos (by omega), if_neg (by rw [hb]; exact ne_int (n := 91) 91 rfl g1)]
    by_cases h63 : bt x0 0 = 63
    · rw [if_pos h63]
      simp only [if_true]
      rw [if_pos (by omega)]
      exact hm
    · rw [if_neg h63, if_neg (by rw [hb]; exact ne_int (n := 92) 92 rfl g2)]
      simp only [if_true]
      rw [if_pos (by omega)]
      exact hm
theorem chunk_failed (l : List UInt8) : ∀ (x0 x1 : ByteArray), x0.toList = l → (∀ c ∈ l, Gc c) → Ev (fun k => path_matchChunk.l0 k x0 x1 true) (⟨#[]⟩, false, none) := by
  induction l with
  | nil =>
    intro x0 x1 hx hg
    refine ev_now fun m => ?_
    simp only [path_matchChunk.l0]
    rw [if_neg (by have := size_nil hx; omega)]
    rfl
  | cons c l ih =>
    intro x0 x1 hx hg
    have hsz := size_cons hx
    obtain ⟨g1, g2, g3⟩ := hg c List.mem_cons_self
    have h1 := ih (x0.extract 1 x0.size) x1 (ext_tail hx) (fun c h => hg c (List.mem_cons_of_mem _ h))
    have h2 : Ev (fun k => path_matchChunk.j1 k x0 x1 true) (⟨#[]⟩, false, none) := j1_failed x0 x1 c l hx ⟨g1, g2, g3⟩ _ h1
    refine ev_round h2 fun m hm => ?_
    simp only [path_matchChunk.l0]
    rw [if_pos (by omega)]
    simpa using hm

theorem chunk_ok (l : List UInt8) : ∀ (x0 x1 : ByteArray) (s : List UInt8), x0.toList = l → x1.toList = s → (∀ c ∈ l, Gc c) → (∀ x ∈ s, Nc x) →
    ∃ (tb : ByteArray) (ok : Bool), Ev (fun k => path_matchChunk.l0 k x0 x1 false) (tb, ok, none) ∧ (match mc l s with | some t => tb.toList = t ∧ ok = true | none => ok = false) := by
  induction l with
  | nil =>
    intro x0 x1 s hx hx1 hg hn
    refine ⟨x1, true, ev_now fun m => ?_, hx1, rfl⟩
    simp only [path_matchChunk.l0]
    rw [if_neg (by have := size_nil hx; omega)]
    rfl
  | cons c l ih =>
    intro x0 x1 s hx hx1 hg hn
    have hsz := size_cons hx
    obtain ⟨g1, g2, g3⟩ := hg c List.mem_cons_self
    have hg' : ∀ c ∈ l, Gc c := fun c h => hg c (List.mem_cons_of_mem _ h)
    cases s with
    | nil =>
      have h1 := chunk_failed l (x0.extract 1 x0.size) x1 (ext_tail hx) hg'
      have hs1 := size_nil hx1
      have h2 : Ev (fun k => path_matchChunk.j1 k x0 x1 true) (⟨#[]⟩, false, none) := j1_failed x0 x1 c l hx ⟨g1, g2, g3⟩ _ h1
      refine ⟨⟨#[]⟩, false, ev_round h2 fun m hm => ?_, rfl⟩
      simp only [path_matchChunk.l0]
      have e : (((x1.size : Int)) == 0) = true := by rw [hs1]; rfl
      rw [if_pos (by omega), if_neg (by decide), e]
      exact hm
    | cons x xs =>
      have hs1 := size_cons hx1
      obtain ⟨n1, n2⟩ := hn x List.mem_cons_self
      have e : (((x1.size : Int)) == 0) = false := beq_eq_false_iff_ne.2 (by omega)
      have hj : ∀ r, Ev (fun k => path_matchChunk.j1 k x0 x1 false) r → Ev (fun k => path_matchChunk.l0 k x0 x1 false) r := fun r h => ev_round h fun m hm => by
        simp only [path_matchChunk.l0]
        rw [if_pos (by omega), if_neg (by decide), e]
        exact hm
      unfold mc
      by_cases h63 : c = 63
      · subst h63
        rw [if_pos (.inl rfl)]
        obtain ⟨tb, ok, h1, h2⟩ := ih (x0.extract 1 x0.size) (x1.extract 1 x1.size) xs (ext_tail hx) (ext_tail hx1) hg' (fun x h => hn x (List.mem_cons_of_mem _ h))
        refine ⟨tb, ok, hj _ (ev_round h1 fun m hm => ?_), h2⟩
        simp only [path_matchChunk.j1]
        have e47 : ((bt x1 0) == 47) = false := beq_eq_false_iff_ne.2 (by rw [bt_head hx1]; exact ne_int (n := 47) 47 rfl n2)
        rw [if_pos (by omega), bt_head hx, if_neg (ne_int (n := 91) 91 rfl g1), if_pos (by rfl), if_neg (by decide), if_pos (by omega), decode_ok hx1 n1]
        simp only [Option.bind_some]
        rw [if_pos (by omega), if_pos (by omega), if_pos (by omega), e47]
        exact hm
      · have hj1 : ∀ r, Ev (fun k => path_matchChunk.l0 k (x0.extract 1 x0.size) (x1.extract 1 x1.size) ((bt x0 0) != (bt x1 0))) r → Ev (fun k => path_matchChunk.j1 k x0 x1 false) r := fun r h => ev_round h fun m hm => by
          simp only [path_matchChunk.j1]
          have hb := bt_head hx
          rw [if_pos (by omega), if_neg (by rw [hb]; exact ne_int (n := 91) 91 rfl g1), if_neg (by rw [hb]; exact ne_int (n := 63) 63 rfl h63), if_neg (by rw [hb]; exact ne_int (n := 92) 92 rfl g2), if_neg (by decide), if_pos (by omega), if_pos (by omega), if_pos (by omega)]
          exact hm
        by_cases hcx : c = x
        · rw [if_pos (.inr hcx)]
          obtain ⟨tb, ok, h1, h2⟩ := ih (x0.extract 1 x0.size) (x1.extract 1 x1.size) xs (ext_tail hx) (ext_tail hx1) hg' (fun x h => hn x (List.mem_cons_of_mem _ h))
          refine ⟨tb, ok, hj _ (hj1 _ ?_), h2⟩
          have eb : ((bt x0 0) != (bt x1 0)) = false := by rw [bt_head hx, bt_head hx1, hcx]; simp
          rw [eb]; exact h1
        · rw [if_neg (by rintro (h | h); exact h63 h; exact hcx h)]
          refine ⟨⟨#[]⟩, false, hj _ (hj1 _ ?_), rfl⟩
          have eb : ((bt x0 0) != (bt x1 0)) = true := by rw [bt_head hx, bt_head hx1, bne_iff_ne]; exact fun h => hcx (u8_eq.1 h)
          rw [eb]
          exact chunk_failed l _ _ (ext_tail hx) hg'

/-! ### path.Match -/
theorem cut_len (p : List UInt8) (hp : p ≠ []) : (cut (strip p)).2.length < p.length := by
  have h1 : ∀ l, (cut l).2.length ≤ l.length := fun l => by
    have := congrArg List.length (cut_app l)
    rw [List.length_append] at this
    omega
  cases p with
  | nil => exact absurd rfl hp
  | cons c l =>
    unfold strip
    split
    · have := h1 (strip l); have := strip_len l; simp only [List.length_cons]; omega
    · rename_i hc
      unfold cut
      rw [if_neg hc]
      have := h1 l
      simp only [List.length_cons]
      omega
theorem cut_mem (p : List UInt8) : (∀ c ∈ (cut (strip p)).1, c ∈ p) ∧ (∀ c ∈ (cut (strip p)).2, c ∈ p) :=
  ⟨fun c h => strip_mem p c (by rw [← cut_app (strip p)]; exact List.mem_append_left _ h), fun c h => strip_mem p c (by rw [← cut_app (strip p)]; exact List.mem_append_right _ h)⟩

theorem ev3 {α β γ δ : Type} {g : Nat → Option α} {r : α} {f1 : Nat → Option β} {a1 : β} {f2 : Nat → Option γ} {a2 : γ} {f3 : Nat → Option δ} {a3 : δ} (k1 : Ev f1 a1) (k2 : Ev f2 a2) (k3 : Ev f3 a3)
    (h : ∀ m, f1 m = some a1 → f2 m = some a2 → f3 m = some a3 → g (m + 1) = some r) : Ev g r := by
  obtain ⟨K1, k1⟩ := k1
  obtain ⟨K2, k2⟩ := k2
  obtain ⟨K3, k3⟩ := k3
  refine ⟨K1 + K2 + K3 + 1, fun n hn => ?_⟩
  obtain ⟨m, rfl⟩ : ∃ m, n = m + 1 := ⟨n - 1, by omega⟩
  exact h m (k1 m (by omega)) (k2 m (by omega)) (k3 m (by omega))
theorem ev2 {α β γ : Type} {g : Nat → Option α} {r : α} {f1 : Nat → Option β} {a1 : β} {f2 : Nat → Option γ} {a2 : γ} (k1 : Ev f1 a1) (k2 : Ev f2 a2)
    (h : ∀ m, f1 m = some a1 → f2 m = some a2 → g (m + 1) = some r) : Ev g r := ev3 k1 k2 (Ev.now ()) (fun m e1 e2 _ => h m e1 e2)

/-- The rest of a pattern is looked at, and is well formed. -/
theorem rest_ok : ∀ (n : Nat) (x0 : ByteArray), x0.toList.length ≤ n → x0.size ≤ 140737488351232 → (∀ c ∈ x0.toList, Gc c) → Ev (fun k => path_Match.l2 k x0) (false, none)
  | n, x0, hn, hs, hg => by
    cases hx : x0.toList with
    | nil =>
      refine ev_now fun m => ?_
      simp only [path_Match.l2]
      rw [if_neg (by have := size_nil hx; omega)]
    | cons c l =>
      cases n with
      | zero => rw [hx] at hn; simp at hn
      | succ n =>
        have hsz := size_cons hx
        obtain ⟨cb, rb, h1, h2, h3⟩ := scan_ok (c :: l) x0 false hx hs (by rw [← hx]; exact hg)
        have hm := cut_mem (c :: l)
        have hlen := cut_len (c :: l) (by simp)
        have hgc : ∀ d ∈ cb.toList, Gc d := fun d hd => hg d (by rw [hx]; exact hm.1 d (by rw [← h1]; exact hd))
        have hgr : ∀ d ∈ rb.toList, Gc d := fun d hd => hg d (by rw [hx]; exact hm.2 d (by rw [← h2]; exact hd))
        obtain ⟨tb, ok, h4, _⟩ := chunk_ok cb.toList cb ⟨#[]⟩ [] rfl (toList_lit _) hgc (by simp)
        have hrl : rb.toList.length < (c :: l).length := by rw [h2]; exact hlen
        have hrs : rb.size ≤ 140737488351232 := by rw [← size_list]; rw [hx] at hn; simp only [List.length_cons] at hrl hn; omega
        have h5 := rest_ok n rb (by rw [hx] at hn; simp only [List.length_cons] at hrl hn; omega) hrs hgr
        refine ev3 h3 h4 h5 fun m e1 e2 e3 => ?_
        have e1' : path_scanChunk.f m x0 = some (starOf false (c :: l), cb, rb) := e1
        have e2' : path_matchChunk.f m cb ⟨#[]⟩ = some (tb, ok, none) := e2
        simp only [path_Match.l2]
        rw [if_pos (by omega), e1']
        simp only [Option.bind_some]
        rw [e2']
        simp only [Option.bind_some, Option.isNone_none, if_true]
        exact e3

/-- The search behind a star. -/
theorem search_ok (rb cb x1 : ByteArray) (hs : x1.size ≤ 140737488351232) (hgc : ∀ c ∈ cb.toList, Gc c) (hgr : ∀ c ∈ rb.toList, Gc c) (hrs : rb.size ≤ 140737488351232) (hns : ∀ x ∈ x1.toList, Nc x)
    (hstar : rb.toList = [] ∨ ∃ r, rb.toList = 42 :: r) (hne : cb.toList ≠ [])
    (IH : ∀ tb : ByteArray, (∀ x ∈ tb.toList, Nc x) → tb.size ≤ 140737488351232 → Ev (fun k => path_Match.l0 k rb tb) (globs rb.toList tb.toList, none)) (d : Nat) :
    ∀ i : Nat, i ≤ x1.size → x1.size - i = d →
    ∃ b, Ev (fun k => path_Match.l1 k rb x1 cb i) (b, none) ∧ (b = true ↔ ∃ j t, i < j ∧ j ≤ x1.size ∧ mc cb.toList (x1.toList.drop j) = some t ∧ globs rb.toList t = true) := by
  induction d with
  | zero =>
    intro i hi hd
    have h2 := rest_ok rb.toList.length rb (Nat.le_refl _) hrs hgr
    have h6 : Ev (fun k => path_Match.j6 k rb) (false, none) := ev_round h2 fun m hm => by simp only [path_Match.j6]; exact hm
    have h4 : Ev (fun k => path_Match.j4 k rb x1 cb i false) (false, none) := ev_round h6 fun m hm => by simp only [path_Match.j4]; rw [if_neg (by decide)]; exact hm
    refine ⟨false, ev_round h4 fun m hm => ?_, ⟨(fun h => by cases h), ?_⟩⟩
    · simp only [path_Match.l1]
      rw [if_neg (by omega)]
      exact hm
    · rintro ⟨j, t, h1, h2, _⟩; omega
  | succ d ih =>
    intro i hi hd
    obtain ⟨b, hb1, hb2⟩ := ih (i + 1) (by omega) (by omega)
    obtain ⟨x, hx, hxm, hxb⟩ := bt_at' x1 i (by omega)
    have hne47 : ((bt x1 i) != 47) = true := by rw [hxb, bne_iff_ne]; exact ne_int (n := 47) 47 rfl (hns x hxm).2
    have hl1 : ∀ r, Ev (fun k => path_Match.j4 k rb x1 cb i true) r → Ev (fun k => path_Match.l1 k rb x1 cb i) r := fun r h => ev_round h fun m hm => by
      simp only [path_Match.l1]
      rw [if_pos (by omega), if_pos (by omega), hne47]
      exact hm
    have hw : wrap64 ((i : Int) + 1) = ((i + 1 : Nat) : Int) := by rw [w64 _ (by omega) (by omega)]; omega
    have hex : (x1.extract (i + 1) x1.size).toList = x1.toList.drop (i + 1) := ext_from x1 (i + 1)
    have hn1 : ∀ x ∈ x1.toList.drop (i + 1), Nc x := fun x h => hns x (List.mem_of_mem_drop h)
    obtain ⟨tb, ok, hc1, hc2⟩ := chunk_ok cb.toList cb (x1.extract (i + 1) x1.size) _ rfl hex hgc hn1
    -- what the next places say
    have hnext : (∀ t, mc cb.toList (x1.toList.drop (i + 1)) = some t → globs rb.toList t = false) → (b = true ↔ ∃ j t, i < j ∧ j ≤ x1.size ∧ mc cb.toList (x1.toList.drop j) = some t ∧ globs rb.toList t = true) := by
      intro hno
      rw [hb2]
      constructor
      · rintro ⟨j, t, h1, h2, h3, h4⟩; exact ⟨j, t, by omega, h2, h3, h4⟩
      · rintro ⟨j, t, h1, h2, h3, h4⟩
        rcases Nat.lt_or_ge (i + 1) j with h | h
        · exact ⟨j, t, h, h2, h3, h4⟩
        · obtain rfl : j = i + 1 := by omega
          rw [hno t h3] at h4; cases h4
    cases hm : mc cb.toList (x1.toList.drop (i + 1)) with
    | none =>
      rw [hm] at hc2
      obtain rfl : ok = false := hc2
      refine ⟨b, hl1 _ (ev2 hc1 hb1 fun m e1 e2 => ?_), hnext (fun t h => by rw [hm] at h; cases h)⟩
      have e1' : path_matchChunk.f m cb (x1.extract (i + 1) x1.size) = some (tb, false, none) := e1
      simp only [path_Match.j4, if_true, hw, Int.toNat_natCast]
      rw [if_pos (by omega), if_pos (by omega), e1']
      simp only [Option.bind_some, Option.isNone_none, if_true]
      exact e2
    | some t =>
      rw [hm] at hc2
      obtain ⟨htb, rfl⟩ := hc2
      have hts : t = (x1.toList.drop (i + 1)).drop cb.toList.length := (mc_some _ _ _ hm).1
      have htn : ∀ x ∈ tb.toList, Nc x := fun x h => hn1 x (by rw [htb, hts] at h; exact List.mem_of_mem_drop h)
      have htz : tb.size ≤ 140737488351232 := by
        rw [← size_list, htb, hts, List.length_drop, List.length_drop, size_list]; omega
      have hj4 : ∀ r, Ev (fun k => path_Match.j5 k rb x1 cb i tb (if (rb.size : Int) = 0 then decide ((tb.size : Int) > 0) else false)) r → Ev (fun k => path_Match.j4 k rb x1 cb i true) r := fun r h => ev2 hc1 h fun m e1 e2 => by
        have e1' : path_matchChunk.f m cb (x1.extract (i + 1) x1.size) = some (tb, true, none) := e1
        simp only [path_Match.j4, if_true, hw, Int.toNat_natCast]
        rw [if_pos (by omega), if_pos (by omega), e1']
        simp only [Option.bind_some, if_true]
        by_cases h0 : (rb.size : Int) = 0
        · rw [if_pos h0] at e2 ⊢; exact e2
        · rw [if_neg h0] at e2 ⊢; exact e2
      have hgo : ∀ z, (if (rb.size : Int) = 0 then decide ((tb.size : Int) > 0) else false) = z → z = false → ∃ b, Ev (fun k => path_Match.l1 k rb x1 cb i) (b, none) ∧ b = globs rb.toList t := by
        intro z hz hz'
        refine ⟨_, hl1 _ (hj4 _ (ev_round (IH tb htn htz) fun m hm' => ?_)), by rw [htb]⟩
        simp only [path_Match.j5]
        rw [hz, hz', if_neg (by decide)]
        exact hm'
      rcases hstar with h0 | ⟨r, hr⟩
      · have hz0 : (rb.size : Int) = 0 := by have := size_nil h0; omega
        by_cases ht0 : t = []
        · have htz0 : tb.size = 0 := size_nil (by rw [htb, ht0])
          obtain ⟨b', h1, h2⟩ := hgo _ rfl (by rw [if_pos hz0]; exact decide_eq_false (by omega))
          refine ⟨b', h1, ⟨fun _ => ⟨i + 1, t, by omega, by omega, hm, by rw [h0, ht0]; rfl⟩, fun _ => by rw [h2, h0, ht0]; rfl⟩⟩
        · have htz0 : 0 < tb.size := by
            rw [← size_list, htb]; exact List.length_pos_iff.2 ht0
          have hd1 : (if (rb.size : Int) = 0 then decide ((tb.size : Int) > 0) else false) = true := by rw [if_pos hz0]; exact decide_eq_true (by omega)
          refine ⟨b, hl1 _ (hj4 _ (ev_round hb1 fun m hm' => ?_)), hnext (fun t' h => by rw [hm] at h; cases h; rw [h0]; cases t with | nil => exact absurd rfl ht0 | cons a b => rfl)⟩
          simp only [path_Match.j5]
          rw [hd1, if_pos rfl, hw]
          exact hm'
      · have hz0 : ¬ (rb.size : Int) = 0 := by have := size_cons hr; omega
        obtain ⟨b', h1, h2⟩ := hgo _ rfl (by rw [if_neg hz0])
        refine ⟨b', h1, ?_⟩
        rw [h2]
        constructor
        · intro h; exact ⟨i + 1, t, by omega, by omega, hm, h⟩
        · rintro ⟨j, t', g1, g2, g3, g4⟩
          have hts' := (mc_some _ _ _ g3).1
          have e : t' = t.drop (j - (i + 1)) := by
            rw [hts', hts, List.drop_drop, List.drop_drop, List.drop_drop]
            congr 1; omega
          rw [hr] at g4 ⊢
          rw [e] at g4
          exact globs_more r t _ g4

theorem index_none (l : List UInt8) (h : ∀ x ∈ l, Nc x) : Lib.indexByte l 47 = -1 := by
  induction l with
  | nil => rfl
  | cons x l ih =>
    unfold Lib.indexByte
    have h1 : (x == 47) = false := beq_eq_false_iff_ne.2 (h x List.mem_cons_self).2
    rw [h1, ih (fun y hy => h y (List.mem_cons_of_mem _ hy))]
    rfl

/-- path.Match tells what a pattern says. -/
theorem match_ok : ∀ (n : Nat) (x0 x1 : ByteArray), x0.toList.length ≤ n → x0.size ≤ 140737488351232 → x1.size ≤ 140737488351232 → (∀ c ∈ x0.toList, Gc c) → (∀ x ∈ x1.toList, Nc x) →
    Ev (fun k => path_Match.l0 k x0 x1) (globs x0.toList x1.toList, none)
  | n, x0, x1, hn, hs0, hs1, hg, hN => by
    cases hx : x0.toList with
    | nil =>
      refine ev_now fun m => ?_
      simp only [path_Match.l0]
      rw [if_neg (by have := size_nil hx; omega)]
      simp only [globs]
      cases h1 : x1.toList with
      | nil => rw [size_nil h1]; rfl
      | cons a l => rw [size_cons h1]; simp; omega
    | cons c l =>
      cases n with
      | zero => rw [hx] at hn; simp at hn
      | succ n =>
        have hsz := size_cons hx
        obtain ⟨cb, rb, h1, h2, h3⟩ := scan_ok (c :: l) x0 false hx hs0 (by rw [← hx]; exact hg)
        have hm := cut_mem (c :: l)
        have hlen := cut_len (c :: l) (by simp)
        have hgc : ∀ d ∈ cb.toList, Gc d := fun d hd => hg d (by rw [hx]; exact hm.1 d (by rw [← h1]; exact hd))
        have hgr : ∀ d ∈ rb.toList, Gc d := fun d hd => hg d (by rw [hx]; exact hm.2 d (by rw [← h2]; exact hd))
        have hrl : rb.toList.length < (c :: l).length := by rw [h2]; exact hlen
        have hrs : rb.size ≤ 140737488351232 := by rw [← size_list]; rw [hx] at hn; simp only [List.length_cons] at hrl hn; omega
        have IH : ∀ tb : ByteArray, (∀ x ∈ tb.toList, Nc x) → tb.size ≤ 140737488351232 → Ev (fun k => path_Match.l0 k rb tb) (globs rb.toList tb.toList, none) := fun tb h h' =>
          match_ok n rb tb (by rw [hx] at hn; simp only [List.length_cons] at hrl hn; omega) hrs h' hgr h
        have hno : ∀ d ∈ cb.toList, d ≠ 42 := fun d hd => cut_no _ d (by rw [← h1]; exact hd)
        have hstar : rb.toList = [] ∨ ∃ r, rb.toList = 42 :: r := by rw [h2]; exact cut_star _
        have hsplit : strip (c :: l) = cb.toList ++ rb.toList := by rw [h1, h2, cut_app]
        have hl0 : ∀ r, Ev (fun k => path_Match.j1 k rb x1 (starOf false (c :: l)) cb (if starOf false (c :: l) = true then cb.toList.isEmpty else false)) r → Ev (fun k => path_Match.l0 k x0 x1) r := fun r h => ev2 h3 h fun m e1 e2 => by
          have e1' : path_scanChunk.f m x0 = some (starOf false (c :: l), cb, rb) := e1
          simp only [path_Match.l0]
          rw [if_pos (by omega), e1']
          simp only [Option.bind_some]
          by_cases hst : starOf false (c :: l) = true
          · rw [if_pos hst] at e2 ⊢; exact e2
          · rw [if_neg hst] at e2 ⊢; exact e2
        have hrest := rest_ok rb.toList.length rb (Nat.le_refl _) hrs hgr
        have h6 : Ev (fun k => path_Match.j6 k rb) (false, none) := ev_round hrest fun m hm => by simp only [path_Match.j6]; exact hm
        obtain ⟨tb, ok, hc1, hc2⟩ := chunk_ok cb.toList cb x1 _ rfl rfl hgc hN
        -- a chunk is looked for
        have hj1 : ∀ r, Ev (fun k => path_Match.j2 k rb x1 (starOf false (c :: l)) cb tb none (if ok = true then (if (tb.size : Int) = 0 then true else decide ((rb.size : Int) > 0)) else false)) r → Ev (fun k => path_Match.j1 k rb x1 (starOf false (c :: l)) cb false) r := fun r h => ev2 hc1 h fun m e1 e2 => by
          have e1' : path_matchChunk.f m cb x1 = some (tb, ok, none) := e1
          simp only [path_Match.j1]
          rw [if_neg (by decide), e1']
          simp only [Option.bind_some]
          by_cases ho : ok = true
          · rw [if_pos ho] at e2 ⊢
            by_cases hz : (tb.size : Int) = 0
            · rw [if_pos hz] at e2 ⊢; exact e2
            · rw [if_neg hz] at e2 ⊢; exact e2
          · rw [if_neg ho] at e2 ⊢; exact e2
        have hj2t : ∀ r, Ev (fun k => path_Match.l0 k rb tb) r → Ev (fun k => path_Match.j2 k rb x1 (starOf false (c :: l)) cb tb none true) r := fun r h => ev_round h fun m hm => by
          simp only [path_Match.j2, if_true]; exact hm
        by_cases hc42 : c = 42
        · subst hc42
          have hst : starOf false (42 :: l) = true := by simp [starOf]
          have hglob : globs (42 :: l) x1.toList = globs (42 :: (cb.toList ++ rb.toList)) x1.toList := by
            rw [globs_strip l]
            have : strip l = cb.toList ++ rb.toList := by rw [← hsplit]; simp [strip]
            rw [this]
          by_cases hcn : cb.toList = []
          · -- nothing but stars
            have hrn : rb.toList = [] := by
              rcases hstar with h | ⟨r, hr⟩
              · exact h
              · rw [hcn, List.nil_append, hr] at hsplit
                exact absurd rfl (strip_head _ _ _ hsplit)
            rw [hglob, hcn, hrn]
            refine hl0 _ ?_
            rw [if_pos hst, hcn]
            refine ev_now fun m => ?_
            simp only [path_Match.j1, List.isEmpty_nil, if_true, bytealg_IndexByteString.f, Option.bind_some]
            have : Lib.indexByte x1.data.toList (47 : Int).toNat.toUInt8 = -1 := by
              rw [← Lib.toList_data]; exact index_none _ hN
            rw [this, hcn, List.append_nil] at *
            rw [globs_all]
            rfl
          · have hcf : cb.toList.isEmpty = false := by cases h : cb.toList with | nil => exact absurd h hcn | cons a b => rfl
            have hl0' : ∀ r, Ev (fun k => path_Match.j1 k rb x1 (starOf false (42 :: l)) cb false) r → Ev (fun k => path_Match.l0 k x0 x1) r := fun r h => hl0 r (by rw [if_pos hst, hcf]; exact h)
            obtain ⟨b, hb1, hb2⟩ := search_ok rb cb x1 hs1 hgc hgr hrs hN hstar hcn IH x1.size 0 (Nat.zero_le _) (by omega)
            -- what the pattern says
            have hsay : globs (42 :: l) x1.toList = true ↔ ∃ j t, j ≤ x1.size ∧ mc cb.toList (x1.toList.drop j) = some t ∧ globs rb.toList t = true := by
              rw [hglob, globs_star]
              constructor
              · rintro ⟨i, h1, h2⟩
                rw [globs_chunk _ _ _ hno] at h2
                cases h : mc cb.toList (x1.toList.drop i) with
                | none => rw [h] at h2; cases h2
                | some t => rw [h] at h2; exact ⟨i, t, by rw [← size_list]; exact h1, h, h2⟩
              · rintro ⟨j, t, h1, h2, h3⟩
                refine ⟨j, by rw [size_list]; exact h1, ?_⟩
                rw [globs_chunk _ _ _ hno, h2]; exact h3
            have hsearch : Ev (fun k => path_Match.j2 k rb x1 (starOf false (42 :: l)) cb tb none false) (b, none) := ev_round hb1 fun m hm => by
              simp only [path_Match.j2, Option.isNone_none, if_true]
              rw [if_neg (by decide), if_pos hst]
              exact hm
            have hlate : (∀ t, mc cb.toList x1.toList = some t → globs rb.toList t = false) → b = globs (42 :: l) x1.toList := by
              intro h0
              rw [Bool.eq_iff_iff, hb2, hsay]
              constructor
              · rintro ⟨j, t, g1, g2, g3, g4⟩; exact ⟨j, t, g2, g3, g4⟩
              · rintro ⟨j, t, g2, g3, g4⟩
                cases j with
                | zero => rw [List.drop_zero] at g3; rw [h0 t g3] at g4; cases g4
                | succ j => exact ⟨j + 1, t, by omega, g2, g3, g4⟩
            cases hmc : mc cb.toList x1.toList with
            | none =>
              rw [hmc] at hc2
              obtain rfl : ok = false := hc2
              rw [← hlate (fun t h => by rw [hmc] at h; cases h)]
              refine hl0' _ (hj1 _ ?_)
              rw [if_neg (by decide)]
              exact hsearch
            | some t =>
              rw [hmc] at hc2
              obtain ⟨htb, rfl⟩ := hc2
              have hts : t = x1.toList.drop cb.toList.length := (mc_some _ _ _ hmc).1
              have htn : ∀ x ∈ tb.toList, Nc x := fun x h => hN x (by rw [htb, hts] at h; exact List.mem_of_mem_drop h)
              have htz : tb.size ≤ 140737488351232 := by rw [← size_list, htb, hts, List.length_drop, size_list]; omega
              rcases hstar with h0 | ⟨r, hr⟩
              · have hz0 : ¬ (rb.size : Int) > 0 := by have := size_nil h0; omega
                by_cases ht0 : t = []
                · have e : globs (42 :: l) x1.toList = globs rb.toList tb.toList := by
                    rw [h0, htb, ht0, Bool.eq_iff_iff, hsay]
                    exact ⟨fun _ => rfl, fun _ => ⟨0, t, Nat.zero_le _, by simpa using hmc, by rw [h0, ht0]; rfl⟩⟩
                  rw [e]
                  refine hl0' _ (hj1 _ ?_)
                  rw [if_pos rfl, if_pos (by have := size_nil (htb.trans ht0); omega)]
                  exact hj2t _ (IH tb htn htz)
                · have htz0 : 0 < tb.size := by rw [← size_list, htb]; exact List.length_pos_iff.2 ht0
                  rw [← hlate (fun t' h => by rw [hmc] at h; cases h; rw [h0]; cases t with | nil => exact absurd rfl ht0 | cons a b => rfl)]
                  refine hl0' _ (hj1 _ ?_)
                  rw [if_pos rfl, if_neg (by omega), decide_eq_false hz0]
                  exact hsearch
              · have hz0 : (rb.size : Int) > 0 := by have := size_cons hr; omega
                have e : globs (42 :: l) x1.toList = globs rb.toList tb.toList := by
                  rw [htb, Bool.eq_iff_iff, hsay]
                  constructor
                  · rintro ⟨j, t', g2, g3, g4⟩
                    have hts' := (mc_some _ _ _ g3).1
                    have e : t' = t.drop j := by
                      rw [hts', hts, List.drop_drop, List.drop_drop]
                      congr 1; omega
                    rw [hr] at g4 ⊢
                    rw [e] at g4
                    exact globs_more r t _ g4
                  · intro h; exact ⟨0, t, Nat.zero_le _, by simpa using hmc, h⟩
                rw [e]
                refine hl0' _ (hj1 _ ?_)
                rw [if_pos rfl]
                have : (if (tb.size : Int) = 0 then true else decide ((rb.size : Int) > 0)) = true := by split <;> simp; omega
                rw [this]
                exact hj2t _ (IH tb htn htz)
        · have hst : starOf false (c :: l) = false := by simp [starOf, hc42]
          have hpe : c :: l = cb.toList ++ rb.toList := by rw [← hsplit]; simp [strip, hc42]
          have hl0' : ∀ r, Ev (fun k => path_Match.j1 k rb x1 (starOf false (c :: l)) cb false) r → Ev (fun k => path_Match.l0 k x0 x1) r := fun r h => hl0 r (by rw [if_neg (by rw [hst]; decide)]; exact h)
          have hgl : globs (c :: l) x1.toList = match mc cb.toList x1.toList with | some t => globs rb.toList t | none => false := by rw [hpe, globs_chunk _ _ _ hno]
          have hend : Ev (fun k => path_Match.j2 k rb x1 (starOf false (c :: l)) cb tb none false) (false, none) := ev_round h6 fun m hm => by
            simp only [path_Match.j2, Option.isNone_none, if_true]
            rw [if_neg (by decide), if_neg (by rw [hst]; decide)]
            exact hm
          cases hmc : mc cb.toList x1.toList with
          | none =>
            rw [hmc] at hc2 hgl
            obtain rfl : ok = false := hc2
            rw [hgl]
            refine hl0' _ (hj1 _ ?_)
            rw [if_neg (by decide)]
            exact hend
          | some t =>
            rw [hmc] at hc2 hgl
            obtain ⟨htb, rfl⟩ := hc2
            have hts : t = x1.toList.drop cb.toList.length := (mc_some _ _ _ hmc).1
            have htn : ∀ x ∈ tb.toList, Nc x := fun x h => hN x (by rw [htb, hts] at h; exact List.mem_of_mem_drop h)
            have htz : tb.size ≤ 140737488351232 := by rw [← size_list, htb, hts, List.length_drop, size_list]; omega
            rw [hgl]
            by_cases hgo : (tb.size : Int) = 0 ∨ (rb.size : Int) > 0
            · refine hl0' _ (hj1 _ ?_)
              have : (if (tb.size : Int) = 0 then true else decide ((rb.size : Int) > 0)) = true := by
                rcases hgo with h | h
                · rw [if_pos h]
                · split
                  · rfl
                  · exact decide_eq_true h
              rw [if_pos rfl, this]
              have := hj2t _ (IH tb htn htz)
              rw [htb] at this
              exact this
            · have hr0 : rb.toList = [] := by
                rcases hstar with h | ⟨r, hr⟩
                · exact h
                · exact absurd (.inr (by have := size_cons hr; omega)) hgo
              have ht0 : t ≠ [] := fun h => hgo (.inl (by have := size_nil (htb.trans h); omega))
              have e : globs rb.toList t = false := by rw [hr0]; cases t with | nil => exact absurd rfl ht0 | cons a b => rfl
              simp only [e]
              refine hl0' _ (hj1 _ ?_)
              rw [if_pos rfl, if_neg (fun h => hgo (.inl h)), decide_eq_false (fun h => hgo (.inr h))]
              exact hend

end Go.Proofs.Ytlnfkpmmnennbaa.PureG
