/- AreSections and the laws' test of sizes, in plain Lean. -/
import Derived.Test.YtacndeejapfkiaaDoorPureS
set_option linter.unusedVariables false
set_option linter.unusedSimpArgs false
namespace Go.Proofs.YtacndeejapfkiaaDoor.PureT
open Go.RowKit Go.Proofs.YtacndeejapfkiaaDoorW.PrintWords Go.Proofs.YtacndeejapfkiaaDoor.QAll Txt HandA HandB HandC HandD HandE HandF HandG HandH PureS

/-- What is known of sizes ahead. -/
def SzB (l : List S46) : Prop := l.length ≤ 3518437208780 ∧ ∀ p ∈ l, p.f0.size ≤ 140737488351232 ∧ SzO p.f1
def SzS (l : List S36) : Prop := l.length ≤ 140737488355328 ∧ ∀ x ∈ l, x.f0.size ≤ 140737488351232 ∧ SzO x.f1 ∧ SzB x.f2
/-- A part, a section that may be. -/
structure OkB (p : S46) : Prop where
  o : ∀ o ∈ p.f1, Word o.f0
  n : p.f1.length ≤ 1000
structure OkS (x : S36) : Prop where
  s : Word x.f0
  o : ∀ o ∈ x.f1, Word o.f0
  n : x.f1.length ≤ 1000
  b : ∀ (j : Nat) (p : S46), x.f2[j]? = some p → OkB p ∧ ∀ q ∈ x.f2.take j, q.f0 ≠ p.f0
/-- What is asked from place i on. -/
def From (l : List S36) (i : Nat) : Prop := ∀ (a : Nat) (x : S36), i ≤ a → l[a]? = some x → OkS x ∧ ∀ y ∈ l.take a, y.f0 ≠ x.f0
def FromB (l : List S46) (i : Nat) : Prop := ∀ (a : Nat) (p : S46), i ≤ a → l[a]? = some p → OkB p ∧ ∀ q ∈ l.take a, q.f0 ≠ p.f0

/-- The names ahead are others: for sections. -/
theorem others_l (l x11 : List S36) (x13 : Int) (m : List S36) (nm : ByteArray) (os : List S42) (bs : List S46) (hm : m.length ≤ 140737488355328) (E : Prop)
    (hend : ∃ b, Ev (fun k => spec_AreSections.l2 k l x11 (l.length : Int) x13 bs (bs.length : Int) 0 nm os bs) b ∧ (b = true → E)) :
    ∃ b, Ev (fun k => spec_AreSections.l1 k l x11 (l.length : Int) x13 m (m.length : Int) 0 nm os bs) b ∧ (b = true → (∀ y ∈ m, y.f0 ≠ nm) ∧ E) := by
  have h := loop_all m (fun k i => spec_AreSections.l1 k l x11 (l.length : Int) x13 m (m.length : Int) i nm os bs) (fun y _ => some (decide (y.f0 ≠ nm))) (fun y => y.f0 ≠ nm) E
    (fun y _ => ⟨decide (y.f0 ≠ nm), ⟨0, fun _ _ => rfl⟩, fun e => of_decide_eq_true e⟩)
    (fun k i y hi => by
      have hlt : i < m.length := (List.getElem?_eq_some_iff.1 hi).1
      have w1 := inc i m.length hlt hm
      have hi1 : (i : Int) < (m.length : Int) := by omega
      have hi0 : (0 : Int) ≤ (i : Int) := by omega
      have hg : rd_T36 m (i : Int) = y := by
        have := get36 m i hlt
        rw [hi] at this
        exact (Option.some.inj this).symm
      show spec_AreSections.l1 (k + 1) l x11 (l.length : Int) x13 m (m.length : Int) (i : Int) nm os bs = _
      simp only [spec_AreSections.l1, hi1, hi0, w1, hg, if_true]
      by_cases c : y.f0 = nm
      · rw [if_pos (by rw [c])]
        simp [c]
      · rw [if_neg (fun e => c (ba_ext e))]
        simp [c])
    (by
      obtain ⟨b, hb, hq⟩ := hend
      refine ⟨b, ev_round hb fun k hk => ?_, hq⟩
      show spec_AreSections.l1 (k + 1) l x11 (l.length : Int) x13 m (m.length : Int) (m.length : Int) nm os bs = some b
      simp only [spec_AreSections.l1]
      rw [if_neg (by omega)]
      exact hk)
    m.length 0 (by omega)
  obtain ⟨b, hb, hq⟩ := h
  exact ⟨b, hb, fun e => ⟨fun y hy => (hq e).1 y (by simpa using hy), (hq e).2⟩⟩
/-- The same for parts. -/
theorem othersB_l (l x11 : List S36) (x13 : Int) (x43 m : List S46) (x44 x45 : Int) (nm : ByteArray) (os : List S42) (bs : List S46) (pn : ByteArray) (po : List S42) (hm : m.length ≤ 140737488355328) (E : Prop)
    (hend : ∃ b, Ev (fun k => spec_AreSections.l2 k l x11 (l.length : Int) x13 x43 x44 (wrap64 (x45 + 1)) nm os bs) b ∧ (b = true → E)) :
    ∃ b, Ev (fun k => spec_AreSections.l3 k l x11 (l.length : Int) x13 x43 x44 x45 m (m.length : Int) 0 nm os bs pn po) b ∧ (b = true → (∀ y ∈ m, y.f0 ≠ pn) ∧ E) := by
  have h := loop_all m (fun k i => spec_AreSections.l3 k l x11 (l.length : Int) x13 x43 x44 x45 m (m.length : Int) i nm os bs pn po) (fun y _ => some (decide (y.f0 ≠ pn))) (fun y => y.f0 ≠ pn) E
    (fun y _ => ⟨decide (y.f0 ≠ pn), ⟨0, fun _ _ => rfl⟩, fun e => of_decide_eq_true e⟩)
    (fun k i y hi => by
      have hlt : i < m.length := (List.getElem?_eq_some_iff.1 hi).1
      have w1 := inc i m.length hlt hm
      have hi1 : (i : Int) < (m.length : Int) := by omega
      have hi0 : (0 : Int) ≤ (i : Int) := by omega
      have hg : rd_T46 m (i : Int) = y := by
        have := get46 m i hlt
        rw [hi] at this
        exact (Option.some.inj this).symm
      show spec_AreSections.l3 (k + 1) l x11 (l.length : Int) x13 x43 x44 x45 m (m.length : Int) (i : Int) nm os bs pn po = _
      simp only [spec_AreSections.l3, hi1, hi0, w1, hg, if_true]
      by_cases c : y.f0 = pn
      · rw [if_pos (by rw [c])]
        simp [c]
      · rw [if_neg (fun e => c (ba_ext e))]
        simp [c])
    (by
      obtain ⟨b, hb, hq⟩ := hend
      refine ⟨b, ev_round hb fun k hk => ?_, hq⟩
      show spec_AreSections.l3 (k + 1) l x11 (l.length : Int) x13 x43 x44 x45 m (m.length : Int) (m.length : Int) nm os bs pn po = some b
      simp only [spec_AreSections.l3]
      rw [if_neg (by omega)]
      exact hk)
    m.length 0 (by omega)
  obtain ⟨b, hb, hq⟩ := h
  exact ⟨b, hb, fun e => ⟨fun y hy => (hq e).1 y (by simpa using hy), (hq e).2⟩⟩

theorem parts_l (l x11 : List S36) (x13 : Int) (nm : ByteArray) (os : List S42) (bs : List S46) (hb : SzB bs) (E : Prop)
    (hend : ∃ b, Ev (fun k => spec_AreSections.l0 k l x11 (l.length : Int) (wrap64 (x13 + 1))) b ∧ (b = true → E)) :
    ∀ (n j : Nat), j + n = bs.length → ∃ b, Ev (fun k => spec_AreSections.l2 k l x11 (l.length : Int) x13 bs (bs.length : Int) (j : Int) nm os bs) b ∧ (b = true → FromB bs j ∧ E)
  | 0, j, h => by
    obtain ⟨b, hbb, hq⟩ := hend
    refine ⟨b, ev_round hbb fun k hk => ?_, fun e => ⟨fun a p ha hp => ?_, hq e⟩⟩
    · simp only [spec_AreSections.l2]
      rw [if_neg (by omega)]
      exact hk
    · have := (List.getElem?_eq_some_iff.1 hp).1
      omega
  | n + 1, j, h => by
    have hlt : j < bs.length := by omega
    have w1 := inc j bs.length hlt (by have := hb.1; omega)
    have hi1 : (j : Int) < (bs.length : Int) := by omega
    have hi0 : (0 : Int) ≤ (j : Int) := by omega
    have hi2 : (j : Int) ≤ (bs.length : Int) := by omega
    have hg := get46 bs j hlt
    obtain ⟨b0, hb0, hq0⟩ := parts_l l x11 x13 nm os bs hb E hend n (j + 1) (by omega)
    generalize hp : rd_T46 bs (j : Int) = p at hg
    have hmem := List.mem_of_getElem? hg
    obtain ⟨b1, ⟨K1, h1⟩, q1⟩ := word p.f0 (hb.2 p hmem).1
    obtain ⟨b2, ⟨K2, h2⟩, q2⟩ := options p.f1 (hb.2 p hmem).2
    replace h1 : ∀ n, n ≥ K1 → spec_IsConfWord.f n p.f0 = some b1 := h1
    replace h2 : ∀ n, n ≥ K2 → spec_areOptions.f n p.f1 = some b2 := h2
    obtain ⟨b3, ⟨K3, h3⟩, q3⟩ := othersB_l l x11 x13 bs (bs.take j) (bs.length : Int) (j : Int) nm os bs p.f0 p.f1 (by rw [List.length_take]; have := hb.1; have := Nat.min_le_right j bs.length; omega) (FromB bs (j + 1) ∧ E) ⟨b0, by rw [w1]; exact hb0, hq0⟩
    replace h3 : ∀ k, k ≥ K3 → spec_AreSections.l3 k l x11 (l.length : Int) x13 bs (bs.length : Int) (j : Int) (bs.take j) ((bs.take j).length : Int) 0 nm os bs p.f0 p.f1 = some b3 := h3
    have hj4 : ∀ (m : Nat) (x : Bool), spec_AreSections.j4 (m + 1) l (j : Int) x11 (l.length : Int) x13 bs (bs.length : Int) (j : Int) x nm os bs p.f0 p.f1 = (if x = true then some false else spec_AreSections.l3 m l x11 (l.length : Int) x13 bs (bs.length : Int) (j : Int) (bs.take j) ((bs.take j).length : Int) 0 nm os bs p.f0 p.f1) := by
      intro m x
      simp only [spec_AreSections.j4, hi0, hi2, if_true]
      rfl
    by_cases c1 : b1 = true
    · by_cases c2 : b2 = true
      · refine ⟨b3, ⟨K1 + K2 + K3 + 2, fun m hm => ?_⟩, fun e => ⟨fun a y ha hy => ?_, (q3 e).2.2⟩⟩
        · obtain ⟨m', rfl⟩ : ∃ m', m = m' + 1 + 1 := ⟨m - 2, by omega⟩
          show spec_AreSections.l2 (m' + 1 + 1) l x11 (l.length : Int) x13 bs (bs.length : Int) (j : Int) nm os bs = some b3
          simp only [spec_AreSections.l2, hi1, hi0, hp, if_true]
          rw [h1 (m' + 1) (by omega), h2 (m' + 1) (by omega), c1, c2]
          show spec_AreSections.j4 (m' + 1) l (j : Int) x11 (l.length : Int) x13 bs (bs.length : Int) (j : Int) false nm os bs p.f0 p.f1 = some b3
          rw [hj4, if_neg (by simp)]
          exact h3 m' (by omega)
        · rcases Nat.eq_or_lt_of_le ha with rfl | ha
          · rw [hg] at hy
            cases hy
            exact ⟨⟨(q2 c2).1, (q2 c2).2⟩, (q3 e).1⟩
          · exact (q3 e).2.1 a y ha hy
      · refine ⟨false, ⟨K1 + K2 + K3 + 2, fun m hm => ?_⟩, fun e => by cases e⟩
        obtain ⟨m', rfl⟩ : ∃ m', m = m' + 1 + 1 := ⟨m - 2, by omega⟩
        show spec_AreSections.l2 (m' + 1 + 1) l x11 (l.length : Int) x13 bs (bs.length : Int) (j : Int) nm os bs = some false
        simp only [spec_AreSections.l2, hi1, hi0, hp, if_true]
        rw [h1 (m' + 1) (by omega), h2 (m' + 1) (by omega), c1, Bool.eq_false_iff.2 c2]
        show spec_AreSections.j4 (m' + 1) l (j : Int) x11 (l.length : Int) x13 bs (bs.length : Int) (j : Int) true nm os bs p.f0 p.f1 = some false
        rw [hj4, if_pos rfl]
    · refine ⟨false, ⟨K1 + K2 + K3 + 2, fun m hm => ?_⟩, fun e => by cases e⟩
      obtain ⟨m', rfl⟩ : ∃ m', m = m' + 1 + 1 := ⟨m - 2, by omega⟩
      show spec_AreSections.l2 (m' + 1 + 1) l x11 (l.length : Int) x13 bs (bs.length : Int) (j : Int) nm os bs = some false
      simp only [spec_AreSections.l2, hi1, hi0, hp, if_true]
      rw [h1 (m' + 1) (by omega), Bool.eq_false_iff.2 c1]
      show spec_AreSections.j4 (m' + 1) l (j : Int) x11 (l.length : Int) x13 bs (bs.length : Int) (j : Int) true nm os bs p.f0 p.f1 = some false
      rw [hj4, if_pos rfl]

theorem sections_l (l : List S36) (hl : SzS l) : ∀ (n i : Nat), i + n = l.length → ∃ b, Ev (fun k => spec_AreSections.l0 k l l (l.length : Int) (i : Int)) b ∧ (b = true → From l i ∧ l.length ≤ 100)
  | 0, i, h => by
    refine ⟨decide ((l.length : Int) ≤ 100), ev_now fun m => ?_, fun e => ⟨fun a x ha hx => ?_, ?_⟩⟩
    · simp only [spec_AreSections.l0]
      rw [if_neg (by omega)]
    · have := (List.getElem?_eq_some_iff.1 hx).1
      omega
    · have := of_decide_eq_true e
      omega
  | n + 1, i, h => by
    have hlt : i < l.length := by omega
    have w1 := inc i l.length hlt hl.1
    have hi1 : (i : Int) < (l.length : Int) := by omega
    have hi0 : (0 : Int) ≤ (i : Int) := by omega
    have hi2 : (i : Int) ≤ (l.length : Int) := by omega
    have hg := get36 l i hlt
    obtain ⟨b0, hb0, hq0⟩ := sections_l l hl n (i + 1) (by omega)
    generalize hp : rd_T36 l (i : Int) = x at hg
    have hmem := List.mem_of_getElem? hg
    obtain ⟨b1, ⟨K1, h1⟩, q1⟩ := word x.f0 (hl.2 x hmem).1
    obtain ⟨b2, ⟨K2, h2⟩, q2⟩ := options x.f1 (hl.2 x hmem).2.1
    replace h1 : ∀ n, n ≥ K1 → spec_IsConfWord.f n x.f0 = some b1 := h1
    replace h2 : ∀ n, n ≥ K2 → spec_areOptions.f n x.f1 = some b2 := h2
    have hpart := parts_l l l (i : Int) x.f0 x.f1 x.f2 (hl.2 x hmem).2.2 (From l (i + 1) ∧ l.length ≤ 100) ⟨b0, by rw [w1]; exact hb0, hq0⟩ x.f2.length 0 (by omega)
    obtain ⟨b3, ⟨K3, h3⟩, q3⟩ := others_l l l (i : Int) (l.take i) x.f0 x.f1 x.f2 (by rw [List.length_take]; have := hl.1; have := Nat.min_le_right i l.length; omega) _ hpart
    replace h3 : ∀ k, k ≥ K3 → spec_AreSections.l1 k l l (l.length : Int) (i : Int) (l.take i) ((l.take i).length : Int) 0 x.f0 x.f1 x.f2 = some b3 := h3
    have hj1 : ∀ (m : Nat) (y : Bool), spec_AreSections.j1 (m + 1) l (i : Int) l (l.length : Int) (i : Int) y x.f0 x.f1 x.f2 = (if y = true then some false else spec_AreSections.l1 m l l (l.length : Int) (i : Int) (l.take i) ((l.take i).length : Int) 0 x.f0 x.f1 x.f2) := by
      intro m y
      simp only [spec_AreSections.j1, hi0, hi2, if_true]
      rfl
    by_cases c1 : b1 = true
    · by_cases c2 : b2 = true
      · refine ⟨b3, ⟨K1 + K2 + K3 + 2, fun m hm => ?_⟩, fun e => ⟨fun a y ha hy => ?_, (q3 e).2.2.2⟩⟩
        · obtain ⟨m', rfl⟩ : ∃ m', m = m' + 1 + 1 := ⟨m - 2, by omega⟩
          show spec_AreSections.l0 (m' + 1 + 1) l l (l.length : Int) (i : Int) = some b3
          simp only [spec_AreSections.l0, hi1, hi0, hp, if_true]
          rw [h1 (m' + 1) (by omega), h2 (m' + 1) (by omega), c1, c2]
          show spec_AreSections.j1 (m' + 1) l (i : Int) l (l.length : Int) (i : Int) false x.f0 x.f1 x.f2 = some b3
          rw [hj1, if_neg (by simp)]
          exact h3 m' (by omega)
        · rcases Nat.eq_or_lt_of_le ha with rfl | ha
          · rw [hg] at hy
            cases hy
            exact ⟨⟨q1 c1, (q2 c2).1, (q2 c2).2, fun j p hj => (q3 e).2.1 j p (Nat.zero_le _) hj⟩, (q3 e).1⟩
          · exact (q3 e).2.2.1 a y ha hy
      · refine ⟨false, ⟨K1 + K2 + K3 + 2, fun m hm => ?_⟩, fun e => by cases e⟩
        obtain ⟨m', rfl⟩ : ∃ m', m = m' + 1 + 1 := ⟨m - 2, by omega⟩
        show spec_AreSections.l0 (m' + 1 + 1) l l (l.length : Int) (i : Int) = some false
        simp only [spec_AreSections.l0, hi1, hi0, hp, if_true]
        rw [h1 (m' + 1) (by omega), h2 (m' + 1) (by omega), c1, Bool.eq_false_iff.2 c2]
        show spec_AreSections.j1 (m' + 1) l (i : Int) l (l.length : Int) (i : Int) true x.f0 x.f1 x.f2 = some false
        rw [hj1, if_pos rfl]
    · refine ⟨false, ⟨K1 + K2 + K3 + 2, fun m hm => ?_⟩, fun e => by cases e⟩
      obtain ⟨m', rfl⟩ : ∃ m', m = m' + 1 + 1 := ⟨m - 2, by omega⟩
      show spec_AreSections.l0 (m' + 1 + 1) l l (l.length : Int) (i : Int) = some false
      simp only [spec_AreSections.l0, hi1, hi0, hp, if_true]
      rw [h1 (m' + 1) (by omega), Bool.eq_false_iff.2 c1]
      show spec_AreSections.j1 (m' + 1) l (i : Int) l (l.length : Int) (i : Int) true x.f0 x.f1 x.f2 = some false
      rw [hj1, if_pos rfl]
theorem take_mem {α : Type} {l : List α} {i j : Nat} {x : α} (h : l[i]? = some x) (hij : i < j) : x ∈ l.take j :=
  List.mem_of_getElem? (i := i) (by rw [List.getElem?_take, if_pos hij]; exact h)
theorem sections (l : List S36) (hl : SzS l) : ∃ b, (∃ k, spec_AreSections.f k l = some b) ∧ (b = true → Tight l ∧ Named l ∧ Apart l) := by
  obtain ⟨b, ⟨K, hb⟩, hq⟩ := sections_l l hl l.length 0 (by omega)
  refine ⟨b, ⟨K, hb K (Nat.le_refl _)⟩, fun e => ?_⟩
  have hall : ∀ x ∈ l, OkS x := fun x hx => by
    obtain ⟨i, hi⟩ := List.getElem?_of_mem hx
    exact ((hq e).1 i x (Nat.zero_le _) hi).1
  refine ⟨⟨(hq e).2, fun x hx => (hall x hx).n, fun x hx => (hl.2 x hx).2.2.1, fun x hx p hp => ?_⟩, ⟨fun x hx => (hall x hx).s, fun x hx => (hall x hx).o, fun x hx p hp => ?_⟩, ⟨fun i j x y hi hj hxy => ?_, fun x hx i j p q hi hj hpq => ?_⟩⟩
  · obtain ⟨j, hj⟩ := List.getElem?_of_mem hp
    exact ((hall x hx).b j p hj).1.n
  · obtain ⟨j, hj⟩ := List.getElem?_of_mem hp
    exact ((hall x hx).b j p hj).1.o
  · rcases Nat.lt_trichotomy i j with h | h | h
    · exact absurd hxy (((hq e).1 j y (Nat.zero_le _) hj).2 x (take_mem hi h))
    · exact h
    · exact absurd hxy.symm (((hq e).1 i x (Nat.zero_le _) hi).2 y (take_mem hj h))
  · rcases Nat.lt_trichotomy i j with h | h | h
    · exact absurd hpq (((hall x hx).b j q hj).2 p (take_mem hi h))
    · exact h
    · exact absurd hpq.symm (((hall x hx).b i p hi).2 q (take_mem hj h))

/-! ### the laws' test of sizes -/
theorem fits3 (l : List S42) : ∃ b, Ev (fun k => laws_zzFits3.f k l) b := by
  by_cases hl : (l.length : Int) > 2147483647
  · exact ⟨false, ⟨0, fun k _ => by unfold laws_zzFits3.f; dsimp only; rw [if_pos hl]⟩⟩
  · have h := loop_all l (fun k i => laws_zzFits3.l0 k l (l.length : Int) i) (fun o _ => laws_zzFits4.f o.f0 o.f1) (fun _ => True) True
      (fun o _ => by
        unfold laws_zzFits4.f
        by_cases c1 : (o.f0.size : Int) > 2147483647
        · exact ⟨false, ⟨0, fun _ _ => by rw [if_pos c1]⟩, fun _ => trivial⟩
        · by_cases c2 : (o.f1.size : Int) > 2147483647
          · exact ⟨false, ⟨0, fun _ _ => by rw [if_neg c1, if_pos c2]⟩, fun _ => trivial⟩
          · exact ⟨true, ⟨0, fun _ _ => by rw [if_neg c1, if_neg c2]⟩, fun _ => trivial⟩)
      (fun k i o hi => by
        have hlt : i < l.length := (List.getElem?_eq_some_iff.1 hi).1
        have w1 := inc i l.length hlt (by omega)
        have hi1 : (i : Int) < (l.length : Int) := by omega
        have hi0 : (0 : Int) ≤ (i : Int) := by omega
        have hg : rd_T42 l (i : Int) = o := by
          have := get42 l i hlt
          rw [hi] at this
          exact (Option.some.inj this).symm
        show laws_zzFits3.l0 (k + 1) l (l.length : Int) (i : Int) = _
        simp only [laws_zzFits3.l0, hi1, hi0, w1, hg, if_true])
      ⟨true, ev_now fun m => (by
        show laws_zzFits3.l0 (m + 1) l (l.length : Int) (l.length : Int) = _
        simp only [laws_zzFits3.l0]
        rw [if_neg (by omega)]), fun _ => trivial⟩ l.length 0 (by omega)
    obtain ⟨b, ⟨K, hb⟩, _⟩ := h
    exact ⟨b, ⟨K, fun k hk => by unfold laws_zzFits3.f; dsimp only; rw [if_neg hl]; exact hb k hk⟩⟩
theorem fits5 (l : List S46) : ∃ b, Ev (fun k => laws_zzFits5.f k l) b := by
  by_cases hl : (l.length : Int) > 2147483647
  · exact ⟨false, ⟨0, fun k _ => by unfold laws_zzFits5.f; dsimp only; rw [if_pos hl]⟩⟩
  · have h := loop_all l (fun k i => laws_zzFits5.l0 k l (l.length : Int) i) (fun o k => laws_zzFits6.f k o.f0 o.f1) (fun _ => True) True
      (fun o _ => by
        obtain ⟨b, K, hb⟩ := fits3 o.f1
        replace hb : ∀ k, k ≥ K → laws_zzFits3.f k o.f1 = some b := hb
        by_cases c1 : (o.f0.size : Int) > 2147483647
        · exact ⟨false, ⟨0, fun _ _ => by unfold laws_zzFits6.f; dsimp only; rw [if_pos c1]⟩, fun _ => trivial⟩
        · refine ⟨b, ⟨K, fun k hk => ?_⟩, fun _ => trivial⟩
          unfold laws_zzFits6.f
          dsimp only
          rw [if_neg c1, hb k hk]
          cases b <;> rfl)
      (fun k i o hi => by
        have hlt : i < l.length := (List.getElem?_eq_some_iff.1 hi).1
        have w1 := inc i l.length hlt (by omega)
        have hi1 : (i : Int) < (l.length : Int) := by omega
        have hi0 : (0 : Int) ≤ (i : Int) := by omega
        have hg : rd_T46 l (i : Int) = o := by
          have := get46 l i hlt
          rw [hi] at this
          exact (Option.some.inj this).symm
        show laws_zzFits5.l0 (k + 1) l (l.length : Int) (i : Int) = _
        simp only [laws_zzFits5.l0, hi1, hi0, w1, hg, if_true])
      ⟨true, ev_now fun m => (by
        show laws_zzFits5.l0 (m + 1) l (l.length : Int) (l.length : Int) = _
        simp only [laws_zzFits5.l0]
        rw [if_neg (by omega)]), fun _ => trivial⟩ l.length 0 (by omega)
    obtain ⟨b, ⟨K, hb⟩, _⟩ := h
    exact ⟨b, ⟨K, fun k hk => by unfold laws_zzFits5.f; dsimp only; rw [if_neg hl]; exact hb k hk⟩⟩
theorem fits (l : List S36) : ∃ b, ∃ k, laws_zzFits1.f k l = some b := by
  by_cases hl : (l.length : Int) > 2147483647
  · exact ⟨false, 0, by unfold laws_zzFits1.f; rw [if_pos hl]⟩
  · have h := loop_all l (fun k i => laws_zzFits1.l0 k l (l.length : Int) i) (fun o k => laws_zzFits2.f k o.f0 o.f1 o.f2) (fun _ => True) True
      (fun o _ => by
        obtain ⟨b, K, hb⟩ := fits3 o.f1
        obtain ⟨b2, K2, hb2⟩ := fits5 o.f2
        replace hb : ∀ k, k ≥ K → laws_zzFits3.f k o.f1 = some b := hb
        replace hb2 : ∀ k, k ≥ K2 → laws_zzFits5.f k o.f2 = some b2 := hb2
        by_cases c1 : (o.f0.size : Int) > 2147483647
        · exact ⟨false, ⟨0, fun _ _ => by unfold laws_zzFits2.f; dsimp only; rw [if_pos c1]⟩, fun _ => trivial⟩
        · refine ⟨b && b2, ⟨K + K2, fun k hk => ?_⟩, fun _ => trivial⟩
          unfold laws_zzFits2.f
          dsimp only
          rw [if_neg c1, hb k (by omega), hb2 k (by omega)]
          cases b <;> cases b2 <;> rfl)
      (fun k i o hi => by
        have hlt : i < l.length := (List.getElem?_eq_some_iff.1 hi).1
        have w1 := inc i l.length hlt (by omega)
        have hi1 : (i : Int) < (l.length : Int) := by omega
        have hi0 : (0 : Int) ≤ (i : Int) := by omega
        have hg : rd_T36 l (i : Int) = o := by
          have := get36 l i hlt
          rw [hi] at this
          exact (Option.some.inj this).symm
        show laws_zzFits1.l0 (k + 1) l (l.length : Int) (i : Int) = _
        simp only [laws_zzFits1.l0, hi1, hi0, w1, hg, if_true])
      ⟨true, ev_now fun m => (by
        show laws_zzFits1.l0 (m + 1) l (l.length : Int) (l.length : Int) = _
        simp only [laws_zzFits1.l0]
        rw [if_neg (by omega)]), fun _ => trivial⟩ l.length 0 (by omega)
    obtain ⟨b, ⟨K, hb⟩, _⟩ := h
    exact ⟨b, K, by unfold laws_zzFits1.f; rw [if_neg hl]; exact hb K (Nat.le_refl _)⟩
#print axioms sections
#print axioms fits
end Go.Proofs.YtacndeejapfkiaaDoor.PureT
