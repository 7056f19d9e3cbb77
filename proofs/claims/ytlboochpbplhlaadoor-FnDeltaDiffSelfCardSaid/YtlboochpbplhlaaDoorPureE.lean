/- What the specification's functions on deltas answer. Plain Lean. -/
import Derived.Test.YtlboochpbplhlaaDoorQAllx1
import Derived.Test.YtlboochpbplhlaaDoorQAllx2
import Derived.Test.YtlboochpbplhlaaDoorPureD
import Derived.Test.YtlboochpbplhlaaDoorTxt
set_option linter.unusedVariables false
set_option linter.unusedSimpArgs false
namespace Go.Proofs.YtlboochpbplhlaaDoor.PureE
open Go.RowKit Go.Proofs.YtlboochpbplhlaaDoorW.PrintWords Go.Proofs.YtlboochpbplhlaaDoorW.PrintMore Go.Proofs.YtlboochpbplhlaaDoor.QAll PureD Txt

theorem ev2 {α β γ : Type} {f1 : Nat → Option α} {a1 : α} {f2 : Nat → Option β} {a2 : β} {g : Nat → Option γ} {r : γ} (k1 : Ev f1 a1) (k2 : Ev f2 a2) (h : ∀ m, f1 m = some a1 → f2 m = some a2 → g (m + 1) = some r) : Ev g r := by
  obtain ⟨K1, k1⟩ := k1
  obtain ⟨K2, k2⟩ := k2
  refine ⟨K1 + K2 + 1, fun n hn => ?_⟩
  obtain ⟨m, rfl⟩ : ∃ m, n = m + 1 := ⟨n - 1, by omega⟩
  exact h m (k1 m (by omega)) (k2 m (by omega))
theorem rd38 (l : List S38) (i : Nat) (h : i < l.length) : rd_T38 l (i : Int) = l[i] := by
  unfold rd_T38
  rw [Int.toNat_natCast, List.getD_eq_getElem?_getD, List.getElem?_eq_getElem h]
  rfl
theorem u8w (x : Nat) (h : x < 256) : IntKind.u8.wrap (x : Int) = x := by rw [IntKind.wrap_u8]; omega

/-! ### zzFits7 -/
theorem fits_loop (l : List S38) (hl : l.length ≤ 140737488351232) : ∀ (d i : Nat), i ≤ l.length → l.length - i = d → ∃ b, Ev (fun k => laws_zzFits7.l0 k l (l.length : Int) (i : Int)) b := by
  intro d
  induction d with
  | zero => exact fun i hi hd => ⟨true, ev_now fun m => by rw [laws_zzFits7.l0, if_neg (by omega)]⟩
  | succ d ih =>
    intro i hi hd
    by_cases h : ((rd_T38 l (i : Int)).f3.length : Int) > 2147483647
    · exact ⟨false, ev_now fun m => by rw [laws_zzFits7.l0, if_pos (by omega), if_pos (by omega), if_pos (by omega), laws_zzFits8.f, if_pos h, Option.bind_some, if_neg (by decide)]⟩
    · obtain ⟨b, hb⟩ := ih (i + 1) (by omega) (by omega)
      refine ⟨b, Ev.step (fun k => ?_) hb⟩
      rw [laws_zzFits7.l0, if_pos (by omega), if_pos (by omega), if_pos (by omega), laws_zzFits8.f, if_neg h, Option.bind_some, if_pos rfl, w64 _ (by omega) (by omega)]
      rfl
theorem fits_tot (l : List S38) (hl : l.length ≤ 140737488351232) : ∃ b, Ev (fun k => laws_zzFits7.f k l) b := by
  by_cases h : (l.length : Int) > 2147483647
  · exact ⟨false, 0, fun k _ => by show laws_zzFits7.f k l = _; unfold laws_zzFits7.f; rw [if_pos h]⟩
  · obtain ⟨b, hb⟩ := fits_loop l hl l.length 0 (by omega) (by omega)
    refine ⟨b, Ev.congr (fun k => ?_) hb⟩
    unfold laws_zzFits7.f
    rw [if_neg h]
    rfl

/-! ### GoodSteps -/
def GoodS (s : S38) (n : Nat) : Prop := if s.f0 = true then 0 ≤ s.f1 ∧ 1 ≤ s.f2 ∧ s.f2 < 16777216 ∧ s.f1 + s.f2 ≤ (n : Int) else 1 ≤ s.f3.length ∧ s.f3.length ≤ 127
theorem good1 (s : S38) (b : List Int) (hb : b.length ≤ 140737488351232) : ∃ r, spec_GoodStep.f s.f0 s.f1 s.f2 s.f3 s.f4 b = some r ∧ (r = true → GoodS s b.length) := by
  unfold spec_GoodStep.f GoodS
  cases h0 : s.f0 with
  | false =>
    rw [if_neg (by decide)]
    by_cases h1 : (s.f3.length : Int) ≥ 1
    · rw [if_pos h1]
      refine ⟨_, rfl, fun h => ?_⟩
      rw [if_neg (by decide)]
      rw [decide_eq_true_iff] at h
      omega
    · rw [if_neg h1]
      exact ⟨_, rfl, fun h => by cases h⟩
  | true =>
    rw [if_pos rfl]
    by_cases h1 : s.f1 ≥ 0
    · rw [if_pos h1]
      by_cases h2 : s.f2 ≥ 1
      · rw [if_pos h2]
        by_cases h3 : s.f2 < 16777216
        · rw [if_pos h3]
          by_cases h4 : s.f1 < (b.length : Int)
          · rw [if_pos h4]
            refine ⟨_, rfl, fun h => ?_⟩
            rw [decide_eq_true_iff, w64 _ (by omega) (by omega)] at h
            rw [if_pos rfl]
            omega
          · rw [if_neg h4]
            exact ⟨_, rfl, fun h => by cases h⟩
        · rw [if_neg h3]
          exact ⟨_, rfl, fun h => by cases h⟩
      · rw [if_neg h2]
        exact ⟨_, rfl, fun h => by cases h⟩
    · rw [if_neg h1]
      exact ⟨_, rfl, fun h => by cases h⟩
theorem good_loop (l : List S38) (b : List Int) (hl : l.length ≤ 140737488351232) (hb : b.length ≤ 140737488351232) : ∀ (d i : Nat), i ≤ l.length → l.length - i = d →
    ∃ r, Ev (fun k => spec_GoodSteps.l0 k l b l (l.length : Int) (i : Int)) r ∧ (r = true → (∀ j (h : j < l.length), i ≤ j → GoodS l[j] b.length) ∧ 1 ≤ l.length ∧ l.length ≤ 500 ∧ b.length ≤ 1000000) := by
  intro d
  induction d with
  | zero =>
    intro i hi hd
    by_cases h1 : (l.length : Int) > 0
    · by_cases h2 : (l.length : Int) ≤ 500
      · refine ⟨_, ev_now fun m => by rw [spec_GoodSteps.l0, if_neg (by omega), if_pos h1, if_pos h2], fun h => ?_⟩
        rw [decide_eq_true_iff] at h
        exact ⟨fun j hj hij => by omega, by omega, by omega, by omega⟩
      · exact ⟨_, ev_now fun m => by rw [spec_GoodSteps.l0, if_neg (by omega), if_pos h1, if_neg h2], fun h => by cases h⟩
    · exact ⟨_, ev_now fun m => by rw [spec_GoodSteps.l0, if_neg (by omega), if_neg h1], fun h => by cases h⟩
  | succ d ih =>
    intro i hi hd
    have hlt : i < l.length := by omega
    obtain ⟨r1, hr1, hg1⟩ := good1 l[i] b hb
    cases r1 with
    | false => exact ⟨false, ev_now fun m => by rw [spec_GoodSteps.l0, if_pos (by omega), if_pos (by omega), if_pos (by omega), rd38 l i hlt, hr1, Option.bind_some, if_neg (by decide)], fun h => by cases h⟩
    | true =>
      obtain ⟨r, hr, hg⟩ := ih (i + 1) (by omega) (by omega)
      refine ⟨r, Ev.step (fun k => ?_) hr, fun h => ?_⟩
      · rw [spec_GoodSteps.l0, if_pos (by omega), if_pos (by omega), if_pos (by omega), rd38 l i hlt, hr1, Option.bind_some, if_pos rfl, w64 _ (by omega) (by omega)]
        rfl
      · obtain ⟨g1, g2⟩ := hg h
        refine ⟨fun j hj hij => ?_, g2⟩
        rcases Nat.eq_or_lt_of_le hij with rfl | hij
        · exact hg1 rfl
        · exact g1 j hj hij
theorem good_tot (l : List S38) (b : List Int) (hl : l.length ≤ 140737488351232) (hb : b.length ≤ 140737488351232) :
    ∃ r, Ev (fun k => spec_GoodSteps.f k l b) r ∧ (r = true → (∀ s ∈ l, GoodS s b.length) ∧ 1 ≤ l.length ∧ l.length ≤ 500 ∧ b.length ≤ 1000000) := by
  obtain ⟨r, hr, hg⟩ := good_loop l b hl hb l.length 0 (by omega) (by omega)
  refine ⟨r, hr, fun h => ?_⟩
  obtain ⟨g1, g2⟩ := hg h
  refine ⟨fun s hs => ?_, g2⟩
  obtain ⟨j, hj, rfl⟩ := List.getElem_of_mem hs
  exact g1 j hj (Nat.zero_le _)

/-! ### Size7 -/
theorem size7_loop : ∀ (n : Nat) (acc : List Int), acc.length + (enc7 n).length ≤ 1000000 → n ≤ 9223372036854775807 → Ev (fun k => spec_Size7.l0 k (n : Int) acc) (acc ++ enc7 n) := by
  intro n
  induction n using Nat.strongRecOn with
  | ind n ih =>
    intro acc ha hn
    by_cases h : n < 128
    · rw [enc7_small h] at ha ⊢
      refine ev_now fun m => ?_
      rw [spec_Size7.l0, if_neg (by omega), if_pos (by simp at ha; omega)]
      congr 3
      omega
    · rw [enc7_big h] at ha ⊢
      have e1 : Int.tdiv (n : Int) 128 = ((n / 128 : Nat) : Int) := by rw [Int.tdiv_eq_ediv_of_nonneg (by omega)]; omega
      have e2 : Int.tmod (n : Int) 128 = ((n % 128 : Nat) : Int) := by rw [Int.tmod_eq_emod_of_nonneg (by omega)]; omega
      have h1 := ih (n / 128) (by omega) (acc ++ [((n % 128 + 128 : Nat) : Int)]) (by rw [List.length_append]; simp at ha ⊢; omega) (by omega)
      rw [List.append_assoc, List.singleton_append] at h1
      refine Ev.step (fun k => ?_) h1
      show spec_Size7.l0 (k + 1) (n : Int) acc = spec_Size7.l0 k ((n / 128 : Nat) : Int) (acc ++ [((n % 128 + 128 : Nat) : Int)])
      rw [spec_Size7.l0, if_pos (by omega), if_pos (by simp at ha; omega), e1, e2, w64 _ (by omega) (by omega), w64 _ (by omega) (by omega)]
      congr 3
      omega
theorem size7_ok (n : Nat) (hn : n ≤ 2147483647) : Ev (fun k => spec_Size7.f k (n : Int)) (enc7 n) := by
  have h := size7_loop n [] (by have := enc7_le n 8 (by omega) (by omega); simp; omega) (by omega)
  rw [List.nil_append] at h
  exact h

/-! ### Made -/
def insOf (s : S38) : Ins := if s.f0 = true then .copy s.f1.toNat s.f2.toNat else .put s.f3
theorem made_le (s : S38) (b : List Int) (hg : GoodS s b.length) (hb : b.length ≤ 1000000) : ((insOf s).made b).length ≤ 1000000 := by
  unfold insOf
  unfold GoodS at hg
  cases h : s.f0 with
  | true =>
    rw [if_pos rfl]
    show ((b.drop s.f1.toNat).take s.f2.toNat).length ≤ _
    rw [List.length_take, List.length_drop]
    omega
  | false =>
    rw [h, if_neg (by decide)] at hg
    rw [if_neg (by decide)]
    show s.f3.length ≤ _
    omega
theorem made_all_le (b : List Int) (hb : b.length ≤ 1000000) : ∀ (l : List S38), (∀ s ∈ l, GoodS s b.length) → (made b (l.map insOf)).length ≤ 1000000 * l.length
  | [], _ => by simp [made]
  | s :: l, h => by
    rw [List.map_cons, made_cons, List.length_append, List.length_cons]
    have h1 := made_le s b (h s (List.mem_cons_self ..)) hb
    have h2 := made_all_le b hb l (fun s hs => h s (List.mem_cons_of_mem _ hs))
    omega
theorem made_loop (b : List Int) (l : List S38) (hb : b.length ≤ 1000000) (hl : l.length ≤ 1000) (hg : ∀ s ∈ l, GoodS s b.length) : ∀ (d i : Nat) (acc : List Int), i ≤ l.length → l.length - i = d → acc.length ≤ 1000000 * i →
    Ev (fun k => spec_Made.l0 k b acc l (l.length : Int) (i : Int)) (acc ++ made b ((l.drop i).map insOf)) := by
  intro d
  induction d with
  | zero =>
    intro i acc hi hd ha
    refine ev_now fun m => ?_
    rw [spec_Made.l0, if_neg (by omega), List.drop_eq_nil_of_le (by omega)]
    simp [made]
  | succ d ih =>
    intro i acc hi hd ha
    have hlt : i < l.length := by omega
    have hgi := hg l[i] (List.getElem_mem hlt)
    have hmi := made_le l[i] b hgi hb
    have h1 := ih (i + 1) (acc ++ (insOf l[i]).made b) (by omega) (by omega) (by rw [List.length_append]; omega)
    rw [List.drop_eq_getElem_cons hlt, List.map_cons, made_cons, ← List.append_assoc]
    refine Ev.step (fun k => ?_) h1
    show spec_Made.l0 (k + 1) b acc l (l.length : Int) (i : Int) = spec_Made.l0 k b (acc ++ (insOf l[i]).made b) l (l.length : Int) ((i + 1 : Nat) : Int)
    rw [spec_Made.l0, if_pos (by omega), if_pos (by omega), if_pos (by omega), rd38 l i hlt]
    unfold insOf at hmi ⊢
    unfold GoodS at hgi
    cases h : l[i].f0 with
    | true =>
      rw [h, if_pos rfl] at hgi hmi
      rw [if_pos rfl, if_pos rfl]
      have e : (b.take (l[i].f1 + l[i].f2).toNat).drop l[i].f1.toNat = (b.drop l[i].f1.toNat).take l[i].f2.toNat := by
        rw [List.drop_take]
        congr 1
        omega
      have hw : wrap64 (l[i].f1 + l[i].f2) = l[i].f1 + l[i].f2 := w64 _ (by omega) (by omega)
      rw [hw, if_pos (by omega), if_pos (by omega), if_pos (by omega), e, if_pos (by have : ((b.drop l[i].f1.toNat).take l[i].f2.toNat).length ≤ 1000000 := hmi; omega), w64 _ (by omega) (by omega)]
      rfl
    | false =>
      rw [h, if_neg (show ¬ (false = true) by decide)] at hmi
      rw [if_neg (show ¬ (false = true) by decide), if_neg (show ¬ (false = true) by decide), if_pos (by have : l[i].f3.length ≤ 1000000 := hmi; omega), w64 _ (by omega) (by omega)]
      rfl
theorem made_ok (b : List Int) (l : List S38) (hb : b.length ≤ 1000000) (hl : l.length ≤ 1000) (hg : ∀ s ∈ l, GoodS s b.length) : Ev (fun k => spec_Made.f k b l) (made b (l.map insOf)) := by
  have h := made_loop b l hb hl hg l.length 0 [] (by omega) (by omega) (by simp)
  rw [List.nil_append, List.drop_zero] at h
  exact h
end Go.Proofs.YtlboochpbplhlaaDoor.PureE
