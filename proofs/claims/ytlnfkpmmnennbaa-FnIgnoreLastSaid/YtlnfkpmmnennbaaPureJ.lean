/- What the specification's functions on patterns and paths answer. Plain Lean. -/
import Derived.Test.YtlnfkpmmnennbaaPureI
import Derived.Test.YtlnfkpmmnennbaaQAllx1
import Derived.Test.YtlnfkpmmnennbaaQAllx7
set_option linter.unusedVariables false
set_option linter.unusedSimpArgs false
namespace Go.Proofs.Ytlnfkpmmnennbaa.PureJ
open Go.RowKit Go.Proofs.YtlnfkpmmnennbaaW.PrintWords Go.Proofs.Ytlnfkpmmnennbaa.QAll Txt PureG HandG HandM PureI

theorem ev_all {α β γ : Type} {f1 : Nat → Option α} {a1 : α} {f2 : Nat → Option β} {a2 : β} {f3 : Nat → Option γ} {a3 : γ} (k1 : Ev f1 a1) (k2 : Ev f2 a2) (k3 : Ev f3 a3) : Ev (fun k => (f1 k).bind fun x => (f2 k).bind fun y => (f3 k).bind fun z => some (x, y, z)) (a1, a2, a3) := by
  obtain ⟨K1, k1⟩ := k1
  obtain ⟨K2, k2⟩ := k2
  obtain ⟨K3, k3⟩ := k3
  exact ⟨K1 + K2 + K3, fun n hn => by simp only [k1 n (by omega), k2 n (by omega), k3 n (by omega), Option.bind_some]⟩
theorem of_all {α β γ : Type} {x : Option α} {y : Option β} {z : Option γ} {a : α} {b : β} {c : γ} (h : (x.bind fun x => y.bind fun y => z.bind fun z => some (x, y, z)) = some (a, b, c)) : x = some a ∧ y = some b ∧ z = some c := by
  cases x <;> cases y <;> cases z <;> simp_all

theorem rd_get (l : List ByteArray) (i : Nat) (h : i < l.length) : rdOf ByteArray.empty l (i : Int) = l[i] := by
  unfold rdOf
  rw [Int.toNat_natCast, List.getD_eq_getElem?_getD, List.getElem?_eq_getElem h]
  rfl

/-! ### Globs -/
theorem globs_star_eq (r s : List UInt8) : globs (42 :: r) s = (List.range (s.length + 1)).any (fun i => globs r (s.drop i)) := by cases s <;> simp only [globs, if_pos]
theorem globs_ok : ∀ (n : Nat) (p q : ByteArray), p.toList.length = n → p.size ≤ 140737488351232 → q.size ≤ 140737488351232 → Ev (fun k => spec_Globs.f k p q) (globs p.toList q.toList) := by
  intro n
  induction n with
  | zero =>
    intro p q hn hp hq
    have e : p.toList = [] := List.eq_nil_of_length_eq_zero hn
    refine ev_now fun m => ?_
    rw [spec_Globs.f, if_pos e, e]
    rfl
  | succ n ih =>
    intro p q hn hp hq
    obtain ⟨c, r, hc⟩ : ∃ c r, p.toList = c :: r := by
      cases h : p.toList with
      | nil => rw [h] at hn; cases hn
      | cons c r => exact ⟨c, r, rfl⟩
    have ht : (p.extract 1 p.size).toList = r := ext_tail hc
    have hr : r.length = n := by rw [hc] at hn; simpa using hn
    have hsz := size_cons hc
    have hts : (p.extract 1 p.size).size ≤ 140737488351232 := by rw [← size_list, ht]; omega
    have hb := bt_head hc
    have hne : ¬ (p.toList = ([] : List UInt8)) := by rw [hc]; exact fun h => by cases h
    by_cases hs : c = 42
    · -- the star's loop
      have hloop : ∀ (d i : Nat), i ≤ q.size + 1 → q.size + 1 - i = d → Ev (fun k => spec_Globs.l0 k p q (i : Int)) ((List.range' i (q.size + 1 - i)).any (fun j => globs r (q.toList.drop j))) := by
        intro d
        induction d with
        | zero =>
          intro i hi hd
          refine ev_now fun m => ?_
          rw [spec_Globs.l0, if_neg (by omega), hd]
          rfl
        | succ d ihd =>
          intro i hi hd
          have h1 := ih (p.extract 1 p.size) (q.extract i q.size) (by rw [ht]; exact hr) hts (by rw [← size_list, ext_from, List.length_drop, size_list]; omega)
          rw [ht, ext_from] at h1
          have hrange : List.range' i (q.size + 1 - i) = i :: List.range' (i + 1) (q.size + 1 - (i + 1)) := by
            rw [show q.size + 1 - i = (q.size + 1 - (i + 1)) + 1 by omega, List.range'_succ]
          rw [hrange, List.any_cons]
          cases hg : globs r (q.toList.drop i) with
          | true =>
            rw [hg] at h1
            refine ev2 h1 (Ev.now ()) fun m hm _ => ?_
            rw [spec_Globs.l0, if_pos (by omega), if_pos (by omega), if_pos (by omega), Int.toNat_natCast, hm, Option.bind_some, if_pos rfl]
            rfl
          | false =>
            rw [hg] at h1
            have h2 := ihd (i + 1) (by omega) (by omega)
            refine ev2 h2 h1 fun m hm2 hm => ?_
            rw [spec_Globs.l0, if_pos (by omega), if_pos (by omega), if_pos (by omega), Int.toNat_natCast, hm, Option.bind_some, if_neg (by decide), w64 _ (by omega) (by omega)]
            exact hm2
      have h0 := hloop (q.size + 1) 0 (by omega) (by omega)
      have hval : globs p.toList q.toList = (List.range' 0 (q.size + 1 - 0)).any (fun j => globs r (q.toList.drop j)) := by
        rw [hc, hs, globs_star_eq, size_list, Nat.sub_zero, List.range_eq_range']
      rw [hval]
      refine ev_round h0 fun m hm => ?_
      rw [spec_Globs.f, if_neg hne, if_pos (by omega), hb, if_pos (by rw [hs]; decide)]
      exact hm
    · have hs' : ¬ ((c.toNat : Int) = 42) := ne_int (42 : UInt8) rfl hs
      cases hq' : q.toList with
      | nil =>
        refine ev_now fun m => ?_
        rw [spec_Globs.f, if_neg hne, if_pos (by omega), hb, if_neg hs', if_pos hq', hc, globs, if_neg hs]
      | cons x t =>
        have hqt : (q.extract 1 q.size).toList = t := ext_tail hq'
        have hqz := size_cons hq'
        have hqb := bt_head hq'
        have h1 := ih (p.extract 1 p.size) (q.extract 1 q.size) (by rw [ht]; exact hr) hts (by rw [← size_list, hqt]; omega)
        rw [ht, hqt] at h1
        have hqn : ¬ (q.toList = ([] : List UInt8)) := by rw [hq']; exact fun h => by cases h
        have hv : globs p.toList (x :: t) = ((c == 63 || c == x) && globs r t) := by rw [hc, globs, if_neg hs]
        rw [hv]
        by_cases h63 : c = 63
        · refine ev2 h1 (Ev.now ()) fun m hm _ => ?_
          rw [spec_Globs.f, if_neg hne, if_pos (by omega), hb, if_neg hs', if_neg hqn, if_pos (by rw [h63]; decide), if_pos (by omega), if_pos (by omega), hm, Option.bind_some, h63]
          rfl
        · have h63' : ¬ ((c.toNat : Int) = 63) := ne_int (63 : UInt8) rfl h63
          by_cases hx : c = x
          · refine ev2 h1 (Ev.now ()) fun m hm _ => ?_
            rw [spec_Globs.f, if_neg hne, if_pos (by omega), hb, if_neg hs', if_neg hqn, if_neg h63', if_pos (by omega), hqb, if_pos (by rw [hx]), if_pos (by omega), if_pos (by omega), hm, Option.bind_some]
            simp [hx]
          · refine ev_now fun m => ?_
            rw [spec_Globs.f, if_neg hne, if_pos (by omega), hb, if_neg hs', if_neg hqn, if_neg h63', if_pos (by omega), hqb, if_neg (by rw [u8_eq]; exact hx)]
            simp [h63, hx]

/-! ### IsGlob -/
theorem isglob_loop (s : ByteArray) (hs : s.size ≤ 140737488351232) : ∀ (d i : Nat) (x3 : Int), i ≤ s.size → s.size - i = d → 
    ∃ b, Ev (fun k => spec_IsGlob.l0 k s x3 (s.size : Int) (i : Int)) b ∧ (b = true → s.size ≤ 40 ∧ s.toList ≠ [] ∧ ∀ j c, i ≤ j → s.toList[j]? = some c → Ok c ∧ ¬ (c = 42 ∧ 0 < j ∧ s.toList[j - 1]? = some 42)) := by
  intro d
  induction d with
  | zero =>
    intro i x3 hi hd
    have hnone : ∀ j (c : UInt8), i ≤ j → s.toList[j]? = some c → False := fun j c hj hc => by
      obtain ⟨h, _⟩ := List.getElem?_eq_some_iff.1 hc
      rw [size_list] at h
      omega
    by_cases he : s.toList = ([] : List UInt8)
    · exact ⟨false, ev_now fun m => by rw [spec_IsGlob.l0, if_neg (by omega), if_pos he], fun h => by cases h⟩
    · by_cases h40 : (s.size : Int) ≤ 40
      · exact ⟨decide (x3 ≤ 4), ev_now fun m => by rw [spec_IsGlob.l0, if_neg (by omega), if_neg he, if_pos h40], fun _ => ⟨by omega, he, fun j c hj hc => (hnone j c hj hc).elim⟩⟩
      · exact ⟨false, ev_now fun m => by rw [spec_IsGlob.l0, if_neg (by omega), if_neg he, if_neg h40], fun h => by cases h⟩
  | succ d ih =>
    intro i x3 hi hd
    obtain ⟨c, hc, hm, hb⟩ := bt_at' s i (by omega)
    have hstep : ∀ k, spec_IsGlob.l0 (k + 1) s x3 (s.size : Int) (i : Int) = spec_IsGlob.j1 k s x3 (i : Int) (c.toNat : Int) (s.size : Int) (i : Int) (!(decide (97 ≤ c.toNat ∧ c.toNat ≤ 122 ∨ 65 ≤ c.toNat ∧ c.toNat ≤ 90 ∨ 48 ≤ c.toNat ∧ c.toNat ≤ 57 ∨ c.toNat = 46 ∨ c.toNat = 42 ∨ c.toNat = 63))) := by
      intro k
      rw [spec_IsGlob.l0, if_pos (by omega), if_pos (by omega), if_pos (by omega), hb]
      generalize hn : c.toNat = n
      have hrest : ∀ (g : Bool → Option Bool), ¬ (97 ≤ n ∧ n ≤ 122 ∨ 65 ≤ n ∧ n ≤ 90 ∨ 48 ≤ n ∧ n ≤ 57 ∨ n = 46 ∨ n = 42) → g (!((n : Int) == 63)) = g (!(decide (97 ≤ n ∧ n ≤ 122 ∨ 65 ≤ n ∧ n ≤ 90 ∨ 48 ≤ n ∧ n ≤ 57 ∨ n = 46 ∨ n = 42 ∨ n = 63))) := by
        intro g h
        congr 2
        rw [Bool.eq_iff_iff, beq_iff_eq, decide_eq_true_iff]
        omega
      have hyes : ∀ (g : Bool → Option Bool), (97 ≤ n ∧ n ≤ 122 ∨ 65 ≤ n ∧ n ≤ 90 ∨ 48 ≤ n ∧ n ≤ 57 ∨ n = 46 ∨ n = 42) → g (!true) = g (!(decide (97 ≤ n ∧ n ≤ 122 ∨ 65 ≤ n ∧ n ≤ 90 ∨ 48 ≤ n ∧ n ≤ 57 ∨ n = 46 ∨ n = 42 ∨ n = 63))) := by
        intro g h
        congr 2
        exact (decide_eq_true (by omega)).symm
      repeat' split
      all_goals first
        | exact hyes (fun b => spec_IsGlob.j1 k s x3 (i : Int) (n : Int) (s.size : Int) (i : Int) b) (by omega)
        | exact hrest (fun b => spec_IsGlob.j1 k s x3 (i : Int) (n : Int) (s.size : Int) (i : Int) b) (by omega)
    by_cases hok : 97 ≤ c.toNat ∧ c.toNat ≤ 122 ∨ 65 ≤ c.toNat ∧ c.toNat ≤ 90 ∨ 48 ≤ c.toNat ∧ c.toNat ≤ 57 ∨ c.toNat = 46 ∨ c.toNat = 42 ∨ c.toNat = 63
    · have hstep2 : ∀ k, spec_IsGlob.l0 (k + 1) s x3 (s.size : Int) (i : Int) = spec_IsGlob.j1 k s x3 (i : Int) (c.toNat : Int) (s.size : Int) (i : Int) false := fun k => by rw [hstep k, decide_eq_true hok]; rfl
      -- are both stars?
      have hj1 : ∃ t : Bool, (∀ k, spec_IsGlob.j1 (k + 1) s x3 (i : Int) (c.toNat : Int) (s.size : Int) (i : Int) false = spec_IsGlob.j2 k s x3 (c.toNat : Int) (s.size : Int) (i : Int) t) ∧ (t = false → ¬ (c = 42 ∧ 0 < i ∧ s.toList[i - 1]? = some 42)) := by
        by_cases hi0 : (i : Int) > 0
        · by_cases h42 : (c.toNat : Int) = 42
          · obtain ⟨c', hc', _, hb'⟩ := bt_at' s (i - 1) (by omega)
            refine ⟨(c'.toNat : Int) == 42, fun k => ?_, fun ht hx => ?_⟩
            · have hw : wrap64 ((i : Int) - 1) = ((i - 1 : Nat) : Int) := by rw [w64 _ (by omega) (by omega)]; omega
              rw [spec_IsGlob.j1, if_neg (by decide), if_pos hi0, if_pos h42, hw, if_pos (by omega), if_pos (by omega), hb']
            · rw [hx.2.2] at hc'
              cases hc'
              revert ht
              decide
          · refine ⟨false, fun k => by rw [spec_IsGlob.j1, if_neg (by decide), if_pos hi0, if_neg h42], fun _ hx => h42 ?_⟩
            rw [hx.1]; decide
        · exact ⟨false, fun k => by rw [spec_IsGlob.j1, if_neg (by decide), if_neg hi0], fun _ hx => hi0 (by omega)⟩
      obtain ⟨t, ht, htp⟩ := hj1
      cases t with
      | true =>
        refine ⟨false, ?_, fun h => by cases h⟩
        refine Ev.step hstep2 (Ev.step ht (ev_now fun m => ?_))
        rw [spec_IsGlob.j2, if_pos rfl]
      | false =>
        have hnx : wrap64 ((i : Int) + 1) = ((i + 1 : Nat) : Int) := by rw [w64 _ (by omega) (by omega)]; omega
        obtain ⟨x3', hj2⟩ : ∃ x3', ∀ k, spec_IsGlob.j2 (k + 1) s x3 (c.toNat : Int) (s.size : Int) (i : Int) false = spec_IsGlob.l0 k s x3' (s.size : Int) ((i + 1 : Nat) : Int) := by
          by_cases h42 : (c.toNat : Int) = 42
          · exact ⟨wrap64 (x3 + 1), fun k => by rw [spec_IsGlob.j2, if_neg (by decide), if_pos h42, hnx]⟩
          · exact ⟨x3, fun k => by rw [spec_IsGlob.j2, if_neg (by decide), if_neg h42, hnx]⟩
        obtain ⟨b, hb1, hb2⟩ := ih (i + 1) x3' (by omega) (by omega)
        refine ⟨b, Ev.step hstep2 (Ev.step ht (Ev.step hj2 hb1)), fun h => ?_⟩
        obtain ⟨k1, k2, k3⟩ := hb2 h
        refine ⟨k1, k2, fun j cj hj hcj => ?_⟩
        rcases Nat.eq_or_lt_of_le hj with rfl | hlt
        · rw [hc] at hcj
          cases hcj
          exact ⟨hok, htp rfl⟩
        · exact k3 j cj hlt hcj
    · refine ⟨false, ?_, fun h => by cases h⟩
      refine Ev.step hstep (ev_now fun m => ?_)
      rw [decide_eq_false hok, spec_IsGlob.j1, if_pos (by decide)]
theorem isglob_tot (s : ByteArray) (hs : s.size ≤ 140737488351232) : ∃ b, Ev (fun k => spec_IsGlob.f k s) b ∧ (b = true → IsG s) := by
  obtain ⟨b, h1, h2⟩ := isglob_loop s hs s.size 0 0 (by omega) (by omega)
  refine ⟨b, h1, fun h => ?_⟩
  obtain ⟨k1, k2, k3⟩ := h2 h
  refine ⟨k2, k1, fun c hc => ?_, fun j ha => ?_⟩
  · obtain ⟨j, hj⟩ := List.getElem?_of_mem hc
    exact (k3 j c (Nat.zero_le _) hj).1
  · unfold At at ha
    have e0 : (s.toList.drop j)[0]? = some 42 := by
      have : ((s.toList.drop j).take 2)[0]? = some 42 := by rw [show (2 : Nat) = ([42, 42] : List UInt8).length from rfl, ha]; rfl
      rwa [List.getElem?_take, if_pos (by omega)] at this
    have e1 : (s.toList.drop j)[1]? = some 42 := by
      have : ((s.toList.drop j).take 2)[1]? = some 42 := by rw [show (2 : Nat) = ([42, 42] : List UInt8).length from rfl, ha]; rfl
      rwa [List.getElem?_take, if_pos (by omega)] at this
    rw [List.getElem?_drop] at e0 e1
    exact (k3 (j + 1) 42 (Nat.zero_le _) e1).2 ⟨rfl, by omega, by simpa using e0⟩

/-! ### Has, IsPath -/
theorem has_loop (s : ByteArray) (x : Int) (hs : s.size ≤ 140737488351232) : ∀ (d i : Nat), i ≤ s.size → s.size - i = d → ∃ b, Ev (fun k => spec_Has.l0 k s x (s.size : Int) (i : Int)) b := by
  intro d
  induction d with
  | zero => exact fun i hi hd => ⟨false, ev_now fun m => by rw [spec_Has.l0, if_neg (by omega)]⟩
  | succ d ih =>
    intro i hi hd
    by_cases h : bt s (i : Int) = x
    · exact ⟨true, ev_now fun m => by rw [spec_Has.l0, if_pos (by omega), if_pos (by omega), if_pos (by omega), if_pos h]⟩
    · obtain ⟨b, hb⟩ := ih (i + 1) (by omega) (by omega)
      refine ⟨b, Ev.step (fun k => ?_) hb⟩
      rw [spec_Has.l0, if_pos (by omega), if_pos (by omega), if_pos (by omega), if_neg h, w64 _ (by omega) (by omega)]
      rfl
theorem has_tot (s : ByteArray) (x : Int) (hs : s.size ≤ 140737488351232) : ∃ b, Ev (fun k => spec_Has.f k s x) b := has_loop s x hs s.size 0 (by omega) (by omega)

theorem path_loop (l : List ByteArray) (hl : l.length ≤ 140737488351232) (hs : ∀ q ∈ l, q.size ≤ 140737488351232) : ∀ (d i : Nat), i ≤ l.length → l.length - i = d →
    ∃ b, Ev (fun k => spec_IsPath.l0 k l l (l.length : Int) (i : Int)) b ∧ (b = true → 0 < l.length ∧ l.length ≤ 100 ∧ ∀ j q, i ≤ j → l[j]? = some q → IsG q) := by
  intro d
  induction d with
  | zero =>
    intro i hi hd
    have hnone : ∀ j (q : ByteArray), i ≤ j → l[j]? = some q → False := fun j c hj hc => by
      obtain ⟨h, _⟩ := List.getElem?_eq_some_iff.1 hc
      omega
    by_cases hp : (l.length : Int) > 0
    · exact ⟨decide ((l.length : Int) ≤ 100), ev_now fun m => by rw [spec_IsPath.l0, if_neg (by omega), if_pos hp], fun h => ⟨by omega, by have := of_decide_eq_true h; omega, fun j q hj hq => (hnone j q hj hq).elim⟩⟩
    · exact ⟨false, ev_now fun m => by rw [spec_IsPath.l0, if_neg (by omega), if_neg hp], fun h => by cases h⟩
  | succ d ih =>
    intro i hi hd
    have hlt : i < l.length := by omega
    have hq := hs l[i] (List.getElem_mem hlt)
    obtain ⟨b1, e1, g1⟩ := isglob_tot l[i] hq
    obtain ⟨b2, e2⟩ := has_tot l[i] 42 hq
    obtain ⟨b3, e3⟩ := has_tot l[i] 63 hq
    obtain ⟨b, hb, hb'⟩ := ih (i + 1) (by omega) (by omega)
    cases b1 with
    | false =>
      refine ⟨false, ev2 e1 (Ev.now ()) fun m hm _ => ?_, fun h => by cases h⟩
      rw [spec_IsPath.l0, if_pos (by omega), if_pos (by omega), if_pos (by omega), rd_get l i hlt, hm, Option.bind_some, if_neg (by decide)]
    | true =>
      cases b2 with
      | true =>
        refine ⟨false, ev2 e1 e2 fun m hm hm2 => ?_, fun h => by cases h⟩
        rw [spec_IsPath.l0, if_pos (by omega), if_pos (by omega), if_pos (by omega), rd_get l i hlt, hm, Option.bind_some, if_pos rfl, hm2, Option.bind_some, if_pos rfl]
      | false =>
        cases b3 with
        | true =>
          refine ⟨false, ev3 e1 e2 e3 fun m hm hm2 hm3 => ?_, fun h => by cases h⟩
          rw [spec_IsPath.l0, if_pos (by omega), if_pos (by omega), if_pos (by omega), rd_get l i hlt, hm, Option.bind_some, if_pos rfl, hm2, Option.bind_some, if_neg (by decide), hm3, Option.bind_some, if_pos rfl]
        | false =>
          refine ⟨b, ?_, fun h => ?_⟩
          · refine ev2 hb (ev_all e1 e2 e3) fun m hb' hm => ?_
            obtain ⟨hm, hm2, hm3⟩ := of_all hm
            rw [spec_IsPath.l0, if_pos (by omega), if_pos (by omega), if_pos (by omega), rd_get l i hlt, hm, Option.bind_some, if_pos rfl, hm2, Option.bind_some, if_neg (by decide), hm3, Option.bind_some, if_neg (by decide), w64 _ (by omega) (by omega)]
            exact hb'
          · obtain ⟨k1, k2, k3⟩ := hb' h
            refine ⟨k1, k2, fun j q hj hq => ?_⟩
            rcases Nat.eq_or_lt_of_le hj with rfl | hlt2
            · rw [List.getElem?_eq_getElem hlt] at hq
              cases hq
              exact g1 rfl
            · exact k3 j q hlt2 hq
theorem path_tot (l : List ByteArray) (hl : l.length ≤ 140737488351232) (hs : ∀ q ∈ l, q.size ≤ 140737488351232) :
    ∃ b, Ev (fun k => spec_IsPath.f k l) b ∧ (b = true → 0 < l.length ∧ l.length ≤ 100 ∧ ∀ q ∈ l, IsG q) := by
  obtain ⟨b, h1, h2⟩ := path_loop l hl hs l.length 0 (by omega) (by omega)
  refine ⟨b, h1, fun h => ?_⟩
  obtain ⟨k1, k2, k3⟩ := h2 h
  refine ⟨k1, k2, fun q hq => ?_⟩
  obtain ⟨j, hj⟩ := List.getElem?_of_mem hq
  exact k3 j q (Nat.zero_le _) hj

/-! ### zzFits16 -/
theorem fits_loop (l : List ByteArray) (hl : l.length ≤ 140737488351232) : ∀ (d i : Nat), i ≤ l.length → l.length - i = d → ∃ b, Ev (fun k => laws_zzFits16.l0 k l (l.length : Int) (i : Int)) b := by
  intro d
  induction d with
  | zero => exact fun i hi hd => ⟨true, ev_now fun m => by rw [laws_zzFits16.l0, if_neg (by omega)]⟩
  | succ d ih =>
    intro i hi hd
    by_cases h : ((rdOf ByteArray.empty l (i : Int)).size : Int) > 2147483647
    · exact ⟨false, ev_now fun m => by rw [laws_zzFits16.l0, if_pos (by omega), if_pos (by omega), if_pos (by omega), if_pos h]⟩
    · obtain ⟨b, hb⟩ := ih (i + 1) (by omega) (by omega)
      refine ⟨b, Ev.step (fun k => ?_) hb⟩
      rw [laws_zzFits16.l0, if_pos (by omega), if_pos (by omega), if_pos (by omega), if_neg h, w64 _ (by omega) (by omega)]
      rfl
theorem fits_tot (l : List ByteArray) (hl : l.length ≤ 140737488351232) : ∃ b, Ev (fun k => laws_zzFits16.f k l) b := by
  by_cases h : (l.length : Int) > 2147483647
  · exact ⟨false, 0, fun k _ => by show laws_zzFits16.f k l = _; unfold laws_zzFits16.f; rw [if_pos h]⟩
  · obtain ⟨b, hb⟩ := fits_loop l hl l.length 0 (by omega) (by omega)
    refine ⟨b, Ev.congr (fun k => ?_) hb⟩
    unfold laws_zzFits16.f
    rw [if_neg h]
    rfl

/-! ### NameIgnored -/
def nig (p : List UInt8) (folder dir : Bool) : List ByteArray → Bool
  | [] => false
  | q :: r => if globs p q.toList = true ∧ (folder = false ∨ r ≠ [] ∨ dir = true) then true else nig p folder dir r
theorem nig_loop (p : ByteArray) (folder dir : Bool) (l : List ByteArray) (hp : p.size ≤ 140737488351232) (hl : l.length ≤ 140737488351232) (hs : ∀ q ∈ l, q.size ≤ 140737488351232) : ∀ (d i : Nat), i ≤ l.length → l.length - i = d →
    Ev (fun k => spec_NameIgnored.l0 k p folder l dir l (l.length : Int) (i : Int)) (nig p.toList folder dir (l.drop i)) := by
  intro d
  induction d with
  | zero =>
    intro i hi hd
    refine ev_now fun m => ?_
    rw [spec_NameIgnored.l0, if_neg (by omega), List.drop_eq_nil_of_le (by omega)]
    rfl
  | succ d ih =>
    intro i hi hd
    have hlt : i < l.length := by omega
    have e1 := globs_ok _ p l[i] rfl hp (hs l[i] (List.getElem_mem hlt))
    have e2 := ih (i + 1) (by omega) (by omega)
    rw [List.drop_eq_getElem_cons hlt, nig]
    have hr : (l.drop (i + 1) ≠ []) ↔ i < l.length - 1 := by rw [ne_eq, List.drop_eq_nil_iff]; omega
    have hw : wrap64 ((l.length : Int) - 1) = (l.length : Int) - 1 := w64 _ (by omega) (by omega)
    refine ev2 e1 e2 fun m hm hm2 => ?_
    rw [spec_NameIgnored.l0, if_pos (by omega), if_pos (by omega), if_pos (by omega), rd_get l i hlt, hm, Option.bind_some]
    have hgo : spec_NameIgnored.l0 m p folder l dir l (l.length : Int) (wrap64 ((i : Int) + 1)) = some (nig p.toList folder dir (l.drop (i + 1))) := by
      rw [w64 _ (by omega) (by omega)]; exact hm2
    cases globs p.toList l[i].toList with
    | false => rw [if_neg (by decide), if_neg (by simp)]; exact hgo
    | true =>
      rw [if_pos rfl]
      cases folder with
      | false => rw [if_neg (by decide), if_pos (by simp)]
      | true =>
        rw [if_pos rfl, hw]
        by_cases hlast : (i : Int) < (l.length : Int) - 1
        · rw [if_pos hlast, if_pos ⟨rfl, .inr (.inl (hr.2 (by omega)))⟩]
        · rw [if_neg hlast]
          cases dir with
          | true => rw [if_pos rfl, if_pos (by simp)]
          | false =>
            rw [if_neg (by decide), if_neg (fun h => ?_)]
            · exact hgo
            · rcases h.2 with h | h | h
              · cases h
              · exact hlast (by have := hr.1 h; omega)
              · cases h
theorem nig_ok (p : ByteArray) (folder dir : Bool) (l : List ByteArray) (hp : p.size ≤ 140737488351232) (hl : l.length ≤ 140737488351232) (hs : ∀ q ∈ l, q.size ≤ 140737488351232) : Ev (fun k => spec_NameIgnored.f k p folder l dir) (nig p.toList folder dir l) := nig_loop p folder dir l hp hl hs l.length 0 (by omega) (by omega)

theorem simp1_nig (p : List UInt8) (folder dir : Bool) : ∀ l, simp1 p folder dir l = nig p folder dir l
  | [] => rfl
  | q :: r => by
    rw [simp1, nig, simp1_nig p folder dir r]
    cases hg : globs p q.toList with
    | false => simp
    | true =>
      cases folder with
      | false => simp
      | true =>
        cases dir with
        | true => simp
        | false =>
          cases r with
          | nil => simp [nig]
          | cons a b => simp
theorem scan_nig (p : List UInt8) : ∀ l, (scan p l false).1 = nig p false false l
  | [] => rfl
  | q :: r => by
    rw [scan, nig]
    cases hg : globs p q.toList with
    | true => simp
    | false =>
      have h : (if r.isEmpty = true then false else false) = false := by split <;> rfl
      rw [if_neg (by decide), h, scan_nig p r, if_neg (fun hh => absurd hh.1 (by decide))]

end Go.Proofs.Ytlnfkpmmnennbaa.PureJ
