/- Plain laws: the guards, the text of a channel. -/
import Derived.Test.YtponeoodgfgejaaDoorSidE
import Derived.Test.YtponeoodgfgejaaDoorTxt
set_option linter.unusedVariables false
set_option linter.unusedSimpArgs false
namespace Go.Proofs.YtponeoodgfgejaaDoor.PureS
open Go.RowKit Go.Proofs.YtponeoodgfgejaaDoorW.PrintWords Go.Proofs.YtponeoodgfgejaaDoor.QAll Txt PureP SidD SidE SidF

/-- The bytes of a channel within chunks. -/
def chS (c : Int) (l : List S39) : List Int := (l.map (fun x => if x.f0 = c then x.f1 else [])).flatten
theorem chS_snoc (c : Int) (l : List S39) (i : Nat) (hi : i < l.length) : chS c (l.take (i + 1)) = chS c (l.take i) ++ (if l[i].f0 = c then l[i].f1 else []) := by
  unfold chS
  rw [List.take_succ_eq_append_getElem hi, List.map_append, List.flatten_append]
  simp only [List.map_cons, List.map_nil, List.flatten_cons, List.flatten_nil, List.append_nil]
theorem chS_le (c : Int) (l : List S39) (i : Nat) : (chS c (l.take i)).length ≤ (chS c l).length := by
  conv => rhs; rw [← List.take_append_drop i l]
  unfold chS
  rw [List.map_append, List.flatten_append, List.length_append]
  omega
theorem chS_chan (c : Int) (l : List S39) : chan c (l.map conv) = chS c l := by
  unfold chan chS
  rw [List.map_map]
  rfl
theorem chS_toC (c : Int) (qs : List (List Int)) (h : ∀ q ∈ qs, q ≠ []) : chS c (qs.map toC) = txt c qs := by
  unfold chS txt
  rw [List.map_map]
  congr 1
  apply List.map_congr_left
  intro q hq
  cases q with
  | nil => exact absurd rfl (h _ hq)
  | cons a t => simp [toC]
theorem rdT (l : List S39) (i : Nat) (hi : i < l.length) : rd_T39 l (i : Int) = l[i] := by
  unfold rd_T39
  rw [Int.toNat_natCast, List.getD_eq_getElem?_getD, List.getElem?_eq_getElem hi]
  rfl
theorem chan_loop (c : Int) (l : List S39) (hl : l.length ≤ 2147483647) (hb : (chS c l).length < 140737488355328) (n : Nat) : ∀ i, i + n = l.length → Ev (fun k => spec_ChannelText.l0 k c (chS c (l.take i)) l (l.length : Int) (i : Int)) (chS c l) := by
  induction n with
  | zero =>
    intro i h
    refine ev_now (fun m => ?_)
    rw [spec_ChannelText.l0, if_neg (by omega), List.take_of_length_le (by omega)]
  | succ n ih =>
    intro i h
    have hi : i < l.length := by omega
    have hw : wrap64 ((i : Int) + 1) = ((i + 1 : Nat) : Int) := by unfold wrap64; omega
    refine ev_round (ih (i + 1) (by omega)) (fun m hm => ?_)
    have hle := chS_le c l (i + 1)
    rw [chS_snoc c l i hi] at hm hle
    rw [spec_ChannelText.l0, if_pos (by omega), if_pos (by omega), if_pos (by omega), rdT l i hi]
    by_cases q : l[i].f0 = c
    · rw [if_pos q] at hm hle ⊢
      rw [List.length_append] at hle
      rw [if_pos (by omega), hw, hm]
    · rw [if_neg q] at hm ⊢
      rw [hw]
      rw [List.append_nil] at hm
      exact hm
theorem chan_f (c : Int) (l : List S39) (hl : l.length ≤ 2147483647) (hb : (chS c l).length < 140737488355328) : Ev (fun k => spec_ChannelText.f k l c) (chS c l) := by
  have := chan_loop c l hl hb l.length 0 (by omega)
  simpa [spec_ChannelText.f, chS] using this
theorem fits_loop (l : List S39) (n : Nat) : ∀ i, i + n = l.length → l.length ≤ 2147483647 → ∃ r, Ev (fun k => laws_zzFits40.l0 k l (l.length : Int) (i : Int)) r := by
  induction n with
  | zero =>
    intro i h hl
    exact ⟨_, ev_now (fun m => by rw [laws_zzFits40.l0, if_neg (by omega)])⟩
  | succ n ih =>
    intro i h hl
    obtain ⟨r, hev⟩ := ih (i + 1) (by omega) hl
    have hw : wrap64 ((i : Int) + 1) = ((i + 1 : Nat) : Int) := by unfold wrap64; omega
    by_cases h1 : ((rd_T39 l (i : Int)).f1.length : Int) > 2147483647
    · refine ⟨false, ev_now (fun m => ?_)⟩
      rw [laws_zzFits40.l0, if_pos (by omega), if_pos (by omega), if_pos (by omega)]
      unfold laws_zzFits41.f
      rw [if_pos h1]
      rfl
    · refine ⟨r, ev_round hev (fun m hm => ?_)⟩
      rw [laws_zzFits40.l0, if_pos (by omega), if_pos (by omega), if_pos (by omega)]
      unfold laws_zzFits41.f
      rw [if_neg h1, hw]
      exact hm
theorem fits_f (l : List S39) : ∃ r, Ev (fun k => laws_zzFits40.f k l) r ∧ (r = true → l.length ≤ 2147483647) := by
  by_cases h : (l.length : Int) > 2147483647
  · exact ⟨false, ⟨0, fun k _ => by show laws_zzFits40.f k l = _; unfold laws_zzFits40.f; rw [if_pos h]⟩, fun q => by cases q⟩
  · obtain ⟨r, K, hK⟩ := fits_loop l l.length 0 (by omega) (by omega)
    exact ⟨r, ⟨K, fun k hk => by show laws_zzFits40.f k l = _; unfold laws_zzFits40.f; rw [if_neg h]; exact hK k hk⟩, fun _ => by omega⟩
/-- A chunk that may be written. -/
def Ok (x : S39) : Prop := (x.f0 = 1 ∨ x.f0 = 2) ∧ x.f1 ≠ [] ∧ x.f1.length ≤ 60000
theorem good_loop (l : List S39) (n : Nat) : ∀ i, i + n = l.length → l.length ≤ 2147483647 → ∃ r, Ev (fun k => laws_sideGood.l0 k l l (l.length : Int) (i : Int)) r ∧ (r = true → l.length ≤ 60 ∧ ∀ x ∈ l.drop i, Ok x) := by
  induction n with
  | zero =>
    intro i h hl
    refine ⟨_, ev_now (fun m => by rw [laws_sideGood.l0, if_neg (by omega)]), fun hr => ⟨by have := of_decide_eq_true hr; omega, fun p hp => by rw [List.drop_eq_nil_of_le (by omega)] at hp; cases hp⟩⟩
  | succ n ih =>
    intro i h hl
    obtain ⟨r, hev, hr⟩ := ih (i + 1) (by omega) hl
    have hw : wrap64 ((i : Int) + 1) = ((i + 1 : Nat) : Int) := by unfold wrap64; omega
    have hi : i < l.length := by omega
    have step : ∀ m, laws_sideGood.l0 (m + 1) l l (l.length : Int) (i : Int) = (if l[i].f0 = 1 ∨ l[i].f0 = 2 then (if (l[i].f1.length : Int) = 0 then some false else if (l[i].f1.length : Int) > 60000 then some false else laws_sideGood.l0 m l l (l.length : Int) ((i + 1 : Nat) : Int)) else some false) := fun m => by
      rw [laws_sideGood.l0, if_pos (by omega), if_pos (by omega), if_pos (by omega), rdT l i hi, hw]
      by_cases a : l[i].f0 = 1
      · rw [if_pos a, if_pos (show l[i].f0 = 1 ∨ l[i].f0 = 2 from .inl a)]
      · rw [if_neg a]
        by_cases b : l[i].f0 = 2
        · rw [if_pos b, if_pos (show l[i].f0 = 1 ∨ l[i].f0 = 2 from .inr b)]
        · rw [if_neg b, if_neg (by rintro (h | h); exact a h; exact b h)]
    by_cases a : l[i].f0 = 1 ∨ l[i].f0 = 2
    · by_cases b : (l[i].f1.length : Int) = 0
      · exact ⟨false, ev_now (fun m => by rw [step, if_pos a, if_pos b]), fun q => by cases q⟩
      · by_cases c : (l[i].f1.length : Int) > 60000
        · exact ⟨false, ev_now (fun m => by rw [step, if_pos a, if_neg b, if_pos c]), fun q => by cases q⟩
        · refine ⟨r, ev_round hev (fun m hm => by rw [step, if_pos a, if_neg b, if_neg c, hm]), fun q => ⟨(hr q).1, fun p hp => ?_⟩⟩
          rw [List.drop_eq_getElem_cons hi] at hp
          rcases List.mem_cons.1 hp with rfl | hp
          · exact ⟨a, fun k => b (by rw [k]; rfl), by omega⟩
          · exact (hr q).2 p hp
    · exact ⟨false, ev_now (fun m => by rw [step, if_neg a]), fun q => by cases q⟩
theorem good_f (l : List S39) (hl : l.length ≤ 2147483647) : ∃ r, Ev (fun k => laws_sideGood.f k l) r ∧ (r = true → l.length ≤ 60 ∧ ∀ x ∈ l, Ok x) := by
  have := good_loop l l.length 0 (by omega) hl
  simpa [laws_sideGood.f] using this
theorem chS_bound (c : Int) (l : List S39) (h : ∀ x ∈ l, Ok x) : (chS c l).length ≤ 60000 * l.length := by
  induction l with
  | nil => simp [chS]
  | cons x l ih =>
    have h1 := ih (fun y hy => h y (List.mem_cons_of_mem _ hy))
    have h2 := (h x List.mem_cons_self).2.2
    unfold chS at h1 ⊢
    rw [List.map_cons, List.flatten_cons, List.length_append, List.length_cons]
    by_cases q : x.f0 = c
    · rw [if_pos q]; omega
    · rw [if_neg q]
      have : ([] : List Int).length = 0 := rfl
      omega
theorem chS_err (l : List S39) (h : ∀ x ∈ l, Ok x) : chS 3 l = [] := by
  induction l with
  | nil => rfl
  | cons x l ih =>
    have h1 := ih (fun y hy => h y (List.mem_cons_of_mem _ hy))
    have h2 := (h x List.mem_cons_self).1
    unfold chS at h1 ⊢
    rw [List.map_cons, List.flatten_cons, h1, if_neg (by omega)]
    rfl
theorem fine (l : List S39) (hn : l.length ≤ 60) (h : ∀ x ∈ l, Ok x) : Fine (l.map conv) := by
  refine ⟨by rw [List.length_map]; exact hn, fun x hx => ?_⟩
  obtain ⟨y, hy, rfl⟩ := List.mem_map.1 hx
  exact h y hy
/-- What is read back. -/
theorem back (c : Int) (mx : Nat) (l : List S39) (qs : List (List Int)) (h : Got mx (l.map conv) (l.map conv).length qs) : chS c (qs.map toC) = chS c l := by
  rw [chS_toC c qs (fun q hq k => by obtain ⟨a, t, e, _⟩ := h.pc q hq; rw [e] at k; cases k), h.tx c, List.take_of_length_le (Nat.le_refl _), chS_chan]
end Go.Proofs.YtponeoodgfgejaaDoor.PureS
