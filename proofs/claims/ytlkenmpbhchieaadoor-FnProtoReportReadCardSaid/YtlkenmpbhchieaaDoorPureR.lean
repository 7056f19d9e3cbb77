/- Plain laws: words, texts cut at blanks, reports. Plain laws: a report's lines, cut at their blanks. -/
import Derived.Test.YtlkenmpbhchieaaDoorPureQ
set_option linter.unusedVariables false
set_option linter.unusedSimpArgs false
namespace Go.Proofs.YtlkenmpbhchieaaDoor.PureR
open Go.RowKit Go.Proofs.YtlkenmpbhchieaaDoorW.PrintWords Go.Proofs.YtlkenmpbhchieaaDoor.QAll Txt PureA HandC PureP PureQ

/-- A word: neither blank nor newline, at most 60 bytes. -/
structure Word (s : ByteArray) : Prop where
  ch : ∀ c ∈ s.toList, c ≠ 32 ∧ c ≠ 10
  pos : 1 ≤ s.size
  len : s.size ≤ 60
set_option maxHeartbeats 4000000 in
theorem word_step (s : ByteArray) (i : Nat) (m : Nat) (hi : i < s.size) (h31 : s.size ≤ 2147483647) :
    (spec_IsWord.l0 (m + 1) s (s.size : Int) (i : Int) = spec_IsWord.l0 m s (s.size : Int) ((i + 1 : Nat) : Int) ∧ bt s i ≠ 32 ∧ bt s i ≠ 10) ∨ ∀ m', spec_IsWord.l0 (m' + 1) s (s.size : Int) (i : Int) = some false := by
  have hw : wrap64 ((i : Int) + 1) = ((i + 1 : Nat) : Int) := by unfold wrap64; omega
  simp only [spec_IsWord.l0, hw]
  generalize bt s i = c
  have h1 : (i : Int) < (s.size : Int) := by omega
  have h2 : 0 ≤ (i : Int) := by omega
  by_cases q : (97 ≤ c ∧ c ≤ 122) ∨ (65 ≤ c ∧ c ≤ 90) ∨ (48 ≤ c ∧ c ≤ 57) ∨ c = 46 ∨ c = 47 ∨ c = 58 ∨ c = 45 ∨ c = 95
  · left
    refine ⟨?_, by omega, by omega⟩
    rcases q with q | q | q | q | q | q | q | q <;> simp (disch := omega) only [if_pos, if_neg]
  · right
    intro m'
    simp (disch := omega) only [if_pos, if_neg]
    split <;> (try split) <;> (try split) <;> rfl
theorem word_loop (s : ByteArray) (h31 : s.size ≤ 2147483647) (n : Nat) : ∀ i, i + n = s.size → ∃ r, Ev (fun k => spec_IsWord.l0 k s (s.size : Int) (i : Int)) r ∧ (r = true → (∀ j, i ≤ j → j < s.size → bt s j ≠ 32 ∧ bt s j ≠ 10) ∧ 1 ≤ s.size ∧ s.size ≤ 60) := by
  induction n with
  | zero =>
    intro i h
    have hn : ¬ (i : Int) < (s.size : Int) := by omega
    by_cases q : 1 ≤ s.size ∧ s.size ≤ 60
    · refine ⟨true, ev_now (fun m => ?_), fun _ => ⟨fun j a b => by omega, q⟩⟩
      rw [spec_IsWord.l0, if_neg hn]
      have q1 : (s.size : Int) ≥ 1 := by omega
      have q2 : (s.size : Int) ≤ 60 := by omega
      simp [q1, q2]
      try omega
    · refine ⟨false, ev_now (fun m => ?_), fun h => by cases h⟩
      rw [spec_IsWord.l0, if_neg hn]
      by_cases q1 : (s.size : Int) ≥ 1
      · have q2 : ¬ (s.size : Int) ≤ 60 := by omega
        simp [q1, q2]
        try omega
      · simp [q1]
        try omega
  | succ n ih =>
    intro i h
    obtain ⟨r, hev, hr⟩ := ih (i + 1) (by omega)
    rcases word_step s i 0 (by omega) h31 with q | q
    · have q' : ∀ m, spec_IsWord.l0 (m + 1) s (s.size : Int) (i : Int) = spec_IsWord.l0 m s (s.size : Int) ((i + 1 : Nat) : Int) := fun m => by
        rcases word_step s i m (by omega) h31 with z | z
        · exact z.1
        · have z0 := z 0
          rw [q.1] at z0
          simp [spec_IsWord.l0] at z0
      refine ⟨r, ev_round hev (fun m hm => by rw [q' m]; exact hm), fun hrt => ⟨fun j a b => ?_, (hr hrt).2⟩⟩
      rcases Nat.eq_or_lt_of_le a with e | e
      · subst e; exact q.2
      · exact (hr hrt).1 j e b
    · exact ⟨false, ev_now (fun m => q m), fun h => by cases h⟩
theorem word_f (s : ByteArray) (h31 : s.size ≤ 2147483647) : ∃ r, Ev (fun k => spec_IsWord.f k s) r ∧ (r = true → Word s) := by
  obtain ⟨r, hev, hr⟩ := word_loop s h31 s.size 0 (by omega)
  refine ⟨r, hev, fun h => ⟨fun c hc => ?_, (hr h).2.1, (hr h).2.2⟩⟩
  obtain ⟨j, hj⟩ := List.getElem?_of_mem hc
  have hjl : j < s.size := by rw [← size_list]; exact (List.getElem?_eq_some_iff.1 hj).1
  have hb := (hr h).1 j (Nat.zero_le _) hjl
  rw [bt_get s j c hj] at hb
  refine ⟨fun e => hb.1 (by rw [e]; rfl), fun e => hb.2 (by rw [e]; rfl)⟩
theorem ref_f (s : ByteArray) (h31 : s.size ≤ 2147483647) : ∃ r, Ev (fun k => spec_isRefName.f k s) r ∧ (r = true → Word s) := by
  obtain ⟨r, ⟨K, hK⟩, hr⟩ := word_f s h31
  by_cases h5 : (s.size : Int) > 5
  · by_cases he : (s.extract 0 5).toList = ([114, 101, 102, 115, 47] : List UInt8)
    · refine ⟨r, ⟨K, fun k hk => ?_⟩, hr⟩
      show spec_isRefName.f k s = _
      have := hK k hk
      simp only at this
      unfold spec_isRefName.f
      rw [if_pos h5, if_pos (by decide), if_pos (by omega), if_pos he, this]
      rfl
    · refine ⟨false, ⟨0, fun k _ => ?_⟩, fun h => by cases h⟩
      show spec_isRefName.f k s = _
      unfold spec_isRefName.f
      rw [if_pos h5, if_pos (by decide), if_pos (by omega), if_neg he]
  · refine ⟨false, ⟨0, fun k _ => ?_⟩, fun h => by cases h⟩
    show spec_isRefName.f k s = _
    unfold spec_isRefName.f
    rw [if_neg h5]
/-- What a report must be. -/
structure Report (u : ByteArray) (l : List S32) : Prop where
  u : Word u
  n : l.length ≤ 30
  w : ∀ s ∈ l, Word s.f0 ∧ Word s.f1
theorem rdT (l : List S32) (i : Nat) (hi : i < l.length) : rd_T32 l (i : Int) = l[i] := by
  show l.getD (i : Int).toNat z32 = _
  rw [Int.toNat_natCast, List.getD_eq_getElem?_getD, List.getElem?_eq_getElem hi]
  rfl
theorem inner_loop (l : List S32) (x : S32) (j : Nat) (hj : j ≤ l.length) (hl : l.length ≤ 2147483647) (r0 : Bool) (hev : Ev (fun k => spec_GoodReport.l0 k l l (l.length : Int) (wrap64 ((j : Int) + 1))) r0) (n : Nat) : ∀ i, i + n = (l.take j).length → ∃ r, Ev (fun k => spec_GoodReport.l1 k l l (l.length : Int) (j : Int) (l.take j) ((l.take j).length : Int) (i : Int) x.f0 x.f1) r ∧ (r = true → r0 = true) := by
  induction n with
  | zero =>
    intro i h
    refine ⟨r0, ev_round hev (fun m hm => ?_), fun q => q⟩
    rw [spec_GoodReport.l1, if_neg (by omega)]
    exact hm
  | succ n ih =>
    intro i h
    obtain ⟨r, hr, hr2⟩ := ih (i + 1) (by omega)
    have hlt : (l.take j).length ≤ l.length := by rw [List.length_take]; omega
    have hw : wrap64 ((i : Int) + 1) = ((i + 1 : Nat) : Int) := by unfold wrap64; omega
    by_cases q : ((rd_T32 (l.take j) (i : Int)).f0).toList = x.f0.toList
    · refine ⟨false, ev_now (fun m => ?_), fun q => by cases q⟩
      rw [spec_GoodReport.l1, if_pos (by omega), if_pos (by omega), if_pos (by omega), if_pos q]
    · refine ⟨r, ev_round hr (fun m hm => ?_), hr2⟩
      rw [spec_GoodReport.l1, if_pos (by omega), if_pos (by omega), if_pos (by omega), if_neg q, hw]
      exact hm
theorem outer_loop (l : List S32) (hl : l.length ≤ 2147483647) (hs : ∀ s ∈ l, s.f0.size ≤ 2147483647 ∧ s.f1.size ≤ 2147483647) (n : Nat) : ∀ i, i + n = l.length → ∃ r, Ev (fun k => spec_GoodReport.l0 k l l (l.length : Int) (i : Int)) r ∧ (r = true → ∀ s ∈ l.drop i, Word s.f0 ∧ Word s.f1) := by
  induction n with
  | zero =>
    intro i h
    exact ⟨true, ev_now (fun m => by rw [spec_GoodReport.l0, if_neg (by omega)]), fun _ s hs => by rw [List.drop_eq_nil_of_le (by omega)] at hs; cases hs⟩
  | succ n ih =>
    intro i h
    obtain ⟨r, hev, hr⟩ := ih (i + 1) (by omega)
    have hi : i < l.length := by omega
    have hw : wrap64 ((i : Int) + 1) = ((i + 1 : Nat) : Int) := by unfold wrap64; omega
    obtain ⟨z0, z1⟩ := hs l[i] (List.getElem_mem hi)
    obtain ⟨r1, hev1, hr1⟩ := ref_f l[i].f0 z0
    obtain ⟨r2, hev2, hr2⟩ := word_f l[i].f1 z1
    have hnot : ∀ x, spec_GoodReport.j2 0 l x l x x true l[i].f0 l[i].f1 = none := fun _ => rfl
    have hstop : Ev (fun k => spec_GoodReport.j2 k l (i : Int) l (l.length : Int) (i : Int) true l[i].f0 l[i].f1) false := ev_now (fun m => by rw [spec_GoodReport.j2, if_pos rfl])
    cases r1 with
    | false =>
      refine ⟨false, ev_round2 (r := false) hstop hev1 (fun m h1 h2 => ?_), fun q => by cases q⟩
      rw [spec_GoodReport.l0, if_pos (by omega), if_pos (by omega), if_pos (by omega), rdT l i hi, h2]
      exact h1
    | true =>
      cases r2 with
      | false =>
        obtain ⟨K1, hK1⟩ := hev1
        refine ⟨false, ?_, fun q => by cases q⟩
        obtain ⟨K2, hK2⟩ := hev2
        obtain ⟨K3, hK3⟩ := hstop
        refine ⟨K1 + K2 + K3 + 1, fun k hk => ?_⟩
        obtain ⟨m, rfl⟩ : ∃ m, k = m + 1 := ⟨k - 1, by omega⟩
        show spec_GoodReport.l0 (m + 1) l l (l.length : Int) (i : Int) = _
        have e1 := hK1 m (by omega)
        have e2 := hK2 m (by omega)
        simp only at e1 e2
        rw [spec_GoodReport.l0, if_pos (by omega), if_pos (by omega), if_pos (by omega), rdT l i hi, e1]
        rw [Option.bind_some, if_pos rfl, e2]
        exact hK3 m (by omega)
      | true =>
        obtain ⟨r3, hev3, hr3⟩ := inner_loop l l[i] i (by omega) hl r (by rw [hw]; exact hev) (l.take i).length 0 (by omega)
        have hj2 : Ev (fun k => spec_GoodReport.j2 k l (i : Int) l (l.length : Int) (i : Int) false l[i].f0 l[i].f1) r3 := ev_round hev3 (fun m hm => by
          rw [spec_GoodReport.j2, if_neg (by decide), if_pos (by omega), if_pos (by omega)]
          show spec_GoodReport.l1 m l l (l.length : Int) (i : Int) (l.take ((i : Int).toNat)) ((l.take ((i : Int).toNat)).length : Int) 0 l[i].f0 l[i].f1 = _
          rw [Int.toNat_natCast]
          exact hm)
        obtain ⟨K1, hK1⟩ := hev1
        obtain ⟨K2, hK2⟩ := hev2
        obtain ⟨K3, hK3⟩ := hj2
        refine ⟨r3, ⟨K1 + K2 + K3 + 1, fun k hk => ?_⟩, fun q s hs => ?_⟩
        · obtain ⟨m, rfl⟩ : ∃ m, k = m + 1 := ⟨k - 1, by omega⟩
          show spec_GoodReport.l0 (m + 1) l l (l.length : Int) (i : Int) = _
          have e1 := hK1 m (by omega)
          have e2 := hK2 m (by omega)
          simp only at e1 e2
          rw [spec_GoodReport.l0, if_pos (by omega), if_pos (by omega), if_pos (by omega), rdT l i hi, e1]
          rw [Option.bind_some, if_pos rfl, e2]
          exact hK3 m (by omega)
        · rw [List.drop_eq_getElem_cons hi] at hs
          rcases List.mem_cons.1 hs with rfl | hs
          · exact ⟨hr1 rfl, hr2 rfl⟩
          · exact hr (hr3 q) s hs
theorem report_f (u : ByteArray) (l : List S32) (hu : u.size ≤ 2147483647) (hl : l.length ≤ 2147483647) (hs : ∀ s ∈ l, s.f0.size ≤ 2147483647 ∧ s.f1.size ≤ 2147483647) : ∃ r, Ev (fun k => spec_GoodReport.f k u l) r ∧ (r = true → Report u l) := by
  obtain ⟨r1, ⟨K1, hK1⟩, hr1⟩ := word_f u hu
  obtain ⟨r2, ⟨K2, hK2⟩, hr2⟩ := outer_loop l hl hs l.length 0 (by omega)
  have hf : ∀ k, spec_GoodReport.j0 (k + 1) l true = some false := fun k => by rw [spec_GoodReport.j0, if_pos rfl]
  cases r1 with
  | false =>
    refine ⟨false, ⟨K1 + 1, fun k hk => ?_⟩, fun q => by cases q⟩
    obtain ⟨m, rfl⟩ : ∃ m, k = m + 1 := ⟨k - 1, by omega⟩
    have e1 := hK1 (m + 1) (by omega)
    simp only at e1
    show spec_GoodReport.f (m + 1) u l = _
    unfold spec_GoodReport.f
    rw [e1]
    exact hf m
  | true =>
    by_cases q : (l.length : Int) > 30
    · refine ⟨false, ⟨K1 + 1, fun k hk => ?_⟩, fun q => by cases q⟩
      obtain ⟨m, rfl⟩ : ∃ m, k = m + 1 := ⟨k - 1, by omega⟩
      have e1 := hK1 (m + 1) (by omega)
      simp only at e1
      show spec_GoodReport.f (m + 1) u l = _
      unfold spec_GoodReport.f
      rw [e1]
      rw [Option.bind_some, if_pos rfl, decide_eq_true q]
      exact hf m
    · refine ⟨r2, ⟨K1 + K2 + 1, fun k hk => ?_⟩, fun z => ⟨hr1 rfl, by omega, by have := hr2 z; simpa using this⟩⟩
      obtain ⟨m, rfl⟩ : ∃ m, k = m + 1 := ⟨k - 1, by omega⟩
      have e1 := hK1 (m + 1) (by omega)
      simp only at e1
      show spec_GoodReport.f (m + 1) u l = _
      unfold spec_GoodReport.f
      rw [e1]
      rw [Option.bind_some, if_pos rfl, decide_eq_false q, spec_GoodReport.j0, if_neg (by decide)]
      exact hK2 m (by omega)
theorem fits_loop (l : List S32) (hl : l.length ≤ 2147483647) (n : Nat) : ∀ i, i + n = l.length → ∃ r, Ev (fun k => laws_zzFits38.l0 k l (l.length : Int) (i : Int)) r ∧ (r = true → ∀ s ∈ l.drop i, s.f0.size ≤ 2147483647 ∧ s.f1.size ≤ 2147483647) := by
  induction n with
  | zero =>
    intro i h
    exact ⟨true, ev_now (fun m => by rw [laws_zzFits38.l0, if_neg (by omega)]), fun _ s hs => by rw [List.drop_eq_nil_of_le (by omega)] at hs; cases hs⟩
  | succ n ih =>
    intro i h
    obtain ⟨r, hev, hr⟩ := ih (i + 1) (by omega)
    have hi : i < l.length := by omega
    have hw : wrap64 ((i : Int) + 1) = ((i + 1 : Nat) : Int) := by unfold wrap64; omega
    by_cases q : l[i].f0.size ≤ 2147483647 ∧ l[i].f1.size ≤ 2147483647
    · have e : laws_zzFits39.f l[i].f0 l[i].f1 = some true := by unfold laws_zzFits39.f; rw [if_neg (by omega), if_neg (by omega)]
      refine ⟨r, ev_round hev (fun m hm => ?_), fun z s hs => ?_⟩
      · rw [laws_zzFits38.l0, if_pos (by omega), if_pos (by omega), if_pos (by omega), rdT l i hi, e]
        rw [Option.bind_some, if_pos rfl, hw]
        exact hm
      · rw [List.drop_eq_getElem_cons hi] at hs
        rcases List.mem_cons.1 hs with rfl | hs
        · exact q
        · exact hr z s hs
    · have e : laws_zzFits39.f l[i].f0 l[i].f1 = some false := by
        unfold laws_zzFits39.f
        by_cases q1 : (l[i].f0.size : Int) > 2147483647
        · rw [if_pos q1]
        · rw [if_neg q1, if_pos (by omega)]
      refine ⟨false, ev_now (fun m => ?_), fun z => by cases z⟩
      rw [laws_zzFits38.l0, if_pos (by omega), if_pos (by omega), if_pos (by omega), rdT l i hi, e]
      rfl
theorem fits_f (l : List S32) : ∃ r, Ev (fun k => laws_zzFits38.f k l) r ∧ (r = true → l.length ≤ 2147483647 ∧ ∀ s ∈ l, s.f0.size ≤ 2147483647 ∧ s.f1.size ≤ 2147483647) := by
  by_cases h : (l.length : Int) > 2147483647
  · exact ⟨false, ⟨0, fun k _ => by show laws_zzFits38.f k l = _; unfold laws_zzFits38.f; rw [if_pos h]⟩, fun q => by cases q⟩
  · obtain ⟨r, ⟨K, hK⟩, hr⟩ := fits_loop l (by omega) l.length 0 (by omega)
    exact ⟨r, ⟨K, fun k hk => by show laws_zzFits38.f k l = _; unfold laws_zzFits38.f; rw [if_neg h]; exact hK k hk⟩, fun q => ⟨by omega, by have := hr q; simpa using this⟩⟩
theorem same_loop (l : List S32) (hl : l.length ≤ 2147483647) (n : Nat) : ∀ i, i + n = l.length → Ev (fun k => spec_SameReport.l0 k l l (l.length : Int) (i : Int)) true := by
  induction n with
  | zero =>
    intro i h
    exact ev_now (fun m => by rw [spec_SameReport.l0, if_neg (by omega)])
  | succ n ih =>
    intro i h
    have hw : wrap64 ((i : Int) + 1) = ((i + 1 : Nat) : Int) := by unfold wrap64; omega
    exact ev_round (ih (i + 1) (by omega)) (fun m hm => by
      rw [spec_SameReport.l0, if_pos (by omega), if_pos (by omega), if_pos (by omega), if_pos (by omega), if_neg (by simp), hw]
      exact hm)
theorem same_f (l : List S32) (hl : l.length ≤ 2147483647) : Ev (fun k => spec_SameReport.f k l l) true := by
  have := same_loop l hl l.length 0 (by omega)
  simpa [spec_SameReport.f] using this
#print axioms report_f
#print axioms fits_f
#print axioms same_f
end Go.Proofs.YtlkenmpbhchieaaDoor.PureR

set_option linter.unusedVariables false
set_option linter.unusedSimpArgs false
namespace Go.Proofs.YtlkenmpbhchieaaDoor.PureS
open Go.RowKit Go.Proofs.YtlkenmpbhchieaaDoorW.PrintWords Go.Proofs.YtlkenmpbhchieaaDoor.QAll Txt PureA HandC PureP PureQ PureR

abbrev blank : ByteArray := ⟨#[32]⟩
theorem blank_list : blank.toList = [32] := toList_lit _
theorem ext_one (s : ByteArray) (i : Nat) (c : UInt8) (h : s.toList[i]? = some c) : (s.extract i (i + 1)).toList = [c] := by
  rw [ext_mid, show i + 1 - i = 1 by omega]
  have hi := (List.getElem?_eq_some_iff.1 h).1
  rw [List.drop_eq_getElem_cons hi]
  have := (List.getElem?_eq_some_iff.1 h).2
  simp [this]
theorem split_full {n : Int} {out : List ByteArray} (hn : 1 ≤ n ∧ n ≤ 100) (x : ByteArray) (h31 : x.size ≤ 2147483647) (ho : n - 1 ≤ (out.length : Int)) (hol : out.length ≤ 100) : Ev (fun k => packp_zzSplitN.l0 k x blank n out 0) (out ++ [x]) := by
  have hw1 : wrap64 (n - 1) = n - 1 := by unfold wrap64; omega
  have hd : decide ((out.length : Int) < n - 1) = false := decide_eq_false (by omega)
  have hj : ∀ m, packp_zzSplitN.j1 (m + 1) x blank n out 0 false = some (out ++ [x]) := fun m => by rw [packp_zzSplitN.j1, if_neg (by decide), if_pos (by omega)]
  refine ⟨2, fun k hk => ?_⟩
  obtain ⟨m, rfl⟩ : ∃ m, k = m + 2 := ⟨k - 2, by omega⟩
  show packp_zzSplitN.l0 (m + 2) x blank n out 0 = _
  rw [packp_zzSplitN.l0, hw1, hd]
  split <;> exact hj m
theorem split_last {n : Int} {out : List ByteArray} (hn : 1 ≤ n ∧ n ≤ 100) (x : ByteArray) (h31 : x.size ≤ 2147483647) (hx : ∀ c ∈ x.toList, c ≠ 32) (ho : (out.length : Int) < n - 1) (d : Nat) : ∀ i, i + d = x.size → Ev (fun k => packp_zzSplitN.l0 k x blank n out (i : Int)) (out ++ [x]) := by
  have hw1 : wrap64 (n - 1) = n - 1 := by unfold wrap64; omega
  have hd : decide ((out.length : Int) < n - 1) = true := decide_eq_true (by omega)
  induction d with
  | zero =>
    intro i h
    have hwi : wrap64 ((i : Int) + (blank.size : Int)) = (i : Int) + 1 := by show wrap64 ((i : Int) + 1) = _; unfold wrap64; omega
    refine ⟨2, fun k hk => ?_⟩
    obtain ⟨m, rfl⟩ : ∃ m, k = m + 2 := ⟨k - 2, by omega⟩
    show packp_zzSplitN.l0 (m + 2) x blank n out (i : Int) = _
    rw [packp_zzSplitN.l0, hwi, if_neg (by omega), packp_zzSplitN.j1, if_neg (by decide), if_pos (by omega)]
  | succ d ih =>
    intro i h
    have hwi : wrap64 ((i : Int) + (blank.size : Int)) = ((i + 1 : Nat) : Int) := by show wrap64 ((i : Int) + 1) = _; unfold wrap64; omega
    have hwj : wrap64 ((i : Int) + 1) = ((i + 1 : Nat) : Int) := by unfold wrap64; omega
    have hi : i < x.toList.length := by rw [size_list]; omega
    have hne : ¬ (x.extract i (i + 1)).toList = blank.toList := by
      rw [ext_one x i x.toList[i] (List.getElem?_eq_getElem hi), blank_list]
      intro e
      injection e with e
      exact hx _ (List.getElem_mem hi) e
    obtain ⟨K, hK⟩ := ih (i + 1) (by omega)
    refine ⟨K + 2, fun k hk => ?_⟩
    obtain ⟨m, rfl⟩ : ∃ m, k = m + 2 := ⟨k - 2, by omega⟩
    show packp_zzSplitN.l0 (m + 2) x blank n out (i : Int) = _
    rw [packp_zzSplitN.l0, hwi, if_pos (by omega), hw1, hd, packp_zzSplitN.j1, if_pos rfl, hwi, if_pos (by omega), if_pos (by omega), if_pos (by omega), Int.toNat_natCast, Int.toNat_natCast, if_neg hne, hwj]
    exact hK m (by omega)
theorem split_step {n : Int} {out r : List ByteArray} (hn : 1 ≤ n ∧ n ≤ 100) (x : ByteArray) (a t : List UInt8) (h31 : x.size ≤ 2147483647) (hx : x.toList = a ++ 32 :: t) (ha : ∀ c ∈ a, c ≠ 32) (ho : (out.length : Int) < n - 1)
    (hev : ∀ y z : ByteArray, y.toList = a → z.toList = t → Ev (fun k => packp_zzSplitN.l0 k z blank n (out ++ [y]) 0) r) (d : Nat) : ∀ i, i + d = a.length → Ev (fun k => packp_zzSplitN.l0 k x blank n out (i : Int)) r := by
  have hw1 : wrap64 (n - 1) = n - 1 := by unfold wrap64; omega
  have hd : decide ((out.length : Int) < n - 1) = true := decide_eq_true (by omega)
  have hsz : x.size = a.length + 1 + t.length := by rw [← size_list, hx]; simp; omega
  induction d with
  | zero =>
    intro i h
    have hwi : wrap64 ((i : Int) + (blank.size : Int)) = ((i + 1 : Nat) : Int) := by show wrap64 ((i : Int) + 1) = _; unfold wrap64; omega
    have hi : x.toList[i]? = some 32 := by rw [hx, List.getElem?_append_right (by omega), show i - a.length = 0 by omega]; rfl
    have heq : (x.extract i (i + 1)).toList = blank.toList := by rw [ext_one x i 32 hi, blank_list]
    obtain ⟨K, hK⟩ := hev (x.extract 0 i) (x.extract (i + 1) x.size) (by rw [ext_to, hx, List.take_left' (by omega)]) (by rw [ext_from, hx, show i + 1 = a.length + 1 by omega, ← List.drop_drop, List.drop_left]; rfl)
    refine ⟨K + 2, fun k hk => ?_⟩
    obtain ⟨m, rfl⟩ : ∃ m, k = m + 2 := ⟨k - 2, by omega⟩
    show packp_zzSplitN.l0 (m + 2) x blank n out (i : Int) = _
    rw [packp_zzSplitN.l0, hwi, if_pos (by omega), hw1, hd, packp_zzSplitN.j1, if_pos rfl, hwi, if_pos (by omega), if_pos (by omega), if_pos (by omega), Int.toNat_natCast, Int.toNat_natCast, if_pos heq, if_pos (by omega), if_pos (by omega), if_pos (by omega)]
    exact hK m (by omega)
  | succ d ih =>
    intro i h
    have hwi : wrap64 ((i : Int) + (blank.size : Int)) = ((i + 1 : Nat) : Int) := by show wrap64 ((i : Int) + 1) = _; unfold wrap64; omega
    have hwj : wrap64 ((i : Int) + 1) = ((i + 1 : Nat) : Int) := by unfold wrap64; omega
    have hil : i < a.length := by omega
    have hne : ¬ (x.extract i (i + 1)).toList = blank.toList := by
      rw [ext_one x i a[i] (by rw [hx, List.getElem?_append_left hil, List.getElem?_eq_getElem hil]), blank_list]
      intro e
      injection e with e
      exact ha _ (List.getElem_mem hil) e
    obtain ⟨K, hK⟩ := ih (i + 1) (by omega)
    refine ⟨K + 2, fun k hk => ?_⟩
    obtain ⟨m, rfl⟩ : ∃ m, k = m + 2 := ⟨k - 2, by omega⟩
    show packp_zzSplitN.l0 (m + 2) x blank n out (i : Int) = _
    rw [packp_zzSplitN.l0, hwi, if_pos (by omega), hw1, hd, packp_zzSplitN.j1, if_pos rfl, hwi, if_pos (by omega), if_pos (by omega), if_pos (by omega), Int.toNat_natCast, Int.toNat_natCast, if_neg hne, hwj]
    exact hK m (by omega)
theorem no_blank {s : ByteArray} (h : Word s) : ∀ c ∈ s.toList, c ≠ 32 := fun c hc => (h.ch c hc).1
/-- Two words with a blank between them. -/
theorem split_two (n : Int) (hn : n = 2 ∨ n = 3) (x a b : ByteArray) (h31 : x.size ≤ 2147483647) (hx : x.toList = a.toList ++ 32 :: b.toList) (ha : ∀ c ∈ a.toList, c ≠ 32) (hb : ∀ c ∈ b.toList, c ≠ 32) : Ev (fun k => packp_zzSplitN.f k x blank n) [a, b] := by
  have hbs : b.size ≤ 2147483647 := by
    have := congrArg List.length hx
    rw [size_list, List.length_append, List.length_cons, size_list, size_list] at this
    omega
  refine split_step (n := n) (by omega) x a.toList b.toList h31 hx ha (by simp; omega) (fun y z hy hz => ?_) a.toList.length 0 (by omega)
  obtain rfl := ba_ext hy
  obtain rfl := ba_ext hz
  rcases hn with rfl | rfl
  · exact split_full (by omega) z hbs (by simp) (by simp)
  · exact split_last (out := [y]) (n := 3) (by omega) z hbs hb (by simp) z.size 0 (by omega)
/-- Three words with blanks between them. -/
theorem split_three (x a b d : ByteArray) (h31 : x.size ≤ 2147483647) (hx : x.toList = a.toList ++ 32 :: (b.toList ++ 32 :: d.toList)) (ha : ∀ c ∈ a.toList, c ≠ 32) (hb : ∀ c ∈ b.toList, c ≠ 32) : Ev (fun k => packp_zzSplitN.f k x blank 3) [a, b, d] := by
  have hl := congrArg List.length hx
  rw [size_list, List.length_append, List.length_cons, List.length_append, List.length_cons, size_list, size_list, size_list] at hl
  refine split_step (n := 3) (by omega) x a.toList _ h31 hx ha (by simp) (fun y z hy hz => ?_) a.toList.length 0 (by omega)
  obtain rfl := ba_ext hy
  have hzl := congrArg List.length hz
  rw [size_list, List.length_append, List.length_cons, size_list, size_list] at hzl
  refine split_step (n := 3) (by omega) z b.toList d.toList (by omega) hz hb (by simp) (fun y2 z2 hy2 hz2 => ?_) b.toList.length 0 (by omega)
  obtain rfl := ba_ext hy2
  obtain rfl := ba_ext hz2
  exact split_full (n := 3) (out := [y, y2]) (by omega) z2 (by omega) (by simp) (by simp)
/-! ### the lines -/
abbrev wUnpack : ByteArray := ⟨#[117, 110, 112, 97, 99, 107]⟩
abbrev wOk : ByteArray := ⟨#[111, 107]⟩
abbrev wNg : ByteArray := ⟨#[110, 103]⟩
def first (u : ByteArray) : ByteArray := ((⟨#[117, 110, 112, 97, 99, 107, 32]⟩ : ByteArray) ++ u) ++ (⟨#[10]⟩ : ByteArray)
def ngLine (s : S32) : ByteArray := ((((⟨#[110, 103, 32]⟩ : ByteArray) ++ s.f0) ++ (⟨#[32]⟩ : ByteArray)) ++ s.f1) ++ (⟨#[10]⟩ : ByteArray)
def okLine (s : S32) : ByteArray := ((⟨#[111, 107, 32]⟩ : ByteArray) ++ s.f0) ++ (⟨#[10]⟩ : ByteArray)
noncomputable def cmd (s : S32) : ByteArray := if s.f1.toList = [111, 107] then okLine s else ngLine s
theorem first_list (u : ByteArray) : (first u).toList = (wUnpack.toList ++ 32 :: u.toList) ++ [10] := by
  unfold first
  rw [toList_append, toList_append, toList_lit #[117, 110, 112, 97, 99, 107, 32], toList_lit #[10], toList_lit #[117, 110, 112, 97, 99, 107]]
  rfl
theorem ok_list (s : S32) : (okLine s).toList = (wOk.toList ++ 32 :: s.f0.toList) ++ [10] := by
  unfold okLine
  rw [toList_append, toList_append, toList_lit #[111, 107, 32], toList_lit #[10], toList_lit #[111, 107]]
  rfl
theorem ng_list (s : S32) : (ngLine s).toList = (wNg.toList ++ 32 :: (s.f0.toList ++ 32 :: s.f1.toList)) ++ [10] := by
  unfold ngLine
  rw [toList_append, toList_append, toList_append, toList_append, toList_lit #[110, 103, 32], toList_lit #[10], toList_lit #[32], toList_lit #[110, 103]]
  simp
theorem bytesOf_list (s : ByteArray) : bytesOf s = s.toList.map fun b => (b.toNat : Int) := by unfold bytesOf; rw [Lib.toList_data]
theorem str_bytes (l : List UInt8) : (strOfNums (l.map fun b => (b.toNat : Int))).toList = l := by
  rw [Lib.toList_data, strOfNums_data, List.map_map]
  conv => rhs; rw [← List.map_id l]
  apply List.map_congr_left
  intro a _
  simp
/-- A line less its newline. -/
theorem trimmed (s : ByteArray) (b : List UInt8) (h : s.toList = b ++ [10]) : (strOfNums ((bytesOf s).take b.length)).toList = b ∧ (bytesOf s).length = b.length + 1 ∧ (bytesOf s).drop b.length = [10] := by
  rw [bytesOf_list, h, List.map_append]
  refine ⟨?_, by simp, ?_⟩
  · rw [List.take_left' (by simp), str_bytes]
  · rw [List.drop_left' (by simp)]; rfl
/-- A line that the Scanner takes. -/
theorem good_line (s : ByteArray) (c : UInt8) (t : List UInt8) (h : s.toList = c :: t) (hc : c ≠ 69) (hl : s.size ≤ 65516) : PureP.Good (bytesOf s) := by
  refine ⟨by rw [bytesOf_length]; exact hl, fun e => ?_⟩
  rw [bytesOf_list, h] at e
  have e2 : (strOfNums (((c :: t).map fun b => (b.toNat : Int)).take 4)).toList = (c :: t).take 4 := by
    rw [← List.map_take, str_bytes]
  rw [e2] at e
  have e3 : (strOfNums [69, 82, 82, 32]).toList = ([69, 82, 82, 32] : List UInt8) := by decide +kernel
  rw [e3] at e
  rw [List.take_succ_cons] at e
  injection e with e
  exact hc e
noncomputable def payloads (u : ByteArray) (l : List S32) : List (List Int) := bytesOf (first u) :: (l.map fun s => bytesOf (cmd s)) ++ [[]]
theorem len_first {u : ByteArray} (h : Word u) : (first u).size = u.size + 8 := by
  rw [← size_list, first_list, toList_lit #[117, 110, 112, 97, 99, 107]]; simp [size_list]
theorem len_cmd {s : S32} (h0 : Word s.f0) (h1 : Word s.f1) : (cmd s).size ≤ 200 := by
  unfold cmd
  split
  · rw [← size_list, ok_list, toList_lit #[111, 107]]; have := h0.len; simp [size_list]; omega
  · rw [← size_list, ng_list, toList_lit #[110, 103]]; have := h0.len; have := h1.len; simp [size_list]; omega
theorem good_all {u : ByteArray} {l : List S32} (h : Report u l) : ∀ p ∈ payloads u l, PureP.Good p := by
  intro p hp
  unfold payloads at hp
  rw [List.mem_append, List.mem_cons] at hp
  rcases hp with (rfl | hp) | hp
  · exact good_line _ 117 _ (by rw [first_list, toList_lit #[117, 110, 112, 97, 99, 107]]; rfl) (by decide) (by rw [len_first h.u]; have := h.u.len; omega)
  · obtain ⟨s, hs, rfl⟩ := List.mem_map.1 hp
    have hc := len_cmd (h.w s hs).1 (h.w s hs).2
    by_cases q : s.f1.toList = [111, 107]
    · have e : cmd s = okLine s := by unfold cmd; rw [if_pos q]
      exact good_line _ 111 _ (by rw [e, ok_list, toList_lit #[111, 107]]; rfl) (by decide) (by omega)
    · have e : cmd s = ngLine s := by unfold cmd; rw [if_neg q]
      exact good_line _ 110 _ (by rw [e, ng_list, toList_lit #[110, 103]]; rfl) (by decide) (by omega)
  · rw [List.mem_singleton.1 hp]
    exact ⟨by simp, by decide +kernel⟩
#print axioms split_two
#print axioms split_three
#print axioms good_all
end Go.Proofs.YtlkenmpbhchieaaDoor.PureS
