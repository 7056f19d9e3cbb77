/- FnTreeSort, plain: sizes, the specification's order, the comparison. -/
import Derived.Test.YthjgfdjihlciaaaDoorQAllx
import Derived.Test.YthjgfdjihlciaaaDoorTxt
import Derived.Test.YthjgfdjihlciaaaDoorSrtM
set_option linter.unusedVariables false
set_option linter.unusedSimpArgs false
namespace Go.Proofs.YthjgfdjihlciaaaDoor.PureS
open Go.RowKit Go.Proofs.YthjgfdjihlciaaaDoorW.PrintWords Go.Proofs.YthjgfdjihlciaaaDoorW.PrintLast Go.Proofs.YthjgfdjihlciaaaDoorW.PrintMore Go.Proofs.YthjgfdjihlciaaaDoor.QAll Txt SrtK SrtL SrtM

theorem fits_loop (l : List S28) (hl : l.length ≤ 2147483647) (n : Nat) : ∀ i, i + n = l.length → ∃ r, Ev (fun k => laws_zzFits20.l0 k l (l.length : Int) (i : Int)) r ∧ (r = true → ∀ s ∈ l.drop i, s.f0.size ≤ 2147483647 ∧ s.f2.size ≤ 2147483647) := by
  induction n with
  | zero =>
    intro i h
    refine ⟨true, ev_now (fun m => by rw [laws_zzFits20.l0, if_neg (by omega)]), fun _ s hs => ?_⟩
    rw [List.drop_eq_nil_of_le (by omega)] at hs
    cases hs
  | succ n ih =>
    intro i h
    have hi : i < l.length := by omega
    have hw : wrap64 ((i : Int) + 1) = ((i + 1 : Nat) : Int) := by unfold wrap64; omega
    obtain ⟨r, hr, hr2⟩ := ih (i + 1) (by omega)
    by_cases q : l[i].f0.size ≤ 2147483647 ∧ l[i].f2.size ≤ 2147483647
    · have e : laws_zzFits21.f l[i].f0 l[i].f1 l[i].f2 = some true := by
        unfold laws_zzFits21.f
        rw [if_neg (by omega), if_neg (by omega)]
      refine ⟨r, ev_round hr (fun m hm => ?_), fun hq s hs => ?_⟩
      · rw [laws_zzFits20.l0, if_pos (by omega), if_pos (by omega), if_pos (by omega), rdT28 l i hi, e, hw]
        simpa using hm
      · rw [List.drop_eq_getElem_cons hi, List.mem_cons] at hs
        rcases hs with rfl | hs
        · exact q
        · exact hr2 hq s hs
    · have e : laws_zzFits21.f l[i].f0 l[i].f1 l[i].f2 = some false := by
        unfold laws_zzFits21.f
        by_cases q1 : l[i].f0.size ≤ 2147483647
        · rw [if_neg (by omega), if_pos (by omega)]
        · rw [if_pos (by omega)]
      refine ⟨false, ev_now (fun m => ?_), fun z => by cases z⟩
      rw [laws_zzFits20.l0, if_pos (by omega), if_pos (by omega), if_pos (by omega), rdT28 l i hi, e]
      simp
theorem fits_f (l : List S28) : ∃ r, Ev (fun k => laws_zzFits20.f k l) r ∧ (r = true → ∀ s ∈ l, s.f0.size ≤ 2147483647 ∧ s.f2.size ≤ 2147483647) := by
  by_cases h : (l.length : Int) > 2147483647
  · exact ⟨false, ⟨0, fun k _ => by show laws_zzFits20.f k l = _; unfold laws_zzFits20.f; rw [if_pos h]⟩, fun q => by cases q⟩
  · obtain ⟨r, ⟨K, hK⟩, hr⟩ := fits_loop l (by omega) l.length 0 (by omega)
    exact ⟨r, ⟨K, fun k hk => by show laws_zzFits20.f k l = _; unfold laws_zzFits20.f; rw [if_neg h]; exact hK k hk⟩, fun q => by have := hr q; simpa using this⟩
/-- The name for the order. -/
def keyS (s : S28) : ByteArray := if s.f1 = 16384 then s.f0 ++ (⟨#[47]⟩ : ByteArray) else s.f0
theorem key_eq (s : S28) : keyT (teOf s) = keyS s := rfl
theorem sortName_f {s : S28} (h : s.f0.size ≤ 2147483647) : spec_sortName.f s.f0 s.f1 s.f2 = some (keyS s) := by
  unfold spec_sortName.f keyS
  split
  · rw [if_pos (by omega)]
  · rfl
theorem ins_loop (l out : List S28) (e : S28) (x9 x10 : Int) (P : List S28 → Prop) (ho : out.length ≤ 1000) (hs : ∀ s ∈ out, s.f0.size ≤ 2147483647) (he : e.f0.size ≤ 2147483647)
    (H : ∀ j, j ≤ out.length → ∃ r, Ev (fun k => spec_TreeInOrder.l0 k (([] ++ out.take j) ++ [e] ++ out.drop j) l x9 (wrap64 (x10 + 1))) r ∧ P r) :
    ∀ i, i ≤ out.length → ∃ r, Ev (fun k => spec_TreeInOrder.l1 k out (i : Int) l x9 x10 e.f0 e.f1 e.f2) r ∧ P r := by
  have tl : ∀ i, i ≤ out.length → (([] : List S28).length + (out.take i).length < 3518437208883 ∧ ([] ++ out.take i).length < 3518437208883 ∧ (([] ++ out.take i) ++ [e]).length + (out.drop i).length < 3518437208883) := fun i hi => by
    simp only [List.nil_append, List.length_nil, List.length_append, List.length_take, List.length_drop, List.length_cons]
    omega
  intro i
  induction i with
  | zero =>
    intro hi
    obtain ⟨r, hr, hp⟩ := H 0 hi
    obtain ⟨t1, t2, t3⟩ := tl 0 hi
    refine ⟨r, ev_round hr (fun m hm => ?_), hp⟩
    rw [spec_TreeInOrder.l1, if_neg (by omega)]
    simp only [Option.bind_some, Int.toNat_natCast]
    rw [if_pos (by omega), if_pos (by omega), if_pos t1, if_pos t2, if_pos t3]
    exact hm
  | succ i ih =>
    intro hi
    have hw : wrap64 (((i + 1 : Nat) : Int) - 1) = (i : Int) := by unfold wrap64; omega
    have hil : i < out.length := by omega
    by_cases q : Op.bytesLess (keyS e).toList (keyS out[i]).toList = true
    · obtain ⟨r, hr, hp⟩ := ih (by omega)
      refine ⟨r, ev_round hr (fun m hm => ?_), hp⟩
      rw [spec_TreeInOrder.l1, if_pos (by omega), sortName_f he, Option.bind_some, hw, if_pos (by omega), if_pos (by omega), rdT28 out i hil, sortName_f (hs _ (List.getElem_mem hil)), Option.bind_some, if_pos q]
      exact hm
    · obtain ⟨r, hr, hp⟩ := H (i + 1) hi
      obtain ⟨t1, t2, t3⟩ := tl (i + 1) hi
      refine ⟨r, ev_round hr (fun m hm => ?_), hp⟩
      rw [spec_TreeInOrder.l1, if_pos (by omega), sortName_f he, Option.bind_some, hw, if_pos (by omega), if_pos (by omega), rdT28 out i hil, sortName_f (hs _ (List.getElem_mem hil)), Option.bind_some, if_neg q]
      simp only [Option.bind_some, Int.toNat_natCast]
      rw [if_pos (by omega), if_pos (by omega), if_pos t1, if_pos t2, if_pos t3]
      exact hm
theorem order_loop (l : List S28) (hl : l.length ≤ 1000) (hs : ∀ s ∈ l, s.f0.size ≤ 2147483647) (n : Nat) : ∀ (i : Nat) (out : List S28), i + n = l.length → out.length = i → (∀ s ∈ out, s.f0.size ≤ 2147483647) → ∃ r, Ev (fun k => spec_TreeInOrder.l0 k out l (l.length : Int) (i : Int)) r ∧ r.Perm (out ++ l.drop i) := by
  induction n with
  | zero =>
    intro i out h ho hso
    refine ⟨out, ev_now (fun m => by rw [spec_TreeInOrder.l0, if_neg (by omega)]), ?_⟩
    rw [List.drop_eq_nil_of_le (by omega), List.append_nil]
  | succ n ih =>
    intro i out h ho hso
    have hi : i < l.length := by omega
    have hw : wrap64 ((i : Int) + 1) = ((i + 1 : Nat) : Int) := by unfold wrap64; omega
    have hpm : ∀ j, j ≤ out.length → (([] ++ out.take j) ++ [l[i]] ++ out.drop j).Perm (out ++ [l[i]]) := fun j hj => by
      rw [List.nil_append, List.append_assoc]
      refine (List.Perm.append_left (out.take j) (List.perm_append_comm)).trans ?_
      rw [← List.append_assoc, List.take_append_drop]
    obtain ⟨r, hr, hp⟩ := ins_loop l out l[i] (l.length : Int) (i : Int) (fun r => r.Perm (out ++ l.drop i)) (by omega) hso (hs _ (List.getElem_mem hi)) (fun j hj => by
      obtain ⟨r, hr, hp⟩ := ih (i + 1) (([] ++ out.take j) ++ [l[i]] ++ out.drop j) (by omega) (by rw [(hpm j hj).length_eq, List.length_append, ho]; rfl) (fun s hs2 => by
        rcases List.mem_append.1 ((hpm j hj).mem_iff.1 hs2) with h2 | h2
        · exact hso s h2
        · rw [List.mem_singleton.1 h2]
          exact hs _ (List.getElem_mem hi))
      refine ⟨r, by rw [hw]; exact hr, hp.trans ?_⟩
      refine ((hpm j hj).append_right _).trans ?_
      rw [List.append_assoc, List.drop_eq_getElem_cons hi]
      exact List.Perm.refl _) out.length (Nat.le_refl _)
    refine ⟨r, ev_round hr (fun m hm => ?_), hp⟩
    rw [spec_TreeInOrder.l0, if_pos (by omega), if_pos (by omega), if_pos (by omega), rdT28 l i hi]
    exact hm
theorem order_f (l : List S28) (hl : l.length ≤ 1000) (hs : ∀ s ∈ l, s.f0.size ≤ 2147483647) : ∃ r, Ev (fun k => spec_TreeInOrder.f k l) r ∧ r.Perm l := by
  obtain ⟨r, hr, hp⟩ := order_loop l hl hs l.length 0 [] (by omega) rfl (fun s hs => by cases hs)
  exact ⟨r, hr, by simpa using hp⟩
theorem same_loop (l : List S28) (hl : l.length ≤ 2147483647) (n : Nat) : ∀ i, i + n = l.length → Ev (fun k => spec_SameEntries.l0 k l l (l.length : Int) (i : Int)) true := by
  induction n with
  | zero =>
    intro i h
    exact ev_now (fun m => by rw [spec_SameEntries.l0, if_neg (by omega)])
  | succ n ih =>
    intro i h
    have hw : wrap64 ((i : Int) + 1) = ((i + 1 : Nat) : Int) := by unfold wrap64; omega
    exact ev_round (ih (i + 1) (by omega)) (fun m hm => by
      rw [spec_SameEntries.l0, if_pos (by omega), if_pos (by omega), if_pos (by omega), if_pos (by omega), if_neg (by simp), hw]
      exact hm)
theorem same_f (l : List S28) (hl : l.length ≤ 2147483647) : Ev (fun k => spec_SameEntries.f k l l) true := by
  have := same_loop l hl l.length 0 (by omega)
  simpa [spec_SameEntries.f] using this
#print axioms fits_f
#print axioms order_f
#print axioms same_f
end Go.Proofs.YthjgfdjihlciaaaDoor.PureS
