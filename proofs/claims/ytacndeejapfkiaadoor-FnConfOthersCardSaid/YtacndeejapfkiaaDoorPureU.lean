/- What a change of one option leaves as it was. -/
import Derived.Test.YtacndeejapfkiaaDoorHandR
import Derived.Test.YtacndeejapfkiaaDoorHandH
set_option linter.unusedVariables false
set_option linter.unusedSimpArgs false
namespace Go.Proofs.YtacndeejapfkiaaDoor.PureU
open Go.RowKit Go.Proofs.YtacndeejapfkiaaDoor.QAll Txt HandA HandB HandC HandE HandF HandH HandN HandO HandP HandQ HandR

/-- What a change of options does to the options of other names. -/
structure Mild (f : List S42 → List S42) (key : ByteArray) : Prop where
  n : ∀ os, (f os).length ≤ os.length + 1
  w : ∀ os, Word key → (∀ o ∈ os, Word o.f0) → ∀ o ∈ f os, Word o.f0
  v : ∀ os u, u ≠ key → vals (f os) u = vals os u
theorem mild_add (key val : ByteArray) : Mild (fun os => addOpts os key val) key := by
  refine ⟨fun os => by unfold addOpts; simp, fun os hk h o ho => ?_, fun os u hu => ?_⟩
  · rcases List.mem_append.1 ho with ho | ho
    · exact h o ho
    · rw [List.mem_singleton.1 ho]
      exact hk
  · show vals (os ++ [⟨key, val⟩]) u = _
    rw [vals_append, vals_one, if_neg (fun e => hu e.symm), List.append_nil]
theorem vals_keep (os : List S42) (key val u : ByteArray) (hu : u ≠ key) : vals (keep os key val) u = vals os u := by
  unfold vals keep
  rw [List.filter_filter]
  congr 1
  apply List.filter_congr
  intro o _
  by_cases h : o.f0 = u
  · have : o.f0 ≠ key := fun e => hu (h.symm.trans e)
    simp [h, this, hu]
  · simp [h]
theorem mild_set (key val : ByteArray) : Mild (fun os => setOpts os key val) key := by
  refine ⟨fun os => ?_, fun os hk h o ho => ?_, fun os u hu => ?_⟩
  · show (setOpts os key val).length ≤ _
    unfold setOpts
    have := keep_len os key val
    split
    · simp; omega
    · simp; omega
  · have ho : o ∈ setOpts os key val := ho
    unfold setOpts at ho
    rcases List.mem_append.1 ho with ho | ho
    · exact h o (List.mem_filter.1 ho).1
    · split at ho
      · cases ho
      · rw [List.mem_singleton.1 ho]
        exact hk
  · show vals (setOpts os key val) u = _
    unfold setOpts
    rw [vals_append, vals_keep os key val u hu]
    split
    · rw [vals_nil, List.append_nil]
    · rw [vals_one, if_neg (fun e => hu e.symm), List.append_nil]

theorem mem_set {α : Type} {l : List α} {i : Nat} {x y : α} (h : y ∈ l.set i x) : y ∈ l ∨ y = x := by
  rcases List.mem_or_eq_of_mem_set h with h | h
  · exact Or.inl h
  · exact Or.inr h
theorem secAt_mem {l : List S36} {u : ByteArray} {l1 : List S36} {i : Nat} {x y : S36} (h : SecAt l u l1 i x) (hy : y ∈ l1) : y ∈ l ∨ y = x := by
  obtain ⟨_, _, rfl | ⟨_, rfl, _, _⟩⟩ := h
  · exact Or.inl hy
  · rcases List.mem_append.1 hy with hy | hy
    · exact Or.inl hy
    · exact Or.inr (List.mem_singleton.1 hy)
theorem partAt_mem {l : List S46} {u : ByteArray} {l1 : List S46} {i : Nat} {x y : S46} (h : PartAt l u l1 i x) (hy : y ∈ l1) : y ∈ l ∨ y = x := by
  obtain ⟨_, _, rfl | ⟨_, rfl, _, _⟩⟩ := h
  · exact Or.inl hy
  · rcases List.mem_append.1 hy with hy | hy
    · exact Or.inl hy
    · exact Or.inr (List.mem_singleton.1 hy)
theorem secAt_x {l : List S36} {u : ByteArray} {l1 : List S36} {i : Nat} {x : S36} (h : SecAt l u l1 i x) : x ∈ l ∨ x = ⟨u, [], []⟩ := by
  obtain ⟨h1, _, rfl | ⟨rfl, _, _, _⟩⟩ := h
  · exact Or.inl (List.mem_of_getElem? h1)
  · exact Or.inr rfl
theorem partAt_x {l : List S46} {u : ByteArray} {l1 : List S46} {i : Nat} {x : S46} (h : PartAt l u l1 i x) : x ∈ l ∨ x = ⟨u, []⟩ := by
  obtain ⟨h1, _, rfl | ⟨rfl, _, _, _⟩⟩ := h
  · exact Or.inl (List.mem_of_getElem? h1)
  · exact Or.inr rfl
theorem partAt_len {l : List S46} {u : ByteArray} {l1 : List S46} {i : Nat} {x : S46} (h : PartAt l u l1 i x) : l1.length ≤ l.length + 1 := by
  obtain ⟨_, _, rfl | ⟨_, rfl, _, _⟩⟩ := h
  · omega
  · simp
theorem upd_sized {l : List S36} {sec sub key : ByteArray} {f : List S42 → List S42} {l2 : List S36} (h : Upd l sec sub f l2) (hf : Mild f key) (hz : Tight l) : Sized l2 := by
  obtain ⟨l1, i, x, x', hat, rfl, hx⟩ := h
  have hxo : x.f1.length ≤ 1000 := by
    rcases secAt_x hat with h | rfl
    · exact hz.o x h
    · exact Nat.zero_le _
  have hxb : x.f2.length ≤ 3518437208780 := by
    rcases secAt_x hat with h | rfl
    · exact hz.b x h
    · exact Nat.zero_le _
  have hxp : ∀ q ∈ x.f2, q.f1.length ≤ 1000 := by
    rcases secAt_x hat with h | rfl
    · exact hz.p x h
    · intro q hq; cases hq
  have hnew : x'.f1.length ≤ 1001 ∧ x'.f2.length ≤ 3518437208790 ∧ ∀ q ∈ x'.f2, q.f1.length ≤ 1001 := by
    rcases hx with ⟨_, rfl⟩ | ⟨_, ps, j, p, hpa, rfl⟩
    · exact ⟨Nat.le_trans (hf.n _) (by omega), by show x.f2.length ≤ _; omega, fun q hq => Nat.le_trans (hxp q hq) (by omega)⟩
    · refine ⟨by show x.f1.length ≤ _; omega, ?_, fun q hq => ?_⟩
      · show (ps.set j _).length ≤ _
        rw [List.length_set]
        have := partAt_len hpa
        omega
      · have hpl : p.f1.length ≤ 1000 := by
          rcases partAt_x hpa with h | rfl
          · exact hxp p h
          · exact Nat.zero_le _
        rcases mem_set hq with hq | rfl
        · rcases partAt_mem hpa hq with hq | rfl
          · exact Nat.le_trans (hxp q hq) (by omega)
          · omega
        · exact Nat.le_trans (hf.n _) (by omega)
  have hall : ∀ y ∈ l1.set i x', (y.f1.length ≤ 1001 ∧ y.f2.length ≤ 3518437208790 ∧ ∀ q ∈ y.f2, q.f1.length ≤ 1001) := by
    intro y hy
    rcases mem_set hy with hy | rfl
    · rcases secAt_mem hat hy with hy | rfl
      · exact ⟨Nat.le_trans (hz.o y hy) (by omega), Nat.le_trans (hz.b y hy) (by omega), fun q hq => Nat.le_trans (hz.p y hy q hq) (by omega)⟩
      · exact ⟨by omega, by omega, fun q hq => Nat.le_trans (hxp q hq) (by omega)⟩
    · exact hnew
  refine ⟨?_, fun y hy => (hall y hy).1, fun y hy => (hall y hy).2.1, fun y hy => (hall y hy).2.2⟩
  rw [List.length_set]
  have := hz.n
  obtain ⟨_, _, rfl | ⟨_, rfl, _, _⟩⟩ := hat
  · omega
  · simp; omega
theorem upd_named {l : List S36} {sec sub key : ByteArray} {f : List S42 → List S42} {l2 : List S36} (h : Upd l sec sub f l2) (hf : Mild f key) (hn : Named l) (hs : Word sec) (hk : Word key) : Named l2 := by
  obtain ⟨l1, i, x, x', hat, rfl, hx⟩ := h
  have hx0 : Word x.f0 ∧ (∀ o ∈ x.f1, Word o.f0) ∧ ∀ p ∈ x.f2, ∀ o ∈ p.f1, Word o.f0 := by
    rcases secAt_x hat with h | rfl
    · exact ⟨hn.s x h, hn.o x h, hn.b x h⟩
    · exact ⟨hs, fun o ho => (by cases ho), fun p hp => (by cases hp)⟩
  have hnew : Word x'.f0 ∧ (∀ o ∈ x'.f1, Word o.f0) ∧ ∀ p ∈ x'.f2, ∀ o ∈ p.f1, Word o.f0 := by
    rcases hx with ⟨_, rfl⟩ | ⟨_, ps, j, p, hpa, rfl⟩
    · exact ⟨hx0.1, hf.w _ hk hx0.2.1, hx0.2.2⟩
    · refine ⟨hx0.1, hx0.2.1, fun q hq => ?_⟩
      have hpw : ∀ o ∈ p.f1, Word o.f0 := by
        rcases partAt_x hpa with h | rfl
        · exact hx0.2.2 p h
        · intro o ho; cases ho
      rcases mem_set hq with hq | rfl
      · rcases partAt_mem hpa hq with hq | rfl
        · exact hx0.2.2 q hq
        · exact hpw
      · exact hf.w _ hk hpw
  have hall : ∀ y ∈ l1.set i x', (Word y.f0 ∧ (∀ o ∈ y.f1, Word o.f0) ∧ ∀ p ∈ y.f2, ∀ o ∈ p.f1, Word o.f0) := by
    intro y hy
    rcases mem_set hy with hy | rfl
    · rcases secAt_mem hat hy with hy | rfl
      · exact ⟨hn.s y hy, hn.o y hy, hn.b y hy⟩
      · exact hx0
    · exact hnew
  exact ⟨fun y hy => (hall y hy).1, fun y hy => (hall y hy).2.1, fun y hy => (hall y hy).2.2⟩

/-! ### the options of a section or part, after the change -/
theorem opt_mk {l : List S36} {u part : ByteArray} {x : S36} {os : List S42} (hx : SecIs l u u x) (h : (part.toList = [] ∧ os = x.f1) ∨ (part.toList ≠ [] ∧ ∃ p, SubIs x.f2 part p ∧ os = p.f1)) : OptIs l u u part os := ⟨x, hx, h⟩
theorem secIs_at {l : List S36} {u : ByteArray} {l1 : List S36} {i : Nat} {x : S36} (h : SecAt l u l1 i x) : SecIs l u u x := by
  obtain ⟨h1, h2, rfl | ⟨rfl, _, _, h3⟩⟩ := h
  · exact Or.inl ⟨i, h1, h2⟩
  · exact Or.inr ⟨rfl, h3⟩
theorem subIs_at {l : List S46} {u : ByteArray} {l1 : List S46} {i : Nat} {x : S46} (h : PartAt l u l1 i x) : SubIs l u x := by
  obtain ⟨h1, h2, rfl | ⟨rfl, _, _, h3⟩⟩ := h
  · exact Or.inl ⟨i, h1, h2⟩
  · exact Or.inr ⟨rfl, h3⟩
/-- Each name of l is one of the changed list. -/
theorem name_kept {l : List S36} {sec : ByteArray} {l1 : List S36} {i : Nat} {x x' : S36} (h : SecAt l sec l1 i x) (hn : x'.f0 = x.f0) {y : S36} (hy : y ∈ l) : ∃ z ∈ l1.set i x', z.f0 = y.f0 := by
  have hy1 : y ∈ l1 := by
    obtain ⟨_, _, rfl | ⟨_, rfl, _, _⟩⟩ := h
    · exact hy
    · exact List.mem_append_left _ hy
  obtain ⟨j, hj⟩ := List.getElem?_of_mem hy1
  have hjl := (List.getElem?_eq_some_iff.1 hj).1
  rcases Nat.decEq i j with hne | rfl
  · exact ⟨y, List.mem_of_getElem? (i := j) (by rw [List.getElem?_set_ne hne]; exact hj), rfl⟩
  · refine ⟨x', List.mem_of_getElem? (i := i) (by rw [List.getElem?_set_self hjl]), ?_⟩
    have : x = y := Option.some.inj (h.1.symm.trans hj)
    rw [hn, this]
theorem part_kept {l : List S46} {sub : ByteArray} {l1 : List S46} {i : Nat} {x x' : S46} (h : PartAt l sub l1 i x) (hn : x'.f0 = x.f0) {y : S46} (hy : y ∈ l) : ∃ z ∈ l1.set i x', z.f0 = y.f0 := by
  have hy1 : y ∈ l1 := by
    obtain ⟨_, _, rfl | ⟨_, rfl, _, _⟩⟩ := h
    · exact hy
    · exact List.mem_append_left _ hy
  obtain ⟨j, hj⟩ := List.getElem?_of_mem hy1
  have hjl := (List.getElem?_eq_some_iff.1 hj).1
  rcases Nat.decEq i j with hne | rfl
  · exact ⟨y, List.mem_of_getElem? (i := j) (by rw [List.getElem?_set_ne hne]; exact hj), rfl⟩
  · refine ⟨x', List.mem_of_getElem? (i := i) (by rw [List.getElem?_set_self hjl]), ?_⟩
    have : x = y := Option.some.inj (h.1.symm.trans hj)
    rw [hn, this]
theorem nil_eq {a b : ByteArray} (ha : a.toList = []) (hb : b.toList = []) : a = b := ba_ext (ha.trans hb.symm)
theorem upd_get {l : List S36} {sec sub key whr part oth : ByteArray} {f : List S42 → List S42} {l2 : List S36} {os : List S42} (h : Upd l sec sub f l2) (hf : Mild f key) (hne : ¬ (sec = whr ∧ sub = part ∧ key = oth)) (ho : OptIs l2 whr whr part os) :
    ∃ os1, OptIs l whr whr part os1 ∧ vals os oth = vals os1 oth := by
  obtain ⟨l1, i, x, x', hat, rfl, hx⟩ := h
  have hx0 : x'.f0 = x.f0 := by rcases hx with ⟨_, rfl⟩ | ⟨_, ps, j, p, hpa, rfl⟩ <;> rfl
  have hxs : x.f0 = sec := hat.2.1
  obtain ⟨y, hy, hos⟩ := ho
  rcases hy with ⟨j, hj, hyu⟩ | ⟨rfl, hno⟩
  · rcases mem_set (List.mem_of_getElem? hj) with hym | rfl
    · have hyl : SecIs l whr whr y := by
        rcases secAt_mem hat hym with hm | rfl
        · obtain ⟨m, hm⟩ := List.getElem?_of_mem hm
          exact Or.inl ⟨m, hm, hyu⟩
        · have := secIs_at hat
          have e : sec = whr := hxs.symm.trans hyu
          subst e
          exact this
      exact ⟨os, ⟨y, hyl, hos⟩, rfl⟩
    · have e : sec = whr := by rw [← hxs, ← hx0]; exact hyu
      subst e
      have hxl := secIs_at hat
      rcases hx with ⟨hs, rfl⟩ | ⟨hs, ps, jp, p, hpa, rfl⟩
      · rcases hos with ⟨hp, rfl⟩ | ⟨hp, q, hq, rfl⟩
        · refine ⟨x.f1, ⟨x, hxl, Or.inl ⟨hp, rfl⟩⟩, hf.v _ _ (fun e => hne ⟨rfl, nil_eq hs hp, e.symm⟩)⟩
        · exact ⟨q.f1, ⟨x, hxl, Or.inr ⟨hp, q, hq, rfl⟩⟩, rfl⟩
      · rcases hos with ⟨hp, rfl⟩ | ⟨hp, q, hq, rfl⟩
        · exact ⟨x.f1, ⟨x, hxl, Or.inl ⟨hp, rfl⟩⟩, rfl⟩
        · rcases hq with ⟨jq, hjq, hqn⟩ | ⟨rfl, hnq⟩
          · rcases mem_set (List.mem_of_getElem? hjq) with hqm | rfl
            · have hql : SubIs x.f2 part q := by
                rcases partAt_mem hpa hqm with hm | rfl
                · obtain ⟨m, hm⟩ := List.getElem?_of_mem hm
                  exact Or.inl ⟨m, hm, hqn⟩
                · have := subIs_at hpa
                  have e : sub = part := hpa.2.1.symm.trans hqn
                  subst e
                  exact this
              exact ⟨q.f1, ⟨x, hxl, Or.inr ⟨hp, q, hql, rfl⟩⟩, rfl⟩
            · have e : sub = part := hpa.2.1.symm.trans hqn
              subst e
              exact ⟨p.f1, ⟨x, hxl, Or.inr ⟨hp, p, subIs_at hpa, rfl⟩⟩, hf.v _ _ (fun e => hne ⟨rfl, rfl, e.symm⟩)⟩
          · refine ⟨[], ⟨x, hxl, Or.inr ⟨hp, ⟨part, []⟩, Or.inr ⟨rfl, fun q hq e => ?_⟩, rfl⟩⟩, rfl⟩
            obtain ⟨z, hz, hzn⟩ := part_kept (x' := ⟨p.f0, f p.f1⟩) hpa rfl hq
            exact hnq z hz (hzn.trans e)
  · have hnl : ∀ y ∈ l, y.f0 ≠ whr := fun y hy e => by
      obtain ⟨z, hz, hzn⟩ := name_kept hat hx0 hy
      exact hno z hz (hzn.trans e)
    exact ⟨os, ⟨⟨whr, [], []⟩, Or.inr ⟨rfl, hnl⟩, hos⟩, rfl⟩
#print axioms upd_sized
#print axioms upd_named
#print axioms upd_get
end Go.Proofs.YtacndeejapfkiaaDoor.PureU
