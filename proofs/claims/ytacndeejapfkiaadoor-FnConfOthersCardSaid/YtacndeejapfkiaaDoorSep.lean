/- Kinds: a row whose elements' memory lies apart; two in line whose memory lies apart. -/
import Derived.Test.YtacndeejapfkiaaDoorPtr
set_option linter.unusedVariables false
namespace Go.Proofs.YtacndeejapfkiaaDoor.SepK
open Go.RowKit Go.Proofs.YtacndeejapfkiaaDoorW.PrintWords Ptr

/-- A row of the call's own; F tells which element a block belongs to. -/
def SR {α : Type} (d : Kd α) (e : Nat) (w : World) (base : Nat) (ok : Nat → Prop) (v : Value) (xs : List α) : Prop :=
  (∀ k, v.ownBlock = some k → ok k) ∧ ∃ (F : Nat → Nat) (inner : List Value), w.ownsRow base e d.sz v xs.length inner ∧ inner.length = xs.length * d.sz ∧
    ∀ j p, xs[j]? = some p → d.M w base (fun k => (ok k ∧ some k ≠ v.ownBlock) ∧ F k = j) p ((inner.drop (j * d.sz)).take d.sz)
section
variable {α : Type} {d : Kd α} {e : Nat} {w w1 : World} {base : Nat} {ok ok' : Nat → Prop} {v : Value} {xs : List α}
theorem SR_toR (h : SR d e w base ok v xs) : d.R e w base ok v xs := by
  obtain ⟨h0, F, inner, ho, hl, hm⟩ := h
  exact ⟨h0, inner, ho, hl, fun j p hj => d.M_mono (fun k hk => hk.1) (hm j p hj)⟩
theorem SR_nil (d : Kd α) (e : Nat) (w : World) (base : Nat) (ok : Nat → Prop) : SR d e w base ok (.slice none 0 0) [] :=
  ⟨fun k hk => by simp [Value.ownBlock] at hk, fun _ => 0, [], own_nil _ _ _ _, by simp, fun j p hj => by simp at hj⟩
theorem SR_mono (h : SR d e w base ok v xs) (hok : ∀ k, ok k → ok' k) : SR d e w base ok' v xs := by
  obtain ⟨h0, F, inner, ho, hl, hm⟩ := h
  exact ⟨fun k hk => hok k (h0 k hk), F, inner, ho, hl, fun j p hj => d.M_mono (fun k hk => ⟨⟨hok k hk.1.1, hk.1.2⟩, hk.2⟩) (hm j p hj)⟩
theorem SR_bound (h : SR d e w base ok v xs) : SR d e w base (fun k => ok k ∧ base ≤ k ∧ k < w.heap.size ∧ ∃ q, q ∈ e :: d.E ∧ ∃ cells, w.heap[k]? = some (.cells cells q (0, 0))) v xs := by
  obtain ⟨h0, F, inner, ho, hl, hm⟩ := h
  refine ⟨fun k hk => ?_, F, inner, ho, hl, fun j p hj => d.M_mono (fun k hk => ?_) (d.M_bound (hm j p hj))⟩
  · obtain ⟨cells, hc⟩ := own_typed ho k hk
    exact ⟨h0 k hk, own_base ho k hk, own_lt ho k hk, e, List.mem_cons_self, cells, hc⟩
  · obtain ⟨⟨⟨h1, h2⟩, h5⟩, h3, h4, q, hq, hc⟩ := hk
    exact ⟨⟨⟨h1, h3, h4, q, List.mem_cons_of_mem _ hq, hc⟩, h2⟩, h5⟩
theorem SR_move (h : SR d e w base ok v xs) (hm : ∀ k, ok k → w1.heap[k]? = w.heap[k]?) : SR d e w1 base ok v xs := by
  obtain ⟨h0, F, inner, ho, hl, hp⟩ := h
  exact ⟨h0, F, inner, own_move ho (fun k hk => hm k (h0 k hk)), hl, fun j p hj => d.M_move (fun k hk => hm k hk.1.1) (hp j p hj)⟩
theorem SR_lower {base' : Nat} (h : SR d e w base ok v xs) (hb : base' ≤ base) : SR d e w base' ok v xs := by
  obtain ⟨h0, F, inner, ho, hl, hp⟩ := h
  exact ⟨h0, F, inner, own_weaken ho hb, hl, fun j p hj => d.M_lower hb (hp j p hj)⟩
theorem SR_step (h : SR d e w base ok v xs) (hm : ∀ k, ok k → k < w.heap.size → w1.heap[k]? = w.heap[k]?) : SR d e w1 base ok v xs :=
  SR_mono (SR_move (SR_bound h) (fun k hk => hm k hk.1 hk.2.2.1)) (fun _ hk => hk.1)
theorem SR_below (h : SR d e w base ok v xs) (hb : Below w.heap.size w w1) : SR d e w1 base ok v xs := SR_step h (fun k _ hk => hb.block k hk)
/-- What was there is older than what comes. -/
theorem SR_old (h : SR d e w base ok v xs) (hb : Below w.heap.size w w1) : SR d e w1 base (fun k => ok k ∧ k < w.heap.size) v xs :=
  SR_move (SR_mono (SR_bound h) (fun k hk => ⟨hk.1, hk.2.2.1⟩)) (fun k hk => hb.block k hk.2)
theorem SR_slice (h : SR d e w base ok v xs) : ∃ A c, v = .slice A xs.length c := Kd.R_slice (SR_toR h)
/-- What an append leaves. -/
theorem SR_appended {W : World} {N : Nat} {v1 : Value} {p : α} {cs : List Value} {F : Nat → Nat} {inner : List Value} (ho : W.ownsRow base e d.sz v xs.length inner) (hl : inner.length = xs.length * d.sz)
    (hm : ∀ j p, xs[j]? = some p → d.M W base (fun k => ((ok k ∧ k < N) ∧ some k ≠ v.ownBlock) ∧ F k = j) p ((inner.drop (j * d.sz)).take d.sz)) (h0 : ∀ k, v.ownBlock = some k → ok k ∧ k < N) (hp : d.M W base (fun k => ok k ∧ N ≤ k) p cs) (hfresh : ∀ k, W.heap.size ≤ k → ok k) (hN : N ≤ W.heap.size)
    (hown : w1.ownsRow base e d.sz v1 (xs.length + 1) (inner ++ cs)) (hg : W.grownBy w1 v.ownBlock) (hat : v1.ownBlock = v.ownBlock ∨ ∃ b, v1.ownBlock = some b ∧ W.heap.size ≤ b) : SR d e w1 base ok v1 (xs ++ [p]) := by
  have hvN : ∀ k, v.ownBlock = some k → k < N := fun k hk => (h0 k hk).2
  have hne : ∀ k, some k ≠ v.ownBlock → k < W.heap.size → some k ≠ v1.ownBlock := by
    intro k hk hlt
    rcases hat with hat | ⟨b, hb, hle⟩
    · rw [hat]; exact hk
    · rw [hb]
      intro he
      injection he with he
      omega
  refine ⟨fun k hk => ?_, fun k => if k < N then F k else xs.length, inner ++ cs, by rw [List.length_append, List.length_singleton]; exact hown, by rw [List.length_append, hl, d.K_len (d.K_of_M hp), List.length_append, List.length_singleton, Nat.add_mul, Nat.one_mul], fun j q hj => ?_⟩
  · rcases hat with hat | ⟨b, hb, hle⟩
    · exact (h0 k (hat ▸ hk)).1
    · rw [hb] at hk
      injection hk with hk
      exact hfresh k (by omega)
  · rcases Nat.lt_or_ge j xs.length with hlt | hge
    · rw [List.getElem?_append_left hlt] at hj
      have h1 : j * d.sz + d.sz ≤ inner.length := by rw [hl, ← Nat.succ_mul]; exact Nat.mul_le_mul_right _ hlt
      have e1 : ((inner ++ cs).drop (j * d.sz)).take d.sz = (inner.drop (j * d.sz)).take d.sz := by
        rw [List.drop_append_of_le_length (by omega), List.take_append_of_le_length (by rw [List.length_drop]; omega)]
      rw [e1]
      have h2 := d.M_move (w1 := w1) (fun k hk => hg.block k hk.2.2.1 hk.1.1.2) (d.M_bound (hm j q hj))
      exact d.M_mono (fun k hk => ⟨⟨hk.1.1.1.1, hne k hk.1.1.2 hk.2.2.1⟩, by show (if _ < N then F _ else xs.length) = j; rw [if_pos hk.1.1.1.2]; exact hk.1.2⟩) h2
    · have hje : j = xs.length := by
        have := (List.getElem?_eq_some_iff.1 hj).1
        rw [List.length_append, List.length_singleton] at this
        omega
      subst hje
      have hq : q = p := by
        rw [List.getElem?_append_right (Nat.le_refl _), Nat.sub_self] at hj
        cases hj
        rfl
      subst hq
      have e1 : ((inner ++ cs).drop (xs.length * d.sz)).take d.sz = cs := by
        rw [← hl, List.drop_left' rfl, List.take_of_length_le (by rw [d.K_len (d.K_of_M hp)]; exact Nat.le_refl _)]
      rw [e1]
      have hno : ∀ k, N ≤ k → some k ≠ v.ownBlock := fun k hk e => by have := hvN k e.symm; omega
      have h2 := d.M_move (w1 := w1) (fun k hk => hg.block k hk.2.2.1 (hno k hk.1.2)) (d.M_bound hp)
      exact d.M_mono (fun k hk => ⟨⟨hk.1.1, hne k (hno k hk.1.2) hk.2.2.1⟩, by show (if _ < N then F _ else xs.length) = xs.length; rw [if_neg (by have := hk.1.2; omega)]⟩) h2
end
/-- A row whose elements lie apart, as a kind. -/
def sep {α : Type} (e : Nat) (d : Kd α) : Kd (List α) where
  sz := 1
  E := e :: d.E
  K := (Kd.slice e d).K
  M := fun w base ok xs cs => ∃ v, cs = [v] ∧ SR d e w base ok v xs
  K_len := (Kd.slice e d).K_len
  K_one := (Kd.slice e d).K_one
  K_below := (Kd.slice e d).K_below
  K_of_M := by
    rintro w base ok x cs ⟨v, rfl, h⟩
    exact (Kd.slice e d).K_of_M ⟨v, rfl, SR_toR h⟩
  M_mono := by
    rintro w base ok ok' x cs hok ⟨v, rfl, h⟩
    exact ⟨v, rfl, SR_mono h hok⟩
  M_bound := by
    rintro w base ok x cs ⟨v, rfl, h⟩
    exact ⟨v, rfl, SR_bound h⟩
  M_move := by
    rintro w w1 base ok x cs hm ⟨v, rfl, h⟩
    exact ⟨v, rfl, SR_move h hm⟩
  M_lower := by
    rintro w base base' ok x cs hb ⟨v, rfl, h⟩
    exact ⟨v, rfl, SR_lower h hb⟩
/-- Two in line whose memory lies apart. -/
def psep {α β : Type} (a : Kd α) (b : Kd β) : Kd (α × β) where
  sz := a.sz + b.sz
  E := a.E ++ b.E
  K := (Kd.pair a b).K
  M := fun w base ok x cs => ∃ (P : Nat → Prop) (c0 c1 : List Value), cs = c0 ++ c1 ∧ a.M w base (fun k => ok k ∧ P k) x.1 c0 ∧ b.M w base (fun k => ok k ∧ ¬ P k) x.2 c1
  K_len := (Kd.pair a b).K_len
  K_one := (Kd.pair a b).K_one
  K_below := (Kd.pair a b).K_below
  K_of_M := by
    rintro w base ok x cs ⟨P, c0, c1, rfl, h0, h1⟩
    exact ⟨c0, c1, rfl, a.K_of_M h0, b.K_of_M h1⟩
  M_mono := by
    rintro w base ok ok' x cs hok ⟨P, c0, c1, rfl, h0, h1⟩
    exact ⟨P, c0, c1, rfl, a.M_mono (fun k hk => ⟨hok k hk.1, hk.2⟩) h0, b.M_mono (fun k hk => ⟨hok k hk.1, hk.2⟩) h1⟩
  M_bound := by
    rintro w base ok x cs ⟨P, c0, c1, rfl, h0, h1⟩
    refine ⟨P, c0, c1, rfl, a.M_mono ?_ (a.M_bound h0), b.M_mono ?_ (b.M_bound h1)⟩
    · rintro k ⟨h2, h3, h4, q, hq, hc⟩
      exact ⟨⟨h2.1, h3, h4, q, List.mem_append_left _ hq, hc⟩, h2.2⟩
    · rintro k ⟨h2, h3, h4, q, hq, hc⟩
      exact ⟨⟨h2.1, h3, h4, q, List.mem_append_right _ hq, hc⟩, h2.2⟩
  M_move := by
    rintro w w1 base ok x cs hm ⟨P, c0, c1, rfl, h0, h1⟩
    exact ⟨P, c0, c1, rfl, a.M_move (fun k hk => hm k hk.1) h0, b.M_move (fun k hk => hm k hk.1) h1⟩
  M_lower := by
    rintro w base base' ok x cs hb ⟨P, c0, c1, rfl, h0, h1⟩
    exact ⟨P, c0, c1, rfl, a.M_lower hb h0, b.M_lower hb h1⟩
section
variable {P : Program} {ops : Array Oper} {rest : List Oper} {o : Oper} {a : Act} {Q : Exit → Act → World → Prop} {Kc : Act → World → Prop} {α : Type}
/-- append(v, x) onto a row whose elements lie apart; behind 'at_builtin'. -/
theorem SR_append (d : Kd α) {w0 W : World} (base N : Nat) (hgd : o.guard = none) (s x : Operand) (t e : TypeId) (z : Value) (bytes : Nat)
    (ho : o.op = .call { callee := .builtin .append, args := #[s, x], argTypes := #[t, t] })
    (ht : P.underlying t = some (.slice e)) (hinfo : (P.info? e).map (fun i => (i.zero, i.size, i.bytes)) = some (some z, d.sz, bytes)) (hz : z.cells.size = d.sz) (hs0 : 0 < d.sz) (hb0 : 0 < bytes)
    (v : Value) (xs : List α) (p : α) (cs : List Value) (ok : Nat → Prop) (hs : a.eval s = v) (hx : a.eval x = .slice (some ⟨W.heap.size, 0, none⟩) 1 1) (hp : d.M W base (fun k => ok k ∧ N ≤ k) p cs) (hfresh : ∀ k, W.heap.size ≤ k → ok k) (hN : N ≤ W.heap.size)
    (HO : SR d e W base (fun k => ok k ∧ k < N) v xs) (HB : Below base w0 W) (hbase : base ≤ W.heap.size) (hl : (xs.length + 1) * bytes ≤ 140737488355328)
    (h : ∀ v1 w1, SR d e w1 base ok v1 (xs ++ [p]) → Below base w0 w1 → W.grownBy w1 v.ownBlock → (v1.ownBlock = v.ownBlock ∨ ∃ b, v1.ownBlock = some b ∧ W.heap.size ≤ b) → wpList P ops Q rest (a.put o.dst v1) w1) :
    wpList P ops Q (o :: rest) a (W.alloc (.cells cs.toArray e)) := by
  have HO2 := HO
  obtain ⟨h0, F, inner, hown, hil, hm⟩ := HO2
  refine print_append_cells base hgd s x t e z d.sz bytes ho ht hinfo hz hs0 hb0 v xs.length inner cs hs hx (d.K_len (d.K_of_M hp)) (d.K_one (d.K_of_M hp)) hown HB hbase hl ?_
  intro v1 w1 hown1 hb1 hg1 hat1
  refine h v1 w1 ?_ hb1 hg1 hat1
  exact SR_appended (inner := inner) hown hil hm h0 hp hfresh hN hown1 hg1 hat1
theorem SR_append_step (d : Kd α) {w0 W : World} (base N : Nat) (hw : Region.wanted o (yielded ops a.tmps) = true) (s x : Operand) (t e : TypeId) (z : Value) (bytes : Nat)
    (ho : o.op = .call { callee := .builtin .append, args := #[s, x], argTypes := #[t, t] })
    (ht : P.underlying t = some (.slice e)) (hinfo : (P.info? e).map (fun i => (i.zero, i.size, i.bytes)) = some (some z, d.sz, bytes)) (hz : z.cells.size = d.sz) (hs0 : 0 < d.sz) (hb0 : 0 < bytes)
    (v : Value) (xs : List α) (p : α) (cs : List Value) (ok : Nat → Prop) (hs : a.eval s = v) (hx : a.eval x = .slice (some ⟨W.heap.size, 0, none⟩) 1 1) (hp : d.M W base (fun k => ok k ∧ N ≤ k) p cs) (hfresh : ∀ k, W.heap.size ≤ k → ok k) (hN : N ≤ W.heap.size)
    (HO : SR d e W base (fun k => ok k ∧ k < N) v xs) (HB : Below base w0 W) (hbase : base ≤ W.heap.size) (hl : (xs.length + 1) * bytes ≤ 140737488355328)
    (h : ∀ v1 w1, SR d e w1 base ok v1 (xs ++ [p]) → Below base w0 w1 → W.grownBy w1 v.ownBlock → (v1.ownBlock = v.ownBlock ∨ ∃ b, v1.ownBlock = some b ∧ W.heap.size ≤ b) → Kc (a.put o.dst v1) w1) :
    if Region.wanted o (yielded ops a.tmps) = true then Oper.wp P o a (W.alloc (.cells cs.toArray e)) Kc Q else Kc (a.put o.dst undef) (W.alloc (.cells cs.toArray e)) := by
  have HO2 := HO
  obtain ⟨h0, F, inner, hown, hil, hm⟩ := HO2
  refine step_append_cells base hw s x t e z d.sz bytes ho ht hinfo hz hs0 hb0 v xs.length inner cs hs hx (d.K_len (d.K_of_M hp)) (d.K_one (d.K_of_M hp)) hown HB hbase hl ?_
  intro v1 w1 hown1 hb1 hg1 hat1
  refine h v1 w1 ?_ hb1 hg1 hat1
  exact SR_appended (inner := inner) hown hil hm h0 hp hfresh hN hown1 hg1 hat1
end
#print axioms SR_append
#print axioms SR_append_step
end Go.Proofs.YtacndeejapfkiaaDoor.SepK
