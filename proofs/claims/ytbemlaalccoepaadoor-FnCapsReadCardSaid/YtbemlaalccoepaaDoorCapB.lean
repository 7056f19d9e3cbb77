/- capability.List: its state, and how its writes keep it. -/
import Derived.Test.YtbemlaalccoepaaDoorCapA
import Derived.Test.YtbemlaalccoepaaDoorPtr
set_option linter.unusedVariables false
set_option linter.unusedSimpArgs false
namespace Go.Proofs.YtbemlaalccoepaaDoor.CapB
open Go.RowKit Go.Proofs.YtbemlaalccoepaaDoorW.PrintWords Go.Proofs.YtbemlaalccoepaaDoorW.PrintLast Go.Proofs.YtbemlaalccoepaaDoorW.PrintMore Go.Proofs.YtbemlaalccoepaaDoor.QAll Txt SMap CapA Ptr

/-- An entry: its name, its values, its block, its slice. -/
structure Ent where
  n : ByteArray
  vs : List ByteArray
  b : Nat
  v : Value
def Ent.p (e : Ent) : ByteArray × Value := (e.n, .pointer (some ⟨e.b, 0, none⟩))
def Ent.cap (e : Ent) : S27 := ⟨e.n, e.vs⟩
/-- A list of capabilities; G tells whose a block of texts is (0: the order's, j + 1: entry j's). -/
structure LSt (w : World) (b0 lb mb : Nat) (G : Nat → Nat) (L : List Ent) (V : Value) (ns : List ByteArray) : Prop where
  hl : w.heap[lb]? = some (.cells #[.map (some mb), V] 66 (0, 0))
  hlb : b0 ≤ lb
  hmb : b0 ≤ mb
  hm : MapIs w mb (L.map Ent.p)
  hs : Kd.string.R 9 w b0 (fun k => G k = 0) V ns
  hc : ∀ e ∈ L, w.heap[e.b]? = some (.cells #[.string e.n, e.v] 69 (0, 0)) ∧ b0 ≤ e.b
  he : ∀ j e, L[j]? = some e → Kd.string.R 9 w b0 (fun k => G k = j + 1) e.v e.vs
  nd : (L.map Ent.n).Nodup
  bd : (L.map Ent.b).Nodup
section
variable {w w' : World} {b0 lb mb : Nat} {G : Nat → Nat} {L : List Ent} {V : Value} {ns : List ByteArray}
theorem LSt.lb_lt (h : LSt w b0 lb mb G L V ns) : lb < w.heap.size := blk_lt h.hl
theorem LSt.below (h : LSt w b0 lb mb G L V ns) (hb : Below w.heap.size w w') : LSt w' b0 lb mb G L V ns :=
  ⟨blk_below h.hl hb, h.hlb, h.hmb, h.hm.below hb, Kd.R_below h.hs hb, fun e he => ⟨blk_below (h.hc e he).1 hb, (h.hc e he).2⟩, fun j e hj => Kd.R_below (h.he j e hj) hb, h.nd, h.bd⟩
/-- New blocks may be anybody's. -/
theorem LSt.tag (h : LSt w b0 lb mb G L V ns) {G' : Nat → Nat} (hg : ∀ k, k < w.heap.size → G' k = G k) : LSt w b0 lb mb G' L V ns :=
  ⟨h.hl, h.hlb, h.hmb, h.hm, Kd.R_mono (Kd.R_bound h.hs) (fun k hk => (hg k hk.2.2.1).trans hk.1), h.hc, fun j e hj => Kd.R_mono (Kd.R_bound (h.he j e hj)) (fun k hk => (hg k hk.2.2.1).trans hk.1), h.nd, h.bd⟩
def tagAt (G : Nat → Nat) (n t : Nat) : Nat → Nat := fun k => if k < n then G k else t
theorem tagAt_lt {n t k : Nat} (h : k < n) : tagAt G n t k = G k := if_pos h
theorem tagAt_ge {n t k : Nat} (h : n ≤ k) : tagAt G n t k = t := if_neg (by omega)
theorem inj_of {α β : Type} (f : α → β) {l : List α} (h : (l.map f).Nodup) {a b : α} (ha : a ∈ l) (hb : b ∈ l) (e : f a = f b) : a = b := by
  obtain ⟨i, hi, ei⟩ := List.mem_iff_getElem.1 ha
  obtain ⟨j, hj, ej⟩ := List.mem_iff_getElem.1 hb
  have hi' : i < (l.map f).length := by rw [List.length_map]; exact hi
  have hj' : j < (l.map f).length := by rw [List.length_map]; exact hj
  have hij : i = j := (List.getElem_inj h).1 (show (l.map f)[i] = (l.map f)[j] by rw [List.getElem_map, List.getElem_map, ei, ej, e])
  subst hij
  rw [← ei, ← ej]
theorem inj_at {α β : Type} (f : α → β) {l : List α} (h : (l.map f).Nodup) {i j : Nat} {a b : α} (ha : l[i]? = some a) (hb : l[j]? = some b) (e : f a = f b) : i = j := by
  obtain ⟨hi, ei⟩ := List.getElem?_eq_some_iff.1 ha
  obtain ⟨hj, ej⟩ := List.getElem?_eq_some_iff.1 hb
  have hi' : i < (l.map f).length := by rw [List.length_map]; exact hi
  have hj' : j < (l.map f).length := by rw [List.length_map]; exact hj
  exact (List.getElem_inj h).1 (show (l.map f)[i] = (l.map f)[j] by rw [List.getElem_map, List.getElem_map, ei, ej, e])
theorem LSt.mem_at (h : LSt w b0 lb mb G L V ns) {e : Ent} (he : e ∈ L) : ∀ p ∈ L.map Ent.p, p.1 = e.n → p.2 = .pointer (some ⟨e.b, 0, none⟩) := by
  intro p hp e1
  obtain ⟨e', he', rfl⟩ := List.mem_map.1 hp
  rw [inj_of Ent.n h.nd he' he e1]
  rfl
theorem LSt.look (h : LSt w b0 lb mb G L V ns) {e : Ent} (he : e ∈ L) : (Instr.lookup 64 (.map (some mb)) (.string e.n) false).run Tryd.prog w = .ok (.pointer (some ⟨e.b, 0, none⟩)) w :=
  run_hit Tryd.underlying64 Tryd.underlying44 h.hm ⟨e.p, List.mem_map.2 ⟨e, he, rfl⟩, rfl⟩ (h.mem_at he) false
theorem LSt.look2 (h : LSt w b0 lb mb G L V ns) {e : Ent} (he : e ∈ L) : (Instr.lookup 64 (.map (some mb)) (.string e.n) true).run Tryd.prog w = .ok (.tuple #[.pointer (some ⟨e.b, 0, none⟩), .bool true]) w :=
  run_hit Tryd.underlying64 Tryd.underlying44 h.hm ⟨e.p, List.mem_map.2 ⟨e, he, rfl⟩, rfl⟩ (h.mem_at he) true
theorem LSt.look_grown (h : LSt w b0 lb mb G L V ns) {e : Ent} (he : e ∈ L) {ok : Nat → Prop} {v : Value} {xs : List ByteArray} (hR : Kd.string.R 9 w b0 ok v xs) (hg : w.grownBy w' v.ownBlock) : (Instr.lookup 64 (.map (some mb)) (.string e.n) false).run Tryd.prog w' = .ok (.pointer (some ⟨e.b, 0, none⟩)) w' := by
  refine run_hit Tryd.underlying64 Tryd.underlying44 (h.hm.of_heap (hg.block mb h.hm.lt (fun q => ?_))) ⟨e.p, List.mem_map.2 ⟨e, he, rfl⟩, rfl⟩ (h.mem_at he) false
  obtain ⟨cells, hx⟩ := own_typed (Kd.R_own hR).choose_spec mb q.symm
  exact h.hm.ne hx rfl
theorem zero68 (w : World) : (zeroValue 67).run Tryd.prog w = .ok (.pointer none) w := by kernel_rfl
theorem LSt.miss2 (h : LSt w b0 lb mb G L V ns) {c : ByteArray} (hc : ∀ e ∈ L, e.n ≠ c) : (Instr.lookup 64 (.map (some mb)) (.string c) true).run Tryd.prog w = .ok (.tuple #[.pointer none, .bool false]) w :=
  run_miss Tryd.underlying64 Tryd.underlying44 h.hm (fun p hp e => by obtain ⟨x, hx, rfl⟩ := List.mem_map.1 hp; exact hc x hx e) (zero68 w) true
/-- Rows of other types stay. -/
def Keep3 (w w' : World) : Prop := ∀ (k : Nat) (cs : Array Value) (t : Nat) (fr : Nat × Nat), w.heap[k]? = some (.cells cs t fr) → t ≠ 9 → t ≠ 66 → t ≠ 69 → w'.heap[k]? = w.heap[k]?
theorem blk_lt' {w : World} {k : Nat} {o : Obj} (h : w.heap[k]? = some o) : k < w.heap.size := (Array.getElem?_eq_some_iff.1 h).1
theorem Keep3.trans {w w1 w2 : World} (h : Keep3 w w1) (g : Keep3 w1 w2) : Keep3 w w2 := fun k cs t fr hk h1 h2 h3 => (g k cs t fr ((h k cs t fr hk h1 h2 h3).trans hk) h1 h2 h3).trans (h k cs t fr hk h1 h2 h3)
theorem Keep3.below {w w1 : World} (hb : Below w.heap.size w w1) : Keep3 w w1 := fun k cs t fr hk _ _ _ => hb.block k (blk_lt' hk)
/-- A row of texts has been written, and a cell of a block of type 66 or 69. -/
theorem Keep3.put {w w' : World} {b0 : Nat} {ok : Nat → Prop} {V : Value} {ns : List ByteArray} (hR : Kd.string.R 9 w b0 ok V ns) (hg : w.grownBy w' V.ownBlock) {b t : Nat} {cs : Array Value} (hb : w.heap[b]? = some (.cells cs t (0, 0))) (ht : t = 66 ∨ t = 69) (j : Nat) (u : Value) : Keep3 w (w'.setCell ⟨b, j, none⟩ u) := by
  intro k cs' t' fr hk h1 h2 h3
  have hkb : k ≠ b := by
    rintro rfl
    rw [hk] at hb
    injection hb with hb
    injection hb with _ hb
    rcases ht with e | e
    · exact h2 (hb.trans e)
    · exact h3 (hb.trans e)
  rw [Below.heap_setCell w' ⟨b, j, none⟩ u k hkb]
  refine hg.block k (blk_lt' hk) (fun e => ?_)
  obtain ⟨cells, hx⟩ := own_typed (Kd.R_own hR).choose_spec k e.symm
  rw [hk] at hx
  injection hx with hx
  injection hx with _ hx
  exact h1 hx
/-- An entry comes in. -/
theorem LSt.entry (h : LSt w b0 lb mb G L V ns) (hb : b0 ≤ w.heap.size) {c : ByteArray} (hc : ∀ e ∈ L, e.n ≠ c) : ∃ w', (Instr.mapUpdate 64 (.map (some mb)) (.string c) (.pointer (some ⟨w.heap.size, 0, none⟩))).run Tryd.prog (w.alloc (.cells #[.string c, .slice none 0 0] 69)) = .ok () w' ∧
    LSt w' b0 lb mb G (L ++ [⟨c, [], w.heap.size, .slice none 0 0⟩]) V ns ∧ Below b0 w w' ∧ Keep3 w w' ∧ (∀ k, k < w.heap.size → k ≠ mb → w'.heap[k]? = w.heap[k]?) ∧ w.heap.size ≤ w'.heap.size := by
  have hal : Below w.heap.size w (w.alloc (.cells #[.string c, .slice none 0 0] 69)) := below_alloc (Below.refl _ _) _
  have h1 := h.below hal
  obtain ⟨w', hr, hm, hf⟩ := run_new (P := Tryd.prog) Tryd.underlying64 Tryd.underlying44 h1.hm (s := c) (fun p hp e => by obtain ⟨x, hx, rfl⟩ := List.mem_map.1 hp; exact hc x hx e) (.pointer (some ⟨w.heap.size, 0, none⟩))
  have hne : ∀ (g t : Nat) (cs : Array Value), (w.alloc (.cells #[.string c, .slice none 0 0] 69)).heap[g]? = some (.cells cs t (0, 0)) → w'.heap[g]? = some (.cells cs t (0, 0)) := fun g t cs hg => (hf.blk g (h1.hm.ne hg)).trans hg
  have hmv : ∀ (ok : Nat → Prop) v xs, Kd.string.R 9 (w.alloc (.cells #[.string c, .slice none 0 0] 69)) b0 ok v xs → Kd.string.R 9 w' b0 ok v xs := by
    intro ok v xs hR
    refine Kd.R_mono (Kd.R_move (Kd.R_bound hR) (fun k hk => ?_)) (fun k hk => hk.1)
    obtain ⟨_, _, _, q, _, cells, hq⟩ := hk
    exact hf.blk k (h1.hm.ne hq)
  have hold : ∀ e ∈ L, e.b < w.heap.size := fun e he => blk_lt (h.hc e he).1
  refine ⟨w', hr, ⟨hne _ _ _ h1.hl, h.hlb, h.hmb, by rw [List.map_append]; exact hm, hmv _ _ _ h1.hs, ?_, ?_, ?_, ?_⟩, ⟨hf.os.trans hal.os, hf.tape.trans hal.tape, hf.output.trans hal.output, by have := hal.size; have := hf.size; omega, fun k hk => (hf.blk k (by have := h.hmb; omega)).trans (hal.block k (by omega))⟩, fun k cs t fr hk _ _ _ => (hf.blk k (h.hm.ne hk)).trans (hal.block k (blk_lt' hk)), fun k hk hne => (hf.blk k hne).trans (hal.block k hk), by have := hal.size; have := hf.size; omega⟩
  · intro e he
    rcases List.mem_append.1 he with he | he
    · exact ⟨hne _ _ _ (h1.hc e he).1, (h1.hc e he).2⟩
    · rw [List.mem_singleton.1 he]
      exact ⟨hne _ _ _ (blk_new _ _), hb⟩
  · intro j e hj
    rcases Nat.lt_or_ge j L.length with hlt | hge
    · rw [List.getElem?_append_left hlt] at hj
      exact hmv _ _ _ (h1.he j e hj)
    · rw [List.getElem?_append_right hge] at hj
      have : j - L.length = 0 := by
        have := (List.getElem?_eq_some_iff.1 hj).1
        simpa using this
      rw [this] at hj
      obtain rfl : _ = e := by simpa using hj
      exact Kd.R_nil _ _ _ _ _
  · rw [List.map_append, List.nodup_append]
    refine ⟨h.nd, by simp, ?_⟩
    intro a ha b hb' e
    obtain ⟨x, hx, rfl⟩ := List.mem_map.1 ha
    rw [List.mem_map] at hb'
    obtain ⟨y, hy, rfl⟩ := hb'
    rw [List.mem_singleton.1 hy] at e
    exact hc x hx e
  · rw [List.map_append, List.nodup_append]
    refine ⟨h.bd, by simp, ?_⟩
    intro a ha b hb' e
    obtain ⟨x, hx, rfl⟩ := List.mem_map.1 ha
    rw [List.mem_map] at hb'
    obtain ⟨y, hy, rfl⟩ := hb'
    rw [List.mem_singleton.1 hy] at e
    have := hold x hx
    exact absurd e (Nat.ne_of_lt this)
/-- The order's row has been written anew (grown, or cut), and is put in. -/
theorem LSt.order (h : LSt w b0 lb mb G L V ns) {V1 : Value} {ns1 : List ByteArray} (hR : Kd.string.R 9 w' b0 (fun k => G k = 0) V1 ns1) (hg : w.grownBy w' V.ownBlock) :
    LSt (w'.setCell ⟨lb, 1, none⟩ V1) b0 lb mb G L V1 ns1 := by
  have hl' : w'.heap[lb]? = some (.cells #[.map (some mb), V] 66 (0, 0)) := blk_grown h.hl hg (Kd.R_ne h.hs h.hl (by decide))
  have hneV : ∀ (g t : Nat) (cs : Array Value), w.heap[g]? = some (.cells cs t (0, 0)) → t ≠ 9 → w'.heap[g]? = some (.cells cs t (0, 0)) := fun g t cs hx ht => blk_grown hx hg (Kd.R_ne h.hs hx (fun e => ht e.symm))
  have hset : ∀ (g t : Nat) (cs : Array Value), w'.heap[g]? = some (.cells cs t (0, 0)) → t ≠ 66 → (w'.setCell ⟨lb, 1, none⟩ V1).heap[g]? = some (.cells cs t (0, 0)) := by
    intro g t cs hx ht
    rw [Below.heap_setCell w' ⟨lb, 1, none⟩ V1 g (fun e => ?_)]
    · exact hx
    · rw [show g = lb from e, hl'] at hx
      injection hx with hx
      injection hx with _ hx
      exact ht hx.symm
  have hmm : MapIs (w'.setCell ⟨lb, 1, none⟩ V1) mb (L.map Ent.p) := by
    refine h.hm.of_heap ?_
    rw [Below.heap_setCell w' ⟨lb, 1, none⟩ V1 mb (fun e => h.hm.ne h.hl e.symm)]
    refine hg.block mb h.hm.lt (fun e => ?_)
    obtain ⟨cells, hx⟩ := own_typed (Kd.R_own h.hs).choose_spec mb e.symm
    exact h.hm.ne hx rfl
  refine ⟨blk_put hl' 1 V1 rfl, h.hlb, h.hmb, hmm, Kd.R_set hR hl' (by decide) 1 V1, fun e he => ⟨hset _ _ _ (hneV _ _ _ (h.hc e he).1 (by decide)) (by decide), (h.hc e he).2⟩, fun j e hj => ?_, h.nd, h.bd⟩
  refine Kd.R_set (Kd.R_grown (h.he j e hj) hg (fun k hk e2 => ?_)) hl' (by decide) 1 V1
  have := h.hs.1 k e2.symm
  omega
/-- An entry's row has been written anew, and is put in. -/
theorem LSt.vals (h : LSt w b0 lb mb G L V ns) {j : Nat} {e : Ent} (hj : L[j]? = some e) {V1 : Value} {vs1 : List ByteArray} (hR : Kd.string.R 9 w' b0 (fun k => G k = j + 1) V1 vs1) (hg : w.grownBy w' e.v.ownBlock) :
    LSt (w'.setCell ⟨e.b, 1, none⟩ V1) b0 lb mb G (L.set j ⟨e.n, vs1, e.b, V1⟩) V ns := by
  have hje := h.he j e hj
  have hem := List.mem_of_getElem? hj
  have hjl := (List.getElem?_eq_some_iff.1 hj).1
  have hneV : ∀ (g t : Nat) (cs : Array Value), w.heap[g]? = some (.cells cs t (0, 0)) → t ≠ 9 → w'.heap[g]? = some (.cells cs t (0, 0)) := fun g t cs hx ht => blk_grown hx hg (Kd.R_ne hje hx (fun e => ht e.symm))
  have he' := hneV _ _ _ (h.hc e hem).1 (by decide)
  have hset : ∀ (g t : Nat) (cs : Array Value), w'.heap[g]? = some (.cells cs t (0, 0)) → g ≠ e.b → (w'.setCell ⟨e.b, 1, none⟩ V1).heap[g]? = some (.cells cs t (0, 0)) := fun g t cs hx hg => (Below.heap_setCell w' ⟨e.b, 1, none⟩ V1 g hg).trans hx
  have hmm : MapIs (w'.setCell ⟨e.b, 1, none⟩ V1) mb ((L.set j ⟨e.n, vs1, e.b, V1⟩).map Ent.p) := by
    have e1 : (L.set j ⟨e.n, vs1, e.b, V1⟩).map Ent.p = L.map Ent.p := by
      rw [List.map_set]
      have : (L.map Ent.p)[j]? = some (Ent.p ⟨e.n, vs1, e.b, V1⟩) := by rw [List.getElem?_map, hj]; rfl
      obtain ⟨hx, hy⟩ := List.getElem?_eq_some_iff.1 this
      rw [← hy, List.set_getElem_self]
    rw [e1]
    refine h.hm.of_heap ?_
    rw [Below.heap_setCell w' ⟨e.b, 1, none⟩ V1 mb (fun q => h.hm.ne (h.hc e hem).1 q.symm)]
    refine hg.block mb h.hm.lt (fun q => ?_)
    obtain ⟨cells, hx⟩ := own_typed (Kd.R_own hje).choose_spec mb q.symm
    exact h.hm.ne hx rfl
  have hbl : lb ≠ e.b := by
    intro q
    have h1 := h.hl
    rw [q, (h.hc e hem).1] at h1
    injection h1 with h1
    injection h1 with _ h1
    exact absurd h1 (by decide)
  have mem_set : ∀ x ∈ L.set j ⟨e.n, vs1, e.b, V1⟩, x = ⟨e.n, vs1, e.b, V1⟩ ∨ (x ∈ L ∧ x.b ≠ e.b) := by
    intro x hx
    obtain ⟨i, hi⟩ := List.getElem?_of_mem hx
    rw [List.getElem?_set] at hi
    split at hi
    · rename_i q
      exact Or.inl (by simpa [hjl] using hi.symm)
    · rename_i q
      exact Or.inr ⟨List.mem_of_getElem? hi, fun e2 => q (inj_at Ent.b h.bd hj hi e2.symm)⟩
  refine ⟨hset _ _ _ (hneV _ _ _ h.hl (by decide)) hbl, h.hlb, h.hmb, hmm, ?_, ?_, ?_, ?_, ?_⟩
  · refine Kd.R_set (Kd.R_grown h.hs hg (fun k hk e2 => ?_)) he' (by decide) 1 V1
    have := hje.1 k e2.symm
    omega
  · intro x hx
    rcases mem_set x hx with rfl | ⟨hx, hb⟩
    · exact ⟨blk_put he' 1 V1 rfl, (h.hc e hem).2⟩
    · exact ⟨hset _ _ _ (hneV _ _ _ (h.hc x hx).1 (by decide)) hb, (h.hc x hx).2⟩
  · intro i x hi
    rw [List.getElem?_set] at hi
    split at hi
    · rename_i q
      subst q
      obtain rfl : _ = x := by simpa [hjl] using hi
      exact Kd.R_set hR he' (by decide) 1 V1
    · rename_i q
      refine Kd.R_set (Kd.R_grown (h.he i x hi) hg (fun k hk e2 => ?_)) he' (by decide) 1 V1
      have := hje.1 k e2.symm
      omega
  · have : (L.set j ⟨e.n, vs1, e.b, V1⟩).map Ent.n = L.map Ent.n := by
      rw [List.map_set]
      have : (L.map Ent.n)[j]? = some e.n := by rw [List.getElem?_map, hj]; rfl
      obtain ⟨hx, hy⟩ := List.getElem?_eq_some_iff.1 this
      show (L.map Ent.n).set j e.n = _
      rw [← hy, List.set_getElem_self]
    rw [this]
    exact h.nd
  · have : (L.set j ⟨e.n, vs1, e.b, V1⟩).map Ent.b = L.map Ent.b := by
      rw [List.map_set]
      have : (L.map Ent.b)[j]? = some e.b := by rw [List.getElem?_map, hj]; rfl
      obtain ⟨hx, hy⟩ := List.getElem?_eq_some_iff.1 this
      show (L.map Ent.b).set j e.b = _
      rw [← hy, List.set_getElem_self]
    rw [this]
    exact h.bd
end
end Go.Proofs.YtbemlaalccoepaaDoor.CapB
