/- Maps keyed by texts, as lists of pairs: found, not found, one more, one less. -/
import Derived.Test.YtbemlaalccoepaaDoorTxt
import Derived.MapKept
set_option linter.unusedVariables false
set_option linter.unusedSimpArgs false
namespace Go.Proofs.YtbemlaalccoepaaDoor.SMap
open Go.RowKit Go.Proofs.YtbemlaalccoepaaDoorW.PrintWords Go.MapKept

structure MapIs (w : World) (m : Nat) (kv : List (ByteArray × Value)) : Prop where
  out : ∃ es clock, w.heap[m]? = some (.map es clock) ∧ es.toList.map (fun e => (e.key, e.val)) = kv.map (fun p => (Value.string p.1, p.2))
/-- Nothing but the map has turned. -/
structure MapFar (w w' : World) (m : Nat) : Prop where
  os : w'.os = w.os
  tape : w'.tape = w.tape
  output : w'.output = w.output
  size : w'.heap.size = w.heap.size
  blk : ∀ k, k ≠ m → w'.heap[k]? = w.heap[k]?
section
variable {P : Program} {w w' : World} {m : Nat} {kv : List (ByteArray × Value)} {t k e : TypeId} {s : ByteArray} {v z : Value}
theorem MapIs.of_heap (h : MapIs w m kv) (e : w'.heap[m]? = w.heap[m]?) : MapIs w' m kv := by
  obtain ⟨es, c, h1, h2⟩ := h.out
  exact ⟨es, c, e.trans h1, h2⟩
theorem MapIs.lt (h : MapIs w m kv) : m < w.heap.size := by
  obtain ⟨es, c, h1, h2⟩ := h.out
  exact (Array.getElem?_eq_some_iff.1 h1).1
theorem MapIs.below (h : MapIs w m kv) (hb : Below w.heap.size w w') : MapIs w' m kv := h.of_heap (hb.block m h.lt)
/-- A map is no row of cells. -/
theorem MapIs.ne (h : MapIs w m kv) {g t : Nat} {cs : Array Value} {fr : Nat × Nat} (hg : w.heap[g]? = some (.cells cs t fr)) : g ≠ m := by
  rintro rfl
  obtain ⟨es, c, h1, h2⟩ := h.out
  rw [h1] at hg
  cases hg
theorem pair_at {es : Array MapEntry} (h : es.toList.map (fun e => (e.key, e.val)) = kv.map (fun p => (Value.string p.1, p.2))) (j : Nat) : (es.toList[j]?).map (fun e => (e.key, e.val)) = (kv[j]?).map (fun p => (Value.string p.1, p.2)) := by
  have := congrArg (fun l => l[j]?) h
  simpa using this
theorem keys_are {es : Array MapEntry} (h : es.toList.map (fun e => (e.key, e.val)) = kv.map (fun p => (Value.string p.1, p.2))) : ∀ x ∈ es.toList, IsKey .string x.key := by
  intro x hx
  have : (x.key, x.val) ∈ es.toList.map (fun e => (e.key, e.val)) := List.mem_map.2 ⟨x, hx, rfl⟩
  rw [h] at this
  obtain ⟨p, _, e⟩ := List.mem_map.1 this
  simp only [Prod.mk.injEq] at e
  rw [← e.1]
  trivial
theorem find_spec {es : Array MapEntry} (h : es.toList.map (fun e => (e.key, e.val)) = kv.map (fun p => (Value.string p.1, p.2))) (s : ByteArray) :
    (Instr.findNow .string (.string s) es.toList 0 = some none ∧ ∀ p ∈ kv, p.1 ≠ s) ∨ ∃ j p, Instr.findNow .string (.string s) es.toList 0 = some (some (j, p.2)) ∧ kv[j]? = some p ∧ p.1 = s := by
  rcases findNow_spec (d := .string) (k := .string s) trivial es.toList 0 (keys_are h) with ⟨h1, h2⟩ | ⟨j, x, h1, h2, h3⟩
  · refine Or.inl ⟨h1, fun p hp e => ?_⟩
    have : (Value.string p.1, p.2) ∈ kv.map (fun p => (Value.string p.1, p.2)) := List.mem_map.2 ⟨p, hp, rfl⟩
    rw [← h] at this
    obtain ⟨x, hx, ex⟩ := List.mem_map.1 this
    simp only [Prod.mk.injEq] at ex
    exact h2 x hx (by rw [ex.1, e])
  · have hp := pair_at h j
    rw [h2] at hp
    obtain ⟨p, hp1, hp2⟩ := Option.map_eq_some_iff.1 hp.symm
    simp only [Prod.mk.injEq] at hp2
    refine Or.inr ⟨j, p, by rw [h1, Nat.zero_add, hp2.2], hp1, ?_⟩
    have := hp2.1.trans h3
    injection this
variable (ht : P.underlying t = some (.map k e)) (hk : P.underlying k = some .string)
theorem run_hit (ht : P.underlying t = some (.map k e)) (hk : P.underlying k = some .string) (h : MapIs w m kv) (hex : ∃ p ∈ kv, p.1 = s) (hv : ∀ p ∈ kv, p.1 = s → p.2 = v) (ok : Bool) :
    (Instr.lookup t (.map (some m)) (.string s) ok).run P w = .ok (if ok then .tuple #[v, .bool true] else v) w := by
  obtain ⟨es, c, h1, h2⟩ := h.out
  rcases find_spec h2 s with ⟨_, hno⟩ | ⟨j, p, hf, hj, hp⟩
  · obtain ⟨p, hp, e⟩ := hex
    exact absurd e (hno p hp)
  · have hpv := hv p (List.mem_of_getElem? hj) hp
    unfold Instr.lookup
    simp only [Sem.run_bind, run_underlying ht, Result.andThen, Go.MapKept.run_getObj_map h1, Sem.run_pure, run_checkKey hk (show IsKey .string (.string s) from trivial), run_findKey hk hf, hpv]
theorem run_miss (ht : P.underlying t = some (.map k e)) (hk : P.underlying k = some .string) (h : MapIs w m kv) (hno : ∀ p ∈ kv, p.1 ≠ s) (hz : (zeroValue e).run P w = .ok z w) (ok : Bool) :
    (Instr.lookup t (.map (some m)) (.string s) ok).run P w = .ok (if ok then .tuple #[z, .bool false] else z) w := by
  obtain ⟨es, c, h1, h2⟩ := h.out
  rcases find_spec h2 s with ⟨hf, _⟩ | ⟨j, p, hf, hj, hp⟩
  · unfold Instr.lookup
    simp only [Sem.run_bind, run_underlying ht, Result.andThen, Go.MapKept.run_getObj_map h1, Sem.run_pure, run_checkKey hk (show IsKey .string (.string s) from trivial), run_findKey hk hf, hz]
  · exact absurd hp (hno p (List.mem_of_getElem? hj))
theorem run_new (ht : P.underlying t = some (.map k e)) (hk : P.underlying k = some .string) (h : MapIs w m kv) (hno : ∀ p ∈ kv, p.1 ≠ s) (v : Value) :
    ∃ w', (Instr.mapUpdate t (.map (some m)) (.string s) v).run P w = .ok () w' ∧ MapIs w' m (kv ++ [(s, v)]) ∧ MapFar w w' m := by
  obtain ⟨es, c, h1, h2⟩ := h.out
  rcases find_spec h2 s with ⟨hf, _⟩ | ⟨j, p, hf, hj, hp⟩
  · refine ⟨{ w with heap := w.heap.setIfInBounds m (.map (es.push { key := .string s, val := v, born := c }) (c + 1)) }, ?_, ⟨es.push { key := .string s, val := v, born := c }, c + 1, (heap_set h1).1, ?_⟩, ⟨rfl, rfl, rfl, by simp, fun k hk => (heap_set h1).2 k hk⟩⟩
    · unfold Instr.mapUpdate
      simp only [Sem.run_bind, run_underlying ht, Result.andThen, Go.MapKept.run_getObj_map h1, run_checkKey hk (show IsKey .string (.string s) from trivial), run_findKey hk hf, Go.MapKept.run_setObj_map _ h1]
    · rw [Array.toList_push, List.map_append, h2, List.map_append]
      rfl
  · exact absurd hp (hno p (List.mem_of_getElem? hj))
theorem eraseIdx_map' {α β : Type} (f : α → β) : ∀ (l : List α) (j : Nat), (l.eraseIdx j).map f = (l.map f).eraseIdx j
  | [], _ => rfl
  | _ :: _, 0 => rfl
  | a :: l, j + 1 => by simp only [List.eraseIdx_cons_succ, List.map_cons, eraseIdx_map' f l j]
theorem run_del (ht : P.underlying t = some (.map k e)) (hk : P.underlying k = some .string) (h : MapIs w m kv) (i : Nat) (hi : ∀ j p, kv[j]? = some p → p.1 = s → j = i) (hex : ∃ p ∈ kv, p.1 = s) :
    ∃ w', (∀ ty, (Builtin.delete_ #[t, k] ty #[.map (some m), .string s]).run P w = .ok (.tuple #[]) w') ∧ MapIs w' m (kv.eraseIdx i) ∧ MapFar w w' m := by
  obtain ⟨es, c, h1, h2⟩ := h.out
  rcases find_spec h2 s with ⟨_, hno⟩ | ⟨j, p, hf, hj, hp⟩
  · obtain ⟨p, hp, e⟩ := hex
    exact absurd e (hno p hp)
  · obtain rfl := hi j p hj hp
    refine ⟨{ w with heap := w.heap.setIfInBounds m (.map (es.eraseIdxIfInBounds j) c) }, ?_, ⟨es.eraseIdxIfInBounds j, c, (heap_set h1).1, ?_⟩, ⟨rfl, rfl, rfl, by simp, fun k hk => (heap_set h1).2 k hk⟩⟩
    · intro ty
      unfold Builtin.delete_
      simp [Sem.run_bind, run_underlying ht, Result.andThen, Go.MapKept.run_getObj_map h1, run_checkKey hk (show IsKey .string (.string s) from trivial), run_findKey hk hf, Go.MapKept.run_setObj_map _ h1]
    · have hjl : j < es.size := by
        have := congrArg List.length h2
        rw [List.length_map, List.length_map, Array.length_toList] at this
        have := (List.getElem?_eq_some_iff.1 hj).1
        omega
      unfold Array.eraseIdxIfInBounds
      rw [dif_pos hjl, Array.toList_eraseIdx, eraseIdx_map', h2, eraseIdx_map']
end
#print axioms run_hit
#print axioms run_miss
#print axioms run_new
#print axioms run_del
end Go.Proofs.YtbemlaalccoepaaDoor.SMap
