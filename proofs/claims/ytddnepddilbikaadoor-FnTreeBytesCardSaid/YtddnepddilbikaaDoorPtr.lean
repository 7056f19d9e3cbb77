/- Kinds: a pointer to a block of the call's own; cells as they lie. -/
import Derived.Test.YtddnepddilbikaaDoorQAllx0
import Derived.Laws.CopyRow
import Derived.Laws.CopyOwn
import Derived.Deep.MidRow
set_option linter.unusedVariables false
namespace Go.Proofs.YtddnepddilbikaaDoor.Ptr
open Go.RowKit Go.Proofs.YtddnepddilbikaaDoorW.PrintWords

/-- A pointer to a block of type t, whose cells are of kind d. -/
def ptr {α : Type} (t : Nat) (d : Kd α) : Kd α where
  sz := 1
  E := t :: d.E
  K := fun w x cs => ∃ g cells, cs = [.pointer (some ⟨g, 0, none⟩)] ∧ w.heap[g]? = some (.cells cells t (0, 0)) ∧ d.K w x cells.toList
  M := fun w base ok x cs => ∃ g cells, cs = [.pointer (some ⟨g, 0, none⟩)] ∧ ok g ∧ base ≤ g ∧ w.heap[g]? = some (.cells cells t (0, 0)) ∧ d.M w base (fun k => ok k ∧ k ≠ g) x cells.toList
  K_len := by
    rintro w x cs ⟨g, cells, rfl, _⟩
    rfl
  K_one := by
    rintro w x cs ⟨g, cells, rfl, _⟩ u hu
    rw [List.mem_singleton.1 hu]
    rfl
  K_below := by
    rintro w w1 x cs hb ⟨g, cells, rfl, hg, hd⟩
    exact ⟨g, cells, rfl, blk_below hg hb, d.K_below hb hd⟩
  K_of_M := by
    rintro w base ok x cs ⟨g, cells, rfl, _, _, hg, hd⟩
    exact ⟨g, cells, rfl, hg, d.K_of_M hd⟩
  M_mono := by
    rintro w base ok ok' x cs hok ⟨g, cells, rfl, h1, h2, hg, hd⟩
    exact ⟨g, cells, rfl, hok g h1, h2, hg, d.M_mono (fun k hk => ⟨hok k hk.1, hk.2⟩) hd⟩
  M_bound := by
    rintro w base ok x cs ⟨g, cells, rfl, h1, h2, hg, hd⟩
    refine ⟨g, cells, rfl, ⟨h1, h2, blk_lt hg, t, List.mem_cons_self, cells, hg⟩, h2, hg, d.M_mono ?_ (d.M_bound hd)⟩
    rintro k ⟨⟨h3, h4⟩, h5, h6, q, hq, hc⟩
    exact ⟨⟨h3, h5, h6, q, List.mem_cons_of_mem _ hq, hc⟩, h4⟩
  M_move := by
    rintro w w1 base ok x cs hm ⟨g, cells, rfl, h1, h2, hg, hd⟩
    exact ⟨g, cells, rfl, h1, h2, (hm g h1).trans hg, d.M_move (fun k hk => hm k hk.1) hd⟩
  M_lower := by
    rintro w base base' ok x cs hb ⟨g, cells, rfl, h1, h2, hg, hd⟩
    exact ⟨g, cells, rfl, h1, Nat.le_trans hb h2, hg, d.M_lower hb hd⟩

/-- n cells as they lie. -/
def raw (n : Nat) : Kd (List Value) where
  sz := n
  E := []
  K := fun _ x cs => cs = x ∧ x.length = n ∧ ∀ u ∈ x, u.oneCell' = true
  M := fun _ _ _ x cs => cs = x ∧ x.length = n ∧ ∀ u ∈ x, u.oneCell' = true
  K_len := by
    rintro w x cs ⟨rfl, h, _⟩
    exact h
  K_one := by
    rintro w x cs ⟨rfl, _, h⟩
    exact h
  K_below := fun _ h => h
  K_of_M := fun h => h
  M_mono := fun _ h => h
  M_bound := fun h => h
  M_move := fun _ h => h
  M_lower := fun _ h => h

/-- A block that is made, and the pointer to it. -/
theorem ptr_new {α : Type} {t : Nat} {d : Kd α} {w : World} {base : Nat} {ok : Nat → Prop} {x : α} {cells : Array Value} (hd : d.M w base ok x cells.toList) (hb : base ≤ w.heap.size) (hok : ok w.heap.size) :
    (ptr t d).M (w.alloc (.cells cells t)) base ok x [.pointer (some ⟨w.heap.size, 0, none⟩)] := by
  refine ⟨w.heap.size, cells, rfl, hok, hb, blk_new w _, ?_⟩
  have h1 := d.M_bound hd
  have h2 := d.M_move (w1 := w.alloc (.cells cells t)) (fun k hk => (Below.heap_alloc w _ k hk.2.2.1)) h1
  exact d.M_mono (fun k hk => ⟨hk.1, Nat.ne_of_lt hk.2.2.1⟩) h2
/-- What a pointer of this kind leads to. -/
theorem ptr_open {α : Type} {t : Nat} {d : Kd α} {w : World} {x : α} {cs : List Value} (h : (ptr t d).K w x cs) : ∃ g cells, cs = [.pointer (some ⟨g, 0, none⟩)] ∧ w.heap[g]? = some (.cells cells t (0, 0)) ∧ d.K w x cells.toList := h

/-! ### A whole row stored, loaded -/
section
variable {P : Program}
theorem run_storeVar_row (w : World) (g : Nat) (t : TypeId) (cur cells : Array Value) (ty : TypeId) (hg : w.heap[g]? = some (.cells cur t (0, 0))) (hsz : cells.size = cur.size) (hi : (P.info? ty).map (·.size) = some cells.size) (h1 : ∀ v ∈ cells.toList, v.oneCell' = true) :
    (storeVar ty ⟨g, 0, none⟩ (.agg cells)).run P w = .ok () (w.setRow g cells) := by
  have := run_storeCells_at P g 0 t cells.toList 0 cur w hg (by simp; omega) h1
  have e : (cur.toList.take (0 + 0) ++ cells.toList ++ cur.toList.drop (0 + 0 + cells.toList.length)).toArray = cells := by
    rw [List.drop_of_length_le (by simp; omega)]
    simp
  rw [e] at this
  cases hq : P.info? ty with
  | none => simp [hq] at hi
  | some i =>
    have hs : cells.size = i.size := by simp [hq] at hi; omega
    simp [storeVar, sizeOf, typeInfo, hq, Value.cells, hs, this]
theorem exec_store_row {o : Oper} {a : Act} {w : World} (ty : TypeId) (x y : Operand) (ho : o.op = .store ty x y) (g : Nat) (t : TypeId) (cur cells : Array Value) (hx : a.eval x = .pointer (some ⟨g, 0, none⟩)) (hy : a.eval y = .agg cells)
    (hg : w.heap[g]? = some (.cells cur t (0, 0))) (hsz : cells.size = cur.size) (hi : (P.info? ty).map (·.size) = some cells.size) (h1 : ∀ v ∈ cells.toList, v.oneCell' = true) :
    (execOp a.eval o).run P w = .ok .skip (w.setRow g cells) := by
  unfold execOp
  simp only [ho, hx, hy, Instr.storeAt, Instr.sureAddr, Sem.run_bind, Sem.run_pure, Result.andThen_ok, run_storeVar_row w g t cur cells ty hg hsz hi h1]
theorem wpList_put_row {ops : Array Oper} {rest : List Oper} {o : Oper} {a : Act} {w : World} {Q : Exit → Act → World → Prop} (hgd : o.guard = none) (ty : TypeId) (p : Tmp) (y : Operand) (ho : o.op = .store ty (.tmp p) y) (hN : o.dst = none) (g : Nat) (t : TypeId) (cur cells : Array Value)
    (hx : a.eval (.tmp p) = .pointer (some ⟨g, 0, none⟩)) (hy : a.eval y = .agg cells)
    (hg : w.heap[g]? = some (.cells cur t (0, 0))) (hsz : cells.size = cur.size) (hi : (P.info? ty).map (·.size) = some cells.size) (h1 : ∀ v ∈ cells.toList, v.oneCell' = true)
    (h : wpList P ops Q rest a (w.setRow g cells)) : wpList P ops Q (o :: rest) a w := by
  refine store_event hgd ho hN (exec_store_row ty _ _ ho g t cur cells hx hy hg hsz hi h1) ?_
  rintro w' rfl
  exact h
theorem exec_load_row {o : Oper} {a : Act} {w : World} (ty : TypeId) (x : Operand) (ho : o.op = .load ty x) (g : Nat) (t : TypeId) (cs : Array Value) (fr : Nat × Nat) (d : TypeDesc) (hx : a.eval x = .pointer (some ⟨g, 0, none⟩))
    (hg : w.heap[g]? = some (.cells cs t fr)) (hu : P.underlying ty = some d) (hd : (match d with | .struct _ | .array _ _ => true | _ => false) = true) (hi : (P.info? ty).map (·.size) = some cs.size) :
    (execOp a.eval o).run P w = .ok (.value (.agg cs)) w := by
  unfold execOp
  simp only [ho, hx, Instr.loadAt, Instr.sureAddr, Sem.run_bind, Sem.run_pure, Result.andThen_ok, run_loadVar_row w g t ty cs fr d hg hu hd hi]
theorem wpList_get_row {ops : Array Oper} {rest : List Oper} {o : Oper} {a : Act} {w : World} {Q : Exit → Act → World → Prop} (hgd : o.guard = none) (ty : TypeId) (p : Tmp) (N : Tmp) (ho : o.op = .load ty (.tmp p)) (hN : o.dst = some N) (g : Nat) (t : TypeId) (cs : Array Value) (fr : Nat × Nat) (d : TypeDesc)
    (hx : a.eval (.tmp p) = .pointer (some ⟨g, 0, none⟩)) (hg : w.heap[g]? = some (.cells cs t fr)) (hu : P.underlying ty = some d) (hd : (match d with | .struct _ | .array _ _ => true | _ => false) = true) (hi : (P.info? ty).map (·.size) = some cs.size)
    (h : wpList P ops Q rest (a.put (some N) (.agg cs)) w) : wpList P ops Q (o :: rest) a w :=
  Kd.event_run hgd (exec_load_row ty _ ho g t cs fr d hx hg hu hd hi) (by rw [hN]; exact h)
theorem setRow_new (w : World) (a b : Array Value) (t : Nat) : (w.alloc (.cells a t)).setRow w.heap.size b = w.alloc (.cells b t) := by
  have e : ∀ (A : Array Obj) (o : Obj) (f : Obj → Obj), (A.push o).modify A.size f = A.push (f o) := by
    intro A o f
    apply Array.ext_getElem?
    intro i
    rw [Array.getElem?_modify, Array.getElem?_push, Array.getElem?_push]
    split <;> split <;> simp_all
  unfold World.setRow World.alloc
  simp only [e]
end

#print axioms ptr_new
end Go.Proofs.YtddnepddilbikaaDoor.Ptr
