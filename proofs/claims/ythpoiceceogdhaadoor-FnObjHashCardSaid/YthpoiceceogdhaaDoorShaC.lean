/- zzSha1.Reset and hash.New walked; appending a row that may be empty. -/
import Derived.Test.YthpoiceceogdhaaDoorShaB
import Derived.Deep.MidRow
set_option linter.unusedVariables false
set_option linter.unusedSimpArgs false
namespace Go.Proofs.YthpoiceceogdhaaDoor.ShaC
open Go.RowKit Go.Proofs.YthpoiceceogdhaaDoorW.PrintWords Go.Proofs.YthpoiceceogdhaaDoor.QAll ShaA ShaP ShaB

theorem set5 {w : World} {g t : Nat} {x0 x1 x2 x3 x4 x5 x6 : Value} (h : w.heap[g]? = some (.cells #[x0, x1, x2, x3, x4, x5, x6] t (0, 0))) (y0 y1 y2 y3 y4 : Value) :
    (w.setCells g 0 [y0, y1, y2, y3, y4]).heap[g]? = some (.cells #[y0, y1, y2, y3, y4, x5, x6] t (0, 0)) := by
  have h0 := (Lib.heap_setCell_same (i := 0) h y0).trans (b := _) rfl
  have h1 := Lib.heap_setCell_same (i := 1) h0 y1
  have h2 := Lib.heap_setCell_same (i := 2) h1 y2
  have h3 := Lib.heap_setCell_same (i := 3) h2 y3
  have h4 := Lib.heap_setCell_same (i := 4) h3 y4
  exact h4.trans rfl
theorem Off.setCells (w : World) (b : Nat) : ∀ (vs : List Value) (o : Nat), Off w (w.setCells b o vs) (fun k => k = b)
  | [], _ => Off.refl w _
  | v :: r, o => by
    have h1 := Off.set w b o v
    suffices h : ∀ (vs : List Value) (o : Nat) (w0 : World), Off w w0 (fun k => k = b) → Off w (w0.setCells b o vs) (fun k => k = b) from h r (o + 1) _ h1
    intro vs
    induction vs with
    | nil => intro o w0 h; exact h
    | cons x xs ih => intro o w0 h; exact ih (o + 1) _ (h.trans (Off.set w0 b o x) (fun _ _ h => h))
theorem there5 {w : World} {g t : Nat} {cs : Array Value} (h : w.heap[g]? = some (.cells cs t (0, 0))) (hs : 5 ≤ cs.size) : w.there g 0 5 := fun j hj => by
  refine ⟨?_, Lib.frozen_of_heap h _⟩
  rw [Lib.cell_of_heap h]
  simp
  omega
theorem info75 : (Tryd.prog.info? 51).map (fun i => i.size) = some 5 := by kernel_rfl
theorem info116 : (Tryd.prog.info? 62).bind (fun i => i.zero) = some (.agg #[.int .u32 0, .int .u32 0, .int .u32 0, .int .u32 0, .int .u32 0, .slice none 0 0, .int .u64 0]) := by kernel_rfl

def init5 : Array Value := #[.int .u32 1732584193, .int .u32 4023233417, .int .u32 2562383102, .int .u32 271733878, .int .u32 3285377520]
theorem init5_all : init5.all (·.oneCell') = true := all_oneCell_toArray (cs := [.int .u32 1732584193, .int .u32 4023233417, .int .u32 2562383102, .int .u32 271733878, .int .u32 3285377520]) (by intro v hv; simp only [List.mem_cons, List.not_mem_nil, or_false] at hv; rcases hv with rfl | rfl | rfl | rfl | rfl <;> rfl)
theorem init5_size : init5.size = 5 := rfl
theorem gate_op {ops : Array Oper} {Q : Exit → Act → World → Prop} {a : Act} {rest : List Oper} {o : Oper} {W : World} {x : Op} (_h : o.op = x) (h : wpList Tryd.prog ops Q (o :: rest) a W) : wpList Tryd.prog ops Q (o :: rest) a W := h
set_option maxHeartbeats 400000 in
set_option maxRecDepth 100000 in
theorem reset (hb : Nat) (x0 x1 x2 x3 x4 x5 x6 : Value) (w : World) (h : w.heap[hb]? = some (.cells #[x0, x1, x2, x3, x4, x5, x6] 62 (0, 0))) :
    Calls Tryd.prog 25 #[.pointer (some ⟨hb, 0, none⟩)] w fun e w' => e = .returned (.tuple #[]) ∧ Ob w' hb init (.slice none 0 0) 0 ∧ Off w w' (fun k => k = hb) := by
  have H := Aside0.mk h
  have h1 := set5 h (.int .u32 1732584193) (.int .u32 4023233417) (.int .u32 2562383102) (.int .u32 271733878) (.int .u32 3285377520)
  have HT : Aside0 (w.there hb 0 5) := ⟨there5 h (by simp)⟩
  have HO : Aside0 (Off w (w.setCells hb 0 [.int .u32 1732584193, .int .u32 4023233417, .int .u32 2562383102, .int .u32 271733878, .int .u32 3285377520]) (fun k => k = hb)) := ⟨Off.setCells w hb _ 0⟩
  clear h
  go_enter Tryd.func25, Tryd.ntmps25
  go_wp2_with (first
    | ((with_reducible refine gate_op (x := .store 51 (.tmp 5) (.tmp 3)) rfl ?_)
       refine wpList_store_mid rfl 51 (.tmp 5) (.tmp 3) rfl hb 0 init5 rfl rfl HT.out info75 init5_all ?_
       change wpList _ _ _ _ _ (w.setCells hb 0 [.int .u32 1732584193, .int .u32 4023233417, .int .u32 2562383102, .int .u32 271733878, .int .u32 3285377520])
       generalize w.setCells hb 0 [.int .u32 1732584193, .int .u32 4023233417, .int .u32 2562383102, .int .u32 271733878, .int .u32 3285377520] = w1 at h1 HO ⊢
       have H1 := Aside0.mk h1
       have c5 : w1.cell? ⟨hb, 5, none⟩ = some x5 := (Lib.cell_of_heap h1 5).trans rfl
       have c6 : w1.cell? ⟨hb, 6, none⟩ = some x6 := (Lib.cell_of_heap h1 6).trans rfl
       have f5 := Lib.frozen_of_heap h1 5
       have f6 := Lib.frozen_of_heap h1 6
       clear h1)
    | fail)
  go_end0
  refine ⟨rfl, ?_, (HO.out.trans (Off.set _ hb 5 _) (fun _ _ h => h)).trans (Off.set _ hb 6 _) (fun _ _ h => h)⟩
  exact (Lib.heap_setCell_same (i := 6) (Lib.heap_setCell_same (i := 5) H1.out _) _).trans rfl

set_option maxHeartbeats 4000000 in
set_option maxRecDepth 100000 in
theorem newHash (x : Int) (w : World) :
    Calls Tryd.prog 20 #[.int .i64 x] w fun e w' => ∃ hb, e = .returned (.iface 60 (.pointer (some ⟨hb, 0, none⟩))) ∧ hb = w.heap.size ∧ Hs w' hb (.slice none 0 0) [] ∧ Below w.heap.size w w' := by
  go_enter Tryd.func20, Tryd.ntmps20
  go_wp2_with (first
    | (go_at_call 25
       (with_reducible refine (reset _ _ _ _ _ _ _ _ _ (heap_alloc_new w _)).mono ?_)
       rintro e w2 ⟨rfl, hob, hoff⟩
       have HOB := Aside0.mk hob
       have HOF := Aside0.mk hoff
       clear hob hoff)
    | fail)
  go_ret
  refine ⟨_, rfl, rfl, ⟨HOB.out, BQ.nil _ _, fun x h => by cases h⟩, ?_⟩
  exact (below_alloc (Below.refl _ _) _).trans (HOF.out.below (by show _ ≤ (w.heap.push _).size; simp) (fun k hk => Nat.le_of_eq hk.symm))
end Go.Proofs.YthpoiceceogdhaaDoor.ShaC
