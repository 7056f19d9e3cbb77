/- The road of strconv's errors, walked: a copy of a text, the two errors, toError, ParseUint, New, ModeOf at a text that is no number. (The copy's walk follows the kit's own proof of it.) -/
import Derived.Test.YtlfabebbpoipgaaDoorExtU
import Derived.Lib.Walk
import Derived.Lib.BufferWrite
import Derived.Lib.UnsafeStr
import Derived.Lib.Hide
import Derived.Laws.MakeOwn
import Derived.Deep.RegionWith
import Derived.LaidEql
import Derived.Test.YtlfabebbpoipgaaDoorWLast
set_option linter.unusedVariables false
set_option linter.unusedSimpArgs false
namespace Go.Proofs.YtlfabebbpoipgaaDoor.HandE
open Go.RowKit Go.Proofs.YtlfabebbpoipgaaDoorW Go.Proofs.YtlfabebbpoipgaaDoorW.PrintWords HandU HandO HandM

theorem inf5 : (Tryd.prog.info? 5).map (fun i => (i.zero, i.size, i.bytes)) = some (some (.int .u8 0), 1, 1) := by kernel_rfl

set_option maxHeartbeats 4000000 in
set_option maxRecDepth 100000 in
theorem clone (s : ByteArray) (w : World) (hlim : s.size ≤ 140737488351232) : Calls Tryd.prog 17 #[.string s] w fun e w' => e = .returned (.string s) ∧ Below w.heap.size w w' := by
  by_cases h0 : s.size = 0
  · obtain rfl : s = ⟨#[]⟩ := ByteArray.ext (Array.eq_empty_of_size_eq_zero h0)
    go_enter Tryd.func17, Tryd.ntmps17
    go_wp2
    go_ret
    exact ⟨rfl, Below.refl _ _⟩
  · obtain ⟨i0, hi, hz0, hz1, hz2⟩ := info_parts inf5
    have hinfo : (Tryd.prog.info? 5).map (·.size) = some 1 := by rw [hi]; simp [hz1]
    have hco : Tryd.prog.cellsOf 5 = 1 := by kernel_rfl
    obtain ⟨M, hM⟩ : ∃ M, M = madeCells (Value.int .u8 0).cells (((s.size : Nat) : Int).toNat * i0.size) := ⟨_, rfl⟩
    have hMs : M.size = s.size := by rw [hM, size_madeCells, hz1]; simp
    have hmk : ∀ W : World, (Instr.makeSlice 25 (.int .i64 (s.size : Int)) (.int .i64 (s.size : Int))).run Tryd.prog W = .ok (.slice (some ⟨W.heap.size, 0, none⟩) s.size s.size) (W.alloc (.cells M 5)) := fun W => by
      have h := run_make (P := Tryd.prog) W 25 5 i0 (.int .u8 0) Tryd.underlying25 hi hz0 .i64 .i64 (s.size : Int) (s.size : Int) (by omega) (by omega) (by rw [hz2]; omega) (by omega)
      rw [← hM] at h
      simpa using h
    clear hM
    have hcp := Lib.run_copy_row_string (P := Tryd.prog) (w.alloc (.cells M 5)) 25 9 3 5 w.heap.size 0 s.size s.size s M 5 Tryd.underlying25 hinfo (heap_alloc_new w _) (Nat.le_refl _) (by omega)
    obtain ⟨Y, hY⟩ : ∃ Y, Y = (M.toList.take 0 ++ Lib.byteCells s.data.toList ++ M.toList.drop (0 + s.size)).toArray := ⟨_, rfl⟩
    rw [← hY] at hcp
    have hYl : Y.toList = Lib.byteCells s.data.toList := by
      rw [hY, List.toList_toArray, List.take_zero, List.nil_append, List.drop_of_length_le (by rw [Array.length_toList]; omega), List.append_nil]
    have hYs : Y.size = s.size := by rw [← Array.length_toList, hYl, Lib.byteCells_length, ← Lib.size_eq]
    have hgY : ((w.alloc (.cells M 5)).setRow w.heap.size Y).heap[w.heap.size]? = some (.cells Y 5 (0, 0)) := setRow_heap _ _ M _ 5 (0, 0) (heap_alloc_new w _)
    have hne : s.data.toList ≠ [] := fun e => h0 (by rw [Lib.size_eq, e]; rfl)
    have hUS := Lib.run_unsafeString_row (P := Tryd.prog) ((w.alloc (.cells M 5)).setRow w.heap.size Y) 49 3 9 5 Tryd.underlying49 hco w.heap.size Y.size (by unfold World.shape?; rw [hgY]) s.data.toList hne (by rw [← Lib.size_eq]; omega) (by rw [← Lib.size_eq]; omega)
      (fun j x hx => Lib.cells_of_row hgY Y.size j _ (by rw [List.take_of_length_le (by rw [Array.length_toList]; exact Nat.le_refl _), hYl]; simp [Lib.byteCells, hx]))
    rw [← Lib.size_eq] at hUS
    clear hY
    go_enter Tryd.func17, Tryd.ntmps17
    go_wp2
    go_ret
    have hb1 : Below w.heap.size w (w.alloc (.cells M 5)) := (Below.refl _ w).alloc (Nat.le_refl _) _
    have hb2 : Below w.heap.size (w.alloc (.cells M 5)) ((w.alloc (.cells M 5)).setRow w.heap.size Y) := ⟨rfl, rfl, rfl, by simp, fun k hk => setRow_other _ _ _ _ (by omega)⟩
    exact ⟨rfl, Lib.below_freeze (hb1.trans hb2) (p := ⟨w.heap.size, 0, none⟩) (Nat.le_refl _) _⟩

set_option maxHeartbeats 4000000 in
set_option maxRecDepth 100000 in
theorem syn (fn s : ByteArray) (w : World) (hlim : s.size ≤ 140737488351232) (te : TypeId) (pe : Value) (hv : w.cell? ⟨0, 0, none⟩ = some (.iface te pe)) :
    Calls Tryd.prog 13 #[.string fn, .string s] w fun e w' => ∃ N, e = .returned (.pointer (some ⟨N, 0, none⟩)) ∧ Below w.heap.size w w' := by
  have hG : 0 < w.heap.size := World.block_lt_of_cell? w _ hv
  have hvd : w.drew.cell? ⟨0, 0, none⟩ = some (.iface te pe) := hv
  have e17 : ∀ args w, (callFunc 17 args).run Tryd.prog w = .ok (.enter 17 args) w := PrintLast.enters_ Tryd.func17 (by kernel_rfl) rfl
  go_enter Tryd.func13, Tryd.ntmps13
  go_wp2
  go_region_with (first | (go_at_call 17; (with_reducible refine (clone s _ hlim).mono ?_); rintro e w2 ⟨rfl, hbel⟩; have hv2 : w2.cell? ⟨0, 0, none⟩ = some (.iface te pe) := (hbel.cell (show (⟨0, 0, none⟩ : Addr).block < w.drew.heap.size from hG)).trans hvd))
  all_goals (
    go_wp2
    go_ret
    exact ⟨_, rfl, ((below_drew (Below.refl w.heap.size w)).trans hbel).alloc (below_drew (Below.refl w.heap.size w) |>.trans hbel).size _⟩)

set_option maxHeartbeats 4000000 in
set_option maxRecDepth 100000 in
theorem rng (fn s : ByteArray) (w : World) (hlim : s.size ≤ 140737488351232) (te : TypeId) (pe : Value) (hv : w.cell? ⟨1, 0, none⟩ = some (.iface te pe)) :
    Calls Tryd.prog 14 #[.string fn, .string s] w fun e w' => ∃ N, e = .returned (.pointer (some ⟨N, 0, none⟩)) ∧ Below w.heap.size w w' := by
  have hG : 1 < w.heap.size := World.block_lt_of_cell? w _ hv
  have hvd : w.drew.cell? ⟨1, 0, none⟩ = some (.iface te pe) := hv
  have e17 : ∀ args w, (callFunc 17 args).run Tryd.prog w = .ok (.enter 17 args) w := PrintLast.enters_ Tryd.func17 (by kernel_rfl) rfl
  go_enter Tryd.func14, Tryd.ntmps14
  go_wp2
  go_region_with (first | (go_at_call 17; (with_reducible refine (clone s _ hlim).mono ?_); rintro e w2 ⟨rfl, hbel⟩; have hv2 : w2.cell? ⟨1, 0, none⟩ = some (.iface te pe) := (hbel.cell (show (⟨1, 0, none⟩ : Addr).block < w.drew.heap.size from hG)).trans hvd))
  all_goals (
    go_wp2
    go_ret
    exact ⟨_, rfl, ((below_drew (Below.refl w.heap.size w)).trans hbel).alloc (below_drew (Below.refl w.heap.size w) |>.trans hbel).size _⟩)

/-- The two variables of strconv's errors hold errors. -/
def Vars (w : World) : Prop := (∃ te pe, w.cell? ⟨0, 0, none⟩ = some (.iface te pe)) ∧ ∃ te pe, w.cell? ⟨1, 0, none⟩ = some (.iface te pe)
theorem Vars.below {w w1 : World} (h : Vars w) (hb : Below w.heap.size w w1) : Vars w1 := by
  obtain ⟨⟨te, pe, h1⟩, te', pe', h2⟩ := h
  exact ⟨⟨te, pe, (hb.cell (World.block_lt_of_cell? w _ h1)).trans h1⟩, te', pe', (hb.cell (World.block_lt_of_cell? w _ h2)).trans h2⟩

/-- Whether two errors of internal/strconv are one: as their numbers are. -/
theorem sameIn (d : Nat) (a b : Int) (w : World) : (Op.equalIn (d + 2) 31 (.iface 38 (.int .i64 a)) (.iface 38 (.int .i64 b))).run Tryd.prog w = .ok (a == b) w := by
  obtain ⟨i, hi, hc⟩ := Option.map_eq_some_iff.1 (show (Tryd.prog.info? 38).map (fun i => i.comparable) = some true by kernel_rfl)
  simp [Op.equalIn, run_underlying Tryd.underlying31, run_underlying Tryd.underlying38, typeInfo, hi, hc]
theorem same (a b : Int) (w : World) : (binOp .eql 31 (.iface 38 (.int .i64 a)) (.iface 38 (.int .i64 b))).run Tryd.prog w = .ok (.bool (a == b)) w := by
  have h := sameIn 9998 a b w
  simp only [binOp]
  simp [Op.equal, Op.maxDepth, h]

set_option maxHeartbeats 4000000 in
theorem told (fn s : ByteArray) (c : Int) (hc : c = 1 ∨ c = 2) (w : World) (hlim : s.size ≤ 140737488351232) (hV : Vars w) :
    Calls Tryd.prog 10 #[.string fn, .string s, .int .i64 8, .int .i64 32, .iface 38 (.int .i64 c)] w fun e w' => ∃ N, e = .returned (.iface 42 (.pointer (some ⟨N, 0, none⟩))) ∧ Below w.heap.size w w' := by
  obtain ⟨⟨te, pe, h1⟩, te', pe', h2⟩ := hV
  have HS := Aside0.mk (syn fn s w hlim te pe h1)
  have HR := Aside0.mk (rng fn s w hlim te' pe' h2)
  have h12 := fun w => same 1 2 w
  have h11 := fun w => same 1 1 w
  have h22 := fun w => same 2 2 w
  rcases hc with rfl | rfl
  · go_enter Tryd.func10, Tryd.ntmps10
    go_wp2_with (first | (go_at_call 14; (with_reducible refine HR.out.mono ?_); rintro e w' ⟨N, rfl, hb⟩; have HB := Aside0.mk hb; clear hb))
    go_ret
    exact ⟨_, rfl, HB.out⟩
  · go_enter Tryd.func10, Tryd.ntmps10
    go_wp2_with (first | (go_at_call 13; (with_reducible refine HS.out.mono ?_); rintro e w' ⟨N, rfl, hb⟩; have HB := Aside0.mk hb; clear hb))
    go_ret
    exact ⟨_, rfl, HB.out⟩

set_option maxHeartbeats 4000000 in
theorem pub_bad (s : ByteArray) (hs : s.size ≤ 140737488351232) (h : q8 s.data.toList = none) (w : World) (hV : Vars w) :
    Calls Tryd.prog 8 #[.string s, .int .i64 8, .int .i64 32] w fun e w' => (∃ x N, e = .returned (.tuple #[.int .u64 x, .iface 42 (.pointer (some ⟨N, 0, none⟩))])) ∧ Below w.heap.size w w' := by
  have HR : Aside0 (Calls Tryd.prog 9 #[.string s, .int .i64 8, .int .i64 32] w fun e w' => (∃ x c : Int, (c = 1 ∨ c = 2) ∧ e = .returned (.tuple #[.int .u64 x, .iface 38 (.int .i64 c)])) ∧ Below w.heap.size w w') := ⟨by
    refine (reads s hs w).mono fun e w' hh => ⟨?_, hh.2⟩
    rcases hh.1 with ⟨v', h1, h2⟩ | ⟨h1, h2⟩
    · rw [h] at h1
      cases h1
    · exact h2⟩
  have HT : Aside0 (∀ c : Int, (c = 1 ∨ c = 2) → ∀ w', Below w.heap.size w w' → Calls Tryd.prog 10 #[.string ⟨#[80, 97, 114, 115, 101, 85, 105, 110, 116]⟩, .string s, .int .i64 8, .int .i64 32, .iface 38 (.int .i64 c)] w' fun e w'' => ∃ N, e = .returned (.iface 42 (.pointer (some ⟨N, 0, none⟩))) ∧ Below w'.heap.size w' w'') := ⟨fun c hc w' hb => told _ s c hc w' hs (hV.below hb)⟩
  clear h hs hV
  go_enter Tryd.func8, Tryd.ntmps8
  go_wp2_with (first
    | (go_at_call 9; (with_reducible refine HR.out.mono ?_); rintro e w' ⟨⟨x, c, hc, rfl⟩, hb⟩; have HB := Aside0.mk hb; have HC := Aside0.mk hc; clear hb hc)
    | (go_at_call 10; (with_reducible refine (HT.out _ HC.out _ HB.out).mono ?_); rintro e w2 ⟨N, rfl, hb⟩; have HB2 := Aside0.mk hb; clear hb))
  go_ret2
  exact ⟨⟨_, _, rfl⟩, HB.out.trans (HB2.out.mono HB.out.size)⟩
set_option maxHeartbeats 4000000 in
theorem new_bad (s : ByteArray) (hs : s.size ≤ 140737488351232) (h : q8 s.data.toList = none) (w : World) (hV : Vars w) :
    Calls Tryd.prog 7 #[.string s] w fun e w' => (∃ N, e = .returned (.tuple #[.int .u32 0, .iface 42 (.pointer (some ⟨N, 0, none⟩))])) ∧ Below w.heap.size w w' := by
  have HR := Aside0.mk (pub_bad s hs h w hV)
  clear h hs hV
  go_enter Tryd.func7, Tryd.ntmps7
  go_wp2_with (first | (go_at_call 8; (with_reducible refine HR.out.mono ?_); rintro e w' ⟨⟨x, N, rfl⟩, hb⟩; have HB := Aside0.mk hb; clear hb))
  go_ret2
  exact ⟨⟨_, rfl⟩, HB.out⟩
set_option maxHeartbeats 4000000 in
theorem mode_bad (s : ByteArray) (hs : s.size ≤ 140737488351232) (h : q8 s.data.toList = none) (w : World) (hV : Vars w) :
    Calls Tryd.prog 5 #[.string s] w fun e w' => e = .returned (.tuple #[.int .u32 0, .bool false]) ∧ Below w.heap.size w w' := by
  have HR := Aside0.mk (new_bad s hs h w hV)
  clear h hs hV
  go_enter Tryd.func5, Tryd.ntmps5
  go_wp2_with (first | (go_at_call 7; (with_reducible refine HR.out.mono ?_); rintro e w' ⟨⟨N, rfl⟩, hb⟩; have HB := Aside0.mk hb; clear hb))
  go_quiet (fail)
  go_wp2
  go_ret2
  exact ⟨rfl, by first | exact HB.out | exact below_drew HB.out | exact pw_below_drewN HB.out _⟩
end Go.Proofs.YtlfabebbpoipgaaDoor.HandE
