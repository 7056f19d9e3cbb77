/- Two buffers of one call: a buffer's row named, what a write leaves alone; grow (the walks follow the kit's own). -/
import Derived.Test.YtlboochpbplhlaaDoorHandD
import Derived.Lib.BufferOwn
import Derived.Lib.BufferGrow
import Derived.Lib.BufferRead
import Derived.Deep.RegionWith
set_option linter.unusedVariables false
set_option linter.unusedSimpArgs false
namespace Go.Proofs.YtlboochpbplhlaaDoor.HandK
open Go.RowKit Go.Proofs.YtlboochpbplhlaaDoorW.PrintWords Go.Proofs.YtlboochpbplhlaaDoor.QAll PureD HandA HandB HandC HandD

/-- Nothing but the blocks of S has turned. -/
structure Off (w w' : World) (S : Nat → Prop) : Prop where
  zero : Below 0 w w'
  blk : ∀ k, k < w.heap.size → ¬ S k → w'.heap[k]? = w.heap[k]?
theorem Off.refl (w : World) (S : Nat → Prop) : Off w w S := ⟨Below.refl 0 w, fun _ _ _ => rfl⟩
theorem Off.trans {w w1 w2 : World} {S S2 : Nat → Prop} (h : Off w w1 S) (h2 : Off w1 w2 S2) (hS : ∀ k, k < w.heap.size → S2 k → S k) : Off w w2 S :=
  ⟨h.zero.trans h2.zero, fun k hk hn => (h2.blk k (Nat.lt_of_lt_of_le hk h.zero.size) (fun hs => hn (hS k hk hs))).trans (h.blk k hk hn)⟩
theorem Off.mono {w w1 : World} {S S2 : Nat → Prop} (h : Off w w1 S) (hS : ∀ k, k < w.heap.size → S k → S2 k) : Off w w1 S2 := ⟨h.zero, fun k hk hn => h.blk k hk (fun hs => hn (hS k hk hs))⟩
theorem Off.below {w w1 : World} {S : Nat → Prop} {B : Nat} (h : Off w w1 S) (hB : B ≤ w.heap.size) (hS : ∀ k, S k → B ≤ k) : Below B w w1 :=
  ⟨h.zero.os, h.zero.tape, h.zero.output, h.zero.size, fun k hk => h.blk k (by omega) (fun hs => by have := hS k hs; omega)⟩
theorem Off.of_below {w w1 : World} (h : Below w.heap.size w w1) (S : Nat → Prop) : Off w w1 S := ⟨⟨h.os, h.tape, h.output, h.size, fun k hk => by omega⟩, fun k hk _ => h.block k hk⟩
theorem Off.of_grown {w w1 : World} {b : Nat} (h : w.grownBy w1 (some b)) : Off w w1 (fun k => k = b) := ⟨⟨h.os, h.tape, h.output, h.size, fun k hk => by omega⟩, fun k hk hn => h.block k hk (fun e => hn (Option.some.inj e))⟩
theorem Off.set (w : World) (b i : Nat) (v : Value) : Off w (w.setCell ⟨b, i, none⟩ v) (fun k => k = b) :=
  ⟨(Below.refl 0 w).setCell (p := ⟨b, i, none⟩) (Nat.zero_le _) v, fun k hk hn => Below.heap_setCell w ⟨b, i, none⟩ v k hn⟩
theorem Off.drewN (w : World) (q : Nat) (S : Nat → Prop) : Off w (w.drewN q) S := ⟨⟨rfl, rfl, rfl, Nat.le_refl _, fun _ _ => rfl⟩, fun _ _ _ => rfl⟩

/-- A buffer in block b, its row in r (if it has one), holding bs. -/
def Buf (w : World) (b : Nat) : Option Nat → List Value → Prop
  | none, bs => bs = [] ∧ ∃ lr, w.heap[b]? = some (.cells #[.slice none 0 0, .int .i64 0, .int .i8 lr] 52 (0, 0))
  | some g, bs => ∃ cap lr cur, w.heap[b]? = some (.cells #[.slice (some ⟨g, 0, none⟩) bs.length cap, .int .i64 0, .int .i8 lr] 52 (0, 0)) ∧ w.heap[g]? = some (.cells cur 5 (0, 0)) ∧ bs.length ≤ cap ∧ cap ≤ maxLen ∧ cur.size = cap ∧ cur.toList.take bs.length = bs ∧ g ≠ b
theorem Buf.lt {w : World} {b : Nat} {r : Option Nat} {bs : List Value} (h : Buf w b r bs) : b < w.heap.size := by
  cases r with
  | none => obtain ⟨_, lr, h⟩ := h; exact Lib.lt_of_heap h
  | some g => obtain ⟨cap, lr, cur, h, _⟩ := h; exact Lib.lt_of_heap h
theorem Buf.rlt {w : World} {b g : Nat} {bs : List Value} (h : Buf w b (some g) bs) : g < w.heap.size ∧ g ≠ b ∧ ∃ cur, w.heap[g]? = some (.cells cur 5 (0, 0)) := by
  obtain ⟨cap, lr, cur, h, h2, _, _, _, _, h3⟩ := h
  exact ⟨Lib.lt_of_heap h2, h3, cur, h2⟩
theorem Buf.is {w : World} {b : Nat} {r : Option Nat} {bs : List Value} (h : Buf w b r bs) : Lib.IsBuffer 52 5 0 b bs w := by
  cases r with
  | none => obtain ⟨rfl, lr, h⟩ := h; exact ⟨Nat.zero_le _, _, lr, h, World.ownsRow_nil _ _ _ _, by simp [Value.ownBlock]⟩
  | some g =>
    obtain ⟨cap, lr, cur, h, h2, h3, h4, h5, h6, h7⟩ := h
    exact ⟨Nat.zero_le _, _, lr, h, ⟨by simp, .inr ⟨g, cap, cur, rfl, Nat.zero_le _, h2, h3, h4, by omega, by rw [Nat.mul_one]; exact h6⟩⟩, by simp [Value.ownBlock]; exact h7⟩
theorem Buf.of_is {w : World} {B b N l cap : Nat} {lr : Int} {bs : List Value} (h : Lib.IsBuffer 52 5 B b bs w) (hb : w.heap[b]? = some (.cells #[.slice (some ⟨N, 0, none⟩) l cap, .int .i64 0, .int .i8 lr] 52 (0, 0))) : Buf w b (some N) bs := by
  obtain ⟨_, lr2, hc⟩ := h.cases
  rcases hc with ⟨_, hbk⟩ | ⟨g, cap2, cur, hbk, _, h2, h3, h4, h5, h6, h7⟩
  · rw [hb] at hbk; simp at hbk
  · rw [hb] at hbk
    simp at hbk
    obtain ⟨⟨rfl, rfl, rfl⟩, rfl⟩ := hbk
    exact ⟨_, _, cur, hb, h2, h3, h4, h5, h6, h7⟩
theorem Buf.off {w w' : World} {S : Nat → Prop} {b : Nat} {r : Option Nat} {bs : List Value} (h : Buf w b r bs) (ho : Off w w' S) (hb : ¬ S b) (hr : ∀ g, r = some g → ¬ S g) : Buf w' b r bs := by
  have hlt := h.lt
  cases r with
  | none => obtain ⟨h1, lr, h2⟩ := h; exact ⟨h1, lr, (ho.blk b hlt hb).trans h2⟩
  | some g =>
    have hg := h.rlt.1
    obtain ⟨cap, lr, cur, h1, h2, h3⟩ := h
    exact ⟨cap, lr, cur, (ho.blk b hlt hb).trans h1, (ho.blk g hg (hr g rfl)).trans h2, h3⟩
theorem blk_type {w : World} {k : Nat} {a a' : Array Value} {t t' : TypeId} {f f' : Nat × Nat} (h : w.heap[k]? = some (.cells a t f)) (h' : w.heap[k]? = some (.cells a' t' f')) : t = t' := by
  rw [h] at h'
  injection h' with h'
  injection h'

/-- What grow tells. -/
def Grew (w w' : World) (b n : Nat) (bs : List Value) : Prop := ∃ N xs, xs.length = n ∧ w.heap.size ≤ N ∧ Buf w' b (some N) (bs ++ xs) ∧ Off w w' (fun k => k = b)

theorem info5' : (Tryd.prog.info? 5).map (fun i => (i.zero, i.size, i.bytes)) = some (some (.int .u8 0), 1, 1) := by kernel_rfl
theorem grow_end' {b N l n cap2 : Nat} {lr : Int} {w w2 : World} {v0 : Value} {cells : Array Value} {bs : List Value} (hb : b < w.heap.size)
    (hbk2 : w2.heap[b]? = some (.cells #[v0, .int .i64 0, .int .i8 lr] 52 (0, 0))) (hN : w2.heap[N]? = some (.cells cells 5 (0, 0))) (hBN : w.heap.size ≤ N)
    (hcsz : cells.size = cap2) (htk : cells.toList.take l = bs) (hcap2 : l + n ≤ cap2) (hcm2 : cap2 ≤ maxLen) (hg : w.grownBy w2 (some b)) (v1 : Value) :
    Grew w (((w2.setCell ⟨b, 0, none⟩ v1).setCell ⟨b, 1, none⟩ (.int .i64 0)).setCell ⟨b, 0, none⟩ (.slice (some ⟨N, 0, none⟩) (l + n) cap2)) b n bs := by
  obtain ⟨xs, q1, q2, q3⟩ := Lib.grow_end (B := 0) (w := w) (Nat.zero_le b) hbk2 hN (Nat.zero_le N) (by omega) hcsz htk hcap2 hcm2 (Off.of_grown hg).zero v1
  exact ⟨N, xs, q1, hBN, Buf.of_is q2 (Lib.heap_setCell_same (i := 0) (Lib.heap_setCell_same (i := 1) (Lib.heap_setCell_same (i := 0) hbk2 _) _) _), Off.of_grown (Lib.grownBy_setB (Lib.grownBy_setB (Lib.grownBy_setB hg 0 _) 1 _) 0 _)⟩

set_option maxHeartbeats 6400000 in
set_option maxRecDepth 100000 in
theorem grow_small (b n : Nat) (lr : Int) (w : World) (hbk : w.heap[b]? = some (.cells #[.slice none 0 0, .int .i64 0, .int .i8 lr] 52 (0, 0))) (hn : 1 ≤ n) (h64 : n ≤ 64) :
    Calls Tryd.prog 43 #[.pointer (some ⟨b, 0, none⟩), .int .i64 n] w fun e w' => e = .returned (.int .i64 0) ∧ Grew w w' b n [] := by
  have u52 := run_underlying Tryd.underlying52
  obtain ⟨i0, hi, hz0, hz1, hz2⟩ := info_parts info5'
  obtain ⟨M, hM⟩ : ∃ M, M = madeCells (Value.int .u8 0).cells ((64 : Int).toNat * i0.size) := ⟨_, rfl⟩
  have hMs : M.size = 64 := by rw [hM, size_madeCells, hz1]; rfl
  have hmk : ∀ W : World, (Instr.makeSlice 22 (.int .i64 (n : Int)) (.int .i64 64)).run Tryd.prog W = .ok (.slice (some ⟨W.heap.size, 0, none⟩) n 64) (W.alloc (.cells M 5)) := fun W => by
    have h := run_makeSlice (P := Tryd.prog) W 22 5 i0 (.int .u8 0) Tryd.underlying22 hi hz0 .i64 .i64 (n : Int) 64 (by omega) (by omega) (by rw [hz1]; decide) (by rw [hz2]; decide) (by decide)
    rw [← hM] at h
    simpa using h
  clear hM
  have hIs : Lib.IsBuffer 52 5 0 b [] w := ⟨Nat.zero_le _, _, _, hbk, World.ownsRow_nil _ _ _ _, by simp [Value.ownBlock]⟩
  have hnil : ∀ W, (binOp .eql 22 (.slice none 0 0) (.slice none 0 0)).run Tryd.prog W = .ok (.bool true) W := fun W => Lib.run_eql_slice_nil_nil W _ _ Tryd.underlying22
  go_enter Tryd.func43, Tryd.ntmps43
  go_wp2_with (go_at_call 51; refine (Tryd.Buffer_Len 0 b [] _ hIs).mono ?_)
  rintro e W0 ⟨rfl, k, hW0⟩
  have hbk0 : W0.heap[b]? = some (.cells #[.slice none 0 0, .int .i64 0, .int .i8 lr] 52 (0, 0)) := by rw [hW0]; exact hbk
  have c0 : W0.cell? ⟨b, 0, none⟩ = some (.slice none 0 0) := by rw [Lib.cell_of_heap hbk0]; rfl
  have c1 : W0.cell? ⟨b, 1, none⟩ = some (.int .i64 0) := by rw [Lib.cell_of_heap hbk0]; rfl
  have f0 : W0.frozen? ⟨b, 0, none⟩ = false := Lib.frozen_of_heap hbk0 0
  have f1 : W0.frozen? ⟨b, 1, none⟩ = false := Lib.frozen_of_heap hbk0 1
  have hbW0 := Lib.lt_of_heap hbk0
  have c0a : ∀ o, (W0.alloc o).cell? ⟨b, 0, none⟩ = some (.slice none 0 0) := fun o => (World.cell?_of_block (a := ⟨b, 0, none⟩) (Below.heap_alloc W0 o b hbW0)).trans c0
  have f0a : ∀ o, (W0.alloc o).frozen? ⟨b, 0, none⟩ = false := fun o => (World.frozen?_of_block (a := ⟨b, 0, none⟩) (Below.heap_alloc W0 o b hbW0)).trans f0
  have HW0 := Aside0.mk hW0
  clear hW0 hIs
  go_wp2_with (go_at_call 45; refine (Tryd.Buffer_tryGrow_none b _ 0 0 n _ c0 (Nat.le_refl _) (Nat.zero_le _) (by omega)).mono ?_; rintro e w' ⟨rfl, rfl⟩)
  go_ret
  have hsz0 : w'.heap.size = w.heap.size := by rw [HW0.out]; rfl
  have hb0 : Below 0 w w' := by rw [HW0.out]; exact ⟨rfl, rfl, rfl, Nat.le_refl _, fun _ _ => rfl⟩
  have hg0 : w.grownBy w' (some b) := by rw [HW0.out]; exact ⟨rfl, rfl, rfl, Nat.le_refl _, fun _ _ _ => rfl⟩
  obtain ⟨xs, q1, q2, q3⟩ := Lib.grow_small_end (e := 5) (Nat.zero_le b) hbk0 (Nat.zero_le _) hMs h64 (by unfold maxLen; omega) hb0
  refine ⟨rfl, w'.heap.size, xs, q1, by omega, Buf.of_is q2 ((Below.heap_alloc _ _ b (by rw [show (w'.setCell ⟨b, 0, none⟩ (.slice (some ⟨w'.heap.size, 0, none⟩) n 64)).heap.size = w'.heap.size by simp [World.setCell]]; exact hbW0)).trans (Lib.heap_setCell_same (i := 0) hbk0 _)), Off.of_grown (Lib.grownBy_allocR (Lib.grownBy_setB hg0 0 _) _)⟩

set_option maxHeartbeats 12800000 in
set_option maxRecDepth 100000 in
theorem grow_big (b n : Nat) (lr : Int) (w : World) (hbk : w.heap[b]? = some (.cells #[.slice none 0 0, .int .i64 0, .int .i8 lr] 52 (0, 0))) (h64 : 64 < n) (hlim : n ≤ 140737488355328) :
    Calls Tryd.prog 43 #[.pointer (some ⟨b, 0, none⟩), .int .i64 n] w fun e w' => e = .returned (.int .i64 0) ∧ Grew w w' b n [] := by
  have u52 := run_underlying Tryd.underlying52
  have hn : 1 ≤ n := by omega
  have hIs : Lib.IsBuffer 52 5 0 b [] w := ⟨Nat.zero_le _, _, _, hbk, World.ownsRow_nil _ _ _ _, by simp [Value.ownBlock]⟩
  have hnil : ∀ W, (binOp .eql 22 (.slice none 0 0) (.slice none 0 0)).run Tryd.prog W = .ok (.bool true) W := fun W => Lib.run_eql_slice_nil_nil W _ _ Tryd.underlying22
  go_enter Tryd.func43, Tryd.ntmps43
  go_wp2_with (go_at_call 51; refine (Tryd.Buffer_Len 0 b [] _ hIs).mono ?_)
  rintro e W0 ⟨rfl, k, hW0⟩
  have hbk0 : W0.heap[b]? = some (.cells #[.slice none 0 0, .int .i64 0, .int .i8 lr] 52 (0, 0)) := by rw [hW0]; exact hbk
  have c0 : W0.cell? ⟨b, 0, none⟩ = some (.slice none 0 0) := by rw [Lib.cell_of_heap hbk0]; rfl
  have c1 : W0.cell? ⟨b, 1, none⟩ = some (.int .i64 0) := by rw [Lib.cell_of_heap hbk0]; rfl
  have f0 : W0.frozen? ⟨b, 0, none⟩ = false := Lib.frozen_of_heap hbk0 0
  have f1 : W0.frozen? ⟨b, 1, none⟩ = false := Lib.frozen_of_heap hbk0 1
  have HW0 := Aside0.mk hW0
  clear hW0 hIs
  go_wp2_with (go_at_call 45; refine (Tryd.Buffer_tryGrow_none b _ 0 0 n _ c0 (Nat.le_refl _) (Nat.zero_le _) (by omega)).mono ?_; rintro e w' ⟨rfl, rfl⟩)
  have hbW := Lib.lt_of_heap hbk0
  have hwn : IntKind.i64.wrap (n : Int) = n := by rw [IntKind.wrap_i64]; omega
  go_region_with (
      go_at_call 53
      refine (Tryd.bytes_growSlice_nil n _ hn hlim).mono ?_
      rintro e w2 ⟨cap2, cells, rfl, hN, hcsz, hcap2, hcm2, hbel⟩
      have hbk2 : w2.heap[b]? = some (.cells #[.slice none 0 0, .int .i64 0, .int .i8 lr] 52 (0, 0)) := (hbel.block b hbW).trans hbk0
      have d0 : w2.cell? ⟨b, 0, none⟩ = some (.slice none 0 0) := by rw [Lib.cell_of_heap hbk2]; rfl
      have d1 : w2.cell? ⟨b, 1, none⟩ = some (.int .i64 0) := by rw [Lib.cell_of_heap hbk2]; rfl
      have e0 : w2.frozen? ⟨b, 0, none⟩ = false := Lib.frozen_of_heap hbk2 0
      have e1 : w2.frozen? ⟨b, 1, none⟩ = false := Lib.frozen_of_heap hbk2 1)
  all_goals (
    go_wp2
    go_ret
    have hsz0 : w'.heap.size = w.heap.size := by rw [HW0.out]; rfl
    have hg2 : w.grownBy w2 (some b) := Lib.grownBy_below (w := w'.drew) (by rw [HW0.out]; exact ⟨rfl, rfl, rfl, Nat.le_refl _, fun _ _ _ => rfl⟩) hbel
    have hq := grow_end' (l := 0) (n := n) (bs := []) (by omega : b < w.heap.size) hbk2 hN (by show w.heap.size ≤ w'.heap.size; omega) hcsz (by simp) (by omega) hcm2 hg2 (.slice (some ⟨w'.heap.size, 0, none⟩) 0 cap2)
    rw [Nat.zero_add] at hq
    exact ⟨rfl, hq⟩)

set_option maxHeartbeats 12800000 in
set_option maxRecDepth 100000 in
theorem grow_row0 (b g cap n : Nat) (lr : Int) (cur : Array Value) (bs : List Value) (w : World)
    (hbk : w.heap[b]? = some (.cells #[.slice (some ⟨g, 0, none⟩) 0 cap, .int .i64 0, .int .i8 lr] 52 (0, 0)))
    (hl : bs.length = 0) (hg : w.heap[g]? = some (.cells cur 5 (0, 0))) (hlc : 0 ≤ cap) (hcm : cap ≤ maxLen) (hcs : cur.size = cap) (htake : cur.toList.take 0 = bs) (hgb : g ≠ b)
    (h1 : ∀ v ∈ bs, v.oneCell' = true) (hn : 1 ≤ n) (hroom : cap - 0 < n) (hlim : 0 + n ≤ 140737488355328) :
    Calls Tryd.prog 43 #[.pointer (some ⟨b, 0, none⟩), .int .i64 n] w fun e w' => e = .returned (.int .i64 0) ∧ Grew w w' b n bs := by
  have u52 := run_underlying Tryd.underlying52
  have hIs : Lib.IsBuffer 52 5 0 b bs w := ⟨Nat.zero_le _, _, _, hbk, ⟨by rw [hl, Nat.mul_one], .inr ⟨g, cap, cur, by rw [hl], Nat.zero_le _, hg, by omega, hcm, by omega, by rw [hl, Nat.mul_one]; exact htake⟩⟩, by simp [Value.ownBlock]; exact hgb⟩
  have hnil : ∀ W, (binOp .eql 22 (.slice (some ⟨g, 0, none⟩) 0 cap) (.slice none 0 0)).run Tryd.prog W = .ok (.bool false) W := fun W => Lib.run_eql_slice_some_nil W _ _ _ Tryd.underlying22
  go_enter Tryd.func43, Tryd.ntmps43
  go_wp2_with (go_at_call 51; refine (Tryd.Buffer_Len 0 b bs _ hIs).mono ?_)
  rintro e W0 ⟨rfl, k, hW0⟩
  rw [hl]
  have hbk0 : W0.heap[b]? = some (.cells #[.slice (some ⟨g, 0, none⟩) 0 cap, .int .i64 0, .int .i8 lr] 52 (0, 0)) := by rw [hW0]; exact hbk
  have hg0 : W0.heap[g]? = some (.cells cur 5 (0, 0)) := by rw [hW0]; exact hg
  have c0 : W0.cell? ⟨b, 0, none⟩ = some (.slice (some ⟨g, 0, none⟩) 0 cap) := by rw [Lib.cell_of_heap hbk0]; rfl
  have c1 : W0.cell? ⟨b, 1, none⟩ = some (.int .i64 0) := by rw [Lib.cell_of_heap hbk0]; rfl
  have f0 : W0.frozen? ⟨b, 0, none⟩ = false := Lib.frozen_of_heap hbk0 0
  have f1 : W0.frozen? ⟨b, 1, none⟩ = false := Lib.frozen_of_heap hbk0 1
  have HW0 := Aside0.mk hW0
  clear hW0 hIs
  have hcm' := hcm
  unfold maxLen at hcm'
  go_wp2_with (go_at_call 45; refine (Tryd.Buffer_tryGrow_none b _ 0 cap n _ c0 hlc hcm hroom).mono ?_; rintro e w' ⟨rfl, rfl⟩)
  have hc2 : cap ≤ 140737488355328 := by omega
  have h1' : ∀ v ∈ cur.toList.take 0, v.oneCell' = true := by rw [htake]; exact h1
  have hbW := Lib.lt_of_heap hbk0
  have hwn : IntKind.i64.wrap (n : Int) = n := by rw [IntKind.wrap_i64]; omega
  go_region_with (
      go_at_call 53
      refine (Tryd.bytes_growSlice_row g 0 cap n cur _ ?_ hcs hlc hn hlim hc2 h1').mono ?_
      exact hg0
      rintro e w2 ⟨cap2, cells, rfl, hN, hcsz, htk, hcap2, hcm2, hbel⟩
      have hbk2 : w2.heap[b]? = some (.cells #[.slice (some ⟨g, 0, none⟩) 0 cap, .int .i64 0, .int .i8 lr] 52 (0, 0)) := (hbel.block b hbW).trans hbk0
      have d0 : w2.cell? ⟨b, 0, none⟩ = some (.slice (some ⟨g, 0, none⟩) 0 cap) := by rw [Lib.cell_of_heap hbk2]; rfl
      have d1 : w2.cell? ⟨b, 1, none⟩ = some (.int .i64 0) := by rw [Lib.cell_of_heap hbk2]; rfl
      have e0 : w2.frozen? ⟨b, 0, none⟩ = false := Lib.frozen_of_heap hbk2 0
      have e1 : w2.frozen? ⟨b, 1, none⟩ = false := Lib.frozen_of_heap hbk2 1)
  all_goals (
    go_wp2
    go_ret
    have hsz0 : w'.heap.size = w.heap.size := by rw [HW0.out]; rfl
    have hg2 : w.grownBy w2 (some b) := Lib.grownBy_below (w := w'.drew) (by rw [HW0.out]; exact ⟨rfl, rfl, rfl, Nat.le_refl _, fun _ _ _ => rfl⟩) hbel
    have hq := grow_end' (l := 0) (n := n) (by omega : b < w.heap.size) hbk2 hN (by show w.heap.size ≤ w'.heap.size; omega) hcsz (htk.trans htake) hcap2 hcm2 hg2 (.slice (some ⟨w'.heap.size, 0, none⟩) 0 cap2)
    rw [Nat.zero_add] at hq
    exact ⟨rfl, hq⟩)

set_option maxHeartbeats 12800000 in
set_option maxRecDepth 100000 in
theorem grow_row (b g l cap n : Nat) (lr : Int) (cur : Array Value) (bs : List Value) (w : World)
    (hbk : w.heap[b]? = some (.cells #[.slice (some ⟨g, 0, none⟩) l cap, .int .i64 0, .int .i8 lr] 52 (0, 0)))
    (hl : bs.length = l) (hg : w.heap[g]? = some (.cells cur 5 (0, 0))) (hlc : l ≤ cap) (hcm : cap ≤ maxLen) (hcs : cur.size = cap) (htake : cur.toList.take l = bs) (hgb : g ≠ b)
    (h1 : ∀ v ∈ bs, v.oneCell' = true) (hn : 1 ≤ n) (hroom : cap - l < n) (hlim : l + n ≤ 140737488355328) :
    Calls Tryd.prog 43 #[.pointer (some ⟨b, 0, none⟩), .int .i64 n] w fun e w' => e = .returned (.int .i64 l) ∧ Grew w w' b n bs := by
  by_cases hl0 : l = 0
  · subst hl0
    exact grow_row0 b g cap n lr cur bs w hbk hl hg hlc hcm hcs htake hgb h1 hn hroom hlim
  have u52 := run_underlying Tryd.underlying52
  have hIs : Lib.IsBuffer 52 5 0 b bs w := ⟨Nat.zero_le _, _, _, hbk, ⟨by rw [hl, Nat.mul_one], .inr ⟨g, cap, cur, by rw [hl], Nat.zero_le _, hg, by omega, hcm, by omega, by rw [hl, Nat.mul_one]; exact htake⟩⟩, by simp [Value.ownBlock]; exact hgb⟩
  have hnil : ∀ W, (binOp .eql 22 (.slice (some ⟨g, 0, none⟩) l cap) (.slice none 0 0)).run Tryd.prog W = .ok (.bool false) W := fun W => Lib.run_eql_slice_some_nil W _ _ _ Tryd.underlying22
  go_enter Tryd.func43, Tryd.ntmps43
  go_wp2_with (go_at_call 51; refine (Tryd.Buffer_Len 0 b bs _ hIs).mono ?_)
  rintro e W0 ⟨rfl, k, hW0⟩
  rw [hl]
  have hbk0 : W0.heap[b]? = some (.cells #[.slice (some ⟨g, 0, none⟩) l cap, .int .i64 0, .int .i8 lr] 52 (0, 0)) := by rw [hW0]; exact hbk
  have hg0 : W0.heap[g]? = some (.cells cur 5 (0, 0)) := by rw [hW0]; exact hg
  have c0 : W0.cell? ⟨b, 0, none⟩ = some (.slice (some ⟨g, 0, none⟩) l cap) := by rw [Lib.cell_of_heap hbk0]; rfl
  have c1 : W0.cell? ⟨b, 1, none⟩ = some (.int .i64 0) := by rw [Lib.cell_of_heap hbk0]; rfl
  have f0 : W0.frozen? ⟨b, 0, none⟩ = false := Lib.frozen_of_heap hbk0 0
  have f1 : W0.frozen? ⟨b, 1, none⟩ = false := Lib.frozen_of_heap hbk0 1
  have HW0 := Aside0.mk hW0
  clear hW0 hIs
  have hcm' := hcm
  unfold maxLen at hcm'
  go_wp2_with (go_at_call 45; refine (Tryd.Buffer_tryGrow_none b _ l cap n _ c0 hlc hcm hroom).mono ?_; rintro e w' ⟨rfl, rfl⟩)
  have hc2 : cap ≤ 140737488355328 := by omega
  have h1' : ∀ v ∈ cur.toList.take l, v.oneCell' = true := by rw [htake]; exact h1
  have hbW := Lib.lt_of_heap hbk0
  have hwn : IntKind.i64.wrap (n : Int) = n := by rw [IntKind.wrap_i64]; omega
  go_region_with (
      go_at_call 53
      refine (Tryd.bytes_growSlice_row g l cap n cur _ ?_ hcs hlc hn hlim hc2 h1').mono ?_
      exact hg0
      rintro e w2 ⟨cap2, cells, rfl, hN, hcsz, htk, hcap2, hcm2, hbel⟩
      have hbk2 : w2.heap[b]? = some (.cells #[.slice (some ⟨g, 0, none⟩) l cap, .int .i64 0, .int .i8 lr] 52 (0, 0)) := (hbel.block b hbW).trans hbk0
      have d0 : w2.cell? ⟨b, 0, none⟩ = some (.slice (some ⟨g, 0, none⟩) l cap) := by rw [Lib.cell_of_heap hbk2]; rfl
      have d1 : w2.cell? ⟨b, 1, none⟩ = some (.int .i64 0) := by rw [Lib.cell_of_heap hbk2]; rfl
      have e0 : w2.frozen? ⟨b, 0, none⟩ = false := Lib.frozen_of_heap hbk2 0
      have e1 : w2.frozen? ⟨b, 1, none⟩ = false := Lib.frozen_of_heap hbk2 1)
  all_goals (
    go_wp2
    go_ret
    have hsz0 : w'.heap.size = w.heap.size := by rw [HW0.out]; rfl
    have hg2 : w.grownBy w2 (some b) := Lib.grownBy_below (w := w'.drew) (by rw [HW0.out]; exact ⟨rfl, rfl, rfl, Nat.le_refl _, fun _ _ _ => rfl⟩) hbel
    have hq := grow_end' (l := l) (n := n) (by omega : b < w.heap.size) hbk2 hN (by show w.heap.size ≤ w'.heap.size; omega) hcsz (htk.trans htake) hcap2 hcm2 hg2 (.slice (some ⟨w'.heap.size, 0, none⟩) l cap2)
    exact ⟨rfl, hq⟩)


theorem grow (b n : Nat) (r : Option Nat) (bs : List Value) (w : World) (h : Buf w b r bs) (h1 : ∀ v ∈ bs, v.oneCell' = true) (hnr : Lib.NoRoom b n w) (hlim : bs.length + n ≤ 140737488355328) :
    Calls Tryd.prog 43 #[.pointer (some ⟨b, 0, none⟩), .int .i64 n] w fun e w' => e = .returned (.int .i64 bs.length) ∧ Grew w w' b n bs := by
  obtain ⟨ao, l, cap0, hc, hlt⟩ := hnr
  cases r with
  | none =>
    obtain ⟨rfl, lr, hbk⟩ := h
    have c0 : w.cell? ⟨b, 0, none⟩ = some (.slice none 0 0) := by rw [Lib.cell_of_heap hbk]; rfl
    rw [c0] at hc
    cases hc
    by_cases h64 : n ≤ 64
    · exact grow_small b n lr w hbk (by omega) h64
    · exact grow_big b n lr w hbk (by omega) (by simpa using hlim)
  | some g =>
    obtain ⟨cap, lr, cur, hbk, hg, hnc, hcm, hcs, htk, hgb⟩ := h
    have c0 : w.cell? ⟨b, 0, none⟩ = some (.slice (some ⟨g, 0, none⟩) bs.length cap) := by rw [Lib.cell_of_heap hbk]; rfl
    rw [c0] at hc
    cases hc
    exact grow_row b g bs.length _ n lr cur bs w hbk rfl hg hnc hcm hcs htk hgb h1 (by omega) hlt hlim
end Go.Proofs.YtlboochpbplhlaaDoor.HandK
