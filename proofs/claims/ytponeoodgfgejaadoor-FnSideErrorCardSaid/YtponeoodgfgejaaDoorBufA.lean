/- Two buffers of one call: a buffer's row named, what a write leaves alone; grow (the walks follow the kit's own). Two buffers of one call: Write, WriteByte, Bytes, Len, Reset (the walks follow the kit's own). -/
import Derived.Test.YtponeoodgfgejaaDoorQAllx0
import Derived.Test.YtponeoodgfgejaaDoorShelf
import Derived.Lib.BufferOwn
import Derived.Lib.BufferGrow
import Derived.Lib.BufferRead
import Derived.Deep.RegionWith
import Derived.Lib.BufferSrc
import Derived.Laws.IdiomCopy
set_option linter.unusedVariables false
set_option linter.unusedSimpArgs false
namespace Go.Proofs.YtponeoodgfgejaaDoor.BufA
open Go.RowKit Go.Proofs.YtponeoodgfgejaaDoorW.PrintWords Go.Proofs.YtponeoodgfgejaaDoor.QAll

/-- Nothing but the blocks of S has turned. -/
structure Off (w w' : World) (S : Nat → Prop) : Prop where
  zero : Below 0 w w'
  blk : ∀ k, k < w.heap.size → ¬ S k → w'.heap[k]? = w.heap[k]?
theorem Off.refl (w : World) (S : Nat → Prop) : Off w w S := ⟨Below.refl 0 w, fun _ _ _ => rfl⟩
theorem Off.trans {w w1 w2 : World} {S S2 : Nat → Prop} (h : Off w w1 S) (h2 : Off w1 w2 S2) (hS : ∀ k, k < w.heap.size → S2 k → S k) : Off w w2 S :=
  ⟨h.zero.trans h2.zero, fun k hk hn => (h2.blk k (Nat.lt_of_lt_of_le hk h.zero.size) (fun hs => hn (hS k hk hs))).trans (h.blk k hk hn)⟩
theorem Off.mono {w w1 : World} {S S2 : Nat → Prop} (h : Off w w1 S) (hS : ∀ k, k < w.heap.size → S k → S2 k) : Off w w1 S2 := ⟨h.zero, fun k hk hn => h.blk k hk (fun hs => hn (hS k hk hs))⟩
theorem Off.below {w w1 : World} {S : Nat → Prop} {B : Nat} (h : Off w w1 S) (hB : B ≤ w.heap.size) (hS : ∀ k, S k → B ≤ k) : Below B w w1 :=
  ⟨h.zero.os, h.zero.tape, h.zero.output, h.zero.size, fun k hk => h.blk k (by omega) (fun hs => by have := hS k hs; omega)⟩
theorem Off.of_below {w w1 : World} (h : Below w.heap.size w w1) (S : Nat → Prop) : Off w w1 S := ⟨⟨h.os, h.tape, h.output, h.size, fun k hk => by omega⟩, fun k hk _ => h.block k hk⟩
theorem Off.of_grown {w w1 : World} {b : Nat} (h : w.grownBy w1 (some b)) : Off w w1 (fun k => k = b) := ⟨⟨h.os, h.tape, h.output, h.size, fun k hk => by omega⟩, fun k hk hn => h.block k hk (fun e => hn (Option.some.inj e))⟩
theorem Off.set (w : World) (b i : Nat) (v : Value) : Off w (w.setCell ⟨b, i, none⟩ v) (fun k => k = b) :=
  ⟨(Below.refl 0 w).setCell (p := ⟨b, i, none⟩) (Nat.zero_le _) v, fun k hk hn => Below.heap_setCell w ⟨b, i, none⟩ v k hn⟩
theorem Off.drewN (w : World) (q : Nat) (S : Nat → Prop) : Off w (w.drewN q) S := ⟨⟨rfl, rfl, rfl, Nat.le_refl _, fun _ _ => rfl⟩, fun _ _ _ => rfl⟩

/-- A buffer in block b, its row in r (if it has one), holding bs. -/
def Buf (w : World) (b : Nat) : Option Nat → List Value → Prop
  | none, bs => bs = [] ∧ ∃ lr, w.heap[b]? = some (.cells #[.slice none 0 0, .int .i64 0, .int .i8 lr] 50 (0, 0))
  | some g, bs => ∃ cap lr cur, w.heap[b]? = some (.cells #[.slice (some ⟨g, 0, none⟩) bs.length cap, .int .i64 0, .int .i8 lr] 50 (0, 0)) ∧ w.heap[g]? = some (.cells cur 5 (0, 0)) ∧ bs.length ≤ cap ∧ cap ≤ maxLen ∧ cur.size = cap ∧ cur.toList.take bs.length = bs ∧ g ≠ b
theorem Buf.lt {w : World} {b : Nat} {r : Option Nat} {bs : List Value} (h : Buf w b r bs) : b < w.heap.size := by
  cases r with
  | none => obtain ⟨_, lr, h⟩ := h; exact Lib.lt_of_heap h
  | some g => obtain ⟨cap, lr, cur, h, _⟩ := h; exact Lib.lt_of_heap h
theorem Buf.rlt {w : World} {b g : Nat} {bs : List Value} (h : Buf w b (some g) bs) : g < w.heap.size ∧ g ≠ b ∧ ∃ cur, w.heap[g]? = some (.cells cur 5 (0, 0)) := by
  obtain ⟨cap, lr, cur, h, h2, _, _, _, _, h3⟩ := h
  exact ⟨Lib.lt_of_heap h2, h3, cur, h2⟩
theorem Buf.is {w : World} {b : Nat} {r : Option Nat} {bs : List Value} (h : Buf w b r bs) : Lib.IsBuffer 50 5 0 b bs w := by
  cases r with
  | none => obtain ⟨rfl, lr, h⟩ := h; exact ⟨Nat.zero_le _, _, lr, h, World.ownsRow_nil _ _ _ _, by simp [Value.ownBlock]⟩
  | some g =>
    obtain ⟨cap, lr, cur, h, h2, h3, h4, h5, h6, h7⟩ := h
    exact ⟨Nat.zero_le _, _, lr, h, ⟨by simp, .inr ⟨g, cap, cur, rfl, Nat.zero_le _, h2, h3, h4, by omega, by rw [Nat.mul_one]; exact h6⟩⟩, by simp [Value.ownBlock]; exact h7⟩
theorem Buf.of_is {w : World} {B b N l cap : Nat} {lr : Int} {bs : List Value} (h : Lib.IsBuffer 50 5 B b bs w) (hb : w.heap[b]? = some (.cells #[.slice (some ⟨N, 0, none⟩) l cap, .int .i64 0, .int .i8 lr] 50 (0, 0))) : Buf w b (some N) bs := by
  obtain ⟨_, lr2, hc⟩ := h.cases
  rcases hc with ⟨_, hbk⟩ | ⟨g, cap2, cur, hbk, _, h2, h3, h4, h5, h6, h7⟩
  · rw [hb] at hbk; simp at hbk
  · rw [hb] at hbk
    simp at hbk
    obtain ⟨⟨rfl, rfl, rfl⟩, rfl⟩ := hbk
    exact ⟨_, _, cur, hb, h2, h3, h4, h5, h6, h7⟩
theorem Buf.off {w w' : World} {S : Nat → Prop} {b : Nat} {r : Option Nat} {bs : List Value} (h : Buf w b r bs) (ho : Off w w' S) (hb : ¬ S b) (hr : ∀ g, r = some g → ¬ S g) : Buf w' b r bs := by
  have hlt := h.lt
  cases r with
  | none => obtain ⟨h1, lr, h2⟩ := h; exact ⟨h1, lr, (ho.blk b hlt hb).trans h2⟩
  | some g =>
    have hg := h.rlt.1
    obtain ⟨cap, lr, cur, h1, h2, h3⟩ := h
    exact ⟨cap, lr, cur, (ho.blk b hlt hb).trans h1, (ho.blk g hg (hr g rfl)).trans h2, h3⟩
theorem blk_type {w : World} {k : Nat} {a a' : Array Value} {t t' : TypeId} {f f' : Nat × Nat} (h : w.heap[k]? = some (.cells a t f)) (h' : w.heap[k]? = some (.cells a' t' f')) : t = t' := by
  rw [h] at h'
  injection h' with h'
  injection h'

/-- What grow tells. -/
def Grew (w w' : World) (b n : Nat) (bs : List Value) : Prop := ∃ N xs, xs.length = n ∧ w.heap.size ≤ N ∧ Buf w' b (some N) (bs ++ xs) ∧ Off w w' (fun k => k = b)

theorem info5' : (Tryd.prog.info? 5).map (fun i => (i.zero, i.size, i.bytes)) = some (some (.int .u8 0), 1, 1) := by kernel_rfl
theorem grow_end' {b N l n cap2 : Nat} {lr : Int} {w w2 : World} {v0 : Value} {cells : Array Value} {bs : List Value} (hb : b < w.heap.size)
    (hbk2 : w2.heap[b]? = some (.cells #[v0, .int .i64 0, .int .i8 lr] 50 (0, 0))) (hN : w2.heap[N]? = some (.cells cells 5 (0, 0))) (hBN : w.heap.size ≤ N)
    (hcsz : cells.size = cap2) (htk : cells.toList.take l = bs) (hcap2 : l + n ≤ cap2) (hcm2 : cap2 ≤ maxLen) (hg : w.grownBy w2 (some b)) (v1 : Value) :
    Grew w (((w2.setCell ⟨b, 0, none⟩ v1).setCell ⟨b, 1, none⟩ (.int .i64 0)).setCell ⟨b, 0, none⟩ (.slice (some ⟨N, 0, none⟩) (l + n) cap2)) b n bs := by
  obtain ⟨xs, q1, q2, q3⟩ := Lib.grow_end (B := 0) (w := w) (Nat.zero_le b) hbk2 hN (Nat.zero_le N) (by omega) hcsz htk hcap2 hcm2 (Off.of_grown hg).zero v1
  exact ⟨N, xs, q1, hBN, Buf.of_is q2 (Lib.heap_setCell_same (i := 0) (Lib.heap_setCell_same (i := 1) (Lib.heap_setCell_same (i := 0) hbk2 _) _) _), Off.of_grown (Lib.grownBy_setB (Lib.grownBy_setB (Lib.grownBy_setB hg 0 _) 1 _) 0 _)⟩

set_option maxHeartbeats 6400000 in
set_option maxRecDepth 100000 in
theorem grow_small (b n : Nat) (lr : Int) (w : World) (hbk : w.heap[b]? = some (.cells #[.slice none 0 0, .int .i64 0, .int .i8 lr] 50 (0, 0))) (hn : 1 ≤ n) (h64 : n ≤ 64) :
    Calls Tryd.prog 40 #[.pointer (some ⟨b, 0, none⟩), .int .i64 n] w fun e w' => e = .returned (.int .i64 0) ∧ Grew w w' b n [] := by
  have u52 := run_underlying Tryd.underlying50
  obtain ⟨i0, hi, hz0, hz1, hz2⟩ := info_parts info5'
  obtain ⟨M, hM⟩ : ∃ M, M = madeCells (Value.int .u8 0).cells ((64 : Int).toNat * i0.size) := ⟨_, rfl⟩
  have hMs : M.size = 64 := by rw [hM, size_madeCells, hz1]; rfl
  have hmk : ∀ W : World, (Instr.makeSlice 25 (.int .i64 (n : Int)) (.int .i64 64)).run Tryd.prog W = .ok (.slice (some ⟨W.heap.size, 0, none⟩) n 64) (W.alloc (.cells M 5)) := fun W => by
    have h := run_makeSlice (P := Tryd.prog) W 25 5 i0 (.int .u8 0) Tryd.underlying25 hi hz0 .i64 .i64 (n : Int) 64 (by omega) (by omega) (by rw [hz1]; decide) (by rw [hz2]; decide) (by decide)
    rw [← hM] at h
    simpa using h
  clear hM
  have hIs : Lib.IsBuffer 50 5 0 b [] w := ⟨Nat.zero_le _, _, _, hbk, World.ownsRow_nil _ _ _ _, by simp [Value.ownBlock]⟩
  have hnil : ∀ W, (binOp .eql 25 (.slice none 0 0) (.slice none 0 0)).run Tryd.prog W = .ok (.bool true) W := fun W => Lib.run_eql_slice_nil_nil W _ _ Tryd.underlying25
  go_enter Tryd.func40, Tryd.ntmps40
  go_wp2_with (go_at_call 50; refine (Tryd.Buffer_Len 0 b [] _ hIs).mono ?_)
  rintro e W0 ⟨rfl, k, hW0⟩
  have hbk0 : W0.heap[b]? = some (.cells #[.slice none 0 0, .int .i64 0, .int .i8 lr] 50 (0, 0)) := by rw [hW0]; exact hbk
  have c0 : W0.cell? ⟨b, 0, none⟩ = some (.slice none 0 0) := by rw [Lib.cell_of_heap hbk0]; rfl
  have c1 : W0.cell? ⟨b, 1, none⟩ = some (.int .i64 0) := by rw [Lib.cell_of_heap hbk0]; rfl
  have f0 : W0.frozen? ⟨b, 0, none⟩ = false := Lib.frozen_of_heap hbk0 0
  have f1 : W0.frozen? ⟨b, 1, none⟩ = false := Lib.frozen_of_heap hbk0 1
  have hbW0 := Lib.lt_of_heap hbk0
  have c0a : ∀ o, (W0.alloc o).cell? ⟨b, 0, none⟩ = some (.slice none 0 0) := fun o => (World.cell?_of_block (a := ⟨b, 0, none⟩) (Below.heap_alloc W0 o b hbW0)).trans c0
  have f0a : ∀ o, (W0.alloc o).frozen? ⟨b, 0, none⟩ = false := fun o => (World.frozen?_of_block (a := ⟨b, 0, none⟩) (Below.heap_alloc W0 o b hbW0)).trans f0
  have HW0 := Aside0.mk hW0
  clear hW0 hIs
  go_wp2_with (go_at_call 39; refine (Tryd.Buffer_tryGrow_none b _ 0 0 n _ c0 (Nat.le_refl _) (Nat.zero_le _) (by omega)).mono ?_; rintro e w' ⟨rfl, rfl⟩)
  go_ret
  have hsz0 : w'.heap.size = w.heap.size := by rw [HW0.out]; rfl
  have hb0 : Below 0 w w' := by rw [HW0.out]; exact ⟨rfl, rfl, rfl, Nat.le_refl _, fun _ _ => rfl⟩
  have hg0 : w.grownBy w' (some b) := by rw [HW0.out]; exact ⟨rfl, rfl, rfl, Nat.le_refl _, fun _ _ _ => rfl⟩
  obtain ⟨xs, q1, q2, q3⟩ := Lib.grow_small_end (e := 5) (Nat.zero_le b) hbk0 (Nat.zero_le _) hMs h64 (by unfold maxLen; omega) hb0
  refine ⟨rfl, w'.heap.size, xs, q1, by omega, Buf.of_is q2 ((Below.heap_alloc _ _ b (by rw [show (w'.setCell ⟨b, 0, none⟩ (.slice (some ⟨w'.heap.size, 0, none⟩) n 64)).heap.size = w'.heap.size by simp [World.setCell]]; exact hbW0)).trans (Lib.heap_setCell_same (i := 0) hbk0 _)), Off.of_grown (Lib.grownBy_allocR (Lib.grownBy_setB hg0 0 _) _)⟩

set_option maxHeartbeats 12800000 in
set_option maxRecDepth 100000 in
theorem grow_big (b n : Nat) (lr : Int) (w : World) (hbk : w.heap[b]? = some (.cells #[.slice none 0 0, .int .i64 0, .int .i8 lr] 50 (0, 0))) (h64 : 64 < n) (hlim : n ≤ 140737488355328) :
    Calls Tryd.prog 40 #[.pointer (some ⟨b, 0, none⟩), .int .i64 n] w fun e w' => e = .returned (.int .i64 0) ∧ Grew w w' b n [] := by
  have u52 := run_underlying Tryd.underlying50
  have hn : 1 ≤ n := by omega
  have hIs : Lib.IsBuffer 50 5 0 b [] w := ⟨Nat.zero_le _, _, _, hbk, World.ownsRow_nil _ _ _ _, by simp [Value.ownBlock]⟩
  have hnil : ∀ W, (binOp .eql 25 (.slice none 0 0) (.slice none 0 0)).run Tryd.prog W = .ok (.bool true) W := fun W => Lib.run_eql_slice_nil_nil W _ _ Tryd.underlying25
  go_enter Tryd.func40, Tryd.ntmps40
  go_wp2_with (go_at_call 50; refine (Tryd.Buffer_Len 0 b [] _ hIs).mono ?_)
  rintro e W0 ⟨rfl, k, hW0⟩
  have hbk0 : W0.heap[b]? = some (.cells #[.slice none 0 0, .int .i64 0, .int .i8 lr] 50 (0, 0)) := by rw [hW0]; exact hbk
  have c0 : W0.cell? ⟨b, 0, none⟩ = some (.slice none 0 0) := by rw [Lib.cell_of_heap hbk0]; rfl
  have c1 : W0.cell? ⟨b, 1, none⟩ = some (.int .i64 0) := by rw [Lib.cell_of_heap hbk0]; rfl
  have f0 : W0.frozen? ⟨b, 0, none⟩ = false := Lib.frozen_of_heap hbk0 0
  have f1 : W0.frozen? ⟨b, 1, none⟩ = false := Lib.frozen_of_heap hbk0 1
  have HW0 := Aside0.mk hW0
  clear hW0 hIs
  go_wp2_with (go_at_call 39; refine (Tryd.Buffer_tryGrow_none b _ 0 0 n _ c0 (Nat.le_refl _) (Nat.zero_le _) (by omega)).mono ?_; rintro e w' ⟨rfl, rfl⟩)
  have hbW := Lib.lt_of_heap hbk0
  have hwn : IntKind.i64.wrap (n : Int) = n := by rw [IntKind.wrap_i64]; omega
  go_region_with (
      go_at_call 52
      refine (Tryd.bytes_growSlice_nil n _ hn hlim).mono ?_
      rintro e w2 ⟨cap2, cells, rfl, hN, hcsz, hcap2, hcm2, hbel⟩
      have hbk2 : w2.heap[b]? = some (.cells #[.slice none 0 0, .int .i64 0, .int .i8 lr] 50 (0, 0)) := (hbel.block b hbW).trans hbk0
      have d0 : w2.cell? ⟨b, 0, none⟩ = some (.slice none 0 0) := by rw [Lib.cell_of_heap hbk2]; rfl
      have d1 : w2.cell? ⟨b, 1, none⟩ = some (.int .i64 0) := by rw [Lib.cell_of_heap hbk2]; rfl
      have e0 : w2.frozen? ⟨b, 0, none⟩ = false := Lib.frozen_of_heap hbk2 0
      have e1 : w2.frozen? ⟨b, 1, none⟩ = false := Lib.frozen_of_heap hbk2 1)
  all_goals (
    go_wp2
    go_ret
    have hsz0 : w'.heap.size = w.heap.size := by rw [HW0.out]; rfl
    have hg2 : w.grownBy w2 (some b) := Lib.grownBy_below (w := w'.drew) (by rw [HW0.out]; exact ⟨rfl, rfl, rfl, Nat.le_refl _, fun _ _ _ => rfl⟩) hbel
    have hq := grow_end' (l := 0) (n := n) (bs := []) (by omega : b < w.heap.size) hbk2 hN (by show w.heap.size ≤ w'.heap.size; omega) hcsz (by simp) (by omega) hcm2 hg2 (.slice (some ⟨w'.heap.size, 0, none⟩) 0 cap2)
    rw [Nat.zero_add] at hq
    exact ⟨rfl, hq⟩)

set_option maxHeartbeats 12800000 in
set_option maxRecDepth 100000 in
theorem grow_row0 (b g cap n : Nat) (lr : Int) (cur : Array Value) (bs : List Value) (w : World)
    (hbk : w.heap[b]? = some (.cells #[.slice (some ⟨g, 0, none⟩) 0 cap, .int .i64 0, .int .i8 lr] 50 (0, 0)))
    (hl : bs.length = 0) (hg : w.heap[g]? = some (.cells cur 5 (0, 0))) (hlc : 0 ≤ cap) (hcm : cap ≤ maxLen) (hcs : cur.size = cap) (htake : cur.toList.take 0 = bs) (hgb : g ≠ b)
    (h1 : ∀ v ∈ bs, v.oneCell' = true) (hn : 1 ≤ n) (hroom : cap - 0 < n) (hlim : 0 + n ≤ 140737488355328) :
    Calls Tryd.prog 40 #[.pointer (some ⟨b, 0, none⟩), .int .i64 n] w fun e w' => e = .returned (.int .i64 0) ∧ Grew w w' b n bs := by
  have u52 := run_underlying Tryd.underlying50
  have hIs : Lib.IsBuffer 50 5 0 b bs w := ⟨Nat.zero_le _, _, _, hbk, ⟨by rw [hl, Nat.mul_one], .inr ⟨g, cap, cur, by rw [hl], Nat.zero_le _, hg, by omega, hcm, by omega, by rw [hl, Nat.mul_one]; exact htake⟩⟩, by simp [Value.ownBlock]; exact hgb⟩
  have hnil : ∀ W, (binOp .eql 25 (.slice (some ⟨g, 0, none⟩) 0 cap) (.slice none 0 0)).run Tryd.prog W = .ok (.bool false) W := fun W => Lib.run_eql_slice_some_nil W _ _ _ Tryd.underlying25
  go_enter Tryd.func40, Tryd.ntmps40
  go_wp2_with (go_at_call 50; refine (Tryd.Buffer_Len 0 b bs _ hIs).mono ?_)
  rintro e W0 ⟨rfl, k, hW0⟩
  rw [hl]
  have hbk0 : W0.heap[b]? = some (.cells #[.slice (some ⟨g, 0, none⟩) 0 cap, .int .i64 0, .int .i8 lr] 50 (0, 0)) := by rw [hW0]; exact hbk
  have hg0 : W0.heap[g]? = some (.cells cur 5 (0, 0)) := by rw [hW0]; exact hg
  have c0 : W0.cell? ⟨b, 0, none⟩ = some (.slice (some ⟨g, 0, none⟩) 0 cap) := by rw [Lib.cell_of_heap hbk0]; rfl
  have c1 : W0.cell? ⟨b, 1, none⟩ = some (.int .i64 0) := by rw [Lib.cell_of_heap hbk0]; rfl
  have f0 : W0.frozen? ⟨b, 0, none⟩ = false := Lib.frozen_of_heap hbk0 0
  have f1 : W0.frozen? ⟨b, 1, none⟩ = false := Lib.frozen_of_heap hbk0 1
  have HW0 := Aside0.mk hW0
  clear hW0 hIs
  have hcm' := hcm
  unfold maxLen at hcm'
  go_wp2_with (go_at_call 39; refine (Tryd.Buffer_tryGrow_none b _ 0 cap n _ c0 hlc hcm hroom).mono ?_; rintro e w' ⟨rfl, rfl⟩)
  have hc2 : cap ≤ 140737488355328 := by omega
  have h1' : ∀ v ∈ cur.toList.take 0, v.oneCell' = true := by rw [htake]; exact h1
  have hbW := Lib.lt_of_heap hbk0
  have hwn : IntKind.i64.wrap (n : Int) = n := by rw [IntKind.wrap_i64]; omega
  go_region_with (
      go_at_call 52
      refine (Tryd.bytes_growSlice_row g 0 cap n cur _ ?_ hcs hlc hn hlim hc2 h1').mono ?_
      exact hg0
      rintro e w2 ⟨cap2, cells, rfl, hN, hcsz, htk, hcap2, hcm2, hbel⟩
      have hbk2 : w2.heap[b]? = some (.cells #[.slice (some ⟨g, 0, none⟩) 0 cap, .int .i64 0, .int .i8 lr] 50 (0, 0)) := (hbel.block b hbW).trans hbk0
      have d0 : w2.cell? ⟨b, 0, none⟩ = some (.slice (some ⟨g, 0, none⟩) 0 cap) := by rw [Lib.cell_of_heap hbk2]; rfl
      have d1 : w2.cell? ⟨b, 1, none⟩ = some (.int .i64 0) := by rw [Lib.cell_of_heap hbk2]; rfl
      have e0 : w2.frozen? ⟨b, 0, none⟩ = false := Lib.frozen_of_heap hbk2 0
      have e1 : w2.frozen? ⟨b, 1, none⟩ = false := Lib.frozen_of_heap hbk2 1)
  all_goals (
    go_wp2
    go_ret
    have hsz0 : w'.heap.size = w.heap.size := by rw [HW0.out]; rfl
    have hg2 : w.grownBy w2 (some b) := Lib.grownBy_below (w := w'.drew) (by rw [HW0.out]; exact ⟨rfl, rfl, rfl, Nat.le_refl _, fun _ _ _ => rfl⟩) hbel
    have hq := grow_end' (l := 0) (n := n) (by omega : b < w.heap.size) hbk2 hN (by show w.heap.size ≤ w'.heap.size; omega) hcsz (htk.trans htake) hcap2 hcm2 hg2 (.slice (some ⟨w'.heap.size, 0, none⟩) 0 cap2)
    rw [Nat.zero_add] at hq
    exact ⟨rfl, hq⟩)

set_option maxHeartbeats 12800000 in
set_option maxRecDepth 100000 in
theorem grow_row (b g l cap n : Nat) (lr : Int) (cur : Array Value) (bs : List Value) (w : World)
    (hbk : w.heap[b]? = some (.cells #[.slice (some ⟨g, 0, none⟩) l cap, .int .i64 0, .int .i8 lr] 50 (0, 0)))
    (hl : bs.length = l) (hg : w.heap[g]? = some (.cells cur 5 (0, 0))) (hlc : l ≤ cap) (hcm : cap ≤ maxLen) (hcs : cur.size = cap) (htake : cur.toList.take l = bs) (hgb : g ≠ b)
    (h1 : ∀ v ∈ bs, v.oneCell' = true) (hn : 1 ≤ n) (hroom : cap - l < n) (hlim : l + n ≤ 140737488355328) :
    Calls Tryd.prog 40 #[.pointer (some ⟨b, 0, none⟩), .int .i64 n] w fun e w' => e = .returned (.int .i64 l) ∧ Grew w w' b n bs := by
  by_cases hl0 : l = 0
  · subst hl0
    exact grow_row0 b g cap n lr cur bs w hbk hl hg hlc hcm hcs htake hgb h1 hn hroom hlim
  have u52 := run_underlying Tryd.underlying50
  have hIs : Lib.IsBuffer 50 5 0 b bs w := ⟨Nat.zero_le _, _, _, hbk, ⟨by rw [hl, Nat.mul_one], .inr ⟨g, cap, cur, by rw [hl], Nat.zero_le _, hg, by omega, hcm, by omega, by rw [hl, Nat.mul_one]; exact htake⟩⟩, by simp [Value.ownBlock]; exact hgb⟩
  have hnil : ∀ W, (binOp .eql 25 (.slice (some ⟨g, 0, none⟩) l cap) (.slice none 0 0)).run Tryd.prog W = .ok (.bool false) W := fun W => Lib.run_eql_slice_some_nil W _ _ _ Tryd.underlying25
  go_enter Tryd.func40, Tryd.ntmps40
  go_wp2_with (go_at_call 50; refine (Tryd.Buffer_Len 0 b bs _ hIs).mono ?_)
  rintro e W0 ⟨rfl, k, hW0⟩
  rw [hl]
  have hbk0 : W0.heap[b]? = some (.cells #[.slice (some ⟨g, 0, none⟩) l cap, .int .i64 0, .int .i8 lr] 50 (0, 0)) := by rw [hW0]; exact hbk
  have hg0 : W0.heap[g]? = some (.cells cur 5 (0, 0)) := by rw [hW0]; exact hg
  have c0 : W0.cell? ⟨b, 0, none⟩ = some (.slice (some ⟨g, 0, none⟩) l cap) := by rw [Lib.cell_of_heap hbk0]; rfl
  have c1 : W0.cell? ⟨b, 1, none⟩ = some (.int .i64 0) := by rw [Lib.cell_of_heap hbk0]; rfl
  have f0 : W0.frozen? ⟨b, 0, none⟩ = false := Lib.frozen_of_heap hbk0 0
  have f1 : W0.frozen? ⟨b, 1, none⟩ = false := Lib.frozen_of_heap hbk0 1
  have HW0 := Aside0.mk hW0
  clear hW0 hIs
  have hcm' := hcm
  unfold maxLen at hcm'
  go_wp2_with (go_at_call 39; refine (Tryd.Buffer_tryGrow_none b _ l cap n _ c0 hlc hcm hroom).mono ?_; rintro e w' ⟨rfl, rfl⟩)
  have hc2 : cap ≤ 140737488355328 := by omega
  have h1' : ∀ v ∈ cur.toList.take l, v.oneCell' = true := by rw [htake]; exact h1
  have hbW := Lib.lt_of_heap hbk0
  have hwn : IntKind.i64.wrap (n : Int) = n := by rw [IntKind.wrap_i64]; omega
  go_region_with (
      go_at_call 52
      refine (Tryd.bytes_growSlice_row g l cap n cur _ ?_ hcs hlc hn hlim hc2 h1').mono ?_
      exact hg0
      rintro e w2 ⟨cap2, cells, rfl, hN, hcsz, htk, hcap2, hcm2, hbel⟩
      have hbk2 : w2.heap[b]? = some (.cells #[.slice (some ⟨g, 0, none⟩) l cap, .int .i64 0, .int .i8 lr] 50 (0, 0)) := (hbel.block b hbW).trans hbk0
      have d0 : w2.cell? ⟨b, 0, none⟩ = some (.slice (some ⟨g, 0, none⟩) l cap) := by rw [Lib.cell_of_heap hbk2]; rfl
      have d1 : w2.cell? ⟨b, 1, none⟩ = some (.int .i64 0) := by rw [Lib.cell_of_heap hbk2]; rfl
      have e0 : w2.frozen? ⟨b, 0, none⟩ = false := Lib.frozen_of_heap hbk2 0
      have e1 : w2.frozen? ⟨b, 1, none⟩ = false := Lib.frozen_of_heap hbk2 1)
  all_goals (
    go_wp2
    go_ret
    have hsz0 : w'.heap.size = w.heap.size := by rw [HW0.out]; rfl
    have hg2 : w.grownBy w2 (some b) := Lib.grownBy_below (w := w'.drew) (by rw [HW0.out]; exact ⟨rfl, rfl, rfl, Nat.le_refl _, fun _ _ _ => rfl⟩) hbel
    have hq := grow_end' (l := l) (n := n) (by omega : b < w.heap.size) hbk2 hN (by show w.heap.size ≤ w'.heap.size; omega) hcsz (htk.trans htake) hcap2 hcm2 hg2 (.slice (some ⟨w'.heap.size, 0, none⟩) l cap2)
    exact ⟨rfl, hq⟩)


theorem grow (b n : Nat) (r : Option Nat) (bs : List Value) (w : World) (h : Buf w b r bs) (h1 : ∀ v ∈ bs, v.oneCell' = true) (hnr : Lib.NoRoom b n w) (hlim : bs.length + n ≤ 140737488355328) :
    Calls Tryd.prog 40 #[.pointer (some ⟨b, 0, none⟩), .int .i64 n] w fun e w' => e = .returned (.int .i64 bs.length) ∧ Grew w w' b n bs := by
  obtain ⟨ao, l, cap0, hc, hlt⟩ := hnr
  cases r with
  | none =>
    obtain ⟨rfl, lr, hbk⟩ := h
    have c0 : w.cell? ⟨b, 0, none⟩ = some (.slice none 0 0) := by rw [Lib.cell_of_heap hbk]; rfl
    rw [c0] at hc
    cases hc
    by_cases h64 : n ≤ 64
    · exact grow_small b n lr w hbk (by omega) h64
    · exact grow_big b n lr w hbk (by omega) (by simpa using hlim)
  | some g =>
    obtain ⟨cap, lr, cur, hbk, hg, hnc, hcm, hcs, htk, hgb⟩ := h
    have c0 : w.cell? ⟨b, 0, none⟩ = some (.slice (some ⟨g, 0, none⟩) bs.length cap) := by rw [Lib.cell_of_heap hbk]; rfl
    rw [c0] at hc
    cases hc
    exact grow_row b g bs.length _ n lr cur bs w hbk rfl hg hnc hcm hcs htk hgb h1 (by omega) hlt hlim
end Go.Proofs.YtponeoodgfgejaaDoor.BufA

set_option linter.unusedVariables false
set_option linter.unusedSimpArgs false
namespace Go.Proofs.YtponeoodgfgejaaDoor.BufB
open Go.RowKit Go.Proofs.YtponeoodgfgejaaDoorW.PrintWords Go.Proofs.YtponeoodgfgejaaDoor.QAll BufA

theorem buf_setLast {w : World} {b : Nat} {r : Option Nat} {bs : List Value} (h : Buf w b r bs) (x : Int) : Buf (w.setCell ⟨b, 2, none⟩ (.int .i8 x)) b r bs := by
  cases r with
  | none => obtain ⟨h1, lr, h2⟩ := h; exact ⟨h1, x, Lib.heap_setCell_same (i := 2) h2 _⟩
  | some g =>
    obtain ⟨cap, lr, cur, h1, h2, h3, h4, h5, h6, h7⟩ := h
    exact ⟨cap, x, cur, Lib.heap_setCell_same (i := 2) h1 _, (Below.heap_setCell _ _ _ _ h7).trans h2, h3, h4, h5, h6, h7⟩
theorem buf_last {w : World} {b : Nat} {r : Option Nat} {bs : List Value} (h : Buf w b r bs) : ∃ lr, w.cell? ⟨b, 2, none⟩ = some (.int .i8 lr) ∧ w.frozen? ⟨b, 2, none⟩ = false := by
  cases r with
  | none => obtain ⟨h1, lr, h2⟩ := h; exact ⟨lr, by rw [Lib.cell_of_heap h2]; rfl, Lib.frozen_of_heap h2 2⟩
  | some g =>
    obtain ⟨cap, lr, cur, h1, _⟩ := h
    exact ⟨lr, by rw [Lib.cell_of_heap h1]; rfl, Lib.frozen_of_heap h1 2⟩

theorem tryGrow (b n : Nat) (r : Option Nat) (bs : List Value) (w : World) (h : Buf w b r bs) (hn : 1 ≤ n) :
    Calls Tryd.prog 39 #[.pointer (some ⟨b, 0, none⟩), .int .i64 n] w fun e w' =>
      (e = .returned (.tuple #[.int .i64 bs.length, .bool true]) ∧ ∃ g xs, r = some g ∧ xs.length = n ∧ Buf w' b (some g) (bs ++ xs) ∧ Off w w' (fun k => k = b)) ∨
      (e = .returned (.tuple #[.int .i64 0, .bool false]) ∧ w' = w ∧ Lib.NoRoom b n w) := by
  cases r with
  | none =>
    obtain ⟨rfl, lr, hbk⟩ := h
    have c0 : w.cell? ⟨b, 0, none⟩ = some (.slice none 0 0) := by rw [Lib.cell_of_heap hbk]; rfl
    refine (Tryd.Buffer_tryGrow_none b none 0 0 n w c0 (Nat.le_refl _) (Nat.zero_le _) (by omega)).mono ?_
    rintro e w' ⟨rfl, rfl⟩
    exact Or.inr ⟨rfl, rfl, none, 0, 0, c0, by omega⟩
  | some g =>
    obtain ⟨cap, lr, cur, hbk, hg, hnc, hcm, hcs, htk, hgb⟩ := h
    have c0 : w.cell? ⟨b, 0, none⟩ = some (.slice (some ⟨g, 0, none⟩) bs.length cap) := by rw [Lib.cell_of_heap hbk]; rfl
    have f0 := Lib.frozen_of_heap hbk 0
    by_cases hr : n ≤ cap - bs.length
    · refine (Tryd.Buffer_tryGrow_room b _ bs.length cap n w c0 f0 hnc hcm hr).mono ?_
      rintro e w' ⟨rfl, rfl⟩
      obtain ⟨xs, h1, h2, _⟩ := Lib.room_end (B := 0) (Nat.zero_le b) hbk (Nat.zero_le g) hg hcm hcs htk hgb (by omega : bs.length + n ≤ cap)
      exact Or.inl ⟨rfl, g, xs, rfl, h1, Buf.of_is h2 (Lib.heap_setCell_same (i := 0) hbk _), Off.set w b 0 _⟩
    · refine (Tryd.Buffer_tryGrow_none b _ bs.length cap n w c0 hnc hcm (by omega)).mono ?_
      rintro e w' ⟨rfl, rfl⟩
      exact Or.inr ⟨rfl, rfl, _, _, _, c0, by omega⟩

/-- What a write tells. -/
def Wrote (w w' : World) (b : Nat) (r : Option Nat) (bs : List Value) : Prop :=
  ∃ r', Buf w' b r' bs ∧ Off w w' (fun k => k = b ∨ r = some k) ∧ (r' = r ∨ ∃ N, r' = some N ∧ w.heap.size ≤ N)
theorem Wrote.other {w w' : World} {b b2 : Nat} {r r2 : Option Nat} {bs bs2 : List Value} (h : Wrote w w' b r bs) (h2 : Buf w b2 r2 bs2) (hb : b2 ≠ b) (hr : ∀ g, r2 = some g → g ≠ b ∧ r ≠ some g) (hrb : r ≠ some b2) : Buf w' b2 r2 bs2 := by
  obtain ⟨r', _, ho, _⟩ := h
  exact h2.off ho (by rintro (h | h) <;> contradiction) (fun g hg => by rintro (h | h); exact (hr g hg).1 h; exact (hr g hg).2 h)

theorem written {W1 : World} {b g n : Nat} {bs xs cs : List Value} (h : Buf W1 b (some g) (bs ++ xs)) (hx : xs.length = n) (hc : cs.length = n) :
    ∃ cap lr cur, W1.cell? ⟨b, 0, none⟩ = some (.slice (some ⟨g, 0, none⟩) (bs.length + n) cap) ∧ bs.length + n ≤ cap ∧ cap ≤ maxLen ∧ W1.heap[g]? = some (.cells cur 5 (0, 0)) ∧ cur.size = cap ∧
      W1.heap[b]? = some (.cells #[.slice (some ⟨g, 0, none⟩) (bs.length + n) cap, .int .i64 0, .int .i8 lr] 50 (0, 0)) ∧
      Buf (W1.setRow g (cur.toList.take bs.length ++ cs ++ cur.toList.drop (bs.length + n)).toArray) b (some g) (bs ++ cs) ∧ Off W1 (W1.setRow g (cur.toList.take bs.length ++ cs ++ cur.toList.drop (bs.length + n)).toArray) (fun k => k = g) := by
  obtain ⟨cap, lr, cur, hbk2, hg, hnc, hcm, hcs, htk, hgb⟩ := h
  rw [List.length_append, hx] at hbk2 hnc htk
  have e1 : cur.toList.take bs.length = bs := by
    have h3 := congrArg (List.take bs.length) htk
    rwa [List.take_take, Nat.min_eq_left (Nat.le_add_right _ _), List.take_left' rfl] at h3
  obtain ⟨r1, r2⟩ := Lib.written_end (B := 0) (news := cs) (l := bs.length) (Nat.zero_le b) (by rw [hc]; exact hbk2) (Nat.zero_le g) hg hcm hcs hgb (by rw [hc]; exact hnc)
  rw [hc] at r1 r2
  refine ⟨cap, lr, cur, by rw [Lib.cell_of_heap hbk2]; rfl, hnc, hcm, hg, hcs, hbk2, ?_, ⟨r2, fun k hk hn => setRow_other _ _ _ _ hn⟩⟩
  exact Buf.of_is (by rw [e1] at r1 ⊢; exact r1) ((setRow_other _ _ _ _ (Ne.symm hgb)).trans hbk2)

set_option maxHeartbeats 6400000 in
set_option maxRecDepth 100000 in
theorem write (b : Nat) (r : Option Nat) (bs cs : List Value) (a : Addr) (n c : Nat) (w : World) (h : Buf w b r bs) (h1 : ∀ v ∈ bs, v.oneCell' = true)
    (hn : cs.length = n) (hn0 : 1 ≤ n) (hab : a.block ≠ b) (hsrc : ∀ j v, cs[j]? = some v → w.cell? (a.add j) = some v) (h1c : ∀ v ∈ cs, v.oneCell' = true) (hlim : bs.length + n ≤ 140737488355328) :
    Calls Tryd.prog 28 #[.pointer (some ⟨b, 0, none⟩), .slice (some a) n c] w fun e w' => e = .returned (.tuple #[.int .i64 n, .nilIface]) ∧ Wrote w w' b r (bs ++ cs) := by
  obtain ⟨lr, c2, f2⟩ := (buf_last h)
  have h' := buf_setLast h 0
  have ho0 := Off.set w b 2 (.int .i8 0)
  have hsz : (w.setCell ⟨b, 2, none⟩ (.int .i8 0)).heap.size = w.heap.size := by simp [World.setCell]
  have hinfo : (Tryd.prog.info? 5).map (·.size) = some 1 := by
    obtain ⟨i0, hi, -, hz1, -⟩ := info_parts info5'
    rw [hi]; simp [hz1]
  have HSZ := Aside0.mk hsz
  have HO0 := Aside0.mk ho0
  have HSRC := Aside0.mk hsrc
  have HN := Aside0.mk hn
  have HT := Aside0.mk (tryGrow b n r bs (w.setCell ⟨b, 2, none⟩ (.int .i8 0)) h' hn0)
  have HG := Aside0.mk (fun hnr => BufA.grow b n r bs (w.setCell ⟨b, 2, none⟩ (.int .i8 0)) h' h1 hnr hlim)
  clear ho0 hsrc h' h hn
  go_enter Tryd.func28, Tryd.ntmps28
  go_wp2_with (first
    | (go_at_call 39; (with_reducible refine HT.out.mono ?_); rintro e W1 (⟨rfl, g, xs, hr, hxl, hI, hk⟩ | ⟨rfl, rfl, hnr⟩)
       (
        have HK : Aside0 (Off w W1 (fun k => k = b)) := ⟨HO0.out.trans hk (fun _ _ h => h)⟩
        obtain ⟨cap, lr2, cur, d0, hnc, hcm, hg, hcs, hbk2, hB2, hO2⟩ := written hI hxl HN.out
        have hne : ¬ cap = bs.length := by omega
        have hsrc1 : ∀ j v, cs[j]? = some v → W1.cell? (a.add j) = some v := fun j v hj => by
          have h0 := HSRC.out j v hj
          have hlt : (a.add j).block < w.heap.size := World.block_lt_of_cell? w _ h0
          exact (World.cell?_of_block (HK.out.blk _ hlt (by rw [Lib.block_add]; exact hab))).trans h0
        have hcp := run_copy_row (P := Tryd.prog) W1 25 25 3 5 g bs.length n (cap - bs.length) a n c cur 5 cs Tryd.underlying25 hinfo hg (by rw [HN.out]; exact (Nat.min_self n).symm) hsrc1 (by rw [HN.out]; omega) h1c
        rw [HN.out] at hcp
        have hcm' := hcm
        unfold maxLen at hcm'
        have HF : Aside0 (Wrote w (W1.setRow g (cur.toList.take bs.length ++ cs ++ cur.toList.drop (bs.length + n)).toArray) b r (bs ++ cs)) := ⟨some g, hB2, (HK.out.mono (fun _ _ h => Or.inl h)).trans hO2 (fun k _ h => Or.inr (by rw [hr, h])), Or.inl hr.symm⟩
        clear hI hk hxl hsrc1 hB2 hO2 hbk2 hcs hcm hr)
       rotate_left
       (
        have HGn := Aside0.mk (HG.out hnr)
        clear hnr)
       rotate_left)
    | (go_at_call 40; (with_reducible refine HGn.out.mono ?_); rintro e W1 ⟨rfl, g, xs, hxl, hNg, hI, hk⟩
       have HK : Aside0 (Off w W1 (fun k => k = b)) := ⟨HO0.out.trans hk (fun _ _ h => h)⟩
       obtain ⟨cap, lr2, cur, d0, hnc, hcm, hg, hcs, hbk2, hB2, hO2⟩ := written hI hxl HN.out
       have hne : ¬ cap = bs.length := by omega
       have hsrc1 : ∀ j v, cs[j]? = some v → W1.cell? (a.add j) = some v := fun j v hj => by
         have h0 := HSRC.out j v hj
         have hlt : (a.add j).block < w.heap.size := World.block_lt_of_cell? w _ h0
         exact (World.cell?_of_block (HK.out.blk _ hlt (by rw [Lib.block_add]; exact hab))).trans h0
       have hcp := run_copy_row (P := Tryd.prog) W1 25 25 3 5 g bs.length n (cap - bs.length) a n c cur 5 cs Tryd.underlying25 hinfo hg (by rw [HN.out]; exact (Nat.min_self n).symm) hsrc1 (by rw [HN.out]; omega) h1c
       rw [HN.out] at hcp
       have hcm' := hcm
       unfold maxLen at hcm'
       have HF : Aside0 (Wrote w (W1.setRow g (cur.toList.take bs.length ++ cs ++ cur.toList.drop (bs.length + n)).toArray) b r (bs ++ cs)) := ⟨some g, hB2, (HK.out.mono (S2 := fun k => k = b ∨ r = some k) (fun _ _ h => Or.inl h)).trans hO2 (fun k hk0 h => by rw [h] at hk0; have := HSZ.out; omega), Or.inr ⟨g, rfl, by have := HSZ.out; omega⟩⟩
       clear hI hk hxl hsrc1 hB2 hO2 hbk2 hcs hcm hNg))
  all_goals (go_ret2; exact ⟨rfl, by rw [← List.append_assoc]; exact HF.out⟩)

theorem poked {W1 : World} {b g : Nat} {bs xs : List Value} (v : Value) (h : Buf W1 b (some g) (bs ++ xs)) (hx : xs.length = 1) :
    ∃ cap lr cur v0, W1.cell? ⟨b, 0, none⟩ = some (.slice (some ⟨g, 0, none⟩) (bs.length + 1) cap) ∧ bs.length + 1 ≤ cap ∧ cap ≤ maxLen ∧ W1.heap[g]? = some (.cells cur 5 (0, 0)) ∧ W1.cell? ⟨g, bs.length, none⟩ = some v0 ∧ W1.frozen? ⟨g, bs.length, none⟩ = false ∧
      W1.heap[b]? = some (.cells #[.slice (some ⟨g, 0, none⟩) (bs.length + 1) cap, .int .i64 0, .int .i8 lr] 50 (0, 0)) ∧
      Buf (W1.setCell ⟨g, bs.length, none⟩ v) b (some g) (bs ++ [v]) ∧ Off W1 (W1.setCell ⟨g, bs.length, none⟩ v) (fun k => k = g) := by
  obtain ⟨cap, lr, cur, hbk2, hg, hnc, hcm, hcs, htk, hgb⟩ := h
  rw [List.length_append, hx] at hbk2 hnc htk
  have e1 : cur.toList.take bs.length = bs := by
    have h3 := congrArg (List.take bs.length) htk
    rwa [List.take_take, Nat.min_eq_left (Nat.le_add_right _ _), List.take_left' rfl] at h3
  obtain ⟨r1, r2⟩ := Lib.poke_end (B := 0) (v := v) (Nat.zero_le b) hbk2 (Nat.zero_le g) hg hcm hcs hgb hnc
  rw [e1] at r1
  have hlt : bs.length < cur.size := by omega
  exact ⟨cap, lr, cur, cur[bs.length], by rw [Lib.cell_of_heap hbk2]; rfl, hnc, hcm, hg, by rw [Lib.cell_of_heap hg, Array.getElem?_eq_getElem hlt], Lib.frozen_of_heap hg _, hbk2, Buf.of_is r1 ((Below.heap_setCell _ _ _ _ (Ne.symm hgb)).trans hbk2), Off.set W1 g bs.length v⟩

set_option maxHeartbeats 4000000 in
set_option maxRecDepth 100000 in
theorem reset (b : Nat) (r : Option Nat) (bs : List Value) (w : World) (h : Buf w b r bs) :
    Calls Tryd.prog 51 #[.pointer (some ⟨b, 0, none⟩)] w fun e w' => e = .returned (.tuple #[]) ∧ Buf w' b r [] ∧ Off w w' (fun k => k = b) := by
  have u52 := run_underlying Tryd.underlying50
  have ho : ∀ v0 v1 v2, Off w (((w.setCell ⟨b, 0, none⟩ v0).setCell ⟨b, 1, none⟩ v1).setCell ⟨b, 2, none⟩ v2) (fun k => k = b) := fun v0 v1 v2 => ((Off.set w b 0 v0).trans (Off.set _ b 1 v1) (fun _ _ h => h)).trans (Off.set _ b 2 v2) (fun _ _ h => h)
  have HO := Aside0.mk ho
  clear ho
  cases r with
  | none =>
    obtain ⟨rfl, lr, hbk⟩ := h
    have c0 : w.cell? ⟨b, 0, none⟩ = some (.slice none 0 0) := by rw [Lib.cell_of_heap hbk]; rfl
    have c1 : w.cell? ⟨b, 1, none⟩ = some (.int .i64 0) := by rw [Lib.cell_of_heap hbk]; rfl
    have c2 : w.cell? ⟨b, 2, none⟩ = some (.int .i8 lr) := by rw [Lib.cell_of_heap hbk]; rfl
    have f0 := Lib.frozen_of_heap hbk 0
    have f1 := Lib.frozen_of_heap hbk 1
    have f2 := Lib.frozen_of_heap hbk 2
    go_enter Tryd.func51, Tryd.ntmps51
    go_wp2
    go_end0
    exact ⟨rfl, ⟨rfl, 0, Lib.heap_setCell_same (i := 2) (Lib.heap_setCell_same (i := 1) (Lib.heap_setCell_same (i := 0) hbk _) _) _⟩, HO.out _ _ _⟩
  | some g =>
    obtain ⟨cap, lr, cur, hbk, hg, hnc, hcm, hcs, htk, hgb⟩ := h
    have c0 : w.cell? ⟨b, 0, none⟩ = some (.slice (some ⟨g, 0, none⟩) bs.length cap) := by rw [Lib.cell_of_heap hbk]; rfl
    have c1 : w.cell? ⟨b, 1, none⟩ = some (.int .i64 0) := by rw [Lib.cell_of_heap hbk]; rfl
    have c2 : w.cell? ⟨b, 2, none⟩ = some (.int .i8 lr) := by rw [Lib.cell_of_heap hbk]; rfl
    have f0 := Lib.frozen_of_heap hbk 0
    have f1 := Lib.frozen_of_heap hbk 1
    have f2 := Lib.frozen_of_heap hbk 2
    have HR := Aside0.mk (Lib.reset_end_row (B := 0) (Nat.zero_le b) hbk (Nat.zero_le g) hg hcm hcs hgb).1
    go_enter Tryd.func51, Tryd.ntmps51
    go_wp2
    go_end0
    exact ⟨rfl, Buf.of_is HR.out (Lib.heap_setCell_same (i := 2) (Lib.heap_setCell_same (i := 1) (Lib.heap_setCell_same (i := 0) hbk _) _) _), HO.out _ _ _⟩

set_option maxHeartbeats 4000000 in
set_option maxRecDepth 100000 in
theorem bytes (b g : Nat) (bs : List Value) (w : World) (h : Buf w b (some g) bs) (hne : 1 ≤ bs.length) :
    Calls Tryd.prog 22 #[.pointer (some ⟨b, 0, none⟩)] w fun e w' => ∃ cap, e = .returned (.slice (some ⟨g, 0, none⟩) bs.length cap) ∧ bs.length ≤ cap ∧ ∃ q, w' = w.drewN q := by
  have u52 := run_underlying Tryd.underlying50
  obtain ⟨cap, lr, cur, hbk, hg, hnc, hcm, hcs, htk, hgb⟩ := h
  have c0 : w.cell? ⟨b, 0, none⟩ = some (.slice (some ⟨g, 0, none⟩) bs.length cap) := by rw [Lib.cell_of_heap hbk]; rfl
  have c1 : w.cell? ⟨b, 1, none⟩ = some (.int .i64 0) := by rw [Lib.cell_of_heap hbk]; rfl
  unfold maxLen at hcm
  have hc0 : ¬ cap = 0 := by omega
  clear hbk hg htk hcs
  go_enter Tryd.func22, Tryd.ntmps22
  go_wp2
  go_quiet (fail)
  go_wp2
  go_ret
  exact ⟨cap, rfl, hnc, _, rfl⟩
end Go.Proofs.YtponeoodgfgejaaDoor.BufB
