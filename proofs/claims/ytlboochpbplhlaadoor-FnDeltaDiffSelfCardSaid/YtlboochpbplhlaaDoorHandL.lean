/- Two buffers of one call: Write, WriteByte, Bytes, Len, Reset (the walks follow the kit's own). -/
import Derived.Test.YtlboochpbplhlaaDoorHandK
import Derived.Lib.BufferSrc
import Derived.Laws.IdiomCopy
set_option linter.unusedVariables false
set_option linter.unusedSimpArgs false
namespace Go.Proofs.YtlboochpbplhlaaDoor.HandL
open Go.RowKit Go.Proofs.YtlboochpbplhlaaDoorW.PrintWords Go.Proofs.YtlboochpbplhlaaDoor.QAll PureD HandA HandB HandC HandD HandK

theorem buf_setLast {w : World} {b : Nat} {r : Option Nat} {bs : List Value} (h : Buf w b r bs) (x : Int) : Buf (w.setCell ⟨b, 2, none⟩ (.int .i8 x)) b r bs := by
  cases r with
  | none => obtain ⟨h1, lr, h2⟩ := h; exact ⟨h1, x, Lib.heap_setCell_same (i := 2) h2 _⟩
  | some g =>
    obtain ⟨cap, lr, cur, h1, h2, h3, h4, h5, h6, h7⟩ := h
    exact ⟨cap, x, cur, Lib.heap_setCell_same (i := 2) h1 _, (Below.heap_setCell _ _ _ _ h7).trans h2, h3, h4, h5, h6, h7⟩
theorem buf_last {w : World} {b : Nat} {r : Option Nat} {bs : List Value} (h : Buf w b r bs) : ∃ lr, w.cell? ⟨b, 2, none⟩ = some (.int .i8 lr) ∧ w.frozen? ⟨b, 2, none⟩ = false := by
  cases r with
  | none => obtain ⟨h1, lr, h2⟩ := h; exact ⟨lr, by rw [Lib.cell_of_heap h2]; rfl, Lib.frozen_of_heap h2 2⟩
  | some g =>
    obtain ⟨cap, lr, cur, h1, _⟩ := h
    exact ⟨lr, by rw [Lib.cell_of_heap h1]; rfl, Lib.frozen_of_heap h1 2⟩

theorem tryGrow (b n : Nat) (r : Option Nat) (bs : List Value) (w : World) (h : Buf w b r bs) (hn : 1 ≤ n) :
    Calls Tryd.prog 45 #[.pointer (some ⟨b, 0, none⟩), .int .i64 n] w fun e w' =>
      (e = .returned (.tuple #[.int .i64 bs.length, .bool true]) ∧ ∃ g xs, r = some g ∧ xs.length = n ∧ Buf w' b (some g) (bs ++ xs) ∧ Off w w' (fun k => k = b)) ∨
      (e = .returned (.tuple #[.int .i64 0, .bool false]) ∧ w' = w ∧ Lib.NoRoom b n w) := by
  cases r with
  | none =>
    obtain ⟨rfl, lr, hbk⟩ := h
    have c0 : w.cell? ⟨b, 0, none⟩ = some (.slice none 0 0) := by rw [Lib.cell_of_heap hbk]; rfl
    refine (Tryd.Buffer_tryGrow_none b none 0 0 n w c0 (Nat.le_refl _) (Nat.zero_le _) (by omega)).mono ?_
    rintro e w' ⟨rfl, rfl⟩
    exact Or.inr ⟨rfl, rfl, none, 0, 0, c0, by omega⟩
  | some g =>
    obtain ⟨cap, lr, cur, hbk, hg, hnc, hcm, hcs, htk, hgb⟩ := h
    have c0 : w.cell? ⟨b, 0, none⟩ = some (.slice (some ⟨g, 0, none⟩) bs.length cap) := by rw [Lib.cell_of_heap hbk]; rfl
    have f0 := Lib.frozen_of_heap hbk 0
    by_cases hr : n ≤ cap - bs.length
    · refine (Tryd.Buffer_tryGrow_room b _ bs.length cap n w c0 f0 hnc hcm hr).mono ?_
      rintro e w' ⟨rfl, rfl⟩
      obtain ⟨xs, h1, h2, _⟩ := Lib.room_end (B := 0) (Nat.zero_le b) hbk (Nat.zero_le g) hg hcm hcs htk hgb (by omega : bs.length + n ≤ cap)
      exact Or.inl ⟨rfl, g, xs, rfl, h1, Buf.of_is h2 (Lib.heap_setCell_same (i := 0) hbk _), Off.set w b 0 _⟩
    · refine (Tryd.Buffer_tryGrow_none b _ bs.length cap n w c0 hnc hcm (by omega)).mono ?_
      rintro e w' ⟨rfl, rfl⟩
      exact Or.inr ⟨rfl, rfl, _, _, _, c0, by omega⟩

/-- What a write tells. -/
def Wrote (w w' : World) (b : Nat) (r : Option Nat) (bs : List Value) : Prop :=
  ∃ r', Buf w' b r' bs ∧ Off w w' (fun k => k = b ∨ r = some k) ∧ (r' = r ∨ ∃ N, r' = some N ∧ w.heap.size ≤ N)
theorem Wrote.other {w w' : World} {b b2 : Nat} {r r2 : Option Nat} {bs bs2 : List Value} (h : Wrote w w' b r bs) (h2 : Buf w b2 r2 bs2) (hb : b2 ≠ b) (hr : ∀ g, r2 = some g → g ≠ b ∧ r ≠ some g) (hrb : r ≠ some b2) : Buf w' b2 r2 bs2 := by
  obtain ⟨r', _, ho, _⟩ := h
  exact h2.off ho (by rintro (h | h) <;> contradiction) (fun g hg => by rintro (h | h); exact (hr g hg).1 h; exact (hr g hg).2 h)

theorem written {W1 : World} {b g n : Nat} {bs xs cs : List Value} (h : Buf W1 b (some g) (bs ++ xs)) (hx : xs.length = n) (hc : cs.length = n) :
    ∃ cap lr cur, W1.cell? ⟨b, 0, none⟩ = some (.slice (some ⟨g, 0, none⟩) (bs.length + n) cap) ∧ bs.length + n ≤ cap ∧ cap ≤ maxLen ∧ W1.heap[g]? = some (.cells cur 5 (0, 0)) ∧ cur.size = cap ∧
      W1.heap[b]? = some (.cells #[.slice (some ⟨g, 0, none⟩) (bs.length + n) cap, .int .i64 0, .int .i8 lr] 52 (0, 0)) ∧
      Buf (W1.setRow g (cur.toList.take bs.length ++ cs ++ cur.toList.drop (bs.length + n)).toArray) b (some g) (bs ++ cs) ∧ Off W1 (W1.setRow g (cur.toList.take bs.length ++ cs ++ cur.toList.drop (bs.length + n)).toArray) (fun k => k = g) := by
  obtain ⟨cap, lr, cur, hbk2, hg, hnc, hcm, hcs, htk, hgb⟩ := h
  rw [List.length_append, hx] at hbk2 hnc htk
  have e1 : cur.toList.take bs.length = bs := by
    have h3 := congrArg (List.take bs.length) htk
    rwa [List.take_take, Nat.min_eq_left (Nat.le_add_right _ _), List.take_left' rfl] at h3
  obtain ⟨r1, r2⟩ := Lib.written_end (B := 0) (news := cs) (l := bs.length) (Nat.zero_le b) (by rw [hc]; exact hbk2) (Nat.zero_le g) hg hcm hcs hgb (by rw [hc]; exact hnc)
  rw [hc] at r1 r2
  refine ⟨cap, lr, cur, by rw [Lib.cell_of_heap hbk2]; rfl, hnc, hcm, hg, hcs, hbk2, ?_, ⟨r2, fun k hk hn => setRow_other _ _ _ _ hn⟩⟩
  exact Buf.of_is (by rw [e1] at r1 ⊢; exact r1) ((setRow_other _ _ _ _ (Ne.symm hgb)).trans hbk2)

set_option maxHeartbeats 6400000 in
set_option maxRecDepth 100000 in
theorem write (b : Nat) (r : Option Nat) (bs cs : List Value) (a : Addr) (n c : Nat) (w : World) (h : Buf w b r bs) (h1 : ∀ v ∈ bs, v.oneCell' = true)
    (hn : cs.length = n) (hn0 : 1 ≤ n) (hab : a.block ≠ b) (hsrc : ∀ j v, cs[j]? = some v → w.cell? (a.add j) = some v) (h1c : ∀ v ∈ cs, v.oneCell' = true) (hlim : bs.length + n ≤ 140737488355328) :
    Calls Tryd.prog 33 #[.pointer (some ⟨b, 0, none⟩), .slice (some a) n c] w fun e w' => e = .returned (.tuple #[.int .i64 n, .nilIface]) ∧ Wrote w w' b r (bs ++ cs) := by
  obtain ⟨lr, c2, f2⟩ := (buf_last h)
  have h' := buf_setLast h 0
  have ho0 := Off.set w b 2 (.int .i8 0)
  have hsz : (w.setCell ⟨b, 2, none⟩ (.int .i8 0)).heap.size = w.heap.size := by simp [World.setCell]
  have hinfo : (Tryd.prog.info? 5).map (·.size) = some 1 := by
    obtain ⟨i0, hi, -, hz1, -⟩ := info_parts info5'
    rw [hi]; simp [hz1]
  have HSZ := Aside0.mk hsz
  have HO0 := Aside0.mk ho0
  have HSRC := Aside0.mk hsrc
  have HN := Aside0.mk hn
  have HT := Aside0.mk (tryGrow b n r bs (w.setCell ⟨b, 2, none⟩ (.int .i8 0)) h' hn0)
  have HG := Aside0.mk (fun hnr => HandK.grow b n r bs (w.setCell ⟨b, 2, none⟩ (.int .i8 0)) h' h1 hnr hlim)
  clear ho0 hsrc h' h hn
  go_enter Tryd.func33, Tryd.ntmps33
  go_wp2_with (first
    | (go_at_call 45; (with_reducible refine HT.out.mono ?_); rintro e W1 (⟨rfl, g, xs, hr, hxl, hI, hk⟩ | ⟨rfl, rfl, hnr⟩)
       (
        have HK : Aside0 (Off w W1 (fun k => k = b)) := ⟨HO0.out.trans hk (fun _ _ h => h)⟩
        obtain ⟨cap, lr2, cur, d0, hnc, hcm, hg, hcs, hbk2, hB2, hO2⟩ := written hI hxl HN.out
        have hne : ¬ cap = bs.length := by omega
        have hsrc1 : ∀ j v, cs[j]? = some v → W1.cell? (a.add j) = some v := fun j v hj => by
          have h0 := HSRC.out j v hj
          have hlt : (a.add j).block < w.heap.size := World.block_lt_of_cell? w _ h0
          exact (World.cell?_of_block (HK.out.blk _ hlt (by rw [Lib.block_add]; exact hab))).trans h0
        have hcp := run_copy_row (P := Tryd.prog) W1 22 22 3 5 g bs.length n (cap - bs.length) a n c cur 5 cs Tryd.underlying22 hinfo hg (by rw [HN.out]; exact (Nat.min_self n).symm) hsrc1 (by rw [HN.out]; omega) h1c
        rw [HN.out] at hcp
        have hcm' := hcm
        unfold maxLen at hcm'
        have HF : Aside0 (Wrote w (W1.setRow g (cur.toList.take bs.length ++ cs ++ cur.toList.drop (bs.length + n)).toArray) b r (bs ++ cs)) := ⟨some g, hB2, (HK.out.mono (fun _ _ h => Or.inl h)).trans hO2 (fun k _ h => Or.inr (by rw [hr, h])), Or.inl hr.symm⟩
        clear hI hk hxl hsrc1 hB2 hO2 hbk2 hcs hcm hr)
       rotate_left
       (
        have HGn := Aside0.mk (HG.out hnr)
        clear hnr)
       rotate_left)
    | (go_at_call 43; (with_reducible refine HGn.out.mono ?_); rintro e W1 ⟨rfl, g, xs, hxl, hNg, hI, hk⟩
       have HK : Aside0 (Off w W1 (fun k => k = b)) := ⟨HO0.out.trans hk (fun _ _ h => h)⟩
       obtain ⟨cap, lr2, cur, d0, hnc, hcm, hg, hcs, hbk2, hB2, hO2⟩ := written hI hxl HN.out
       have hne : ¬ cap = bs.length := by omega
       have hsrc1 : ∀ j v, cs[j]? = some v → W1.cell? (a.add j) = some v := fun j v hj => by
         have h0 := HSRC.out j v hj
         have hlt : (a.add j).block < w.heap.size := World.block_lt_of_cell? w _ h0
         exact (World.cell?_of_block (HK.out.blk _ hlt (by rw [Lib.block_add]; exact hab))).trans h0
       have hcp := run_copy_row (P := Tryd.prog) W1 22 22 3 5 g bs.length n (cap - bs.length) a n c cur 5 cs Tryd.underlying22 hinfo hg (by rw [HN.out]; exact (Nat.min_self n).symm) hsrc1 (by rw [HN.out]; omega) h1c
       rw [HN.out] at hcp
       have hcm' := hcm
       unfold maxLen at hcm'
       have HF : Aside0 (Wrote w (W1.setRow g (cur.toList.take bs.length ++ cs ++ cur.toList.drop (bs.length + n)).toArray) b r (bs ++ cs)) := ⟨some g, hB2, (HK.out.mono (S2 := fun k => k = b ∨ r = some k) (fun _ _ h => Or.inl h)).trans hO2 (fun k hk0 h => by rw [h] at hk0; have := HSZ.out; omega), Or.inr ⟨g, rfl, by have := HSZ.out; omega⟩⟩
       clear hI hk hxl hsrc1 hB2 hO2 hbk2 hcs hcm hNg))
  all_goals (go_ret2; exact ⟨rfl, by rw [← List.append_assoc]; exact HF.out⟩)

theorem poked {W1 : World} {b g : Nat} {bs xs : List Value} (v : Value) (h : Buf W1 b (some g) (bs ++ xs)) (hx : xs.length = 1) :
    ∃ cap lr cur v0, W1.cell? ⟨b, 0, none⟩ = some (.slice (some ⟨g, 0, none⟩) (bs.length + 1) cap) ∧ bs.length + 1 ≤ cap ∧ cap ≤ maxLen ∧ W1.heap[g]? = some (.cells cur 5 (0, 0)) ∧ W1.cell? ⟨g, bs.length, none⟩ = some v0 ∧ W1.frozen? ⟨g, bs.length, none⟩ = false ∧
      W1.heap[b]? = some (.cells #[.slice (some ⟨g, 0, none⟩) (bs.length + 1) cap, .int .i64 0, .int .i8 lr] 52 (0, 0)) ∧
      Buf (W1.setCell ⟨g, bs.length, none⟩ v) b (some g) (bs ++ [v]) ∧ Off W1 (W1.setCell ⟨g, bs.length, none⟩ v) (fun k => k = g) := by
  obtain ⟨cap, lr, cur, hbk2, hg, hnc, hcm, hcs, htk, hgb⟩ := h
  rw [List.length_append, hx] at hbk2 hnc htk
  have e1 : cur.toList.take bs.length = bs := by
    have h3 := congrArg (List.take bs.length) htk
    rwa [List.take_take, Nat.min_eq_left (Nat.le_add_right _ _), List.take_left' rfl] at h3
  obtain ⟨r1, r2⟩ := Lib.poke_end (B := 0) (v := v) (Nat.zero_le b) hbk2 (Nat.zero_le g) hg hcm hcs hgb hnc
  rw [e1] at r1
  have hlt : bs.length < cur.size := by omega
  exact ⟨cap, lr, cur, cur[bs.length], by rw [Lib.cell_of_heap hbk2]; rfl, hnc, hcm, hg, by rw [Lib.cell_of_heap hg, Array.getElem?_eq_getElem hlt], Lib.frozen_of_heap hg _, hbk2, Buf.of_is r1 ((Below.heap_setCell _ _ _ _ (Ne.symm hgb)).trans hbk2), Off.set W1 g bs.length v⟩

set_option maxHeartbeats 6400000 in
set_option maxRecDepth 100000 in
theorem writeByte (b : Nat) (r : Option Nat) (bs : List Value) (x : Int) (w : World) (h : Buf w b r bs) (h1 : ∀ v ∈ bs, v.oneCell' = true) (hlim : bs.length + 1 ≤ 140737488355328) :
    Calls Tryd.prog 40 #[.pointer (some ⟨b, 0, none⟩), .int .u8 x] w fun e w' => e = .returned .nilIface ∧ Wrote w w' b r (bs ++ [.int .u8 x]) := by
  obtain ⟨lr, c2, f2⟩ := (buf_last h)
  have h' := buf_setLast h 0
  have hsz : (w.setCell ⟨b, 2, none⟩ (.int .i8 0)).heap.size = w.heap.size := by simp [World.setCell]
  have HSZ := Aside0.mk hsz
  have HO0 := Aside0.mk (Off.set w b 2 (.int .i8 0))
  have hT : Calls Tryd.prog 45 #[.pointer (some ⟨b, 0, none⟩), .int .i64 1] (w.setCell ⟨b, 2, none⟩ (.int .i8 0)) _ := tryGrow b 1 r bs (w.setCell ⟨b, 2, none⟩ (.int .i8 0)) h' (Nat.le_refl 1)
  have hG : ∀ hnr : Lib.NoRoom b 1 (w.setCell ⟨b, 2, none⟩ (.int .i8 0)), Calls Tryd.prog 43 #[.pointer (some ⟨b, 0, none⟩), .int .i64 1] (w.setCell ⟨b, 2, none⟩ (.int .i8 0)) _ := fun hnr => HandK.grow b 1 r bs (w.setCell ⟨b, 2, none⟩ (.int .i8 0)) h' h1 hnr hlim
  have HT := Aside0.mk hT
  have HG := Aside0.mk hG
  clear h' h hT hG
  go_enter Tryd.func40, Tryd.ntmps40
  go_wp2_with (first
    | (go_at_call 45; (with_reducible refine HT.out.mono ?_); rintro e W1 (⟨rfl, g, xs, hr, hxl, hI, hk⟩ | ⟨rfl, rfl, hnr⟩)
       (
        have HK : Aside0 (Off w W1 (fun k => k = b)) := ⟨HO0.out.trans hk (fun _ _ h => h)⟩
        obtain ⟨cap, lr2, cur, v0, d0, hnc, hcm, hg, dg, fg, hbk2, hB2, hO2⟩ := poked (.int .u8 x) hI hxl
        have hcm' := hcm
        unfold maxLen at hcm'
        have HF : Aside0 (Wrote w (W1.setCell ⟨g, bs.length, none⟩ (.int .u8 x)) b r (bs ++ [.int .u8 x])) := ⟨some g, hB2, (HK.out.mono (fun _ _ h => Or.inl h)).trans hO2 (fun k _ h => Or.inr (by rw [hr, h])), Or.inl hr.symm⟩
        clear hI hk hxl hB2 hO2 hbk2 hcm hr)
       rotate_left
       (
        have HGn := Aside0.mk (HG.out hnr)
        clear hnr)
       rotate_left)
    | (go_at_call 43; (with_reducible refine HGn.out.mono ?_); rintro e W1 ⟨rfl, g, xs, hxl, hNg, hI, hk⟩
       have HK : Aside0 (Off w W1 (fun k => k = b)) := ⟨HO0.out.trans hk (fun _ _ h => h)⟩
       obtain ⟨cap, lr2, cur, v0, d0, hnc, hcm, hg, dg, fg, hbk2, hB2, hO2⟩ := poked (.int .u8 x) hI hxl
       have hcm' := hcm
       unfold maxLen at hcm'
       have HF : Aside0 (Wrote w (W1.setCell ⟨g, bs.length, none⟩ (.int .u8 x)) b r (bs ++ [.int .u8 x])) := ⟨some g, hB2, (HK.out.mono (S2 := fun k => k = b ∨ r = some k) (fun _ _ h => Or.inl h)).trans hO2 (fun k hk0 h => by rw [h] at hk0; have := HSZ.out; omega), Or.inr ⟨g, rfl, by have := HSZ.out; omega⟩⟩
       clear hI hk hxl hB2 hO2 hbk2 hcm hNg))
  all_goals (go_ret; exact ⟨rfl, HF.out⟩)

set_option maxHeartbeats 4000000 in
set_option maxRecDepth 100000 in
theorem reset (b : Nat) (r : Option Nat) (bs : List Value) (w : World) (h : Buf w b r bs) :
    Calls Tryd.prog 52 #[.pointer (some ⟨b, 0, none⟩)] w fun e w' => e = .returned (.tuple #[]) ∧ Buf w' b r [] ∧ Off w w' (fun k => k = b) := by
  have u52 := run_underlying Tryd.underlying52
  have ho : ∀ v0 v1 v2, Off w (((w.setCell ⟨b, 0, none⟩ v0).setCell ⟨b, 1, none⟩ v1).setCell ⟨b, 2, none⟩ v2) (fun k => k = b) := fun v0 v1 v2 => ((Off.set w b 0 v0).trans (Off.set _ b 1 v1) (fun _ _ h => h)).trans (Off.set _ b 2 v2) (fun _ _ h => h)
  have HO := Aside0.mk ho
  clear ho
  cases r with
  | none =>
    obtain ⟨rfl, lr, hbk⟩ := h
    have c0 : w.cell? ⟨b, 0, none⟩ = some (.slice none 0 0) := by rw [Lib.cell_of_heap hbk]; rfl
    have c1 : w.cell? ⟨b, 1, none⟩ = some (.int .i64 0) := by rw [Lib.cell_of_heap hbk]; rfl
    have c2 : w.cell? ⟨b, 2, none⟩ = some (.int .i8 lr) := by rw [Lib.cell_of_heap hbk]; rfl
    have f0 := Lib.frozen_of_heap hbk 0
    have f1 := Lib.frozen_of_heap hbk 1
    have f2 := Lib.frozen_of_heap hbk 2
    go_enter Tryd.func52, Tryd.ntmps52
    go_wp2
    go_end0
    exact ⟨rfl, ⟨rfl, 0, Lib.heap_setCell_same (i := 2) (Lib.heap_setCell_same (i := 1) (Lib.heap_setCell_same (i := 0) hbk _) _) _⟩, HO.out _ _ _⟩
  | some g =>
    obtain ⟨cap, lr, cur, hbk, hg, hnc, hcm, hcs, htk, hgb⟩ := h
    have c0 : w.cell? ⟨b, 0, none⟩ = some (.slice (some ⟨g, 0, none⟩) bs.length cap) := by rw [Lib.cell_of_heap hbk]; rfl
    have c1 : w.cell? ⟨b, 1, none⟩ = some (.int .i64 0) := by rw [Lib.cell_of_heap hbk]; rfl
    have c2 : w.cell? ⟨b, 2, none⟩ = some (.int .i8 lr) := by rw [Lib.cell_of_heap hbk]; rfl
    have f0 := Lib.frozen_of_heap hbk 0
    have f1 := Lib.frozen_of_heap hbk 1
    have f2 := Lib.frozen_of_heap hbk 2
    have HR := Aside0.mk (Lib.reset_end_row (B := 0) (Nat.zero_le b) hbk (Nat.zero_le g) hg hcm hcs hgb).1
    go_enter Tryd.func52, Tryd.ntmps52
    go_wp2
    go_end0
    exact ⟨rfl, Buf.of_is HR.out (Lib.heap_setCell_same (i := 2) (Lib.heap_setCell_same (i := 1) (Lib.heap_setCell_same (i := 0) hbk _) _) _), HO.out _ _ _⟩

set_option maxHeartbeats 4000000 in
set_option maxRecDepth 100000 in
theorem bytes (b g : Nat) (bs : List Value) (w : World) (h : Buf w b (some g) bs) (hne : 1 ≤ bs.length) :
    Calls Tryd.prog 24 #[.pointer (some ⟨b, 0, none⟩)] w fun e w' => ∃ cap, e = .returned (.slice (some ⟨g, 0, none⟩) bs.length cap) ∧ bs.length ≤ cap ∧ ∃ q, w' = w.drewN q := by
  have u52 := run_underlying Tryd.underlying52
  obtain ⟨cap, lr, cur, hbk, hg, hnc, hcm, hcs, htk, hgb⟩ := h
  have c0 : w.cell? ⟨b, 0, none⟩ = some (.slice (some ⟨g, 0, none⟩) bs.length cap) := by rw [Lib.cell_of_heap hbk]; rfl
  have c1 : w.cell? ⟨b, 1, none⟩ = some (.int .i64 0) := by rw [Lib.cell_of_heap hbk]; rfl
  unfold maxLen at hcm
  have hc0 : ¬ cap = 0 := by omega
  clear hbk hg htk hcs
  go_enter Tryd.func24, Tryd.ntmps24
  go_wp2
  go_quiet (fail)
  go_wp2
  go_ret
  exact ⟨cap, rfl, hnc, _, rfl⟩
end Go.Proofs.YtlboochpbplhlaaDoor.HandL
