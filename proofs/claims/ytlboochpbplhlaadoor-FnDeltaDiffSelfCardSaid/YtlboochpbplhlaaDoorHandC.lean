/- A buffer that the call has made (the shelf's words), Grow on a fresh one, Write of bytes that came in. -/
import Derived.Test.YtlboochpbplhlaaDoorHandB
import Derived.Test.YtlboochpbplhlaaDoorShelf
set_option linter.unusedVariables false
set_option linter.unusedSimpArgs false
namespace Go.Proofs.YtlboochpbplhlaaDoor.HandC
open Go.RowKit Go.Proofs.YtlboochpbplhlaaDoorW.PrintWords Go.Proofs.YtlboochpbplhlaaDoor.QAll PureD HandA HandB

theorem buf_old {B b : Nat} {bs : List Value} {w W : World} (h : Lib.IsBuffer 52 5 B b bs w) (hb : Below w.heap.size w W) : Lib.IsBuffer 52 5 B b bs W := by
  have hlt := h.lt
  obtain ⟨hB, v, lr, hbk, hown, hne⟩ := h
  exact ⟨hB, v, lr, (hb.block b hlt).trans hbk, pw_own_below hown hb, hne⟩
theorem nums_one (k : IntKind) (l : List Int) : ∀ v ∈ nums k l, v.oneCell' = true := by
  intro v hv
  obtain ⟨x, _, rfl⟩ := List.mem_map.1 hv
  rfl
theorem below_old {B : Nat} {w W : World} (hB : B ≤ w.heap.size) (h : Below w.heap.size w W) : Below B w W :=
  below_then (Below.refl B w) hB h

theorem bwrite (B b : Nat) (bs l : List Int) (A : Option Addr) (c : Nat) (w : World) (h : Lib.IsBuffer 52 5 B b (nums .u8 bs) w) (hBw : B ≤ w.heap.size) (hS : Sd w B A c l) (hl : 0 < l.length) (hlim : bs.length + l.length ≤ 140737488355328) :
    Calls Tryd.prog 33 #[.pointer (some ⟨b, 0, none⟩), .slice A l.length c] w fun e w' => e = .returned (.tuple #[.int .i64 (l.length : Int), .nilIface]) ∧ Lib.IsBuffer 52 5 B b (nums .u8 (bs ++ l)) w' ∧ Below B w w' := by
  obtain ⟨g, o, rfl, hg, hc⟩ := hS.2.2.2 hl
  rw [nums_append]
  refine Tryd.Buffer_Write B b (nums .u8 bs) (nums .u8 l) ⟨g, o, none⟩ l.length c w h hBw (nums_one _ _) (nums_length _ _) hg (fun j v hj => ?_) (nums_one _ _) (by rw [nums_length]; exact hlim)
  unfold nums at hj
  rw [List.getElem?_map] at hj
  obtain ⟨x, hx, rfl⟩ := Option.map_eq_some_iff.1 hj
  rw [Lib.addr_add]
  exact hc j x hx

set_option maxHeartbeats 4000000 in
set_option maxRecDepth 100000 in
theorem bgrow (B b n : Nat) (lr : Int) (w : World) (hB : B ≤ b) (hBw : B ≤ w.heap.size) (hbk : w.heap[b]? = some (.cells #[.slice none 0 0, .int .i64 0, .int .i8 lr] 52 (0, 0))) (hn : 1 ≤ n) (hn2 : n ≤ 65536) :
    Calls Tryd.prog 27 #[.pointer (some ⟨b, 0, none⟩), .int .i64 (n : Int)] w fun e w' => e = .returned (.tuple #[]) ∧ Lib.IsBuffer 52 5 B b (nums .u8 []) w' ∧ Below B w w' := by
  have hI : Lib.IsBuffer 52 5 B b [] w := ⟨hB, _, _, hbk, World.ownsRow_nil _ _ _ _, by simp [Value.ownBlock]⟩
  have hnr : Lib.NoRoom b n w := ⟨none, 0, 0, by rw [Lib.cell_of_heap hbk]; rfl, by omega⟩
  have HG := Aside0.mk (Tryd.Buffer_grow B b n [] w hI hnr hBw (by simp) (by simp; omega))
  clear hI hnr hbk
  go_enter Tryd.func27, Tryd.ntmps27
  go_wp2_with fail
  (with_reducible refine HG.out.mono ?_)
  rintro e w1 ⟨rfl, xs, hxl, hI, hbel⟩
  obtain ⟨_, lr2, hc⟩ := hI.cases
  rcases hc with ⟨hnil, _⟩ | ⟨g, cap, cur, hbk2, hBg, hg, hnc, hcm, hcs, htk, hgb⟩
  · exact absurd (congrArg List.length hnil) (by rw [List.nil_append, hxl]; simp; omega)
  · have d0 : w1.cell? ⟨b, 0, none⟩ = some (.slice (some ⟨g, 0, none⟩) ([] ++ xs).length cap) := by rw [Lib.cell_of_heap hbk2]; rfl
    have f0 := Lib.frozen_of_heap hbk2 0
    have HF : Aside0 (Lib.IsBuffer 52 5 B b (nums .u8 []) (w1.setCell ⟨b, 0, none⟩ (.slice (some ⟨g, 0, none⟩) 0 cap)) ∧ Below B w (w1.setCell ⟨b, 0, none⟩ (.slice (some ⟨g, 0, none⟩) 0 cap))) := ⟨by
      have hgf : (w1.setCell ⟨b, 0, none⟩ (.slice (some ⟨g, 0, none⟩) 0 cap)).heap[g]? = some (.cells cur 5 (0, 0)) := by rw [Below.heap_setCell _ _ _ _ hgb]; exact hg
      exact ⟨Lib.isBuffer_mk (n := 0) hB (Lib.heap_setCell_same (i := 0) hbk2 _) hBg hgf (Nat.zero_le _) hcm hcs hgb, hbel.setCell (p := ⟨b, 0, none⟩) hB _⟩⟩
    clear hI hbk2 hg htk hcs hbel
    rw [List.nil_append] at d0 hnc
    unfold maxLen at hcm
    go_wp2
    go_end0
    exact ⟨rfl, HF.out⟩
end Go.Proofs.YtlboochpbplhlaaDoor.HandC
