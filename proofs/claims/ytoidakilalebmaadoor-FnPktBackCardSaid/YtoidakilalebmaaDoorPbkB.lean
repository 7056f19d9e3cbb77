/- pktline.Encoder over a bytes.Buffer: Flush, encodeLine. -/
import Derived.Test.YtoidakilalebmaaDoorPbkA
set_option linter.unusedVariables false
set_option linter.unusedSimpArgs false
namespace Go.Proofs.YtoidakilalebmaaDoor.PbkB
open Go.RowKit Go.Proofs.YtoidakilalebmaaDoorW.PrintWords Go.Proofs.YtoidakilalebmaaDoor.QAll PureA PureP PbkA

theorem found40 : (Tryd.prog.info? 40).map (fun i => (i.methods.find? (fun m => m.name == "Write")).map (fun m => (m.path, m.func))) = some (some (#[], some (64, true))) := by kernel_rfl
theorem und40 : Tryd.prog.underlying 40 = some (.pointer 35) := by kernel_rfl
theorem methodW (n g : Nat) (W : World) : (method (n + 1) 40 (.pointer (some ⟨g, 0, none⟩)) "Write").run Tryd.prog W = .ok (64, .pointer (some ⟨g, 0, none⟩)) W := by
  have h := found40
  obtain ⟨i, hi, h1⟩ := Option.map_eq_some_iff.1 h
  obtain ⟨m, hm, h2⟩ := Option.map_eq_some_iff.1 h1
  simp only [Prod.mk.injEq] at h2
  unfold method
  simp [typeInfo, hi, hm, h2.1, h2.2, follow, receiverAt, Place.get, und40]

/-- A buffer and its encoder, made in a call; l has been written. -/
structure Bs (w W : World) (b e : Nat) (l : List Int) : Prop where
  buf : Lib.IsBuffer 35 5 w.heap.size b (l.map (Value.int .u8)) W
  bel : Below w.heap.size w W
  enc : W.heap[e]? = some (.cells #[.iface 40 (.pointer (some ⟨b, 0, none⟩))] 51 (0, 0))
theorem Bs.ne {w W : World} {b e : Nat} {l : List Int} (h : Bs w W b e l) : e ≠ b := by
  obtain ⟨_, v, lr, hb, _⟩ := h.buf
  rintro rfl
  rw [h.enc] at hb
  injection hb with hb
  injection hb with h1 h2
  cases h2
theorem one_u8 (l : List Int) : ∀ v ∈ l.map (Value.int .u8), v.oneCell' = true := by
  intro v hv
  obtain ⟨x, _, rfl⟩ := List.mem_map.1 hv
  rfl
theorem Bs.below {w W W' : World} {b e : Nat} {l : List Int} (h : Bs w W b e l) (hb : Below W.heap.size W W') : Bs w W' b e l := by
  refine ⟨?_, h.bel.trans (hb.mono h.bel.size), (hb.block e (Lib.lt_of_heap h.enc)).trans h.enc⟩
  obtain ⟨h1, v, lr, h2, h3, h4⟩ := h.buf
  refine ⟨h1, v, lr, (hb.block b (Lib.lt_of_heap h2)).trans h2, ⟨h3.1, ?_⟩, h4⟩
  rcases h3.2 with k | ⟨g, cap, cur, k1, k2, k3, k4⟩
  · exact Or.inl k
  · exact Or.inr ⟨g, cap, cur, k1, k2, (hb.block g (Lib.lt_of_heap k3)).trans k3, k4⟩
theorem bwrite {w W : World} {b e : Nat} {l : List Int} (h : Bs w W b e l) (p : List Int) (a : Addr) (n c : Nat) (hn : n = p.length) (hs : ∀ (j : Nat) (x : Int), p[j]? = some x → W.cell? (a.add j) = some (.int .u8 x)) (hab : a.block ≠ b) (hl : l.length + p.length ≤ 100000000) :
    Calls Tryd.prog 64 #[.pointer (some ⟨b, 0, none⟩), .slice (some a) n c] W fun x w' => x = .returned (.tuple #[.int .i64 n, .nilIface]) ∧ Bs w w' b e (l ++ p) := by
  subst hn
  refine (Tryd.Buffer_Write_any w.heap.size b (l.map (Value.int .u8)) (p.map (Value.int .u8)) a p.length c W h.buf h.bel.size (one_u8 l) (by simp) hab ?_ (one_u8 p) (by rw [List.length_map]; omega)).mono ?_
  · intro j v hj
    rw [List.getElem?_map] at hj
    obtain ⟨x, hx, rfl⟩ := Option.map_eq_some_iff.1 hj
    exact hs j x hx
  · rintro x w' ⟨rfl, h1, h2, h3⟩
    refine ⟨rfl, by rw [List.map_append]; exact h1, h.bel.trans h2, h3 e _ h.enc (fun k => h.ne (Option.some.inj k)) (fun c fz k => by cases k)⟩
theorem Bs.cell {w W : World} {b e : Nat} {l : List Int} (h : Bs w W b e l) : W.cell? ⟨e, 0, none⟩ = some (.iface 40 (.pointer (some ⟨b, 0, none⟩))) := (Lib.cell_of_heap h.enc 0).trans rfl
theorem Bs.lt {w W : World} {b e : Nat} {l : List Int} (h : Bs w W b e l) : b < W.heap.size := h.buf.lt

set_option maxHeartbeats 8000000 in
set_option maxRecDepth 100000 in
theorem flushPkt (W : World) : Calls Tryd.prog 33 #[] W fun x w' => x = .returned (.slice (some ⟨W.heap.size, 0, none⟩) 4 4) ∧ w'.heap[W.heap.size]? = some (.cells #[.int .u8 48, .int .u8 48, .int .u8 48, .int .u8 48] 5 (0, 0)) ∧ Below W.heap.size W w' := by
  go_enter Tryd.func33, Tryd.ntmps33
  go_wp2
  go_ret
  exact ⟨rfl, heap_alloc_new W _, below_alloc (Below.refl _ _) _⟩
theorem row4 {W : World} {g : Nat} {a b c d : Int} {t : Nat} (h : W.heap[g]? = some (.cells #[.int .u8 a, .int .u8 b, .int .u8 c, .int .u8 d] t (0, 0))) (j : Nat) (x : Int) (hj : [a, b, c, d][j]? = some x) : W.cell? (Addr.add ⟨g, 0, none⟩ j) = some (.int .u8 x) := by
  rw [show Addr.add ⟨g, 0, none⟩ j = ⟨g, j, none⟩ by unfold Addr.add; split <;> simp_all, Lib.cell_of_heap h]
  match j with
  | 0 | 1 | 2 | 3 => injection hj with hj; subst hj; rfl
  | j + 4 => simp at hj

set_option maxHeartbeats 8000000 in
set_option maxRecDepth 100000 in
theorem flush {w W : World} {b e : Nat} {l : List Int} (h : Bs w W b e l) (hl : l.length ≤ 99999990) :
    Calls Tryd.prog 25 #[.pointer (some ⟨e, 0, none⟩)] W fun x w' => x = .returned .nilIface ∧ Bs w w' b e (l ++ [48, 48, 48, 48]) := by
  have hmw := fun g W => methodW 232 g W
  have FP := Aside0.mk flushPkt
  have HB := Aside0.mk h
  have HL := Aside0.mk hl
  have c0 := h.cell
  have c1 := (h.below (below_drew (Below.refl _ _))).cell
  clear hl h
  go_enter Tryd.func25, Tryd.ntmps25
  go_wp2
  go_region_law (first
    | (go_simp
       go_at_call 33
       (with_reducible refine (FP.out _).mono ?_)
       rintro x w1 ⟨rfl, hr, hb⟩
       have HB1 := Aside0.mk ((HB.out.below (below_drew (Below.refl _ _))).below hb)
       have c2 := HB1.out.cell
       have HW := Aside0.mk (bwrite HB1.out [48, 48, 48, 48] ⟨W.heap.size, 0, none⟩ 4 4 rfl (row4 hr) (fun k => by have := HB.out.lt; have : W.heap.size = b := k; omega) (by have := HL.out; simp only [List.length_cons, List.length_nil]; omega))
       clear hr hb)
    | (go_simp
       go_at_call 64
       (with_reducible refine HW.out.mono ?_)
       rintro x w2 ⟨rfl, hb2⟩
       have HB2 := Aside0.mk hb2
       clear hb2)
    | fail)
  all_goals (go_wp2; go_ret; exact ⟨rfl, HB2.out⟩)
end Go.Proofs.YtoidakilalebmaaDoor.PbkB
