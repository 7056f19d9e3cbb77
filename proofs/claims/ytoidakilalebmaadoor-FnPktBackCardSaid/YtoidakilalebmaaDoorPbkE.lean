/- impl.WriteLines. -/
import Derived.Test.YtoidakilalebmaaDoorPbkD
set_option linter.unusedVariables false
set_option linter.unusedSimpArgs false
namespace Go.Proofs.YtoidakilalebmaaDoor.PbkE
open Go.RowKit Go.Proofs.YtoidakilalebmaaDoorW.PrintWords Go.Proofs.YtoidakilalebmaaDoor.QAll Txt PureA HandC HandF HandJ PureP PbkA PbkB PbkC PbkD

theorem owned {w W : World} {v : Value} {l : List Int} (h : W.ownsRow w.heap.size 5 1 v (l.map (Value.int .u8)).length (l.map (Value.int .u8))) (hm : l.length ≤ 100000000) :
    ∃ A c, v = .slice A l.length c ∧ l.length ≤ c ∧ Kd.C (Kd.int .u8) W A l.length l := by
  rw [List.length_map] at h
  rcases h.2 with ⟨k1, k2⟩ | ⟨g, cap, cur, k1, k2, k3, k4, k5, k6, k7⟩
  · have : l = [] := List.length_eq_zero_iff.1 k2
    subst this
    exact ⟨none, 0, k1, Nat.le_refl _, Kd.C_nil _ _⟩
  · refine ⟨_, cap, k1, by omega, C_blk (cur := cur.toList) (xs := l) (by simpa using k3) (by omega) (fun j x hj => ?_)⟩
    have : (cur.toList.take (l.length * 1))[j]? = some (.int .u8 x) := by
      first | rw [k7, List.getElem?_map, hj]; rfl | rw [k6, List.getElem?_map, hj]; rfl | rw [k5, List.getElem?_map, hj]; rfl
    rw [List.getElem?_take] at this
    split at this
    · rw [Nat.zero_add]; exact this
    · cases this

set_option maxHeartbeats 8000000 in
set_option maxRecDepth 100000 in
theorem writeLines (l : List (List Int)) (A : Option Addr) (c : Nat) (w : World) (hn : l.length ≤ 1000) (hp : ∀ p ∈ l, p.length ≤ 65516) (hC : Kd.C KL w A l.length l) :
    Calls Tryd.prog 7 #[.slice A l.length c] w fun x w' => ∃ B d, x = .returned (.tuple #[.slice B (enc l).length d, .bool true]) ∧ (enc l).length ≤ d ∧ Kd.C (Kd.int .u8) w' B (enc l).length (enc l) ∧ Below w.heap.size w w' := by
  have HLE : Aside0 ((enc l).length ≤ 65520000) := ⟨by have := enc_le l hp; omega⟩
  have HNE := Aside0.mk newEncoder
  have HBS : Aside0 (Bs w ((w.alloc (.cells #[.slice none 0 0, .int .i64 0, .int .i8 0] 35)).alloc (.cells #[.iface 40 (.pointer (some ⟨w.heap.size, 0, none⟩))] 51)) w.heap.size (w.heap.size + 1) []) := ⟨{
    buf := by
      have h0 := Lib.fresh_isBuffer 35 5 w
      have hb := below_alloc (Below.refl _ (w.alloc (.cells #[.slice none 0 0, .int .i64 0, .int .i8 0] 35))) (.cells #[.iface 40 (.pointer (some ⟨w.heap.size, 0, none⟩))] 51)
      exact ⟨h0.1, _, _, (hb.block _ (Lib.lt_of_heap (heap_alloc_new w _))).trans (heap_alloc_new w _), World.ownsRow_nil _ _ _ _, by simp [Value.ownBlock]⟩
    bel := (below_alloc (Below.refl _ _) _).trans ((below_alloc (Below.refl _ _) _).mono (by show _ ≤ (w.heap.push _).size; simp))
    enc := by
      have h1 := heap_alloc_new (w.alloc (.cells #[.slice none 0 0, .int .i64 0, .int .i8 0] 35)) (.cells #[.iface 40 (.pointer (some ⟨w.heap.size, 0, none⟩))] 51)
      rwa [show (w.alloc (.cells #[.slice none 0 0, .int .i64 0, .int .i8 0] 35)).heap.size = w.heap.size + 1 by show (w.heap.push _).size = _; simp] at h1 }⟩
  have HEN := Aside0.mk (encode HBS.out l A c hn hp hC)
  clear hn hp hC
  go_enter Tryd.func7, Tryd.ntmps7
  go_wp2_with (first
    | (go_at_call 11
       (with_reducible refine (HNE.out _ _).mono ?_)
       rintro x w2 ⟨rfl, rfl⟩)
    | (go_at_call 12
       (with_reducible refine HEN.out.mono ?_)
       rintro x w3 ⟨rfl, hb3⟩
       have HB3 := Aside0.mk hb3
       clear hb3)
    | fail)
  go_region_law (first
    | (go_simp
       go_at_call 13
       (with_reducible refine (Tryd.Buffer_Bytes _ _ _ _ (HB3.out.below (below_drew (Below.refl _ _))).buf).mono ?_)
       rintro x w4 ⟨v, rfl, hv, nd, hw4⟩
       have HV := Aside0.mk hv
       have HW4 := Aside0.mk hw4
       clear hv hw4)
    | fail)
  all_goals (
    go_wp2
    go_ret2
    obtain ⟨B, d, k1, k2, k3⟩ := owned HV.out (by have := HLE.out; omega)
    refine ⟨B, d, by rw [k1]; rfl, k2, k3, ?_⟩
    rw [HW4.out]
    exact HB3.out.bel.trans ⟨rfl, rfl, rfl, Nat.le_refl _, fun _ _ => rfl⟩)
end Go.Proofs.YtoidakilalebmaaDoor.PbkE
