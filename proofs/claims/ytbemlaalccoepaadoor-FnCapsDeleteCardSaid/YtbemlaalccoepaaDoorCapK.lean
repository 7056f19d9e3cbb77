/- impl.DeleteCap, walked. -/
import Derived.Test.YtbemlaalccoepaaDoorCapI
set_option linter.unusedVariables false
set_option linter.unusedSimpArgs false
namespace Go.Proofs.YtbemlaalccoepaaDoor.CapK
open Go.RowKit Go.Proofs.YtbemlaalccoepaaDoorW.PrintWords Go.Proofs.YtbemlaalccoepaaDoorW.PrintLast Go.Proofs.YtbemlaalccoepaaDoorW.PrintMore Go.Proofs.YtbemlaalccoepaaDoor.QAll Txt SMap CapA Ptr CapB CapC CapD CapE CapF CapG CapH CapI CapJ CapP

/-- What is left. -/
def without (c : ByteArray) (l : List S27) : List S27 := l.filter fun s => decide (s.f0 ≠ c)
theorem del (lb mb : Nat) (G : Nat → Nat) (L : List Ent) (V : Value) (c : ByteArray) (w0 w : World) (hb : Below w0.heap.size w0 w) (hL : LSt w w0.heap.size lb mb G L V (L.map Ent.n)) (hl : L.length ≤ 1000) :
    Calls Tryd.prog 16 #[.pointer (some ⟨lb, 0, none⟩), .string c] w fun e w' => e = .returned (.tuple #[]) ∧ ∃ G' L' V', LSt w' w0.heap.size lb mb G' L' V' (L'.map Ent.n) ∧ L'.map Ent.cap = without c (L.map Ent.cap) ∧ Below w0.heap.size w0 w' := by
  by_cases q : ∃ e ∈ L, e.n = c
  · obtain ⟨e, he, rfl⟩ := q
    obtain ⟨j, hj⟩ := List.getElem?_of_mem he
    refine (delOne lb mb G L V e.n j e.b e.vs e.v w0 w hb hL hj hl).mono ?_
    rintro x w' ⟨rfl, G', V', h1, h2⟩
    exact ⟨rfl, G', _, V', h1, filter_erase hL.nd hj, h2⟩
  · have hc : ∀ e ∈ L, e.n ≠ c := fun e he h => q ⟨e, he, h⟩
    refine (delNone lb mb G L V c w0 w hL hc).mono ?_
    rintro x w' ⟨rfl, rfl⟩
    refine ⟨rfl, G, L, V, hL, ?_, hb⟩
    unfold without
    refine (List.filter_eq_self.2 fun s hs => ?_).symm
    obtain ⟨y, hy, rfl⟩ := List.mem_map.1 hs
    exact decide_eq_true (hc y hy)
set_option maxHeartbeats 8000000 in
set_option maxRecDepth 100000 in
theorem deleteCap (A : Option Addr) (c0 : Nat) (l : List S27) (c : ByteArray) (w : World) (hC : Kd.C k27 w A l.length l) (hg : GoodL l) :
    Calls Tryd.prog 8 #[.slice A l.length c0, .string c] w fun e w' => e = .returned (.tuple #[.string (joined (words (without c l))), .bool true]) ∧ Below w.heap.size w w' := by
  have HCL := Aside0.mk (capList A c0 l w hC hg.ok hg.nd hg.sz.n)
  have HG := Aside0.mk hg
  clear hC hg
  go_enter Tryd.func8, Tryd.ntmps8
  go_upto_region 4 with (first | (go_at_call 15; (with_reducible refine HCL.out.mono ?_); rintro e w1 ⟨rfl, G, L, V, hl1, hc1, hb1⟩; have HL1 := Aside0.mk hl1; have HC1 := Aside0.mk hc1; have HB1 := Aside0.mk hb1; clear hl1 hc1 hb1))
  have HD := Aside0.mk (del (w.heap.size + 1) w.heap.size G L V c w w1 HB1.out HL1.out (by have := congrArg List.length HC1.out; rw [List.length_map] at this; have := HG.out.sz.n; omega))
  go_upto_region 5 with (first | (go_at_call 16; (with_reducible refine HD.out.mono ?_); rintro e w2 ⟨rfl, G2, L2, V2, hl2, hc2, hb2⟩; have HL2 := Aside0.mk hl2; have HC2 := Aside0.mk hc2; have HB2 := Aside0.mk hb2; clear hl2 hc2 hb2))
  have HE : Aside0 (L2.map Ent.cap = without c l) := ⟨by rw [HC2.out, HC1.out]⟩
  have HS := Aside0.mk (capsString (w.heap.size + 1) w.heap.size w.heap.size G2 L2 V2 w2 HL2.out (by rw [HE.out]; exact (HG.out.filter _).sz))
  go_wp2_with (first | (go_at_call 17; (with_reducible refine HS.out.mono ?_); rintro e w3 ⟨rfl, hb3⟩; have HB3 := Aside0.mk hb3; clear hb3))
  go_ret2
  exact ⟨by rw [← HE.out]; rfl, HB2.out.trans (HB3.out.mono HB2.out.size)⟩
#print axioms deleteCap
end Go.Proofs.YtbemlaalccoepaaDoor.CapK
