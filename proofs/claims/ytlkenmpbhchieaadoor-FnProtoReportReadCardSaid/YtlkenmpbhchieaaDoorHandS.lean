/- Scanner.Scan between two lines of a stream that is there whole. -/
import Derived.Test.YtlkenmpbhchieaaDoorHandJ
set_option linter.unusedVariables false
set_option linter.unusedSimpArgs false
namespace Go.Proofs.YtlkenmpbhchieaaDoor.HandS
open Go.RowKit Go.Proofs.YtlkenmpbhchieaaDoorW.PrintWords Go.Proofs.YtlkenmpbhchieaaDoorW.PrintLast Go.Proofs.YtlkenmpbhchieaaDoorW.PrintMore Go.Proofs.YtlkenmpbhchieaaDoor.QAll Txt PureA HandA HandB HandC HandD HandE HandF HandG HandH HandI PureP HandJ

/-- What a Scan leaves that has read a line. -/
structure Nxt (w0 w w' : World) (sc rb : Nat) (A : Option Addr) (D : List Int) (c pos : Nat) (X : Option Addr) (p : List Int) (X' : Option Addr) (cb' : Nat) : Prop where
  s : Sc w0 w' sc rb A D c pos X' p.length cb'
  c : Kd.C (Kd.int .u8) w' X' p.length p
  f : Far w w' (Own sc rb X)
  x : ∀ ad, X' = some ad → X = some ad ∨ w.heap.size ≤ ad.block
theorem scanNext (w0 : World) (sc rb : Nat) (A : Option Addr) (D : List Int) (c pos : Nat) (X : Option Addr) (n cb : Nat) (aE aU aI : Addr) (w : World) (h : Sc w0 w sc rb A D c pos X n cb) (hs : Sent w0 aE aU aI) (hD : Dat w0 A D c) (p : List Int) (r : List (List Int)) (hgp : PureP.Good p) (hDR : D.drop pos = enc (p :: r)) :
    (Calls Tryd.prog 19 #[.pointer (some ⟨sc, 0, none⟩)] w fun e w' => e = .returned (.bool true) ∧ ∃ X' cb', Nxt w0 w w' sc rb A D c (pos + 4 + p.length) X p X' cb') ∧ D.drop (pos + 4 + p.length) = enc r := by
  obtain ⟨⟨ds, hst⟩, hpay⟩ := h
  have hl := congrArg List.length hDR
  rw [List.length_drop, enc_cons, List.length_append, lineOf_len] at hl
  have hDR2 : D.drop pos = (enc (p :: r)).take (D.length - pos) := by rw [hDR, List.take_of_length_le (by rw [enc_cons, List.length_append, lineOf_len]; omega)]
  obtain ⟨d0, d1, d2, d3, hseg, _, g0, g1, g2, g3, hm⟩ := PureP.step D pos p r hgp.len hDR2 (by omega)
  obtain ⟨hb1, hb2⟩ := step_body D pos p r hgp.len hDR2 (by omega)
  refine ⟨?_, by rw [hb2, List.take_of_length_le (by omega)]⟩
  have hX := scanAll w0 sc rb A D c pos .nilIface X n cb ds aE aU aI w hst hs hD hpay d0 d1 d2 d3 (by omega) hseg g0 g1 g2 g3 p.length hm (by omega) (by rw [hb1]; exact hgp.no)
  rw [hb1] at hX
  refine hX.mono ?_
  rintro e w' ⟨rfl, X', cb', ds', h3, hp3, hc3, hf3, hx3⟩
  exact ⟨rfl, X', cb', { s := ⟨_, h3⟩, p := hp3 }, hc3, hf3, hx3⟩
/-- A Scanner just made, over a Reader at its start. -/
theorem Sc_new {w0 w w' : World} {rb : Nat} {A : Option Addr} {D : List Int} {c : Nat} {pr : Int} (hb : Below w0.heap.size w0 w) (hr : w.heap[rb]? = some (.cells (rdC A D c 0 pr) 64 (0, 0))) (hrb : w0.heap.size ≤ rb)
    (h : w'.heap[w.heap.size]? = some (.cells (scC rb .nilIface (.slice none 0 0) [.int .u8 0, .int .u8 0, .int .u8 0, .int .u8 0]).toArray 68 (0, 0))) (hb2 : Below w.heap.size w w') : Sc w0 w' w.heap.size rb A D c 0 none 0 0 :=
  { s := ⟨_, ⟨hb.trans (hb2.mono hb.size), h, ⟨pr, blk_below hr hb2⟩, (by have := blk_lt hr; omega), hb.size, hrb, rfl⟩⟩, p := ⟨fun _ => rfl, fun ad e => (by cases e), Nat.le_refl _⟩ }
theorem Sc_cells {w0 w : World} {sc rb : Nat} {A : Option Addr} {D : List Int} {c pos : Nat} {X : Option Addr} {n cb : Nat} (h : Sc w0 w sc rb A D c pos X n cb) : w.cell? ⟨sc, 2, none⟩ = some (.slice X n cb) ∧ w.cell? ⟨sc, 1, none⟩ = some .nilIface := by
  obtain ⟨⟨ds, hs⟩, _⟩ := h
  exact ⟨(St_cells hs).2.2.1, (St_cells hs).2.1⟩
#print axioms scanNext
end Go.Proofs.YtlkenmpbhchieaaDoor.HandS
