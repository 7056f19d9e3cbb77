/- pktline.Encoder over a bytes.Buffer: encodeLine, Encode, impl.WriteLines. -/
import Derived.Test.YtoidakilalebmaaDoorPbkB
set_option linter.unusedVariables false
set_option linter.unusedSimpArgs false
namespace Go.Proofs.YtoidakilalebmaaDoor.PbkC
open Go.RowKit Go.Proofs.YtoidakilalebmaaDoorW.PrintWords Go.Proofs.YtoidakilalebmaaDoor.QAll Txt PureA HandC PureP PbkA PbkB

set_option maxHeartbeats 8000000 in
set_option maxRecDepth 100000 in
theorem encodeLine {w W : World} {b e : Nat} {l : List Int} (h : Bs w W b e l) (hl : l.length ≤ 99000000) (p : List Int) (A : Option Addr) (n c : Nat) (hn : n = p.length) (hp : p.length ≤ 65516) (hC : Kd.C (Kd.int .u8) w A n p) :
    Calls Tryd.prog 19 #[.pointer (some ⟨e, 0, none⟩), .slice A n c] W fun x w' => x = .returned .nilIface ∧ Bs w w' b e (l ++ lineOf p) := by
  have hmw := fun g W => methodW 232 g W
  have HB := Aside0.mk h
  have HL := Aside0.mk hl
  have g0 : decide ((65516 : Int) < (n : Int)) = false := decide_eq_false (by omega)
  have c0 := h.cell
  by_cases hp0 : p = []
  · subst hp0
    have hn0 : n = 0 := hn
    subst hn0
    clear hn hp
    have HF := Aside0.mk (flush h (by omega))
    clear h hl hC
    cases A with
    | none | some ad =>
      go_enter Tryd.func19, Tryd.ntmps19
      go_wp2_with (first
        | (go_at_call 25
           (with_reducible refine HF.out.mono ?_)
           rintro x w2 ⟨rfl, hb2⟩
           have HB2 := Aside0.mk hb2
           clear hb2)
        | fail)
      go_ret
      exact ⟨rfl, HB2.out⟩
  · have hpos : 0 < p.length := List.length_pos_iff.2 hp0
    subst hn
    obtain ⟨ad, rfl, hcell⟩ := C_cells hC hpos
    have hlt : ad.block < w.heap.size := by
      obtain ⟨x, hx⟩ : ∃ x, p[0]? = some x := ⟨p[0], List.getElem?_eq_getElem hpos⟩
      have := hcell 0 x hx
      exact World.block_lt_of_cell? w ad this
    have HS : Aside0 (∀ W', Below w.heap.size w W' → ∀ (j : Nat) (x : Int), p[j]? = some x → W'.cell? (ad.add j) = some (.int .u8 x)) := ⟨fun W' hb j x hj => by
      rw [← hcell j x hj]
      exact World.cell?_of_block (hb.block _ (by show (ad.add j).block < _; rw [show (ad.add j).block = ad.block by unfold Addr.add; split <;> rfl]; exact hlt))⟩
    have hne : Aside0 (ad.block ≠ b) := ⟨fun k => by have := h.buf.1; omega⟩
    have g1 : decide (((p.length : Nat) : Int) = 0) = false := decide_eq_false (by omega)
    have g2 : ((p.length : Nat) : Int) ≠ 0 := by omega
    have g3 : (((p.length : Nat) : Int) == 0) = false := by simp; exact hp0
    have hw4 : wrap64 (((p.length : Nat) : Int) + 4) = ((p.length + 4 : Nat) : Int) := by unfold wrap64; omega
    have HX : Aside0 (∀ W, Calls Tryd.prog 26 #[.int .i64 (((p.length : Nat) : Int) + 4)] W _) := ⟨fun W => by have := hex16 (p.length + 4) (by omega) W; rw [show (((p.length + 4 : Nat)) : Int) = ((p.length : Nat) : Int) + 4 by omega] at this; exact this⟩
    have HP := Aside0.mk hp
    have HE : Aside0 (lineOf p = hex4 (p.length + 4) ++ p) := ⟨by unfold lineOf; rw [if_neg hp0]⟩
    have c1 := (h.below (below_drew (Below.refl _ _))).cell
    clear h hl hC hcell hlt hp hp0
    go_enter Tryd.func19, Tryd.ntmps19
    go_wp2
    go_region_law (first
      | (go_simp
         go_at_call 26
         (with_reducible refine (HX.out _).mono ?_)
         rintro x w1 ⟨rfl, hr, hb⟩
         have HB1 := Aside0.mk ((HB.out.below (below_drew (Below.refl _ _))).below hb)
         have c2 := HB1.out.cell
         have HW := Aside0.mk (bwrite HB1.out (hex4 (p.length + 4)) ⟨W.heap.size, 0, none⟩ 4 4 rfl (row4 hr) (fun k => by have := HB.out.lt; have : W.heap.size = b := k; omega) (by have := HL.out; show l.length + 4 ≤ _; omega))
         clear hr hb)
      | (go_simp
         go_at_call 64
         (with_reducible refine HW.out.mono ?_)
         rintro x w2 ⟨rfl, hb2⟩
         have HB2 := Aside0.mk hb2
         have c3 := hb2.cell
         have HW2 := Aside0.mk (bwrite hb2 p ad p.length c rfl (HS.out _ hb2.bel) hne.out (by have := HL.out; have := HP.out; rw [List.length_append]; show l.length + 4 + _ ≤ _; omega))
         clear hb2)
      | fail)
    all_goals (
      go_wp2_with (first
        | (go_at_call 64
           (with_reducible refine HW2.out.mono ?_)
           rintro x w3 ⟨rfl, hb3⟩
           have HB3 := Aside0.mk hb3
           clear hb3)
        | fail)
      go_ret
      exact ⟨rfl, by rw [HE.out, ← List.append_assoc]; exact HB3.out⟩)
end Go.Proofs.YtoidakilalebmaaDoor.PbkC
