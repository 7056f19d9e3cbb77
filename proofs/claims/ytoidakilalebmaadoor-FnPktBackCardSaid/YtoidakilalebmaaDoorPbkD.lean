/- pktline.NewEncoder, Encode, impl.WriteLines. -/
import Derived.Test.YtoidakilalebmaaDoorPbkC
import Derived.Test.YtoidakilalebmaaDoorHandN
import Derived.BigQuiet
set_option linter.unusedVariables false
set_option linter.unusedSimpArgs false
namespace Go.Proofs.YtoidakilalebmaaDoor.PbkD
open Go.RowKit Go.Proofs.YtoidakilalebmaaDoorW.PrintWords Go.Proofs.YtoidakilalebmaaDoor.QAll Txt PureA HandC HandF HandJ PureP PbkA PbkB PbkC

theorem enc_snoc (l : List (List Int)) (i : Nat) (hi : i < l.length) : enc (l.take (i + 1)) = enc (l.take i) ++ lineOf (l.getD i []) := by
  unfold enc
  rw [List.take_succ_eq_append_getElem hi, List.map_append, List.flatten_append, List.getD_eq_getElem?_getD, List.getElem?_eq_getElem hi]
  simp
theorem enc_le (l : List (List Int)) (h : ∀ p ∈ l, p.length ≤ 65516) : (enc l).length ≤ l.length * 65520 := by
  induction l with
  | nil => simp [enc]
  | cons p l ih =>
    rw [enc_cons, List.length_append, lineOf_len, List.length_cons]
    have := ih (fun q hq => h q (List.mem_cons_of_mem _ hq))
    have := h p List.mem_cons_self
    omega

set_option maxHeartbeats 8000000 in
set_option maxRecDepth 100000 in
theorem newEncoder (b : Nat) (W : World) : Calls Tryd.prog 11 #[.iface 40 (.pointer (some ⟨b, 0, none⟩))] W fun x w' => x = .returned (.pointer (some ⟨W.heap.size, 0, none⟩)) ∧ w' = W.alloc (.cells #[.iface 40 (.pointer (some ⟨b, 0, none⟩))] 51) := by
  go_enter Tryd.func11, Tryd.ntmps11
  go_wp2
  go_ret
  exact ⟨rfl, rfl⟩

set_option maxHeartbeats 8000000 in
set_option maxRecDepth 100000 in
theorem encode {w W : World} {b e : Nat} (h : Bs w W b e []) (l : List (List Int)) (A : Option Addr) (c : Nat) (hn : l.length ≤ 1000) (hp : ∀ p ∈ l, p.length ≤ 65516) (hC : Kd.C KL w A l.length l) :
    Calls Tryd.prog 12 #[.pointer (some ⟨e, 0, none⟩), .slice A l.length c] W fun x w' => x = .returned .nilIface ∧ Bs w w' b e (enc l) := by
  have HB := Aside0.mk h
  have HN := Aside0.mk hn
  have HP := Aside0.mk hp
  have HR := Aside0.mk hC
  have HLE : Aside0 (∀ i, (enc (l.take i)).length ≤ 65520000) := ⟨fun i => by
    have := enc_le (l.take i) (fun p hq => hp p (List.mem_of_mem_take hq))
    have : (l.take i).length ≤ 1000 := by rw [List.length_take]; omega
    omega⟩
  clear h hn hp hC
  go_enter Tryd.func12, Tryd.ntmps12
  go_wp2
  go_loopg [10] l.length (fun gk v10 w' => ∃ i : Nat, v10 = .int .i64 (i : Int) ∧ gk + i = l.length ∧ Aside0 (Bs w w' b e (enc (l.take i))))
  case atStart => exact ⟨0, rfl, rfl, ⟨by rw [List.take_zero]; exact HB.out⟩⟩
  case round =>
    obtain ⟨i, rfl, hi, HS⟩ := hrel
    by_cases q : i < l.length
    · have c2b0 : decide ((i : Int) < (l.length : Int)) = true := decide_eq_true (by omega)
      have hp : 0 ≤ (i : Int) := by omega
      have hq : (i : Int) < (l.length : Int) := by omega
      obtain ⟨ad, B0, d0, rfl, hx0, hl0, hc0⟩ := at_L1 HR.out (i : Int) hp hq
      rw [Int.toNat_natCast] at hx0
      have hbl : (ad.add i).block < w.heap.size := World.block_lt_of_cell? w _ hx0
      have hx : wr.cell? (ad.add i) = some (.slice B0 (rd_L1 l (i : Int)).length d0) := by rw [← hx0]; exact World.cell?_of_block (HS.out.bel.block _ hbl)
      have hpl : (rd_L1 l (i : Int)).length ≤ 65516 := by
        unfold rd_L1
        rw [Int.toNat_natCast, List.getD_eq_getElem?_getD, List.getElem?_eq_getElem q]
        exact HP.out _ (List.getElem_mem q)
      have HEN : Aside0 (enc (l.take (i + 1)) = enc (l.take i) ++ lineOf (rd_L1 l (i : Int))) := ⟨by rw [enc_snoc l i q]; unfold rd_L1; rw [Int.toNat_natCast]⟩
      have HEL := Aside0.mk (encodeLine HS.out (by have := HLE.out i; omega) (rd_L1 l (i : Int)) B0 _ d0 rfl hpl hc0)
      generalize rd_L1 l (i : Int) = p at hx HEN HEL
      have hw : wrap64 ((i : Int) + 1) = ((i + 1 : Nat) : Int) := by have := HN.out; unfold wrap64; omega
      clear hx0 hl0 hc0 hpl hbl
      go_wp2_with (first
        | (go_at_call 19
           (with_reducible refine HEL.out.mono ?_)
           rintro x w2 ⟨rfl, hb2⟩
           have HB2 := Aside0.mk hb2
           clear hb2)
        | fail)
      go_roundg (gk - 1)
      case measure => omega
      case rel => exact ⟨i + 1, by first | rfl | (rw [hw]) | simp, by omega, ⟨by rw [HEN.out]; exact HB2.out⟩⟩
    · have c2b0 : decide ((i : Int) < (l.length : Int)) = false := decide_eq_false (by omega)
      go_wp2
      go_ret
      exact ⟨rfl, by have h := HS.out; rw [List.take_of_length_le (by omega)] at h; exact h⟩
end Go.Proofs.YtoidakilalebmaaDoor.PbkD
