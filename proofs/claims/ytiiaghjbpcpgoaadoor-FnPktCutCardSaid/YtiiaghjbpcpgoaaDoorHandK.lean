/- spec.Line, spec.PacketLines, walked. -/
import Derived.Test.YtiiaghjbpcpgoaaDoorPureQ
import Derived.Test.YtiiaghjbpcpgoaaDoorHandF
set_option linter.unusedVariables false
set_option linter.unusedSimpArgs false
namespace Go.Proofs.YtiiaghjbpcpgoaaDoor.HandK
open Go.RowKit Go.Proofs.YtiiaghjbpcpgoaaDoorW.PrintWords Go.Proofs.YtiiaghjbpcpgoaaDoorW.PrintLast Go.Proofs.YtiiaghjbpcpgoaaDoorW.PrintMore Go.Proofs.YtiiaghjbpcpgoaaDoor.QAll Txt PureA HandC HandF PureP PureQ

/-- A row of bytes that is there to be read. -/
def Rd1 (w : World) (v : Value) (l : List Int) : Prop := ∃ A c, v = .slice A l.length c ∧ l.length ≤ c ∧ Kd.C (Kd.int .u8) w A l.length l
set_option maxHeartbeats 8000000 in
set_option maxRecDepth 100000 in
theorem line (A0 : Option Addr) (c0 : Nat) (l0 : List Int) (w : World) (hr0 : Kd.C (Kd.int .u8) w A0 l0.length l0) (hc0 : l0.length ≤ c0) (hl : l0.length ≤ 65516) :
    Calls Tryd.prog 12 #[.slice A0 l0.length c0] w fun e w' => ∃ A c, e = .returned (.slice A (lineOf l0).length c) ∧ (lineOf l0).length ≤ c ∧ Kd.C (Kd.int .u8) w' A (lineOf l0).length (lineOf l0) ∧ Below w.heap.size w w' := by
  rcases l0 with _ | ⟨x, l1⟩
  · have kc := fun (w : World) (C : Array Value) (n c : Nat) => Lib.run_convert_bytes_const (P := Tryd.prog) w 25 5 C n c Tryd.underlying25 Tryd.underlying5
    go_enter Tryd.func12, Tryd.ntmps12
    go_wp2
    go_ret
    refine ⟨_, _, rfl, Nat.le_refl _, ?_, below_alloc (Below.refl _ _) _⟩
    exact C_blk (xs := [48, 48, 48, 48]) (cur := [.int .u8 48, .int .u8 48, .int .u8 48, .int .u8 48]) (blk_new _ _) (by decide) (fun j x hx => by
      match j, hx with
      | 0, hx => cases hx; rfl
      | 1, hx => cases hx; rfl
      | 2, hx => cases hx; rfl
      | 3, hx => cases hx; rfl
      | j + 4, hx => simp at hx)
  · obtain ⟨l0, hl0⟩ : ∃ l0, l0 = x :: l1 := ⟨_, rfl⟩
    rw [← hl0] at hr0 hc0 hl ⊢
    have hpos : 0 < l0.length := by rw [hl0]; simp
    have hlo : lineOf l0 = hex4 (l0.length + 4) ++ l0 := by unfold lineOf; rw [if_neg (by rw [hl0]; simp)]
    have HH : Aside0 (spec_Hex4.f 5 ((l0.length : Int) + 4) = some (hex4 (l0.length + 4))) := ⟨hex4_f (l0.length + 4) 0 (by omega)⟩
    have hw4 : wrap64 ((l0.length : Int) + 4) = (l0.length : Int) + 4 := by unfold wrap64; omega
    have c2b0 : ((l0.length : Int) == 0) = false := by rw [beq_eq_false_iff_ne]; omega
    have HL := Aside0.mk hl
    have HR0 := Aside0.mk hr0
    have HC0 := Aside0.mk hc0
    have HO := Aside0.mk hlo
    clear hr0 hc0 hl hl0 hpos hlo
    go_enter Tryd.func12, Tryd.ntmps12
    go_wp2_with (first
      | (go_at_call 19; (with_reducible refine (spec_Hex4.calls 5 _ _ _ HH.out).mono ?_); rintro e w3 ⟨v3, rfl, ho3, hb3⟩; have HO3 := Aside0.mk ho3; have HB3 := Aside0.mk hb3; clear ho3 hb3)
      | ((with_reducible refine gate_builtin (b := .append) (xs := #[.tmp 11, .tmp 12]) rfl ?_); at_builtin; refine Kd.R_append_rows (Kd.int .u8) (w0 := w) w.heap.size rfl (.tmp 11) (.tmp 12) 25 5 (.int .u8 0) 1 rfl Tryd.underlying25 info5 rfl (by decide) (by omega) v3 (hex4 (l0.length + 4)) l0 _ _ _ (fun _ => True) (fun _ => False) rfl rfl HO3.out (Kd.C_below HR0.out HB3.out) (fun _ _ h => h) (fun _ h => h.elim) (fun _ _ => trivial) HB3.out HB3.out.size (by have := HL.out; show (4 + _) * 1 ≤ _; omega) ?_; intro v4 w4 ho4 hb4 hg4 hat4; rw [← HO.out] at ho4; have HO4 := Aside0.mk ho4; have HB4 := Aside0.mk hb4; clear ho4 hb4 hg4 hat4))
    go_ret
    obtain ⟨A4, c4, e4, hc4, hC4⟩ := Kd.R_reads HO4.out
    exact ⟨A4, c4, by rw [e4]; rfl, hc4, hC4, HB4.out⟩
theorem enc_snoc (l : List (List Int)) (i : Nat) (hi : i < l.length) : enc (l.take (i + 1)) = enc (l.take i) ++ lineOf (l.getD i []) := by
  unfold enc
  rw [List.take_succ_eq_append_getElem hi, List.map_append, List.flatten_append, List.getD_eq_getElem?_getD, List.getElem?_eq_getElem hi]
  simp
theorem enc_le (l : List (List Int)) (h : ∀ p ∈ l, p.length ≤ 65516) : (enc l).length ≤ l.length * 65520 := by
  induction l with
  | nil => simp [enc]
  | cons p l ih =>
    rw [enc_cons, List.length_append, lineOf_len, List.length_cons]
    have := ih (fun q hq => h q (List.mem_cons_of_mem _ hq))
    have := h p List.mem_cons_self
    omega
set_option maxHeartbeats 8000000 in
set_option maxRecDepth 100000 in
theorem packetLines (A0 : Option Addr) (c0 : Nat) (l0 : List (List Int)) (w : World) (hr0 : Kd.C (Kd.slice 5 (Kd.int .u8)) w A0 l0.length l0) (hc0 : l0.length ≤ c0) (hl : ∀ p ∈ l0, p.length ≤ 65516) (hn : l0.length ≤ 1000) :
    Calls Tryd.prog 7 #[.slice A0 l0.length c0] w fun e w' => ∃ v, e = .returned v ∧ Kd.R (Kd.int .u8) 5 w' w.heap.size (fun _ => True) v (enc l0) ∧ Below w.heap.size w w' := by
  have HR0 := Aside0.mk hr0
  have HL := Aside0.mk hl
  have HN := Aside0.mk hn
  clear hr0 hc0 hl hn
  go_enter Tryd.func7, Tryd.ntmps7
  go_wp2
  go_loopg [3, 8] l0.length (fun gk v3 v8 w' => ∃ i : Nat, v8 = .int .i64 (i : Int) ∧ gk + i = l0.length ∧ Aside0 (Kd.R (Kd.int .u8) 5 w' w.heap.size (fun _ => True) v3 (enc (l0.take i))) ∧ Aside0 (Below w.heap.size w w'))
  case atStart => exact ⟨0, rfl, rfl, ⟨Kd.R_nil _ _ _ _ _⟩, ⟨Below.refl _ _⟩⟩
  case round =>
    obtain ⟨i, rfl, hi, HO, HB⟩ := hrel
    by_cases q : i < l0.length
    · have c2b0 : decide ((i : Int) < (l0.length : Int)) = true := decide_eq_true (by omega)
      have hp : 0 ≤ (i : Int) := by omega
      have hq : (i : Int) < (l0.length : Int) := by omega
      obtain ⟨ad, A1, c1, e1, hx, hl1, hc1⟩ := at_L1 HR0.out (i : Int) hp hq
      cases e1
      replace hx := (HB.out.cell (World.block_lt_of_cell? w _ hx)).trans hx
      rw [Int.toNat_natCast] at hx
      have hgl : rd_L1 l0 (i : Int) = l0.getD i [] := by show l0.getD (i : Int).toNat [] = _; rw [Int.toNat_natCast]
      have HP : Aside0 ((rd_L1 l0 (i : Int)).length ≤ 65516) := ⟨by
        rw [hgl, List.getD_eq_getElem?_getD, List.getElem?_eq_getElem q]
        exact HL.out _ (List.getElem_mem q)⟩
      have HE : Aside0 (enc (l0.take (i + 1)) = enc (l0.take i) ++ lineOf (rd_L1 l0 (i : Int))) := ⟨by rw [hgl]; exact enc_snoc l0 i q⟩
      have HLE : Aside0 (((enc (l0.take i)).length + (lineOf (rd_L1 l0 (i : Int))).length) * 1 ≤ 140737488355328) := ⟨by
        rw [lineOf_len]
        have := HP.out
        have := enc_le (l0.take i) (fun p hp => HL.out p (List.mem_of_mem_take hp))
        rw [List.length_take] at this
        have := HN.out
        have : min i l0.length * 65520 ≤ 1000 * 65520 := Nat.mul_le_mul_right _ (by omega)
        omega⟩
      have HC1 := Aside0.mk hc1
      have HL1 := Aside0.mk hl1
      have hw : wrap64 ((i : Int) + 1) = ((i + 1 : Nat) : Int) := by have := HN.out; unfold wrap64; omega
      clear hc1 hl1 hgl
      go_wp2_with (first
        | (go_at_call 12; (with_reducible refine (line _ _ _ _ (Kd.C_below HC1.out HB.out) HL1.out HP.out).mono ?_); rintro e w3 ⟨A3, c3, rfl, hc3, hr3, hb3⟩; have HR3 := Aside0.mk hr3; have HB3 := Aside0.mk hb3; clear hr3 hb3 hc3)
        | ((with_reducible refine gate_builtin (b := .append) (xs := #[.tmp 12, .tmp 14]) rfl ?_); at_builtin; refine Kd.R_append_rows (Kd.int .u8) (w0 := w) w.heap.size rfl (.tmp 12) (.tmp 14) 25 5 (.int .u8 0) 1 rfl Tryd.underlying25 info5 rfl (by decide) (by omega) u3 (enc (l0.take i)) (lineOf (rd_L1 l0 (i : Int))) _ _ _ (fun _ => True) (fun _ => False) rfl rfl (Kd.R_below HO.out HB3.out) HR3.out (fun _ _ h => h) (fun _ h => h.elim) (fun _ _ => trivial) (below_step HB.out HB3.out) (Nat.le_trans HB.out.size HB3.out.size) HLE.out ?_; intro v4 w4 ho4 hb4 hg4 hat4; rw [← HE.out] at ho4; have HO4 := Aside0.mk ho4; have HB4 := Aside0.mk hb4; clear ho4 hb4 hg4 hat4))
      go_roundg (gk - 1)
      case measure => omega
      case rel => exact ⟨i + 1, by first | rfl | (rw [hw]), by omega, HO4, HB4⟩
    · have c2b0 : decide ((i : Int) < (l0.length : Int)) = false := decide_eq_false (by omega)
      have hO := HO.out
      rw [List.take_of_length_le (by omega)] at hO
      have HO2 := Aside0.mk hO
      clear hO
      go_wp2
      go_ret
      exact ⟨_, rfl, HO2.out, HB.out⟩
#print axioms line
#print axioms packetLines
end Go.Proofs.YtiiaghjbpcpgoaaDoor.HandK
