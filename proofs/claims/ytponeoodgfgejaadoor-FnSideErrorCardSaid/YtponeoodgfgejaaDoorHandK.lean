/- spec.Line, walked. -/
import Derived.Test.YtponeoodgfgejaaDoorPureP
import Derived.Test.YtponeoodgfgejaaDoorHandF
set_option linter.unusedVariables false
set_option linter.unusedSimpArgs false
namespace Go.Proofs.YtponeoodgfgejaaDoor.HandK
open Go.RowKit Go.Proofs.YtponeoodgfgejaaDoorW.PrintWords Go.Proofs.YtponeoodgfgejaaDoorW.PrintLast Go.Proofs.YtponeoodgfgejaaDoorW.PrintMore Go.Proofs.YtponeoodgfgejaaDoor.QAll Txt PureA HandC HandF PureP PureQ

/-- A row of bytes that is there to be read. -/
def Rd1 (w : World) (v : Value) (l : List Int) : Prop := ∃ A c, v = .slice A l.length c ∧ l.length ≤ c ∧ Kd.C (Kd.int .u8) w A l.length l
set_option maxHeartbeats 8000000 in
set_option maxRecDepth 100000 in
theorem lineR (A0 : Option Addr) (c0 : Nat) (l0 : List Int) (w : World) (hr0 : Kd.C (Kd.int .u8) w A0 l0.length l0) (hc0 : l0.length ≤ c0) (hl : l0.length ≤ 65516) (hne : l0 ≠ []) :
    Calls Tryd.prog 24 #[.slice A0 l0.length c0] w fun e w' => ∃ v, e = .returned v ∧ Kd.R (Kd.int .u8) 5 w' w.heap.size (fun _ => True) v (lineOf l0) ∧ Below w.heap.size w w' := by
  have hpos : 0 < l0.length := List.length_pos_iff.2 hne
  have hlo : lineOf l0 = hex4 (l0.length + 4) ++ l0 := by unfold lineOf; rw [if_neg hne]
  have HH : Aside0 (spec_Hex4.f 5 ((l0.length : Int) + 4) = some (hex4 (l0.length + 4))) := ⟨hex4_f (l0.length + 4) 0 (by omega)⟩
  have hw4 : wrap64 ((l0.length : Int) + 4) = (l0.length : Int) + 4 := by unfold wrap64; omega
  have c2b0 : ((l0.length : Int) == 0) = false := by rw [beq_eq_false_iff_ne]; omega
  have HL := Aside0.mk hl
  have HR0 := Aside0.mk hr0
  have HC0 := Aside0.mk hc0
  have HO := Aside0.mk hlo
  clear hr0 hc0 hl hne hpos hlo
  go_enter Tryd.func24, Tryd.ntmps24
  go_wp2_with (first
    | (go_at_call 37; (with_reducible refine (spec_Hex4.calls 5 _ _ _ HH.out).mono ?_); rintro e w3 ⟨v3, rfl, ho3, hb3⟩; have HO3 := Aside0.mk ho3; have HB3 := Aside0.mk hb3; clear ho3 hb3)
    | ((with_reducible refine gate_builtin (b := .append) (xs := #[.tmp 11, .tmp 12]) rfl ?_); at_builtin; refine Kd.R_append_rows (Kd.int .u8) (w0 := w) w.heap.size rfl (.tmp 11) (.tmp 12) 25 5 (.int .u8 0) 1 rfl Tryd.underlying25 info5 rfl (by decide) (by omega) v3 (hex4 (l0.length + 4)) l0 _ _ _ (fun _ => True) (fun _ => False) rfl rfl HO3.out (Kd.C_below HR0.out HB3.out) (fun _ _ h => h) (fun _ h => h.elim) (fun _ _ => trivial) HB3.out HB3.out.size (by have := HL.out; show (4 + _) * 1 ≤ _; omega) ?_; intro v4 w4 ho4 hb4 hg4 hat4; rw [← HO.out] at ho4; have HO4 := Aside0.mk ho4; have HB4 := Aside0.mk hb4; clear ho4 hb4 hg4 hat4))
  go_ret
  exact ⟨v4, rfl, HO4.out, HB4.out⟩
set_option maxHeartbeats 8000000 in
set_option maxRecDepth 100000 in
theorem line (A0 : Option Addr) (c0 : Nat) (l0 : List Int) (w : World) (hr0 : Kd.C (Kd.int .u8) w A0 l0.length l0) (hc0 : l0.length ≤ c0) (hl : l0.length ≤ 65516) :
    Calls Tryd.prog 24 #[.slice A0 l0.length c0] w fun e w' => ∃ A c, e = .returned (.slice A (lineOf l0).length c) ∧ (lineOf l0).length ≤ c ∧ Kd.C (Kd.int .u8) w' A (lineOf l0).length (lineOf l0) ∧ Below w.heap.size w w' := by
  rcases l0 with _ | ⟨x, l1⟩
  · have kc := fun (w : World) (C : Array Value) (n c : Nat) => Lib.run_convert_bytes_const (P := Tryd.prog) w 25 5 C n c Tryd.underlying25 Tryd.underlying5
    go_enter Tryd.func24, Tryd.ntmps24
    go_wp2
    go_ret
    refine ⟨_, _, rfl, Nat.le_refl _, ?_, below_alloc (Below.refl _ _) _⟩
    exact C_blk (xs := [48, 48, 48, 48]) (cur := [.int .u8 48, .int .u8 48, .int .u8 48, .int .u8 48]) (blk_new _ _) (by decide) (fun j x hx => by
      match j, hx with
      | 0, hx => cases hx; rfl
      | 1, hx => cases hx; rfl
      | 2, hx => cases hx; rfl
      | 3, hx => cases hx; rfl
      | j + 4, hx => simp at hx)
  · refine (lineR A0 c0 (x :: l1) w hr0 hc0 hl (by simp)).mono ?_
    rintro e w4 ⟨v4, rfl, HO4, HB4⟩
    obtain ⟨A4, c4, e4, hc4, hC4⟩ := Kd.R_reads HO4
    exact ⟨A4, c4, by rw [e4], hc4, hC4, HB4⟩
theorem enc_snoc (l : List (List Int)) (i : Nat) (hi : i < l.length) : enc (l.take (i + 1)) = enc (l.take i) ++ lineOf (l.getD i []) := by
  unfold enc
  rw [List.take_succ_eq_append_getElem hi, List.map_append, List.flatten_append, List.getD_eq_getElem?_getD, List.getElem?_eq_getElem hi]
  simp
theorem enc_le (l : List (List Int)) (h : ∀ p ∈ l, p.length ≤ 65516) : (enc l).length ≤ l.length * 65520 := by
  induction l with
  | nil => simp [enc]
  | cons p l ih =>
    rw [enc_cons, List.length_append, lineOf_len, List.length_cons]
    have := ih (fun q hq => h q (List.mem_cons_of_mem _ hq))
    have := h p List.mem_cons_self
    omega
#print axioms line
end Go.Proofs.YtponeoodgfgejaaDoor.HandK
