/- asciiHexToByte, hexDecode, Scanner.readPayloadLen, walked. -/
import Derived.Test.YtponeoodgfgejaaDoorHandB
set_option linter.unusedVariables false
set_option linter.unusedSimpArgs false
namespace Go.Proofs.YtponeoodgfgejaaDoor.HandC
open Go.RowKit Go.Proofs.YtponeoodgfgejaaDoorW.PrintWords Go.Proofs.YtponeoodgfgejaaDoorW.PrintLast Go.Proofs.YtponeoodgfgejaaDoorW.PrintMore Go.Proofs.YtponeoodgfgejaaDoor.QAll Txt PureA HandA HandB

/-- A digit in base 16, a small letter if it is one. -/
def Dg (b : Int) : Prop := (48 ≤ b ∧ b ≤ 57) ∨ (97 ≤ b ∧ b ≤ 102)
def nib (b : Int) : Int := if 97 ≤ b then b - 87 else b - 48
theorem nib_range {b : Int} (h : Dg b) : 0 ≤ nib b ∧ nib b < 16 := by
  unfold nib
  unfold Dg at h
  split <;> omega
set_option maxHeartbeats 4000000 in
theorem digit (b : Int) (w : World) (h : Dg b) : Calls Tryd.prog 63 #[.int .u8 b] w fun e w' => e = .returned (.tuple #[.int .u8 (nib b), .nilIface]) ∧ w' = w := by
  rcases h with ⟨h1, h2⟩ | ⟨h1, h2⟩
  · have e : nib b = b - 48 := by unfold nib; rw [if_neg (by omega)]
    have hb1 : decide (48 ≤ b) = true := decide_eq_true h1
    have hb2 : decide (b ≤ 57) = true := decide_eq_true h2
    rw [e]
    clear e
    go_enter Tryd.func63, Tryd.ntmps63
    go_wp2
    go_ret2
    exact ⟨rfl, rfl⟩
  · have e : nib b = b - 97 + 10 := by unfold nib; rw [if_pos h1]; omega
    have hb1 : decide (48 ≤ b) = true := decide_eq_true (by omega)
    have hb2 : decide (b ≤ 57) = false := decide_eq_false (by omega)
    have hb3 : decide (97 ≤ b) = true := decide_eq_true h1
    have hb4 : decide (b ≤ 102) = true := decide_eq_true h2
    rw [e]
    clear e
    go_enter Tryd.func63, Tryd.ntmps63
    go_wp2
    go_ret2
    exact ⟨rfl, rfl⟩
/-- What four digits say. -/
def hexv (a b c d : Int) : Int := ((nib a * 16 + nib b) * 16 + nib c) * 16 + nib d
set_option maxHeartbeats 8000000 in
set_option maxRecDepth 100000 in
theorem decode (a b c d : Int) (w : World) (ha : Dg a) (hb : Dg b) (hc : Dg c) (hd : Dg d) : Calls Tryd.prog 53 #[.agg #[.int .u8 a, .int .u8 b, .int .u8 c, .int .u8 d]] w fun e w' => e = .returned (.tuple #[.int .i64 (hexv a b c d), .nilIface]) ∧ Below w.heap.size w w' := by
  have ra := nib_range ha
  have rb := nib_range hb
  have rc := nib_range hc
  have rd := nib_range hd
  have HA := Aside0.mk (fun W => digit a W ha)
  have HB := Aside0.mk (fun W => digit b W hb)
  have HC := Aside0.mk (fun W => digit c W hc)
  have HD := Aside0.mk (fun W => digit d W hd)
  clear ha hb hc hd
  unfold hexv
  generalize nib a = na at *
  generalize nib b = nb at *
  generalize nib c = nc at *
  generalize nib d = nd at *
  have HRA := Aside0.mk (And.intro ra (And.intro rb (And.intro rc rd)))
  go_enter Tryd.func53, Tryd.ntmps53
  go_wp2
  have hblk : (w.alloc (.cells #[.int .u8 a, .int .u8 b, .int .u8 c, .int .u8 d] 94)).heap[w.heap.size]? = some (.cells #[.int .u8 a, .int .u8 b, .int .u8 c, .int .u8 d] 94 (0, 0)) := blk_new _ _
  have HBL0 := Aside0.mk hblk
  have HW : Aside0 (Below w.heap.size w (w.alloc (.cells #[.int .u8 a, .int .u8 b, .int .u8 c, .int .u8 d] 94))) := ⟨below_alloc (Below.refl _ _) _⟩
  clear hblk
  generalize w.alloc (.cells #[.int .u8 a, .int .u8 b, .int .u8 c, .int .u8 d] 94) = w2 at HBL0 HW ⊢
  obtain ⟨gb, hgb⟩ : ∃ gb, gb = w.heap.size := ⟨_, rfl⟩
  have HGB := Aside0.mk hgb
  rw [← hgb] at HBL0 HW
  simp only [← hgb]
  clear hgb
  go_loopg [4, 5] 4 (fun gk v4 v5 w' => ∃ z : Int, v4 = .int .i64 z ∧ Aside0 (w'.heap[gb]? = some (.cells #[.int .u8 a, .int .u8 b, .int .u8 c, .int .u8 d] 94 (0, 0))) ∧ Aside0 (Below gb w w') ∧ ((gk = 4 ∧ v5 = .int .i64 0 ∧ Aside0 (z = 0)) ∨ (gk = 3 ∧ v5 = .int .i64 1 ∧ Aside0 (z = na)) ∨ (gk = 2 ∧ v5 = .int .i64 2 ∧ Aside0 (z = na * 16 + nb)) ∨ (gk = 1 ∧ v5 = .int .i64 3 ∧ Aside0 (z = (na * 16 + nb) * 16 + nc)) ∨ (gk = 0 ∧ v5 = .int .i64 4 ∧ Aside0 (z = ((na * 16 + nb) * 16 + nc) * 16 + nd))))
  case atStart => exact ⟨0, rfl, HBL0, HW, Or.inl ⟨rfl, rfl, ⟨rfl⟩⟩⟩
  case round =>
    obtain ⟨z, rfl, HBL, HW0, hrel⟩ := hrel
    obtain ⟨⟨ra0, ra1⟩, ⟨rb0, rb1⟩, ⟨rc0, rc1⟩, rd0, rd1⟩ := HRA.out
    rcases hrel with ⟨rfl, rfl, HZ⟩ | ⟨rfl, rfl, HZ⟩ | ⟨rfl, rfl, HZ⟩ | ⟨rfl, rfl, HZ⟩ | ⟨rfl, rfl, HZ⟩
    · have hz : 0 ≤ z ∧ z < 4096 := by have := HZ.out; omega
      have hcv : wr.cell? ⟨gb, 0, none⟩ = some (.int .u8 a) := (blk_cell HBL.out 0).trans rfl
      have HZ2 := Aside0.mk HZ.out
      go_wp2_with (first | (go_at_call 63; (with_reducible refine (HA.out _).mono ?_); rintro e w1 ⟨rfl, rfl⟩))
      go_roundg 3
      case measure => omega
      case rel => exact ⟨_, rfl, HBL, HW0, Or.inr (Or.inl ⟨rfl, rfl, ⟨by have := HZ2.out; omega⟩⟩)⟩
    · have hz : 0 ≤ z ∧ z < 4096 := by have := HZ.out; omega
      have hcv : wr.cell? ⟨gb, 1, none⟩ = some (.int .u8 b) := (blk_cell HBL.out 1).trans rfl
      have HZ2 := Aside0.mk HZ.out
      go_wp2_with (first | (go_at_call 63; (with_reducible refine (HB.out _).mono ?_); rintro e w1 ⟨rfl, rfl⟩))
      go_roundg 2
      case measure => omega
      case rel => exact ⟨_, rfl, HBL, HW0, Or.inr (Or.inr (Or.inl ⟨rfl, rfl, ⟨by have := HZ2.out; omega⟩⟩))⟩
    · have hz : 0 ≤ z ∧ z < 4096 := by have := HZ.out; omega
      have hcv : wr.cell? ⟨gb, 2, none⟩ = some (.int .u8 c) := (blk_cell HBL.out 2).trans rfl
      have HZ2 := Aside0.mk HZ.out
      go_wp2_with (first | (go_at_call 63; (with_reducible refine (HC.out _).mono ?_); rintro e w1 ⟨rfl, rfl⟩))
      go_roundg 1
      case measure => omega
      case rel => exact ⟨_, rfl, HBL, HW0, Or.inr (Or.inr (Or.inr (Or.inl ⟨rfl, rfl, ⟨by have := HZ2.out; omega⟩⟩)))⟩
    · have hz : 0 ≤ z ∧ z < 4096 := by have := HZ.out; omega
      have hcv : wr.cell? ⟨gb, 3, none⟩ = some (.int .u8 d) := (blk_cell HBL.out 3).trans rfl
      have HZ2 := Aside0.mk HZ.out
      go_wp2_with (first | (go_at_call 63; (with_reducible refine (HD.out _).mono ?_); rintro e w1 ⟨rfl, rfl⟩))
      go_roundg 0
      case measure => omega
      case rel => exact ⟨_, rfl, HBL, HW0, Or.inr (Or.inr (Or.inr (Or.inr (⟨rfl, rfl, ⟨by have := HZ2.out; omega⟩⟩))))⟩
    · have HZ2 := Aside0.mk HZ.out
      go_wp2
      go_ret2
      exact ⟨by rw [← HZ2.out]; rfl, by first | exact HW0.out | (rw [← HGB.out]; exact HW0.out)⟩
#print axioms digit
#print axioms decode
end Go.Proofs.YtponeoodgfgejaaDoor.HandC
