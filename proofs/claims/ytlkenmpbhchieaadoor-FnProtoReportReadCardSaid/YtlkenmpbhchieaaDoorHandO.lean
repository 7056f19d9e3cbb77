/- packp.eol, bytes.HasSuffix and TrimSuffix of a newline, walked. -/
import Derived.Test.YtlkenmpbhchieaaDoorPureR
import Derived.Test.YtlkenmpbhchieaaDoorHandJ
import Derived.Test.YtlkenmpbhchieaaDoorPtr
set_option linter.unusedVariables false
set_option linter.unusedSimpArgs false
namespace Go.Proofs.YtlkenmpbhchieaaDoor.HandO
open Go.RowKit Go.Proofs.YtlkenmpbhchieaaDoorW.PrintWords Go.Proofs.YtlkenmpbhchieaaDoorW.PrintLast Go.Proofs.YtlkenmpbhchieaaDoorW.PrintMore Go.Proofs.YtlkenmpbhchieaaDoor.QAll Txt PureA HandA HandB HandC HandD HandE HandF HandG HandH HandI PureP HandJ PureQ PureR PureS Ptr

set_option maxHeartbeats 4000000 in
set_option maxRecDepth 100000 in
theorem eol (w : World) : Calls Tryd.prog 34 #[] w fun e w' => ∃ A, e = .returned (.slice A 1 1) ∧ Kd.C (Kd.int .u8) w' A 1 [10] ∧ Below w.heap.size w w' := by
  have kc := fun (w : World) (C : Array Value) (n c : Nat) => Lib.run_convert_bytes_const (P := Tryd.prog) w 28 5 C n c Tryd.underlying28 Tryd.underlying5
  go_enter Tryd.func34, Tryd.ntmps34
  go_wp2
  go_ret
  refine ⟨_, rfl, ?_, below_alloc (Below.refl _ _) _⟩
  exact C_blk (xs := [10]) (cur := [.int .u8 10]) (blk_new _ _) (by decide) (fun j x hx => by
    match j, hx with
    | 0, hx => cases hx; rfl
    | j + 1, hx => simp at hx)
theorem dropA (A0 : Option Addr) (c0 m : Nat) (l0 : List Int) (hm : m ≤ l0.length) (hc : l0.length ≤ c0) : ∃ A' : Option Addr, (∀ W : World, (Instr.slice 28 (.slice A0 l0.length c0) (some (.int .i64 (m : Int))) none none).run Tryd.prog W = .ok (.slice A' (l0.length - m) (c0 - m)) W) ∧ (∀ w : World, Kd.C (Kd.int .u8) w A0 l0.length l0 → Kd.C (Kd.int .u8) w A' (l0.length - m) (l0.drop m)) ∧ l0.length - m ≤ c0 - m := by
  obtain ⟨i, hi, _, hsz, _⟩ := info_parts info5
  obtain ⟨A', h1, h2, h3⟩ := print_drop_of (P := Tryd.prog) (Value.int .u8) 0 28 5 .i64 Tryd.underlying28 hi hsz A0 c0 l0 (m : Int) (by omega) (by omega) hc
  rw [Int.toNat_natCast, List.length_drop] at h1 h3
  refine ⟨A', h1, fun w h => ?_, h3⟩
  have h4 := h2 w (Kd.reads_of_C h)
  rw [Int.toNat_natCast, List.length_drop] at h4
  exact Kd.C_of_reads (h1 := fun _ => rfl) h4
set_option maxHeartbeats 4000000 in
set_option maxRecDepth 100000 in
theorem hasNl (A0 A1 : Option Addr) (c0 m : Nat) (l0 : List Int) (w : World) (h0 : Kd.C (Kd.int .u8) w A0 l0.length l0) (hc0 : l0.length ≤ c0) (h1 : Kd.C (Kd.int .u8) w A1 1 [10]) (hl : l0.length = m + 1) (hd : l0.drop m = [10]) (h31 : m ≤ 2147483647) :
    Calls Tryd.prog 42 #[.slice A0 l0.length c0, .slice A1 1 1] w fun e w' => e = .returned (.bool true) ∧ Drawn0 w w' := by
  obtain ⟨A', hcut, hC, _⟩ := dropA A0 c0 m l0 (by omega) hc0
  have HE : Aside0 (∀ W, Below w.heap.size w W → Calls Tryd.prog 38 #[.slice A' 1 (c0 - m), .slice A1 1 1] W fun e w' => e = .returned (.bool true) ∧ Drawn0 W w') := ⟨fun W hb => by
    have h2 := hC w h0
    rw [hd, show l0.length - m = 1 by omega] at h2
    exact bytes_Equal.calls A' (c0 - m) [10] A1 1 [10] true W (Kd.C_below h2 hb) (by show 1 ≤ c0 - m; omega) (Kd.C_below h1 hb) (Nat.le_refl _) (by unfold bytes_Equal.f; simp)⟩
  rw [show l0.length - m = 1 by omega] at hcut
  have d1 : decide (1 ≤ l0.length) = true := decide_eq_true (by omega)
  have d2 : decide (1 ≤ (l0.length : Int)) = true := decide_eq_true (by omega)
  have hw : wrap64 ((l0.length : Int) - 1) = (m : Int) := by unfold wrap64; omega
  clear h0 h1 hC hl hd hc0
  go_enter Tryd.func42, Tryd.ntmps42
  go_wp2_with (first | (go_at_call 38; (with_reducible refine (HE.out _ (Below.refl _ _)).mono ?_); rintro e w1 ⟨rfl, HQ⟩; have HQ2 := Aside0.mk HQ; clear HQ))
  go_ret
  exact ⟨rfl, HQ2.out⟩
set_option maxHeartbeats 4000000 in
set_option maxRecDepth 100000 in
theorem trimNl (A0 A1 : Option Addr) (c0 m : Nat) (l0 : List Int) (w : World) (h0 : Kd.C (Kd.int .u8) w A0 l0.length l0) (hc0 : l0.length ≤ c0) (h1 : Kd.C (Kd.int .u8) w A1 1 [10]) (hl : l0.length = m + 1) (hd : l0.drop m = [10]) (h31 : m ≤ 2147483647) :
    Calls Tryd.prog 33 #[.slice A0 l0.length c0, .slice A1 1 1] w fun e w' => e = .returned (.slice A0 m c0) ∧ Drawn0 w w' := by
  have HH := Aside0.mk (hasNl A0 A1 c0 m l0 w h0 hc0 h1 hl hd h31)
  have hcut := toA A0 l0.length c0 m (by omega)
  have hw : wrap64 ((l0.length : Int) - 1) = (m : Int) := by unfold wrap64; omega
  clear h0 h1 hl hd hc0
  go_enter Tryd.func33, Tryd.ntmps33
  go_wp2_with (first | (go_at_call 42; (with_reducible refine HH.out.mono ?_); rintro e w1 ⟨rfl, HQ⟩; have HQ2 := Aside0.mk HQ; clear HQ))
  go_ret
  exact ⟨rfl, HQ2.out⟩
#print axioms eol
#print axioms trimNl
end Go.Proofs.YtlkenmpbhchieaaDoor.HandO
