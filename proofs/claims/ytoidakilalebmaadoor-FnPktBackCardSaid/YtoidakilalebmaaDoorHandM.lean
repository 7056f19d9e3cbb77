/- spec.SameLines of a list and itself, wherever they lie, walked. -/
import Derived.Test.YtoidakilalebmaaDoorHandJ
set_option linter.unusedVariables false
set_option linter.unusedSimpArgs false
namespace Go.Proofs.YtoidakilalebmaaDoor.HandM
open Go.RowKit Go.Proofs.YtoidakilalebmaaDoorW.PrintWords Go.Proofs.YtoidakilalebmaaDoorW.PrintLast Go.Proofs.YtoidakilalebmaaDoorW.PrintMore Go.Proofs.YtoidakilalebmaaDoor.QAll Txt PureA HandC HandF PureP HandJ

def same6.T6 : Bool × List (List Nat × List Nat) := (true, [([], []), ([], []), ([0, 1], [0, 1]), ([2], [2]), ([3], [3]), ([], []), ([], []), ([5, 6], [5, 6]), ([7], [7]), ([8], [8]), ([4, 9], [4, 9])])
def same6.B6 : List Nat := [0, 0, 3, 7, 15, 0, 0, 96, 224, 480, 1023]
theorem same6.tab6 : rtab .any (opsOf Tryd.f9 6) = same6.T6 := by kernel_rfl
theorem same6.bits6 : waitsOk same6.T6.2 same6.B6 = true := by kernel_rfl

set_option maxHeartbeats 8000000 in
set_option maxRecDepth 100000 in
theorem sameLines (l : List (List Int)) (A0 A1 : Option Addr) (c0 c1 : Nat) (w : World) (h0 : Kd.C KL w A0 l.length l) (h1 : Kd.C KL w A1 l.length l) (hn : l.length ≤ 2147483647) :
    Calls Tryd.prog 9 #[.slice A0 l.length c0, .slice A1 l.length c1] w fun e w' => e = .returned (.bool true) ∧ Same w w' := by
  have HR0 := Aside0.mk h0
  have HR1 := Aside0.mk h1
  have HN := Aside0.mk hn
  clear h0 h1 hn
  go_enter Tryd.func9, Tryd.ntmps9
  go_wp2
  go_loopg [13] l.length (fun gk v13 w' => ∃ i : Nat, v13 = .int .i64 (i : Int) ∧ gk + i = l.length ∧ Aside0 (Same w w'))
  case atStart => exact ⟨0, rfl, rfl, ⟨Same.refl _⟩⟩
  case round =>
    obtain ⟨i, rfl, hi, HS⟩ := hrel
    by_cases q : i < l.length
    · have c2b0 : decide ((i : Int) < (l.length : Int)) = true := decide_eq_true (by omega)
      have hp : 0 ≤ (i : Int) := by omega
      have hq : (i : Int) < (l.length : Int) := by omega
      obtain ⟨ad, B0, d0, rfl, hx0, hl0, hc0⟩ := at_L1 HR0.out (i : Int) hp hq
      obtain ⟨ad', B1, d1, rfl, hx1, hl1, hc1⟩ := at_L1 HR1.out (i : Int) hp hq
      rw [Int.toNat_natCast] at hx0 hx1
      generalize rd_L1 l (i : Int) = p at hx0 hx1 hl0 hl1 hc0 hc1
      have HX0 := Aside0.mk (HS.out.cell hx0)
      have HX1 := Aside0.mk (HS.out.cell hx1)
      have HV0 : Aside0 (∀ W, Same wr W → (convert 25 9 (.slice B0 p.length d0)).run Tryd.prog W = .ok (.string (strOfNums p)) W) := ⟨fun W hW => Kd.C_string (P := Tryd.prog) (A := B0) (c := d0) Tryd.underlying25 Tryd.underlying5 Tryd.underlying9 (Kd.C_below hc0 ((HS.out.trans hW).below _))⟩
      have HV1 : Aside0 (∀ W, Same wr W → (convert 25 9 (.slice B1 p.length d1)).run Tryd.prog W = .ok (.string (strOfNums p)) W) := ⟨fun W hW => Kd.C_string (P := Tryd.prog) (A := B1) (c := d1) Tryd.underlying25 Tryd.underlying5 Tryd.underlying9 (Kd.C_below hc1 ((HS.out.trans hW).below _))⟩
      have hw : wrap64 ((i : Int) + 1) = ((i + 1 : Nat) : Int) := by have := HN.out; unfold wrap64; omega
      clear hx0 hx1 hl0 hl1 hc0 hc1
      go_upto_region 6 with fail
      refine start_ (n := 11) (S := fun w' => Same wr w' ∧ w'.cell? (ad.add i) = some (.slice B0 p.length d0) ∧ w'.cell? (ad'.add i) = some (.slice B1 p.length d1) ∧ (convert 25 9 (.slice B0 p.length d0)).run Tryd.prog w' = .ok (.string (strOfNums p)) w' ∧ (convert 25 9 (.slice B1 p.length d1)).run Tryd.prog w' = .ok (.string (strOfNums p)) w') (ds := []) #[false, false, false, false, false, false, false, false, false, false, false] (by kernel_rfl) rfl rfl ⟨(Same.drew _), (Same.cell (Same.drew _) HX0.out), (Same.cell (Same.drew _) HX1.out), (HV0.out _ (Same.drew _)), (HV1.out _ (Same.drew _))⟩ (fun hHeld => ?_)
      refine with_tabW same6.tab6 same6.bits6 (fun HT_ HW_ => ?_)
      generalize World.drew _ = wd at hHeld ⊢
      refine pure_ (i := 0) (N := some 16) (v := ?_) (a' := ?_) #[true, false, false, false, false, false, false, false, false, false, false] rfl rfl (any_of HT_.out (by kernel_rfl)) (fun _ _ _ h => h) (Or.inl ⟨by rfl, ?_⟩) ?_ ?_
      rotate_left
      · intro w'
        go_simp
        with_reducible rfl
      rotate_left
      · simp only [Act.put, List.setIfInBounds_toArray, List.set_cons_zero, List.set_cons_succ, i64_w, i32_w]
        rfl
      refine pure_ (i := 1) (N := some 17) (v := ?_) (a' := ?_) #[true, true, false, false, false, false, false, false, false, false, false] rfl rfl (any_of HT_.out (by kernel_rfl)) (fun _ _ _ h => h) (Or.inl ⟨by rfl, ?_⟩) ?_ ?_
      rotate_left
      · intro w'
        go_simp
        with_reducible rfl
      rotate_left
      · simp only [Act.put, List.setIfInBounds_toArray, List.set_cons_zero, List.set_cons_succ, i64_w, i32_w]
        rfl
      refine pure_ (i := 2) (N := some 18) (v := ?_) (a' := ?_) #[true, true, true, false, false, false, false, false, false, false, false] rfl rfl (any_of HT_.out (by kernel_rfl)) (fun _ _ _ h => h) (Or.inl ⟨by rfl, ?_⟩) ?_ ?_
      rotate_left
      · intro w'
        go_simp
        with_reducible rfl
      rotate_left
      · simp only [Act.put, List.setIfInBounds_toArray, List.set_cons_zero, List.set_cons_succ, i64_w, i32_w]
        rfl
      refine pure_ (i := 5) (N := some 21) (v := ?_) (a' := ?_) #[true, true, true, false, false, true, false, false, false, false, false] rfl rfl (any_of HT_.out (by kernel_rfl)) (fun _ _ _ h => h) (Or.inl ⟨by rfl, ?_⟩) ?_ ?_
      rotate_left
      · intro w'
        go_simp
        with_reducible rfl
      rotate_left
      · simp only [Act.put, List.setIfInBounds_toArray, List.set_cons_zero, List.set_cons_succ, i64_w, i32_w]
        rfl
      refine pure_ (i := 6) (N := some 22) (v := ?_) (a' := ?_) #[true, true, true, false, false, true, true, false, false, false, false] rfl rfl (any_of HT_.out (by kernel_rfl)) (fun _ _ _ h => h) (Or.inl ⟨by rfl, ?_⟩) ?_ ?_
      rotate_left
      · intro w'
        go_simp
        with_reducible rfl
      rotate_left
      · simp only [Act.put, List.setIfInBounds_toArray, List.set_cons_zero, List.set_cons_succ, i64_w, i32_w]
        rfl
      refine pure_ (i := 7) (N := some 23) (v := ?_) (a' := ?_) #[true, true, true, false, false, true, true, true, false, false, false] rfl rfl (any_of HT_.out (by kernel_rfl)) (fun _ _ _ h => h) (Or.inl ⟨by rfl, ?_⟩) ?_ ?_
      rotate_left
      · intro w'
        go_simp
        with_reducible rfl
      rotate_left
      · simp only [Act.put, List.setIfInBounds_toArray, List.set_cons_zero, List.set_cons_succ, i64_w, i32_w]
        rfl
      refine take_ (i := 3) (N := some 19) (v := ?_) (a' := ?_) #[true, true, true, true, false, true, true, true, false, false, false] rfl rfl (take_ofW HT_.out HW_.out (by kernel_rfl)) (fun _ _ _ h => h) (Or.inl ⟨by rfl, ?_⟩) hHeld ?_ ?_
      rotate_left
      · rintro w' ⟨s0, s1, s2, s3, s4⟩
        go_simp
        with_reducible rfl
      rotate_left
      · simp only [Act.put, List.setIfInBounds_toArray, List.set_cons_zero, List.set_cons_succ, i64_w, i32_w]
        rfl
      refine take_ (i := 4) (N := some 20) (v := ?_) (a' := ?_) #[true, true, true, true, true, true, true, true, false, false, false] rfl rfl (take_ofW HT_.out HW_.out (by kernel_rfl)) (fun _ _ _ h => h) (Or.inl ⟨by rfl, ?_⟩) hHeld ?_ ?_
      rotate_left
      · rintro w' ⟨s0, s1, s2, s3, s4⟩
        go_simp
        with_reducible rfl
      rotate_left
      · simp only [Act.put, List.setIfInBounds_toArray, List.set_cons_zero, List.set_cons_succ, i64_w, i32_w]
        rfl
      refine take_ (i := 8) (N := some 24) (v := ?_) (a' := ?_) #[true, true, true, true, true, true, true, true, true, false, false] rfl rfl (take_ofW HT_.out HW_.out (by kernel_rfl)) (fun _ _ _ h => h) (Or.inl ⟨by rfl, ?_⟩) hHeld ?_ ?_
      rotate_left
      · rintro w' ⟨s0, s1, s2, s3, s4⟩
        go_simp
        with_reducible rfl
      rotate_left
      · simp only [Act.put, List.setIfInBounds_toArray, List.set_cons_zero, List.set_cons_succ, i64_w, i32_w]
        rfl
      refine take_ (i := 9) (N := some 25) (v := ?_) (a' := ?_) #[true, true, true, true, true, true, true, true, true, true, false] rfl rfl (take_ofW HT_.out HW_.out (by kernel_rfl)) (fun _ _ _ h => h) (Or.inl ⟨by rfl, ?_⟩) hHeld ?_ ?_
      rotate_left
      · rintro w' ⟨s0, s1, s2, s3, s4⟩
        go_simp
        with_reducible rfl
      rotate_left
      · simp only [Act.put, List.setIfInBounds_toArray, List.set_cons_zero, List.set_cons_succ, i64_w, i32_w]
        rfl
      refine pure_ (i := 10) (N := some 26) (v := ?_) (a' := ?_) #[true, true, true, true, true, true, true, true, true, true, true] rfl rfl (any_of HT_.out (by kernel_rfl)) (fun _ _ _ h => h) (Or.inl ⟨by rfl, ?_⟩) ?_ ?_
      rotate_left
      · intro w'
        go_simp
        with_reducible rfl
      rotate_left
      · simp only [Act.put, List.setIfInBounds_toArray, List.set_cons_zero, List.set_cons_succ, i64_w, i32_w]
        rfl
      refine done_ (done_of HT_.out (by kernel_rfl)) ?_
      have HS2 : Aside0 (Same w wd) := ⟨HS.out.trans hHeld.1⟩
      clear hHeld
      go_wp2
      go_roundg (gk - 1)
      case measure => omega
      case rel => exact ⟨i + 1, by first | rfl | (rw [hw]), by omega, HS2⟩
    · have c2b0 : decide ((i : Int) < (l.length : Int)) = false := decide_eq_false (by omega)
      go_wp2
      go_ret
      exact ⟨rfl, HS.out⟩
#print axioms sameLines
end Go.Proofs.YtoidakilalebmaaDoor.HandM
