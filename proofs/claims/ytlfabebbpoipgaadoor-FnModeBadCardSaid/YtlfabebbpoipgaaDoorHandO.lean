/- spec.Octal, walked. -/
import Derived.Test.YtlfabebbpoipgaaDoorHandU
set_option linter.unusedVariables false
set_option linter.unusedSimpArgs false
namespace Go.Proofs.YtlfabebbpoipgaaDoor.HandO
open Go.RowKit Go.Proofs.YtlfabebbpoipgaaDoorW.PrintWords Go.Proofs.YtlfabebbpoipgaaDoor.QAll HandU

def ob (n : Nat) : ByteArray := if n < 8 then Utf8.encode (48 + (n : Int)) else ob (n / 8) ++ Utf8.encode (48 + ((n % 8 : Nat) : Int))
termination_by n
decreasing_by omega
theorem enc (n : Nat) (h : n < 8) : (Utf8.encode (48 + (n : Int))).data.toList = [UInt8.ofNat (48 + n)] := by
  rw [show (48 + (n : Int)) = ((48 + n : Nat) : Int) by omega]
  have c1 : 48 + n < 128 := by omega
  generalize 48 + n = r at c1
  have v : Utf8.valid (r : Int) = true := by simp [Utf8.valid]; omega
  simp [Utf8.encode, v, c1]
theorem ob_size : ∀ n, (ob n).size ≤ n + 1 := by
  intro n
  induction n using Nat.strongRecOn with
  | ind n ih =>
    rw [ob]
    split
    · rename_i h
      rw [Lib.size_eq, enc n h]
      simp
    · rename_i h
      have := ih (n / 8) (by omega)
      rw [ByteArray.size_append]
      have h2 : (Utf8.encode (48 + ((n % 8 : Nat) : Int))).size = 1 := by rw [Lib.size_eq, enc (n % 8) (by omega)]; rfl
      omega

set_option maxHeartbeats 4000000 in
set_option maxRecDepth 100000 in
theorem oct (n : Nat) (hn : n ≤ 4294967295) : ∀ w : World, Calls Tryd.prog 6 #[.int .i64 (n : Int)] w fun e w' => e = .returned (.string (ob n)) ∧ Below w.heap.size w w' := by
  induction n using Nat.strongRecOn with
  | ind n ih =>
    intro w
    by_cases h : n < 8
    · have ho := Aside0.mk (show ob n = Utf8.encode (48 + (n : Int)) by rw [ob, if_pos h])
      go_enter Tryd.func6, Tryd.ntmps6
      go_wp2
      go_ret
      exact ⟨by rw [ho.out]; rfl, Below.refl _ _⟩
    · have ho := Aside0.mk (show ob n = ob (n / 8) ++ Utf8.encode (48 + ((n % 8 : Nat) : Int)) by rw [ob, if_neg h])
      have HI := Aside0.mk (ih (n / 8) (by omega) (by omega))
      have hz := ob_size (n / 8)
      have hz2 : (Utf8.encode (48 + ((n % 8 : Nat) : Int))).size = 1 := by rw [Lib.size_eq, enc (n % 8) (by omega)]; rfl
      obtain ⟨q, hq⟩ : ∃ q : Int, q = ((n / 8 : Nat) : Int) := ⟨_, rfl⟩
      obtain ⟨r, hr⟩ : ∃ r : Int, r = ((n % 8 : Nat) : Int) := ⟨_, rfl⟩
      obtain ⟨i, hi⟩ : ∃ i : Int, i = (n : Int) := ⟨_, rfl⟩
      rw [← hq] at HI
      rw [← hr] at ho hz2
      generalize ob (n / 8) = t at HI hz ho
      generalize ob n = u at ho ⊢
      have hr0 : 0 ≤ r := by omega
      have hr8 : r < 8 := by omega
      have hq0 : i.tdiv 8 = q := by rw [hi, Int.tdiv_eq_ediv_of_nonneg (by omega)]; omega
      have hr0' : i.tmod 8 = r := by rw [hi, Int.tmod_eq_emod_of_nonneg (by omega)]; omega
      have hi8 : (i < 8) = False := eq_false (by omega)
      have hts : t.size ≤ 4294967296 := by omega
      have hwq : wrap64 q = q := by unfold wrap64; omega
      rw [← hi]
      clear ih hq hr hi h hn hz
      clear n
      go_enter Tryd.func6, Tryd.ntmps6
      go_wp2_with (first | (go_at_call 6; (with_reducible refine (HI.out _).mono ?_); rintro e w' ⟨rfl, hb⟩; have HB := Aside0.mk hb; clear hb))
      go_ret
      exact ⟨by rw [ho.out]; rfl, HB.out⟩

end Go.Proofs.YtlfabebbpoipgaaDoor.HandO
