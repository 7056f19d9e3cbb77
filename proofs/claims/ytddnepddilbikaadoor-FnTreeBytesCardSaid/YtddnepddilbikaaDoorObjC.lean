/- zztime.Time.Format: a zone. -/
import Derived.Test.YtddnepddilbikaaDoorObjB
import Derived.Test.YtddnepddilbikaaDoorQAllx6
import Derived.Test.YtddnepddilbikaaDoorTxt
import Derived.Lib.AppendIntMem
set_option linter.unusedVariables false
set_option linter.unusedSimpArgs false
namespace Go.Proofs.YtddnepddilbikaaDoor.ObjC
open Go.RowKit Go.Proofs.YtddnepddilbikaaDoorW.PrintWords Go.Proofs.YtddnepddilbikaaDoor.QAll ObjA ObjB

/-- Two digits. -/
def tw (n : Nat) : ByteArray := strOfNums [((48 + n / 10 : Nat) : Int), ((48 + n % 10 : Nat) : Int)]
theorem tw_lo : ∀ n : Fin 10, (⟨#[48]⟩ : ByteArray) ++ ⟨(Lib.decDigits n.val).toArray⟩ = tw n.val := by decide +kernel
theorem tw_hi : ∀ n : Fin 100, 10 ≤ n.val → (⟨(Lib.decDigits n.val).toArray⟩ : ByteArray) = tw n.val := by decide +kernel
theorem tw_size (n : Nat) : (tw n).size = 2 := by unfold tw; simp [strOfNums, ByteArray.size]

set_option maxHeartbeats 4000000 in
set_option maxRecDepth 100000 in
theorem two (n : Nat) (hn : n < 100) (w : World) : Calls Tryd.prog 103 #[.int .i64 (n : Int)] w fun e w' => e = .returned (.string (tw n)) ∧ w' = w := by
  have HI := Aside0.mk (Tryd.strconv_Itoa_small n hn w)
  by_cases h : n < 10
  · have d0 : decide ((n : Int) < 10) = true := decide_eq_true (by omega)
    have HT : Aside0 ((⟨#[48]⟩ : ByteArray) ++ ⟨(Lib.decDigits n).toArray⟩ = tw n) := ⟨tw_lo ⟨n, h⟩⟩
    have hs : (⟨(Lib.decDigits n).toArray⟩ : ByteArray).size ≤ 10 := by
      have := congrArg ByteArray.size (tw_lo ⟨n, h⟩)
      rw [ByteArray.size_append, tw_size] at this
      have h2 : (⟨(Lib.decDigits n).toArray⟩ : ByteArray).size + 1 = 2 := by rw [Nat.add_comm]; exact this
      omega
    clear hn h
    generalize (⟨(Lib.decDigits n).toArray⟩ : ByteArray) = s at *
    go_enter Tryd.func103, Tryd.ntmps103
    go_wp2_with (first
      | (go_at_call 104
         (with_reducible refine HI.out.mono ?_)
         rintro x w1 ⟨rfl, rfl⟩)
      | fail)
    go_ret
    exact ⟨by rw [← HT.out]; rfl, rfl⟩
  · have d0 : decide ((n : Int) < 10) = false := decide_eq_false (by omega)
    have HT : Aside0 ((⟨(Lib.decDigits n).toArray⟩ : ByteArray) = tw n) := ⟨tw_hi ⟨n, hn⟩ (by show 10 ≤ n; omega)⟩
    clear hn h
    go_enter Tryd.func103, Tryd.ntmps103
    go_wp2_with (first
      | (go_at_call 104
         (with_reducible refine HI.out.mono ?_)
         rintro x w1 ⟨rfl, rfl⟩)
      | fail)
    go_ret
    exact ⟨by rw [← HT.out]; rfl, rfl⟩
/-- A zone as it is written. -/
def zt (z : Int) : ByteArray := if z < 0 then (⟨#[45]⟩ : ByteArray) ++ tw ((-z).toNat / 3600) ++ tw ((-z).toNat / 60 % 60) else (⟨#[43]⟩ : ByteArray) ++ tw (z.toNat / 3600) ++ tw (z.toNat / 60 % 60)

/-- The numbers that are written. -/
theorem parts (a : Nat) (ha : a < 360000) (hm : a % 60 = 0) : ∃ q h m : Int, Int.tdiv (a : Int) 60 = q ∧ Int.tdiv q 60 = h ∧ Int.tmod q 60 = m ∧ 0 ≤ q ∧ q < 6000 ∧ (1 ≤ a → 1 ≤ q) ∧ 0 ≤ h ∧ h < 100 ∧ 0 ≤ m ∧ m < 60 ∧ h.toNat = a / 3600 ∧ m.toNat = a / 60 % 60 := by
  refine ⟨((a / 60 : Nat) : Int), ((a / 60 / 60 : Nat) : Int), ((a / 60 % 60 : Nat) : Int), ?_, ?_, ?_, by omega, by omega, by omega, by omega, by omega, by omega, by omega, by omega, by omega⟩
  · rw [Int.tdiv_eq_ediv_of_nonneg (by omega)]; omega
  · rw [Int.tdiv_eq_ediv_of_nonneg (by omega)]; omega
  · rw [Int.tmod_eq_emod_of_nonneg (by omega)]; omega

set_option maxHeartbeats 8000000 in
set_option maxRecDepth 100000 in
theorem format (sec nsec z : Int) (hz : z.tmod 60 = 0) (h0 : -360000 < z) (h1 : z < 360000) (w : World) :
    Calls Tryd.prog 96 #[.agg #[.int .i64 sec, .int .i64 nsec, .int .i64 z], .string ⟨#[45, 48, 55, 48, 48]⟩] w fun e w' => e = .returned (.string (zt z)) ∧ Below w.heap.size w w' := by
  obtain ⟨a, ha⟩ : ∃ a : Nat, a = z.natAbs := ⟨_, rfl⟩
  have hm : a % 60 = 0 := by
    have h2 := Int.natAbs_tmod z 60
    rw [hz] at h2
    have h3 : (0 : Int).natAbs = 0 := rfl
    rw [h3, ← ha] at h2
    exact h2.symm
  obtain ⟨q, h, m, e1, e2, e3, q0, q1, q2, k0, k1, m0, m1, eh, em⟩ := parts a (by omega) hm
  have HH : Aside0 (∀ w, Calls Tryd.prog 103 #[.int .i64 h] w fun e w' => e = .returned (.string (tw h.toNat)) ∧ w' = w) := ⟨fun w => by have := two h.toNat (by omega) w; rwa [Int.toNat_of_nonneg k0] at this⟩
  have HM : Aside0 (∀ w, Calls Tryd.prog 103 #[.int .i64 m] w fun e w' => e = .returned (.string (tw m.toNat)) ∧ w' = w) := ⟨fun w => by have := two m.toNat (by omega) w; rwa [Int.toNat_of_nonneg m0] at this⟩
  have s1 := tw_size h.toNat
  have s2 := tw_size m.toNat
  by_cases qn : z < 0
  · have hza : z = -(a : Int) := by omega
    have e0 : Int.tdiv z 60 = -q := by rw [hza, Int.neg_tdiv, e1]
    have hq1 : 1 ≤ q := q2 (by omega)
    have HZ : Aside0 (zt z = (⟨#[45]⟩ : ByteArray) ++ tw h.toNat ++ tw m.toNat) := ⟨by unfold zt; rw [if_pos qn, eh, em, show (-z).toNat = a by omega]⟩
    have d0 : decide (-q < 0) = true := decide_eq_true (by omega)
    have w0 : wrap64 (-q) = -q := by unfold wrap64; omega
    have w1 : wrap64 (- -q) = q := by unfold wrap64; omega
    have w2 : wrap64 h = h := by unfold wrap64; omega
    clear hz h0 h1 ha hm e1 q2 eh em hza qn
    generalize tw h.toNat = s at *
    generalize tw m.toNat = t at *
    go_enter Tryd.func96, Tryd.ntmps96
    go_wp2_with (first
      | (go_at_call 103
         (with_reducible refine (HH.out _).mono ?_)
         rintro x w3 ⟨rfl, rfl⟩)
      | (go_at_call 103
         (with_reducible refine (HM.out _).mono ?_)
         rintro x w4 ⟨rfl, rfl⟩)
      | fail)
    go_ret
    exact ⟨by rw [HZ.out]; rfl, below_alloc (Below.refl _ _) _⟩
  · have hza : z = (a : Int) := by omega
    have e0 : Int.tdiv z 60 = q := by rw [hza, e1]
    have HZ : Aside0 (zt z = (⟨#[43]⟩ : ByteArray) ++ tw h.toNat ++ tw m.toNat) := ⟨by unfold zt; rw [if_neg qn, eh, em, show z.toNat = a by omega]⟩
    have d0 : decide (q < 0) = false := decide_eq_false (by omega)
    have w0 : wrap64 q = q := by unfold wrap64; omega
    have w2 : wrap64 h = h := by unfold wrap64; omega
    clear hz h0 h1 ha hm e1 q2 eh em hza qn
    generalize tw h.toNat = s at *
    generalize tw m.toNat = t at *
    go_enter Tryd.func96, Tryd.ntmps96
    go_wp2_with (first
      | (go_at_call 103
         (with_reducible refine (HH.out _).mono ?_)
         rintro x w3 ⟨rfl, rfl⟩)
      | (go_at_call 103
         (with_reducible refine (HM.out _).mono ?_)
         rintro x w4 ⟨rfl, rfl⟩)
      | fail)
    go_ret
    exact ⟨by rw [HZ.out]; rfl, below_alloc (Below.refl _ _) _⟩

set_option maxHeartbeats 4000000 in
set_option maxRecDepth 100000 in
theorem unix (sec nsec z : Int) (h0 : 0 ≤ sec) (h1 : sec ≤ 10000000000000) (w : World) :
    Calls Tryd.prog 94 #[.agg #[.int .i64 sec, .int .i64 nsec, .int .i64 z]] w fun e w' => e = .returned (.int .i64 (sec - 62135596800)) ∧ Below w.heap.size w w' := by
  have w0 : wrap64 (sec - 62135596800) = sec - 62135596800 := by unfold wrap64; omega
  have hw := Aside0.mk w0
  clear w0 h0 h1
  go_enter Tryd.func94, Tryd.ntmps94
  go_wp2
  go_ret
  exact ⟨by first | rfl | (simpa using hw.out), below_alloc (Below.refl _ _) _⟩
/-- A number in base 10. -/
def dn (n : Int) : ByteArray := ⟨(Lib.itoa n).toArray⟩
theorem formatInt (n : Int) (h0 : 0 ≤ n) (h1 : n ≤ 9223372036854775807) (w : World) (htab : Lib.TabIs Tryd.prog w "internal/strconv.uint64pow10" .u64 Lib.pow10Tab) :
    Calls Tryd.prog 95 #[.int .i64 n, .int .i64 10] w fun e w' => e = .returned (.string (dn n)) ∧ Below w.heap.size w w' := by
  refine (Tryd.strconv_FormatInt_10 n (by omega) h1 w htab).mono ?_
  rintro e w' ⟨rfl, k, os, rfl⟩
  exact ⟨rfl, Lib.below_grow w.heap.size w (Nat.le_refl _) k os⟩
end Go.Proofs.YtddnepddilbikaaDoor.ObjC
