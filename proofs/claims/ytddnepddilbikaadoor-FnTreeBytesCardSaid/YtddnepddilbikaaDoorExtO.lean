/- spec.Octal, spec.Decimal walked; internal/bytealg.IndexByteString, which has no body: the model's own entry. -/
import Derived.Test.YtddnepddilbikaaDoorQAllx0
import Derived.Lib.Bytealg
import Derived.Lib.ItoaNum
set_option linter.unusedVariables false
set_option linter.unusedSimpArgs false
namespace Go.Proofs.YtddnepddilbikaaDoor.ExtO
open Go.RowKit Go.Proofs.YtddnepddilbikaaDoorW.PrintWords Go.Proofs.YtddnepddilbikaaDoorW.PrintLast Go.Proofs.YtddnepddilbikaaDoor.QAll

def ob (n : Nat) : ByteArray := if n < 8 then Utf8.encode (48 + (n : Int)) else ob (n / 8) ++ Utf8.encode (48 + ((n % 8 : Nat) : Int))
termination_by n
decreasing_by omega
theorem enc8 (n : Nat) (h : n < 8) : (Utf8.encode (48 + (n : Int))).data.toList = [UInt8.ofNat (48 + n)] := by
  rw [show (48 + (n : Int)) = ((48 + n : Nat) : Int) by omega]
  have c1 : 48 + n < 128 := by omega
  generalize 48 + n = r at c1
  have v : Utf8.valid (r : Int) = true := by simp [Utf8.valid]; omega
  simp [Utf8.encode, v, c1]
theorem ob_size : ∀ n, (ob n).size ≤ n + 1 := by
  intro n
  induction n using Nat.strongRecOn with
  | ind n ih =>
    rw [ob]
    split
    · rename_i h
      rw [Lib.size_eq, enc8 n h]
      simp
    · rename_i h
      have := ih (n / 8) (by omega)
      rw [ByteArray.size_append]
      have h2 : (Utf8.encode (48 + ((n % 8 : Nat) : Int))).size = 1 := by rw [Lib.size_eq, enc8 (n % 8) (by omega)]; rfl
      omega

set_option maxHeartbeats 4000000 in
set_option maxRecDepth 100000 in
theorem oct (n : Nat) (hn : n ≤ 4294967295) : ∀ w : World, Calls Tryd.prog 25 #[.int .i64 (n : Int)] w fun e w' => e = .returned (.string (ob n)) ∧ Below w.heap.size w w' := by
  induction n using Nat.strongRecOn with
  | ind n ih =>
    intro w
    by_cases h : n < 8
    · have ho := Aside0.mk (show ob n = Utf8.encode (48 + (n : Int)) by rw [ob, if_pos h])
      go_enter Tryd.func25, Tryd.ntmps25
      go_wp2
      go_ret
      exact ⟨by rw [ho.out]; rfl, Below.refl _ _⟩
    · have ho := Aside0.mk (show ob n = ob (n / 8) ++ Utf8.encode (48 + ((n % 8 : Nat) : Int)) by rw [ob, if_neg h])
      have HI := Aside0.mk (ih (n / 8) (by omega) (by omega))
      have hz := ob_size (n / 8)
      have hz2 : (Utf8.encode (48 + ((n % 8 : Nat) : Int))).size = 1 := by rw [Lib.size_eq, enc8 (n % 8) (by omega)]; rfl
      obtain ⟨q, hq⟩ : ∃ q : Int, q = ((n / 8 : Nat) : Int) := ⟨_, rfl⟩
      obtain ⟨r, hr⟩ : ∃ r : Int, r = ((n % 8 : Nat) : Int) := ⟨_, rfl⟩
      obtain ⟨i, hi⟩ : ∃ i : Int, i = (n : Int) := ⟨_, rfl⟩
      rw [← hq] at HI
      rw [← hr] at ho hz2
      generalize ob (n / 8) = t at HI hz ho
      generalize ob n = u at ho ⊢
      have hr0 : 0 ≤ r := by omega
      have hr8 : r < 8 := by omega
      have hq0 : i.tdiv 8 = q := by rw [hi, Int.tdiv_eq_ediv_of_nonneg (by omega)]; omega
      have hr0' : i.tmod 8 = r := by rw [hi, Int.tmod_eq_emod_of_nonneg (by omega)]; omega
      have hi8 : (i < 8) = False := eq_false (by omega)
      have hts : t.size ≤ 4294967296 := by omega
      have hwq : wrap64 q = q := by unfold wrap64; omega
      rw [← hi]
      clear ih hq hr hi h hn hz
      clear n
      go_enter Tryd.func25, Tryd.ntmps25
      go_wp2_with (first | (go_at_call 25; (with_reducible refine (HI.out _).mono ?_); rintro e w' ⟨rfl, hb⟩; have HB := Aside0.mk hb; clear hb))
      go_ret
      exact ⟨by rw [ho.out]; rfl, HB.out⟩

def dob (n : Nat) : ByteArray := if n < 10 then Utf8.encode (48 + (n : Int)) else dob (n / 10) ++ Utf8.encode (48 + ((n % 10 : Nat) : Int))
termination_by n
decreasing_by omega
theorem enc (n : Nat) (h : n < 10) : (Utf8.encode (48 + (n : Int))).data.toList = [UInt8.ofNat (48 + n)] := by
  rw [show (48 + (n : Int)) = ((48 + n : Nat) : Int) by omega]
  have c1 : 48 + n < 128 := by omega
  generalize 48 + n = r at c1
  have v : Utf8.valid (r : Int) = true := by simp [Utf8.valid]; omega
  simp [Utf8.encode, v, c1]
theorem dob_dec : ∀ n, (dob n).data.toList = Lib.decDigits n := by
  intro n
  induction n using Nat.strongRecOn with
  | ind n ih =>
    rw [dob, Lib.decDigits]
    split
    · rename_i h
      exact enc n h
    · rename_i h
      rw [ByteArray.data_append, Array.toList_append, ih (n / 10) (by omega), enc (n % 10) (by omega)]
theorem dob_size : ∀ n, (dob n).size ≤ n + 1 := by
  intro n
  induction n using Nat.strongRecOn with
  | ind n ih =>
    rw [dob]
    split
    · rename_i h
      rw [Lib.size_eq, enc n h]
      simp
    · rename_i h
      have := ih (n / 10) (by omega)
      rw [ByteArray.size_append]
      have h2 : (Utf8.encode (48 + ((n % 10 : Nat) : Int))).size = 1 := by rw [Lib.size_eq, enc (n % 10) (by omega)]; rfl
      omega
set_option maxHeartbeats 4000000 in
set_option maxRecDepth 100000 in
theorem dec (n : Nat) (hn : n ≤ 2199023255552) : ∀ w : World, Calls Tryd.prog 57 #[.int .i64 (n : Int)] w fun e w' => e = .returned (.string (dob n)) ∧ Below w.heap.size w w' := by
  induction n using Nat.strongRecOn with
  | ind n ih =>
    intro w
    by_cases h : n < 10
    · have ho := Aside0.mk (show dob n = Utf8.encode (48 + (n : Int)) by rw [dob, if_pos h])
      go_enter Tryd.func57, Tryd.ntmps57
      go_wp2
      go_ret
      exact ⟨by rw [ho.out]; rfl, Below.refl _ _⟩
    · have ho := Aside0.mk (show dob n = dob (n / 10) ++ Utf8.encode (48 + ((n % 10 : Nat) : Int)) by rw [dob, if_neg h])
      have HI := Aside0.mk (ih (n / 10) (by omega) (by omega))
      have hz := dob_size (n / 10)
      have hz2 : (Utf8.encode (48 + ((n % 10 : Nat) : Int))).size = 1 := by rw [Lib.size_eq, enc (n % 10) (by omega)]; rfl
      obtain ⟨q, hq⟩ : ∃ q : Int, q = ((n / 10 : Nat) : Int) := ⟨_, rfl⟩
      obtain ⟨r, hr⟩ : ∃ r : Int, r = ((n % 10 : Nat) : Int) := ⟨_, rfl⟩
      obtain ⟨i, hi⟩ : ∃ i : Int, i = (n : Int) := ⟨_, rfl⟩
      rw [← hq] at HI
      rw [← hr] at ho hz2
      generalize dob (n / 10) = t at HI hz ho
      generalize dob n = u at ho ⊢
      have hr0 : 0 ≤ r := by omega
      have hr8 : r < 10 := by omega
      have hq0 : i.tdiv 10 = q := by rw [hi, Int.tdiv_eq_ediv_of_nonneg (by omega)]; omega
      have hr0' : i.tmod 10 = r := by rw [hi, Int.tmod_eq_emod_of_nonneg (by omega)]; omega
      have hi8 : (i < 10) = False := eq_false (by omega)
      have hts : t.size ≤ 2199023255553 := by omega
      have hwq : wrap64 q = q := by unfold wrap64; omega
      rw [← hi]
      clear ih hq hr hi h hn hz
      clear n
      go_enter Tryd.func57, Tryd.ntmps57
      go_wp2_with (first | (go_at_call 57; (with_reducible refine (HI.out _).mono ?_); rintro e w' ⟨rfl, hb⟩; have HB := Aside0.mk hb; clear hb))
      go_ret
      exact ⟨by rw [ho.out]; rfl, HB.out⟩
end Go.Proofs.YtddnepddilbikaaDoor.ExtO
namespace Go.Proofs.YtddnepddilbikaaDoor.QAll
open Go.RowKit Go.Proofs.YtddnepddilbikaaDoorW.PrintWords Go.Proofs.YtddnepddilbikaaDoorW.PrintLast ExtO

def spec_Octal.f (a0 : Int) : Option ByteArray := if 0 ≤ a0 ∧ a0 ≤ 4294967295 then some (ob a0.toNat) else none
theorem spec_Octal.calls (a0 : Int) (r : ByteArray) (w : World) (h : spec_Octal.f a0 = some r) :
    Calls Tryd.prog 25 #[.int .i64 a0] w fun e w' => e = .returned (.string r) ∧ Below w.heap.size w w' := by
  unfold spec_Octal.f at h
  split at h
  · rename_i hh
    cases h
    have h1 := oct a0.toNat (by omega) w
    rwa [Int.toNat_of_nonneg hh.1] at h1
  · cases h
def spec_Decimal.f (a0 : Int) : Option ByteArray := if 0 ≤ a0 ∧ a0 ≤ 2199023255552 then some (dob a0.toNat) else none
theorem spec_Decimal.calls (a0 : Int) (r : ByteArray) (w : World) (h : spec_Decimal.f a0 = some r) :
    Calls Tryd.prog 57 #[.int .i64 a0] w fun e w' => e = .returned (.string r) ∧ Below w.heap.size w w' := by
  unfold spec_Decimal.f at h
  split at h
  · rename_i hh
    cases h
    have h1 := dec a0.toNat (by omega) w
    rwa [Int.toNat_of_nonneg hh.1] at h1
  · cases h
/-- An operation that calls a function of the model's own: it yields its value at once. -/
theorem goesV_ {P : Program} {ops : Array Oper} {Q : Exit → Act → World → Prop} {rest : List Oper} {oi : Oper} {a : Act} {w : World} (N : Option Tmp) (hd : oi.dst = N) (hg : oi.guard = none) {f : FuncId} {os : Array Operand} {ts : Array TypeId} (args : Array Value)
    (hop : oi.op = .call { callee := .value (.func f), args := os, argTypes := ts }) (hargs : os.map a.eval = args) {v : Value} (hr : (callFunc f args).run P w = .ok (.value v) w)
    (h : wpList P ops Q rest (a.put N v) w) : wpList P ops Q (oi :: rest) a w := by
  refine wpList_plain hg fun K hK => ?_
  have hrun : (execOp a.eval oi).run P w = .ok (.value v) w := by
    unfold execOp
    simp [hop, resolve, Deferred.ofValue, invoke, Act.eval, hargs, hr]
  unfold Oper.wp
  rw [hrun, Oper.upon_value]
  subst hd
  exact hK _ _ h

def bytealg_IndexByteString.f (a0 : ByteArray) (a1 : Int) : Option Int := some (Lib.indexByte a0.data.toList a1.toNat.toUInt8)
theorem bytealg_IndexByteString.run (a0 : ByteArray) (a1 r : Int) (w : World) (h : bytealg_IndexByteString.f a0 a1 = some r) :
    (callFunc 74 #[.string a0, .int .u8 a1]).run Tryd.prog w = .ok (.value (.int .i64 r)) w := by
  obtain rfl := Option.some.inj h
  rw [run_callFunc_extern Tryd.func74 (by kernel_rfl) (by kernel_rfl) (by kernel_rfl) (e := Extern.BytealgIndexByte.indexByte) (by kernel_rfl), Lib.run_indexByteString]
  rfl

end Go.Proofs.YtddnepddilbikaaDoor.QAll
