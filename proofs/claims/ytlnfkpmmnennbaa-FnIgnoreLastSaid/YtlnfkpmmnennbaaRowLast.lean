/- For all patterns and every path: FnIgnoreLast returns true. -/
import Derived.Test.YtlnfkpmmnennbaaRows
import Derived.Test.YtlnfkpmmnennbaaWalkK
import Derived.WalkKit
import Derived.ProofKit
import Derived.OpenShut
import Derived.ShutString
import Derived.ChangeOld
import Derived.Below
import Derived.SizedLaws
import Derived.OpenVars
import Derived.KernelRfl
import Derived.Test.YtlnfkpmmnennbaaOpen
namespace Go.Proofs.Ytlnfkpmmnennbaa.fnIgnoreLast_row
open Go.ChangeShapes Go.WideShapes Go.ChangeAt Go.RowKit
open Go.ChangeMaps (open_string shut_string)
set_option linter.unusedVariables false
set_option linter.unusedSimpArgs false
theorem own : ownKnob Try.prog.godebug = none := by kernel_rfl
theorem laidOut : laidOutB Try.prog = true := by kernel_rfl
theorem rowed : varsRowed Try.prog Rows.fnIgnoreLastSpec.vars = true := by kernel_rfl
theorem read4 : Try.prog.readableRec 4 = true := by kernel_rfl
theorem has4 : 4 < Try.prog.types.size := of_decide_eq_true (by kernel_rfl)
theorem read22 : Try.prog.readableRec 22 = true := by kernel_rfl
theorem has22 : 22 < Try.prog.types.size := of_decide_eq_true (by kernel_rfl)
theorem read32 : Try.prog.readableRec 32 = true := by kernel_rfl
theorem has32 : 32 < Try.prog.types.size := of_decide_eq_true (by kernel_rfl)
open Go.Proofs.YtlnfkpmmnennbaaW.PrintWords
theorem opn9 : Open.Opn Try.prog 9 Kd.string (fun x => x.size ≤ 140737488351232) := Open.Opn.string Try.underlying9 (by kernel_rfl)
def B22 (l : List ByteArray) : Prop := l.length * 16 ≤ 140737488351232 ∧ ∀ x ∈ l, x.size ≤ 140737488351232
theorem opn22 : Open.Opn Try.prog 22 (Kd.slice 9 Kd.string) B22 := (Open.Opn.slice Try.underlying22 (by kernel_rfl) (by kernel_rfl : Try.prog.bytesOf 9 = 16) opn9).imp (fun _ h => h)
theorem opn4 : Open.Opn Try.prog 4 Kd.bool (fun x => True) := Open.Opn.bool Try.underlying4 (by kernel_rfl)
def B32 (l : List Bool) : Prop := l.length * 1 ≤ 140737488351232 ∧ ∀ x ∈ l, True
theorem opn32 : Open.Opn Try.prog 32 (Kd.slice 4 Kd.bool) B32 := (Open.Opn.slice Try.underlying32 (by kernel_rfl) (by kernel_rfl : Try.prog.bytesOf 4 = 1) opn4).imp (fun _ h => h)
set_option maxRecDepth 100000 in
theorem lifted (os : Os) (started : os.Started) (H : Type) (enc : TypeId × Value → H) :
    ReturnsInHanded {} Try.checked os 6 .any (Rows.fnIgnoreLastSpec.pre6 enc Try.prog Try.f6 Rows.fnIgnoreLastRow.domain false) (Rows.fnIgnoreLastSpec.post enc Try.prog Try.f6 false true false false) := by
  refine returnsInHanded_of_change_sized (C := Try.checked) own started (by kernel_rfl) Try.func6
    (ChangeSpec.witness6 (enc := enc) (C := Try.checked) false ⟨#[], #[.slice none 0 0, .slice none 0 0, .slice none 0 0, .bool false], []⟩ 8 (by kernel_rfl) (by kernel_rfl) (by kernel_rfl) (by kernel_rfl)) ?_
  intro W base args ds gs before hval0 hW hcnd hsz0 _
  have hsz : (DataW.weightsEach Try.prog (Try.f6.params.toList ++ Rows.fnIgnoreLastSpec.plain.varTypes Try.prog) (ds ++ gs)).all (· ≤ reachBytes) = true := hsz0
  have hval : ∀ (j : Nat) t v, Try.f6.params[j]? = some t → args[j]? = some v → Value.okWide Try.prog W .any base t v := hval0
  have hW' := hW
  obtain ⟨p, q, hA0, hV, rfl, hfz, hnd⟩ := hW
  have hA : DataW.TrodAll enc Try.prog W 0 (fun _ => true) true Try.f6.params.toList args.toList ds p := hA0
  have hltA : ∀ x ∈ p, x.block < W.heap.size := fun x hx => hW'.lt x (List.mem_append_left _ hx)
  rw [Try.params6] at hA hval hsz
  obtain ⟨v0, vs0, d0, ds0, p0, q0, hargs, rfl, rfl, h0, r0⟩ := trodAll_cons hA
  obtain ⟨v1, vs1, d1, ds1, p1, q1, rfl, rfl, rfl, h1, r1⟩ := trodAll_cons r0
  obtain ⟨v2, vs2, d2, ds2, p2, q2, rfl, rfl, rfl, h2, r2⟩ := trodAll_cons r1
  obtain ⟨v3, vs3, d3, ds3, p3, q3, rfl, rfl, rfl, h3, r3⟩ := trodAll_cons r2
  obtain ⟨rfl, rfl, rfl⟩ := trodAll_nil r3
  obtain rfl : args = #[v0, v1, v2, v3] := by cases args; simp_all
  have hk0 := h0
  have hk1 := h1
  have hk2 := h2
  have hk3 := h3
  obtain ⟨rfl, rfl⟩ := trodVars_none hV
  obtain ⟨A0, l0, c0, rfl, hc0, hC0, hB0⟩ := Open.arg_slice opn22 (okWide_slice Try.underlying22 (hval 0 22 v0 rfl rfl)) h0 hsz (j := 0) rfl rfl
  obtain ⟨A1, l1, c1, rfl, hc1, hC1, hB1⟩ := Open.arg_slice opn32 (okWide_slice Try.underlying32 (hval 1 32 v1 rfl rfl)) h1 hsz (j := 1) rfl rfl
  obtain ⟨A2, l2, c2, rfl, hc2, hC2, hB2⟩ := Open.arg_slice opn22 (okWide_slice Try.underlying22 (hval 2 22 v2 rfl rfl)) h2 hsz (j := 2) rfl rfl
  obtain ⟨a3, rfl, rfl, rfl⟩ := open_bool Try.underlying4 (hval 3 4 v3 rfl rfl) h3
  refine (WalkK.last A0 c0 l0 A1 c1 l1 A2 c2 l2 a3 W hC0 hc0 hC1 hc1 hC2 hc2 (by have := hB0.1; omega) hB0.2 (by have := hB2.1; omega) hB2.2).mono fun e W' ⟨he, bel⟩ => ?_
  subst he
  exact ⟨_, rfl, _, _, _, [], _, [], hW', trodAll_mk1 (shut_bool Try.underlying4 _), (trodAll_cons_mk (Below.trod laidOut read22 has22 hk0 bel (fun x hx => hltA x (by first | (simp [hx]; done) | exact absurd hx List.not_mem_nil))) (trodAll_cons_mk (Below.trod laidOut read32 has32 hk1 bel (fun x hx => hltA x (by first | (simp [hx]; done) | exact absurd hx List.not_mem_nil))) (trodAll_cons_mk (Below.trod laidOut read22 has22 hk2 bel (fun x hx => hltA x (by first | (simp [hx]; done) | exact absurd hx List.not_mem_nil))) (trodAll_cons_mk (Below.trod laidOut read4 has4 hk3 bel (fun x hx => hltA x (by first | (simp [hx]; done) | exact absurd hx List.not_mem_nil))) trodAll_mk0)))), rfl, bel.frame _, fun h => by cases h⟩
theorem over : Rows.fnIgnoreLastRow.holds Try.pinned (OpenSpec.ofChange Rows.fnIgnoreLastSpec) :=
  OpenClaim.holds_of_wide 6 Try.f6 rfl rfl rfl rfl rfl rfl rfl ⟨rfl, rfl, rfl, rfl, rfl⟩ rfl rfl rfl rfl rfl (by kernel_rfl) Try.func6 (by kernel_rfl)
    (of_decide_eq_true (by kernel_rfl)) (by unfold Func.isWrapper; first | (rw [if_pos (by decide +kernel)]; kernel_rfl) | (rw [if_neg (by decide +kernel)]; exact ⟨rfl, rfl⟩))
    (fun os started H enc _ => lifted os started H enc)
theorem proved : Rows.FnIgnoreLastSaid := over
#print axioms proved
end Go.Proofs.Ytlnfkpmmnennbaa.fnIgnoreLast_row
namespace Go.Proofs.Ytlnfkpmmnennbaa
theorem fnIgnoreLast_holds : Rows.FnIgnoreLastSaid := fnIgnoreLast_row.proved
end Go.Proofs.Ytlnfkpmmnennbaa
