/- For every pattern and every path: FnIgnoreDeep returns true. -/
import Derived.Test.YtlnfkpmmnennbaaRows
import Derived.Test.YtlnfkpmmnennbaaWalkL
import Derived.WalkKit
import Derived.ProofKit
import Derived.OpenShut
import Derived.ShutString
import Derived.ChangeOld
import Derived.Below
import Derived.SizedLaws
import Derived.OpenVars
import Derived.KernelRfl
import Derived.Test.YtlnfkpmmnennbaaOpen
namespace Go.Proofs.Ytlnfkpmmnennbaa.fnIgnoreDeep_row
open Go.ChangeShapes Go.WideShapes Go.ChangeAt Go.RowKit
open Go.ChangeMaps (open_string shut_string)
set_option linter.unusedVariables false
set_option linter.unusedSimpArgs false
theorem own : ownKnob Try.prog.godebug = none := by kernel_rfl
theorem laidOut : laidOutB Try.prog = true := by kernel_rfl
theorem rowed : varsRowed Try.prog Rows.fnIgnoreDeepSpec.vars = true := by kernel_rfl
theorem read4 : Try.prog.readableRec 4 = true := by kernel_rfl
theorem has4 : 4 < Try.prog.types.size := of_decide_eq_true (by kernel_rfl)
theorem read9 : Try.prog.readableRec 9 = true := by kernel_rfl
theorem has9 : 9 < Try.prog.types.size := of_decide_eq_true (by kernel_rfl)
theorem read22 : Try.prog.readableRec 22 = true := by kernel_rfl
theorem has22 : 22 < Try.prog.types.size := of_decide_eq_true (by kernel_rfl)
open Go.Proofs.YtlnfkpmmnennbaaW.PrintWords
theorem opn9 : Open.Opn Try.prog 9 Kd.string (fun x => x.size ≤ 140737488351232) := Open.Opn.string Try.underlying9 (by kernel_rfl)
def B22 (l : List ByteArray) : Prop := l.length * 16 ≤ 140737488351232 ∧ ∀ x ∈ l, x.size ≤ 140737488351232
theorem opn22 : Open.Opn Try.prog 22 (Kd.slice 9 Kd.string) B22 := (Open.Opn.slice Try.underlying22 (by kernel_rfl) (by kernel_rfl : Try.prog.bytesOf 9 = 16) opn9).imp (fun _ h => h)
set_option maxRecDepth 100000 in
theorem lifted (os : Os) (started : os.Started) (H : Type) (enc : TypeId × Value → H) :
    ReturnsInHanded {} Try.checked os 3 .any (Rows.fnIgnoreDeepSpec.pre6 enc Try.prog Try.f3 Rows.fnIgnoreDeepRow.domain false) (Rows.fnIgnoreDeepSpec.post enc Try.prog Try.f3 false true false false) := by
  refine returnsInHanded_of_change_sized (C := Try.checked) own started (by kernel_rfl) Try.func3
    (ChangeSpec.witness6 (enc := enc) (C := Try.checked) false ⟨#[], #[.string ByteArray.empty, .slice none 0 0, .bool false], []⟩ 8 (by kernel_rfl) (by kernel_rfl) (by kernel_rfl) (by kernel_rfl)) ?_
  intro W base args ds gs before hval0 hW hcnd hsz0 _
  have hsz : (DataW.weightsEach Try.prog (Try.f3.params.toList ++ Rows.fnIgnoreDeepSpec.plain.varTypes Try.prog) (ds ++ gs)).all (· ≤ reachBytes) = true := hsz0
  have hval : ∀ (j : Nat) t v, Try.f3.params[j]? = some t → args[j]? = some v → Value.okWide Try.prog W .any base t v := hval0
  have hW' := hW
  obtain ⟨p, q, hA0, hV, rfl, hfz, hnd⟩ := hW
  have hA : DataW.TrodAll enc Try.prog W 0 (fun _ => true) true Try.f3.params.toList args.toList ds p := hA0
  have hltA : ∀ x ∈ p, x.block < W.heap.size := fun x hx => hW'.lt x (List.mem_append_left _ hx)
  rw [Try.params3] at hA hval hsz
  obtain ⟨v0, vs0, d0, ds0, p0, q0, hargs, rfl, rfl, h0, r0⟩ := trodAll_cons hA
  obtain ⟨v1, vs1, d1, ds1, p1, q1, rfl, rfl, rfl, h1, r1⟩ := trodAll_cons r0
  obtain ⟨v2, vs2, d2, ds2, p2, q2, rfl, rfl, rfl, h2, r2⟩ := trodAll_cons r1
  obtain ⟨rfl, rfl, rfl⟩ := trodAll_nil r2
  obtain rfl : args = #[v0, v1, v2] := by cases args; simp_all
  have hk0 := h0
  have hk1 := h1
  have hk2 := h2
  obtain ⟨rfl, rfl⟩ := trodVars_none hV
  obtain ⟨a0, rfl, rfl, rfl, y0⟩ := open_string Try.underlying9 (hval 0 9 v0 rfl rfl) h0
  have w0 : a0.size ≤ 140737488351232 := by
    have z := sized_string hsz (j := 0) (t := 9) rfl rfl
    rw [Array.length_toList] at z
    exact z
  obtain ⟨A1, l1, c1, rfl, hc1, hC1, hB1⟩ := Open.arg_slice opn22 (okWide_slice Try.underlying22 (hval 1 22 v1 rfl rfl)) h1 hsz (j := 1) rfl rfl
  obtain ⟨a2, rfl, rfl, rfl⟩ := open_bool Try.underlying4 (hval 2 4 v2 rfl rfl) h2
  refine (WalkL.deep a0 A1 c1 l1 a2 W hC1 hc1 w0 (by have := hB1.1; omega) hB1.2).mono fun e W' ⟨he, bel⟩ => ?_
  subst he
  exact ⟨_, rfl, _, _, _, [], _, [], hW', trodAll_mk1 (shut_bool Try.underlying4 _), (trodAll_cons_mk (Below.trod laidOut read9 has9 hk0 bel (fun x hx => hltA x (by first | (simp [hx]; done) | exact absurd hx List.not_mem_nil))) (trodAll_cons_mk (Below.trod laidOut read22 has22 hk1 bel (fun x hx => hltA x (by first | (simp [hx]; done) | exact absurd hx List.not_mem_nil))) (trodAll_cons_mk (Below.trod laidOut read4 has4 hk2 bel (fun x hx => hltA x (by first | (simp [hx]; done) | exact absurd hx List.not_mem_nil))) trodAll_mk0))), rfl, bel.frame _, fun h => by cases h⟩
theorem over : Rows.fnIgnoreDeepRow.holds Try.pinned (OpenSpec.ofChange Rows.fnIgnoreDeepSpec) :=
  OpenClaim.holds_of_wide 3 Try.f3 rfl rfl rfl rfl rfl rfl rfl ⟨rfl, rfl, rfl, rfl, rfl⟩ rfl rfl rfl rfl rfl (by kernel_rfl) Try.func3 (by kernel_rfl)
    (of_decide_eq_true (by kernel_rfl)) (by unfold Func.isWrapper; first | (rw [if_pos (by decide +kernel)]; kernel_rfl) | (rw [if_neg (by decide +kernel)]; exact ⟨rfl, rfl⟩))
    (fun os started H enc _ => lifted os started H enc)
theorem proved : Rows.FnIgnoreDeepSaid := over
#print axioms proved
end Go.Proofs.Ytlnfkpmmnennbaa.fnIgnoreDeep_row
namespace Go.Proofs.Ytlnfkpmmnennbaa
theorem fnIgnoreDeep_holds : Rows.FnIgnoreDeepSaid := fnIgnoreDeep_row.proved
end Go.Proofs.Ytlnfkpmmnennbaa
