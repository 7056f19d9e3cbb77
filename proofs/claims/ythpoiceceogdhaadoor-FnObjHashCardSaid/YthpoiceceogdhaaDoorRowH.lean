/- For every kind and content: FnObjHash returns true. The listed variables are tied to the program's text by the card. -/
import Derived.Test.YthpoiceceogdhaaDoorRows
import Derived.Test.YthpoiceceogdhaaDoorTie
import Derived.Test.YthpoiceceogdhaaDoorCards
import Derived.Test.YthpoiceceogdhaaDoorWalkH
import Derived.WalkKit
import Derived.Lay
import Derived.ProofKit
import Derived.OpenShut
import Derived.ShutString
import Derived.ChangeOld
import Derived.Below
import Derived.SizedLaws
import Derived.OpenVars
import Derived.KernelRfl
import Derived.LaidMore
import Derived.Stop.Joined
import Derived.Stop.LaidErr
import Derived.SevenTiedAt
import Derived.Test.YthpoiceceogdhaaDoorOpen
namespace Go.Proofs.YthpoiceceogdhaaDoor.fnObjHash_row
open Go.ChangeShapes Go.WideShapes Go.ChangeAt Go.RowKit
open Go.ChangeMaps (open_string shut_string)
set_option linter.unusedVariables false
set_option linter.unusedSimpArgs false
theorem own : ownKnob Tryd.prog.godebug = none := by kernel_rfl
theorem laidOut : laidOutB Tryd.prog = true := by kernel_rfl
theorem rowed : varsRowed Tryd.prog Rows.fnObjHashSpec.vars = true := by kernel_rfl
theorem read3 : Tryd.prog.readableRec 3 = true := by kernel_rfl
theorem has3 : 3 < Tryd.prog.types.size := of_decide_eq_true (by kernel_rfl)
theorem read22 : Tryd.prog.readableRec 22 = true := by kernel_rfl
theorem has22 : 22 < Tryd.prog.types.size := of_decide_eq_true (by kernel_rfl)
abbrev laidL : List (String × DataW Unit) := Rows.fnObjHashRow.laid
theorem door_met (os : Os) (args : Array Value) : laidMetH Tryd.prog laidL ((World.laidAll Tryd.prog os laidL).forCall (fun _ _ => 0) ⟨#[], args, []⟩).memory := by
  rw [MakeChecks.laidMetH_plain _ _ _ (by kernel_rfl)]
  exact laidMet_laidAll args (by kernel_rfl) (by kernel_rfl)
theorem gT : Tryd.prog.globalNamed "internal/strconv.uint64pow10" = some 0 := by kernel_rfl
theorem gtT : (Tryd.prog.globals[0]?).map (·.type) = some 69 := by kernel_rfl
theorem tabT : (Rows.laid_internal_strconv_uint64pow10 : DataW Unit) = Lib.tabData .u64 Lib.pow10Tab := by kernel_rfl
theorem cellsU : Tryd.prog.cellsOf 49 = 1 := by kernel_rfl
theorem cellsT : Tryd.prog.cellsOf 69 = 20 := by kernel_rfl
theorem htab {W : World} (h : laidMetH Tryd.prog laidL W) : Lib.TabIs Tryd.prog W "internal/strconv.uint64pow10" .u64 Lib.pow10Tab := by
  rw [MakeChecks.laidMetH_plain _ _ _ (by kernel_rfl)] at h
  have h2 := h.tail.tail
  rw [tabT] at h2
  exact Lib.tabIs_of_head gT gtT Tryd.underlying69 Tryd.underlying49 cellsU cellsT h2
theorem wf_u8 {x : Int} (h : (Lit.int .u8 x).wf = true) : 0 ≤ x ∧ x ≤ 255 := by
  have h2 : (decide (IntKind.u8.min ≤ x) && decide (x ≤ IntKind.u8.max)) = true := h
  rw [Bool.and_eq_true, decide_eq_true_iff, decide_eq_true_iff] at h2
  have e1 : IntKind.u8.min = 0 := by decide
  have e2 : IntKind.u8.max = 255 := by decide
  rw [e1, e2] at h2
  exact h2

open Go.Proofs.YthpoiceceogdhaaDoorW.PrintWords
theorem opn5 : Open.Opn Tryd.prog 5 (Kd.int .u8) (fun x => (Lit.int .u8 x).wf = true) := Open.Opn.int Tryd.underlying5 (by kernel_rfl)
def B22 (l : List Int) : Prop := l.length * 1 ≤ 140737488351232 ∧ ∀ x ∈ l, (Lit.int .u8 x).wf = true
theorem opn22 : Open.Opn Tryd.prog 22 (Kd.slice 5 (Kd.int .u8)) B22 := (Open.Opn.slice Tryd.underlying22 (by kernel_rfl) (by kernel_rfl : Tryd.prog.bytesOf 5 = 1) opn5).imp (fun _ h => h)
set_option maxRecDepth 100000 in
theorem lifted (os : Os) (started : os.Started) (H : Type) (enc : TypeId × Value → H) :
    ReturnsInHanded {} Tryd.checked os 3 .any (fun w args => (Rows.fnObjHashSpec.pre enc Tryd.prog Tryd.f3 [] false w args ∧ laidMetH Tryd.prog laidL w) ∧ sizedMet enc Tryd.prog Tryd.f3 (OpenSpec.ofChange Rows.fnObjHashSpec) false w args)
      (Rows.fnObjHashSpec.post enc Tryd.prog Tryd.f3 false true false false) := by
  refine returnsInHanded_of_change_and (C := Tryd.checked) (X := fun w _ => laidMetH Tryd.prog laidL w) (fun _ _ _ hh h => h.of_heap hh) own started (by kernel_rfl) Tryd.func3
    (ChangeSpec.witness_shaped (enc := enc) (C := Tryd.checked) (os := os) (X := fun w _ => laidMetH Tryd.prog laidL w) false (World.laidAll Tryd.prog os laidL) #[.int .i64 0, .slice none 0 0] 8 (World.laidAll_os _ _ _) (World.shaped_of_ZipB (by kernel_rfl) (by kernel_rfl)) (by kernel_rfl) (by kernel_rfl) (by kernel_rfl) (door_met os _)) ?_
  intro W base args ds gs before hval0 hW hcnd hsz0 hL _
  have hsz : (DataW.weightsEach Tryd.prog (Tryd.f3.params.toList ++ Rows.fnObjHashSpec.plain.varTypes Tryd.prog) (ds ++ gs)).all (· ≤ reachBytes) = true := hsz0
  have hval : ∀ (j : Nat) t v, Tryd.f3.params[j]? = some t → args[j]? = some v → Value.okWide Tryd.prog W .any base t v := hval0
  have hW' := hW
  obtain ⟨p, q, hA0, hV, rfl, hfz, hnd⟩ := hW
  have hA : DataW.TrodAll enc Tryd.prog W 0 (fun _ => true) true Tryd.f3.params.toList args.toList ds p := hA0
  have hltA : ∀ x ∈ p, x.block < W.heap.size := fun x hx => hW'.lt x (List.mem_append_left _ hx)
  rw [Tryd.params3] at hA hval hsz
  obtain ⟨v0, vs0, d0, ds0, p0, q0, hargs, rfl, rfl, h0, r0⟩ := trodAll_cons hA
  obtain ⟨v1, vs1, d1, ds1, p1, q1, rfl, rfl, rfl, h1, r1⟩ := trodAll_cons r0
  obtain ⟨rfl, rfl, rfl⟩ := trodAll_nil r1
  obtain rfl : args = #[v0, v1] := by cases args; simp_all
  have hk0 := h0
  have hk1 := h1
  obtain ⟨rfl, rfl⟩ := trodVars_none hV
  obtain ⟨a0, rfl, rfl, rfl, y0⟩ := open_int Tryd.underlying3 (hval 0 3 v0 rfl rfl) h0
  obtain ⟨A1, l1, c1, rfl, hc1, hC1, hB1⟩ := Open.arg_slice opn22 (okWide_slice Tryd.underlying22 (hval 1 22 v1 rfl rfl)) h1 hsz (j := 1) rfl rfl

  refine (WalkH.law a0 A1 c1 l1 W hC1 hc1 (fun x hx => wf_u8 (hB1.2 x hx)) (htab hL)).mono fun e W' ⟨he, bel⟩ => ?_
  subst he
  exact ⟨_, rfl, _, _, _, [], _, [], hW', trodAll_mk1 (shut_bool Tryd.underlying4 _), (trodAll_cons_mk (Below.trod laidOut read3 has3 hk0 bel (fun x hx => hltA x (by first | (simp [hx]; done) | exact absurd hx List.not_mem_nil))) (trodAll_cons_mk (Below.trod laidOut read22 has22 hk1 bel (fun x hx => hltA x (by first | (simp [hx]; done) | exact absurd hx List.not_mem_nil))) trodAll_mk0)), rfl, bel.frame _, fun h => by cases h⟩
theorem over : Rows.fnObjHashRow.holds Tryd.pinned (OpenSpec.ofChange Rows.fnObjHashSpec) :=
  OpenClaim.holds_of_wide 3 Tryd.f3 rfl rfl rfl rfl rfl rfl rfl ⟨rfl, rfl, rfl, rfl, rfl⟩ rfl rfl rfl rfl rfl (by kernel_rfl) Tryd.func3 (by kernel_rfl)
    (of_decide_eq_true (by kernel_rfl)) (by unfold Func.isWrapper; first | (rw [if_pos (by decide +kernel)]; kernel_rfl) | (rw [if_neg (by decide +kernel)]; exact ⟨rfl, rfl⟩))
    (fun os started H enc _ => lifted os started H enc)
theorem proved : Rows.FnObjHashSaid := over
theorem card : Rows.FnObjHashCardSaid :=
  Claim7.holds_tied_plain_at .later [] [.data, .data, .data] true (true, "499a296a496da3e96a4f726fce8f0c254519ece693631d4ed2233553c415073d") false
    over (fun _ h => by cases h) (by kernel_rfl) (fun _ h => by cases h) fnObjHash_row_tie rfl ⟨rfl, rfl⟩ (by kernel_rfl) rfl
    (fun f fn hf hfn => by
      obtain rfl : f = 3 := Option.some.inj ((show Tryd.prog.funcNamed "loop.example/pub-g01474/laws.FnObjHash" = some 3 by kernel_rfl).symm.trans hf) |>.symm
      obtain rfl : fn = Tryd.f3 := (Option.some.inj (Tryd.func3.symm.trans hfn)).symm
      exact ⟨by kernel_rfl, fun j t ht => by
        rw [Tryd.params3] at ht
        have hm : t ∈ [3, 22] := by simpa using Array.mem_of_getElem? ht
        have hall : ([3, 22].all fun u => !Tryd.prog.wantsStandIn u) = true := by kernel_rfl
        exact (show Tryd.prog.wantsStandIn t = false by simpa using List.all_eq_true.1 hall t hm)⟩)
    (by kernel_rfl)
#print axioms card
end Go.Proofs.YthpoiceceogdhaaDoor.fnObjHash_row
namespace Go.Proofs.YthpoiceceogdhaaDoor
theorem fnObjHash_holds : Rows.FnObjHashCardSaid := fnObjHash_row.card
end Go.Proofs.YthpoiceceogdhaaDoor
