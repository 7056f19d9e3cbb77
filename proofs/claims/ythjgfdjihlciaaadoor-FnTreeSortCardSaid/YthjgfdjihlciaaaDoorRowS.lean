/- For every list: FnTreeSort returns true. The listed variables are tied to the program's text by the card. -/
import Derived.Test.YthjgfdjihlciaaaDoorRows
import Derived.Test.YthjgfdjihlciaaaDoorTie
import Derived.Test.YthjgfdjihlciaaaDoorCards
import Derived.Test.YthjgfdjihlciaaaDoorWalkS
import Derived.WalkKit
import Derived.ProofKit
import Derived.OpenShut
import Derived.ShutString
import Derived.ChangeOld
import Derived.Below
import Derived.SizedLaws
import Derived.OpenVars
import Derived.KernelRfl
import Derived.LaidMore
import Derived.Stop.Joined
import Derived.Stop.LaidErr
import Derived.SevenTiedAt
import Derived.Test.YthjgfdjihlciaaaDoorOpen
namespace Go.Proofs.YthjgfdjihlciaaaDoor.fnTreeSort_row
open Go.ChangeShapes Go.WideShapes Go.ChangeAt Go.RowKit
open Go.ChangeMaps (open_string shut_string)
set_option linter.unusedVariables false
set_option linter.unusedSimpArgs false
theorem own : ownKnob Tryd.prog.godebug = none := by kernel_rfl
theorem laidOut : laidOutB Tryd.prog = true := by kernel_rfl
theorem rowed : varsRowed Tryd.prog Rows.fnTreeSortSpec.vars = true := by kernel_rfl
theorem read22 : Tryd.prog.readableRec 22 = true := by kernel_rfl
theorem has22 : 22 < Tryd.prog.types.size := of_decide_eq_true (by kernel_rfl)
abbrev laidL : List (String × DataW Unit) := Rows.fnTreeSortRow.laid
theorem door_met (os : Os) (args : Array Value) : laidMetH Tryd.prog laidL ((World.doorLaid Tryd.prog 28 os).forCall (fun _ _ => 0) ⟨#[], args, []⟩).memory :=
  laidMetH_of_parts3 (fuel := 8) (laidMet_of_run' 8 (by kernel_rfl) (by kernel_rfl)) (by kernel_rfl) (by kernel_rfl)
theorem star : "*" ++ "errors.errorString" = "*errors.errorString" := by decide
theorem rowE (u : TypeId) (h : Tryd.prog.typeName? 3 u = some "*errors.errorString") : u = 85 :=
  typeName_ptr_named (nm := "errors.errorString") (by rw [star]; kernel_rfl) (by kernel_rfl) (by decide) u (by rw [star]; exact h)
theorem cellsE : Tryd.prog.cellsOf 105 = 1 := by kernel_rfl
theorem cellsS : Tryd.prog.cellsOf 9 = 1 := by kernel_rfl
theorem g0 : Tryd.prog.globalNamed "encoding/hex.ErrLength" = some 0 := by kernel_rfl
theorem gt0 : (Tryd.prog.globals[0]?).map (·.type) = some 54 := by kernel_rfl
theorem of_laid {W : World} (h : laidMetH Tryd.prog laidL W) : (∃ a s, W.cell? ⟨0, 0, none⟩ = some (.iface 85 (.pointer (some a))) ∧ W.cell? a = some (.string s)) := by
  rw [MakeChecks.laidMetH_plain _ _ _ (by kernel_rfl)] at h
  obtain ⟨b0, s0, hv0, hc0, _, _⟩ := laid_sentinel h g0 gt0 Tryd.underlying54 rowE Tryd.underlying85 Tryd.underlying105 rfl rfl Tryd.underlying9 cellsE cellsS
  have e0 : W.cell? ⟨0, 0, none⟩ = some (.iface 85 (.pointer (some b0))) := by simpa using World.var?_cell g0 hv0 0
  exact ⟨b0, s0, e0, hc0⟩
open Go.Proofs.YthjgfdjihlciaaaDoorW.PrintWords
theorem opn9 : Open.Opn Tryd.prog 9 Kd.string (fun x => x.size ≤ 140737488351232) := Open.Opn.string Tryd.underlying9 (by kernel_rfl)
theorem opn26 : Open.Opn Tryd.prog 26 (Kd.int .u32) (fun x => (Lit.int .u32 x).wf = true) := Open.Opn.int Tryd.underlying26 (by kernel_rfl)
def B28 (x : Go.Proofs.YthjgfdjihlciaaaDoor.QAll.S28) : Prop := x.f0.size ≤ 140737488351232 ∧ (Lit.int .u32 x.f1).wf = true ∧ x.f2.size ≤ 140737488351232
theorem opn28 : Open.Opn Tryd.prog 28 Go.Proofs.YthjgfdjihlciaaaDoor.QAll.k28 B28 := (Open.Opn.iso (fun x : Go.Proofs.YthjgfdjihlciaaaDoor.QAll.S28 => (x.f0, x.f1, x.f2)) (fun p => ⟨p.1, p.2.1, p.2.2⟩) (fun _ => rfl) (Open.Opn.struct Tryd.underlying28 (by kernel_rfl) (Open.OpnF.cons rfl rfl opn9 (Open.OpnF.cons rfl rfl opn26 (Open.OpnF.last rfl rfl opn9))))).imp (fun _ h => h)
def B22 (l : List Go.Proofs.YthjgfdjihlciaaaDoor.QAll.S28) : Prop := l.length * 40 ≤ 140737488351232 ∧ ∀ x ∈ l, B28 x
theorem opn22 : Open.Opn Tryd.prog 22 (Kd.slice 28 Go.Proofs.YthjgfdjihlciaaaDoor.QAll.k28) B22 := (Open.Opn.slice Tryd.underlying22 (by kernel_rfl) (by kernel_rfl : Tryd.prog.bytesOf 28 = 40) opn28).imp (fun _ h => h)
set_option maxRecDepth 100000 in
theorem lifted (os : Os) (started : os.Started) (H : Type) (enc : TypeId × Value → H) :
    ReturnsInHanded {} Tryd.checked os 3 .any (fun w args => (Rows.fnTreeSortSpec.pre enc Tryd.prog Tryd.f3 [] false w args ∧ laidMetH Tryd.prog laidL w) ∧ sizedMet enc Tryd.prog Tryd.f3 (OpenSpec.ofChange Rows.fnTreeSortSpec) false w args)
      (Rows.fnTreeSortSpec.post enc Tryd.prog Tryd.f3 false true false false) := by
  refine returnsInHanded_of_change_and (C := Tryd.checked) (X := fun w _ => laidMetH Tryd.prog laidL w) (fun _ _ _ hh h => h.of_heap hh) own started (by kernel_rfl) Tryd.func3
    (ChangeSpec.witness_shaped (enc := enc) (C := Tryd.checked) (os := os) (X := fun w _ => laidMetH Tryd.prog laidL w) false (World.doorLaid Tryd.prog 28 os) #[.slice none 0 0] 8 rfl (World.shaped_of_RefB (by kernel_rfl) (by kernel_rfl)) (by kernel_rfl) (by kernel_rfl) (by kernel_rfl) (door_met os _)) ?_
  intro W base args ds gs before hval0 hW hcnd hsz0 hL _
  have hsz : (DataW.weightsEach Tryd.prog (Tryd.f3.params.toList ++ Rows.fnTreeSortSpec.plain.varTypes Tryd.prog) (ds ++ gs)).all (· ≤ reachBytes) = true := hsz0
  have hval : ∀ (j : Nat) t v, Tryd.f3.params[j]? = some t → args[j]? = some v → Value.okWide Tryd.prog W .any base t v := hval0
  have hW' := hW
  obtain ⟨p, q, hA0, hV, rfl, hfz, hnd⟩ := hW
  have hA : DataW.TrodAll enc Tryd.prog W 0 (fun _ => true) true Tryd.f3.params.toList args.toList ds p := hA0
  have hltA : ∀ x ∈ p, x.block < W.heap.size := fun x hx => hW'.lt x (List.mem_append_left _ hx)
  rw [Tryd.params3] at hA hval hsz
  obtain ⟨v0, vs0, d0, ds0, p0, q0, hargs, rfl, rfl, h0, r0⟩ := trodAll_cons hA
  obtain ⟨rfl, rfl, rfl⟩ := trodAll_nil r0
  obtain rfl : args = #[v0] := by cases args; simp_all
  have hk0 := h0
  obtain ⟨rfl, rfl⟩ := trodVars_none hV
  obtain ⟨A0, l0, c0, rfl, hc0, hC0, hB0⟩ := Open.arg_slice opn22 (okWide_slice Tryd.underlying22 (hval 0 22 v0 rfl rfl)) h0 hsz (j := 0) rfl rfl
  obtain ⟨b0, s0, e0, f0⟩ := of_laid hL
  refine (WalkS.law A0 c0 l0 W _ hC0 hc0 e0).mono fun e W' ⟨he, bel⟩ => ?_
  subst he
  exact ⟨_, rfl, _, _, _, [], _, [], hW', trodAll_mk1 (shut_bool Tryd.underlying4 _), (trodAll_cons_mk (Below.trod laidOut read22 has22 hk0 bel (fun x hx => hltA x (by first | (simp [hx]; done) | exact absurd hx List.not_mem_nil))) trodAll_mk0), rfl, bel.frame _, fun h => by cases h⟩
theorem over : Rows.fnTreeSortRow.holds Tryd.pinned (OpenSpec.ofChange Rows.fnTreeSortSpec) :=
  OpenClaim.holds_of_wide 3 Tryd.f3 rfl rfl rfl rfl rfl rfl rfl ⟨rfl, rfl, rfl, rfl, rfl⟩ rfl rfl rfl rfl rfl (by kernel_rfl) Tryd.func3 (by kernel_rfl)
    (of_decide_eq_true (by kernel_rfl)) (by unfold Func.isWrapper; first | (rw [if_pos (by decide +kernel)]; kernel_rfl) | (rw [if_neg (by decide +kernel)]; exact ⟨rfl, rfl⟩))
    (fun os started H enc _ => lifted os started H enc)
theorem proved : Rows.FnTreeSortSaid := over
theorem card : Rows.FnTreeSortCardSaid :=
  Claim7.holds_tied_plain_at .later [] [.sentinel] true (true, "ac30e1978c3f1e1dcbccceedc2fceaa61cf280cbf357e44cb8c24214583c3c18") false
    over (fun _ h => by cases h) (by kernel_rfl) (fun _ h => by cases h) fnTreeSort_row_tie rfl ⟨rfl, rfl⟩ (by kernel_rfl) rfl
    (fun f fn hf hfn => by
      obtain rfl : f = 3 := Option.some.inj ((show Tryd.prog.funcNamed "loop.example/pub-g01474/laws.FnTreeSort" = some 3 by kernel_rfl).symm.trans hf) |>.symm
      obtain rfl : fn = Tryd.f3 := (Option.some.inj (Tryd.func3.symm.trans hfn)).symm
      exact ⟨by kernel_rfl, fun j t ht => by
        rw [Tryd.params3] at ht
        have hm : t ∈ [22] := by simpa using Array.mem_of_getElem? ht
        have hall : ([22].all fun u => !Tryd.prog.wantsStandIn u) = true := by kernel_rfl
        exact (show Tryd.prog.wantsStandIn t = false by simpa using List.all_eq_true.1 hall t hm)⟩)
    (by kernel_rfl)
#print axioms card
end Go.Proofs.YthjgfdjihlciaaaDoor.fnTreeSort_row
namespace Go.Proofs.YthjgfdjihlciaaaDoor
theorem fnTreeSort_holds : Rows.FnTreeSortCardSaid := fnTreeSort_row.card
end Go.Proofs.YthjgfdjihlciaaaDoor
