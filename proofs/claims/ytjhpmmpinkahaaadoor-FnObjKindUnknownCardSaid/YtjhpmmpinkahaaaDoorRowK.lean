/- For every text but the six names of kinds (and of at most a million bytes): ParseType refuses it, and takes blob. The sentinel ErrInvalidType is tied to the program's text by the card. -/
import Derived.Test.YtjhpmmpinkahaaaDoorRows
import Derived.Test.YtjhpmmpinkahaaaDoorTie
import Derived.Test.YtjhpmmpinkahaaaDoorCards
import Derived.Test.YtjhpmmpinkahaaaDoorWalksK
import Derived.WalkKit
import Derived.ProofKit
import Derived.OpenShut
import Derived.ShutString
import Derived.ChangeOld
import Derived.Below
import Derived.SizedLaws
import Derived.OpenVars
import Derived.KernelRfl
import Derived.LaidMore
import Derived.Stop.Joined
import Derived.Stop.LaidErr
import Derived.SevenTiedAt
namespace Go.Proofs.YtjhpmmpinkahaaaDoor.fnObjKindUnknown_row
open Go.ChangeShapes Go.WideShapes Go.ChangeAt Go.RowKit
open Go.ChangeMaps (open_string shut_string)
set_option linter.unusedVariables false
theorem own : ownKnob Tryd.prog.godebug = none := by kernel_rfl
theorem laidOut : laidOutB Tryd.prog = true := by kernel_rfl
theorem rowed : varsRowed Tryd.prog Rows.fnObjKindUnknownSpec.vars = true := by kernel_rfl
theorem read9 : Tryd.prog.readableRec 9 = true := by kernel_rfl
theorem has9 : 9 < Tryd.prog.types.size := of_decide_eq_true (by kernel_rfl)
abbrev laidL : List (String × DataW Unit) := Rows.fnObjKindUnknownRow.laid
theorem door_met (os : Os) (args : Array Value) : laidMetH Tryd.prog laidL ((World.doorLaid Tryd.prog 28 os).forCall (fun _ _ => 0) ⟨#[], args, []⟩).memory :=
  laidMetH_of_parts3 (fuel := 8) (laidMet_of_run' 8 (by kernel_rfl) (by kernel_rfl)) (by kernel_rfl) (by kernel_rfl)
theorem star : "*" ++ "errors.errorString" = "*errors.errorString" := by decide
theorem rowE (u : TypeId) (h : Tryd.prog.typeName? 3 u = some "*errors.errorString") : u = 31 :=
  typeName_ptr_named (nm := "errors.errorString") (by rw [star]; kernel_rfl) (by kernel_rfl) (by decide) u (by rw [star]; exact h)
theorem cellsE : Tryd.prog.cellsOf 52 = 1 := by kernel_rfl
theorem cellsS : Tryd.prog.cellsOf 9 = 1 := by kernel_rfl
theorem g0 : Tryd.prog.globalNamed "loop.example/pub-g01474/pub/gogit/plumbing.ErrInvalidType" = some 0 := by kernel_rfl
theorem gt0 : (Tryd.prog.globals[0]?).map (·.type) = some 28 := by kernel_rfl
theorem of_laid {W : World} (h : laidMetH Tryd.prog laidL W) : (∃ a s, W.cell? ⟨0, 0, none⟩ = some (.iface 31 (.pointer (some a))) ∧ W.cell? a = some (.string s)) := by
  rw [MakeChecks.laidMetH_plain _ _ _ (by kernel_rfl)] at h
  obtain ⟨b0, s0, hv0, hc0, _, _⟩ := laid_sentinel h g0 gt0 Tryd.underlying28 rowE Tryd.underlying31 Tryd.underlying52 rfl rfl Tryd.underlying9 cellsE cellsS
  have e0 : W.cell? ⟨0, 0, none⟩ = some (.iface 31 (.pointer (some b0))) := by simpa using World.var?_cell g0 hv0 0
  exact ⟨b0, s0, e0, hc0⟩
theorem vars_len {H : Type} {enc : TypeId × Value → H} {P : Program} {w : World} {sp : Nat → Bool} : ∀ {ns : List String} {gs : List (DataW H)} {ps : List MemPlace}, DataW.TrodVars enc P w sp ns gs ps → gs.length = ns.length
  | [], [], _, _ => rfl
  | [], _ :: _, _, h => h.elim
  | _ :: _, [], _, h => h.elim
  | _ :: _, _ :: _, _, h => by obtain ⟨g, t, cs, fuel, p, q, _, _, _, _, hs, _⟩ := h; simp [vars_len hs]
set_option maxRecDepth 100000 in
theorem lifted (os : Os) (started : os.Started) (H : Type) (enc : TypeId × Value → H) :
    ReturnsInHanded {} Tryd.checked os 3 .any (fun w args => (Rows.fnObjKindUnknownSpec.pre enc Tryd.prog Tryd.f3 [] false w args ∧ laidMetH Tryd.prog laidL w) ∧ sizedMet enc Tryd.prog Tryd.f3 (OpenSpec.ofChange Rows.fnObjKindUnknownSpec) false w args)
      (Rows.fnObjKindUnknownSpec.post enc Tryd.prog Tryd.f3 false true false false) := by
  refine returnsInHanded_of_change_and (C := Tryd.checked) (X := fun w _ => laidMetH Tryd.prog laidL w) (fun _ _ _ hh h => h.of_heap hh) own started (by kernel_rfl) Tryd.func3
    (ChangeSpec.witness_shaped (enc := enc) (C := Tryd.checked) (os := os) (X := fun w _ => laidMetH Tryd.prog laidL w) false (World.doorLaid Tryd.prog 28 os) #[.string ByteArray.empty] 8 rfl (World.shaped_of_RefB (by kernel_rfl) (by kernel_rfl)) (by kernel_rfl) (by kernel_rfl) (by kernel_rfl) (door_met os _)) ?_
  intro W base args ds gs before hval0 hW hcnd hsz0 hL _
  have hsz : (DataW.weightsEach Tryd.prog (Tryd.f3.params.toList ++ Rows.fnObjKindUnknownSpec.plain.varTypes Tryd.prog) (ds ++ gs)).all (· ≤ reachBytes) = true := hsz0
  have hval : ∀ (j : Nat) t v, Tryd.f3.params[j]? = some t → args[j]? = some v → Value.okWide Tryd.prog W .any base t v := hval0
  have hW' := hW
  obtain ⟨p, q, hA0, hV, rfl, hfz, hnd⟩ := hW
  have hA : DataW.TrodAll enc Tryd.prog W 0 (fun _ => true) true Tryd.f3.params.toList args.toList ds p := hA0
  have hltA : ∀ x ∈ p, x.block < W.heap.size := fun x hx => hW'.lt x (List.mem_append_left _ hx)
  rw [Tryd.params3] at hA hval hsz
  obtain ⟨v0, vs0, d0, ds0, p0, q0, hargs, rfl, rfl, h0, r0⟩ := trodAll_cons hA
  obtain ⟨rfl, rfl, rfl⟩ := trodAll_nil r0
  obtain rfl : args = #[v0] := by cases args; simp_all
  have hk0 := h0
  have hVk := hV
  have hVl : gs.length = 1 := vars_len hV
  obtain ⟨t0, u0, rfl⟩ := List.exists_cons_of_length_eq_add_one hVl
  have hVl1 : u0.length = 0 := by have z := hVl; simp only [List.length_cons] at z; omega
  obtain rfl := List.eq_nil_of_length_eq_zero hVl1
  obtain ⟨a0, rfl, rfl, rfl, y0⟩ := open_string Tryd.underlying9 (hval 0 9 v0 rfl rfl) h0
  have w0 : a0.size ≤ 140737488351232 := by
    have z := sized_string hsz (j := 0) (t := 9) rfl rfl
    rw [Array.length_toList] at z
    exact z
  obtain ⟨b0, s0, e0, f0⟩ := of_laid hL
  refine (WalksK.law a0 W b0 e0).mono fun e W' ⟨he, bel⟩ => ?_
  subst he
  exact ⟨_, rfl, _, _, _, [], _, _, hW', trodAll_mk1 (shut_bool Tryd.underlying4 _), (trodAll_cons_mk (Below.trod laidOut read9 has9 hk0 bel (fun x hx => hltA x (by simp [hx]))) trodAll_mk0), (Below.trodVars laidOut bel rowed hVk), bel.frame _, fun h => by cases h⟩
theorem over : Rows.fnObjKindUnknownRow.holds Tryd.pinned (OpenSpec.ofChange Rows.fnObjKindUnknownSpec) :=
  OpenClaim.holds_of_wide 3 Tryd.f3 rfl rfl rfl rfl rfl rfl rfl ⟨rfl, rfl, rfl, rfl, rfl⟩ rfl rfl rfl rfl rfl (by kernel_rfl) Tryd.func3 (by kernel_rfl)
    (of_decide_eq_true (by kernel_rfl)) (by unfold Func.isWrapper; first | (rw [if_pos (by decide +kernel)]; kernel_rfl) | (rw [if_neg (by decide +kernel)]; exact ⟨rfl, rfl⟩))
    (fun os started H enc _ => lifted os started H enc)
theorem proved : Rows.FnObjKindUnknownSaid := over
theorem card : Rows.FnObjKindUnknownCardSaid :=
  Claim7.holds_tied_plain_at .later [] [.sentinel] true (true, "9234af23c19ce7b0c4895b392d1d7ed60cc0851ad48904c42b3d39cbe0a7682a") false
    over (fun _ h => by cases h) (by kernel_rfl) (fun _ h => by cases h) fnObjKindUnknown_row_tie rfl ⟨rfl, rfl⟩ (by kernel_rfl) rfl
    (fun f fn hf hfn => by
      obtain rfl : f = 3 := Option.some.inj ((show Tryd.prog.funcNamed "loop.example/pub-g01474/laws.FnObjKindUnknown" = some 3 by kernel_rfl).symm.trans hf) |>.symm
      obtain rfl : fn = Tryd.f3 := (Option.some.inj (Tryd.func3.symm.trans hfn)).symm
      exact ⟨by kernel_rfl, fun j t ht => by
        rw [Tryd.params3] at ht
        have hm : t ∈ [9] := by simpa using Array.mem_of_getElem? ht
        have hall : ([9].all fun u => !Tryd.prog.wantsStandIn u) = true := by kernel_rfl
        exact (show Tryd.prog.wantsStandIn t = false by simpa using List.all_eq_true.1 hall t hm)⟩)
    (by kernel_rfl)
#print axioms card
end Go.Proofs.YtjhpmmpinkahaaaDoor.fnObjKindUnknown_row
namespace Go.Proofs.YtjhpmmpinkahaaaDoor
theorem fnObjKindUnknown_holds : Rows.FnObjKindUnknownCardSaid := fnObjKindUnknown_row.card
end Go.Proofs.YtjhpmmpinkahaaaDoor
