/- For every list of at most 100 names that are Small and of at most 1000 bytes each: the name refs/../.. of them is valid. The sentinel ErrInvalidReferenceName is tied to the program's text by the card. -/
import Derived.Test.YtjeaehefnpjabaaDoorRows
import Derived.Test.YtjeaehefnpjabaaDoorTie
import Derived.Test.YtjeaehefnpjabaaDoorCards
import Derived.Test.YtjeaehefnpjabaaDoorWalkV
import Derived.WalkKit
import Derived.ProofKit
import Derived.OpenShut
import Derived.ShutString
import Derived.ChangeOld
import Derived.Below
import Derived.SizedLaws
import Derived.OpenVars
import Derived.KernelRfl
import Derived.LaidMore
import Derived.Stop.Joined
import Derived.Stop.LaidErr
import Derived.SevenTiedAt
import Derived.Test.YtjeaehefnpjabaaDoorOpen
namespace Go.Proofs.YtjeaehefnpjabaaDoor.fnRefValid_row
open Go.ChangeShapes Go.WideShapes Go.ChangeAt Go.RowKit
open Go.ChangeMaps (open_string shut_string)
set_option linter.unusedVariables false
theorem own : ownKnob Tryd.prog.godebug = none := by kernel_rfl
theorem laidOut : laidOutB Tryd.prog = true := by kernel_rfl
theorem rowed : varsRowed Tryd.prog Rows.fnRefValidSpec.vars = true := by kernel_rfl
theorem read22 : Tryd.prog.readableRec 22 = true := by kernel_rfl
theorem has22 : 22 < Tryd.prog.types.size := of_decide_eq_true (by kernel_rfl)
abbrev laidL : List (String × DataW Unit) := Rows.fnRefValidRow.laid
theorem door_met (os : Os) (args : Array Value) : laidMetH Tryd.prog laidL ((World.doorLaid Tryd.prog 28 os).forCall (fun _ _ => 0) ⟨#[], args, []⟩).memory :=
  laidMetH_of_parts3 (fuel := 8) (laidMet_of_run' 8 (by kernel_rfl) (by kernel_rfl)) (by kernel_rfl) (by kernel_rfl)
theorem star : "*" ++ "errors.errorString" = "*errors.errorString" := by decide
theorem rowE (u : TypeId) (h : Tryd.prog.typeName? 3 u = some "*errors.errorString") : u = 33 :=
  typeName_ptr_named (nm := "errors.errorString") (by rw [star]; kernel_rfl) (by kernel_rfl) (by decide) u (by rw [star]; exact h)
theorem cellsE : Tryd.prog.cellsOf 53 = 1 := by kernel_rfl
theorem cellsS : Tryd.prog.cellsOf 9 = 1 := by kernel_rfl
theorem g0 : Tryd.prog.globalNamed "loop.example/pub-g01474/pub/gogit/plumbing.ErrInvalidReferenceName" = some 0 := by kernel_rfl
theorem gt0 : (Tryd.prog.globals[0]?).map (·.type) = some 26 := by kernel_rfl
theorem of_laid {W : World} (h : laidMetH Tryd.prog laidL W) : (∃ a s, W.cell? ⟨0, 0, none⟩ = some (.iface 33 (.pointer (some a))) ∧ W.cell? a = some (.string s)) := by
  rw [MakeChecks.laidMetH_plain _ _ _ (by kernel_rfl)] at h
  obtain ⟨b0, s0, hv0, hc0, _, _⟩ := laid_sentinel h g0 gt0 Tryd.underlying26 rowE Tryd.underlying33 Tryd.underlying53 rfl rfl Tryd.underlying9 cellsE cellsS
  have e0 : W.cell? ⟨0, 0, none⟩ = some (.iface 33 (.pointer (some b0))) := by simpa using World.var?_cell g0 hv0 0
  exact ⟨b0, s0, e0, hc0⟩
open Go.Proofs.YtjeaehefnpjabaaDoorW.PrintWords
theorem opn9 : Open.Opn Tryd.prog 9 Kd.string (fun x => x.size ≤ 140737488351232) := Open.Opn.string Tryd.underlying9 (by kernel_rfl)
def B22 (l : List ByteArray) : Prop := l.length * 16 ≤ 140737488351232 ∧ ∀ x ∈ l, x.size ≤ 140737488351232
theorem opn22 : Open.Opn Tryd.prog 22 (Kd.slice 9 Kd.string) B22 := (Open.Opn.slice Tryd.underlying22 (by kernel_rfl) (by kernel_rfl : Tryd.prog.bytesOf 9 = 16) opn9).imp (fun _ h => h)
theorem vars_len {H : Type} {enc : TypeId × Value → H} {P : Program} {w : World} {sp : Nat → Bool} : ∀ {ns : List String} {gs : List (DataW H)} {ps : List MemPlace}, DataW.TrodVars enc P w sp ns gs ps → gs.length = ns.length
  | [], [], _, _ => rfl
  | [], _ :: _, _, h => h.elim
  | _ :: _, [], _, h => h.elim
  | _ :: _, _ :: _, _, h => by obtain ⟨g, t, cs, fuel, p, q, _, _, _, _, hs, _⟩ := h; simp [vars_len hs]
set_option maxRecDepth 100000 in
theorem lifted (os : Os) (started : os.Started) (H : Type) (enc : TypeId × Value → H) :
    ReturnsInHanded {} Tryd.checked os 3 .any (fun w args => (Rows.fnRefValidSpec.pre enc Tryd.prog Tryd.f3 [] false w args ∧ laidMetH Tryd.prog laidL w) ∧ sizedMet enc Tryd.prog Tryd.f3 (OpenSpec.ofChange Rows.fnRefValidSpec) false w args)
      (Rows.fnRefValidSpec.post enc Tryd.prog Tryd.f3 false true false false) := by
  refine returnsInHanded_of_change_and (C := Tryd.checked) (X := fun w _ => laidMetH Tryd.prog laidL w) (fun _ _ _ hh h => h.of_heap hh) own started (by kernel_rfl) Tryd.func3
    (ChangeSpec.witness_shaped (enc := enc) (C := Tryd.checked) (os := os) (X := fun w _ => laidMetH Tryd.prog laidL w) false (World.doorLaid Tryd.prog 28 os) #[.slice none 0 0] 8 rfl (World.shaped_of_RefB (by kernel_rfl) (by kernel_rfl)) (by kernel_rfl) (by kernel_rfl) (by kernel_rfl) (door_met os _)) ?_
  intro W base args ds gs before hval0 hW hcnd hsz0 hL _
  have hsz : (DataW.weightsEach Tryd.prog (Tryd.f3.params.toList ++ Rows.fnRefValidSpec.plain.varTypes Tryd.prog) (ds ++ gs)).all (· ≤ reachBytes) = true := hsz0
  have hval : ∀ (j : Nat) t v, Tryd.f3.params[j]? = some t → args[j]? = some v → Value.okWide Tryd.prog W .any base t v := hval0
  have hW' := hW
  obtain ⟨p, q, hA0, hV, rfl, hfz, hnd⟩ := hW
  have hA : DataW.TrodAll enc Tryd.prog W 0 (fun _ => true) true Tryd.f3.params.toList args.toList ds p := hA0
  have hltA : ∀ x ∈ p, x.block < W.heap.size := fun x hx => hW'.lt x (List.mem_append_left _ hx)
  rw [Tryd.params3] at hA hval hsz
  obtain ⟨v0, vs0, d0, ds0, p0, q0, hargs, rfl, rfl, h0, r0⟩ := trodAll_cons hA
  obtain ⟨rfl, rfl, rfl⟩ := trodAll_nil r0
  obtain rfl : args = #[v0] := by cases args; simp_all
  have hk0 := h0
  have hVk := hV
  have hVl : gs.length = 1 := vars_len hV
  obtain ⟨t0, u0, rfl⟩ := List.exists_cons_of_length_eq_add_one hVl
  have hVl1 : u0.length = 0 := by have z := hVl; simp only [List.length_cons] at z; omega
  obtain rfl := List.eq_nil_of_length_eq_zero hVl1
  obtain ⟨A0, l0, c0, rfl, hc0, hC0, hB0⟩ := Open.arg_slice opn22 (okWide_slice Tryd.underlying22 (hval 0 22 v0 rfl rfl)) h0 hsz (j := 0) rfl rfl

  refine (WalkV.law A0 c0 l0 W hC0 hc0 (by have := hB0.1; omega) (fun q hq => by have := hB0.2 q hq; omega)).mono fun e W' ⟨he, bel⟩ => ?_
  subst he
  exact ⟨_, rfl, _, _, _, [], _, _, hW', trodAll_mk1 (shut_bool Tryd.underlying4 _), (trodAll_cons_mk (Below.trod laidOut read22 has22 hk0 bel (fun x hx => hltA x (by simp [hx]))) trodAll_mk0), (Below.trodVars laidOut bel rowed hVk), bel.frame _, fun h => by cases h⟩
theorem over : Rows.fnRefValidRow.holds Tryd.pinned (OpenSpec.ofChange Rows.fnRefValidSpec) :=
  OpenClaim.holds_of_wide 3 Tryd.f3 rfl rfl rfl rfl rfl rfl rfl ⟨rfl, rfl, rfl, rfl, rfl⟩ rfl rfl rfl rfl rfl (by kernel_rfl) Tryd.func3 (by kernel_rfl)
    (of_decide_eq_true (by kernel_rfl)) (by unfold Func.isWrapper; first | (rw [if_pos (by decide +kernel)]; kernel_rfl) | (rw [if_neg (by decide +kernel)]; exact ⟨rfl, rfl⟩))
    (fun os started H enc _ => lifted os started H enc)
theorem proved : Rows.FnRefValidSaid := over
theorem card : Rows.FnRefValidCardSaid :=
  Claim7.holds_tied_plain_at .later [] [.sentinel] true (true, "4615a5e3d21012e924cbdddae1c8eafbdb6775dc3f9ba24ef205065d505b738a") false
    over (fun _ h => by cases h) (by kernel_rfl) (fun _ h => by cases h) fnRefValid_row_tie rfl ⟨rfl, rfl⟩ (by kernel_rfl) rfl
    (fun f fn hf hfn => by
      obtain rfl : f = 3 := Option.some.inj ((show Tryd.prog.funcNamed "loop.example/pub-g01474/laws.FnRefValid" = some 3 by kernel_rfl).symm.trans hf) |>.symm
      obtain rfl : fn = Tryd.f3 := (Option.some.inj (Tryd.func3.symm.trans hfn)).symm
      exact ⟨by kernel_rfl, fun j t ht => by
        rw [Tryd.params3] at ht
        have hm : t ∈ [22] := by simpa using Array.mem_of_getElem? ht
        have hall : ([22].all fun u => !Tryd.prog.wantsStandIn u) = true := by kernel_rfl
        exact (show Tryd.prog.wantsStandIn t = false by simpa using List.all_eq_true.1 hall t hm)⟩)
    (by kernel_rfl)
#print axioms card
end Go.Proofs.YtjeaehefnpjabaaDoor.fnRefValid_row
namespace Go.Proofs.YtjeaehefnpjabaaDoor
theorem fnRefValid_holds : Rows.FnRefValidCardSaid := fnRefValid_row.card
end Go.Proofs.YtjeaehefnpjabaaDoor
