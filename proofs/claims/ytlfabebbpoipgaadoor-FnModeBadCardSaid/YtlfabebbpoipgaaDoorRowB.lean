/- For every text and every byte that is no digit in base 8: FnModeBad returns true. The listed variables are tied to the program's text by the card. -/
import Derived.Test.YtlfabebbpoipgaaDoorRows
import Derived.Test.YtlfabebbpoipgaaDoorTie
import Derived.Test.YtlfabebbpoipgaaDoorCards
import Derived.Test.YtlfabebbpoipgaaDoorWalkB
import Derived.WalkKit
import Derived.ProofKit
import Derived.OpenShut
import Derived.ShutString
import Derived.ChangeOld
import Derived.Below
import Derived.SizedLaws
import Derived.OpenVars
import Derived.KernelRfl
import Derived.LaidMore
import Derived.Stop.Joined
import Derived.Stop.LaidErr
import Derived.SevenTiedAt
namespace Go.Proofs.YtlfabebbpoipgaaDoor.fnModeBad_row
open Go.ChangeShapes Go.WideShapes Go.ChangeAt Go.RowKit
open Go.ChangeMaps (open_string shut_string)
set_option linter.unusedVariables false
set_option linter.unusedSimpArgs false
theorem own : ownKnob Tryd.prog.godebug = none := by kernel_rfl
theorem laidOut : laidOutB Tryd.prog = true := by kernel_rfl
theorem rowed : varsRowed Tryd.prog Rows.fnModeBadSpec.vars = true := by kernel_rfl
theorem read5 : Tryd.prog.readableRec 5 = true := by kernel_rfl
theorem has5 : 5 < Tryd.prog.types.size := of_decide_eq_true (by kernel_rfl)
theorem read9 : Tryd.prog.readableRec 9 = true := by kernel_rfl
theorem has9 : 9 < Tryd.prog.types.size := of_decide_eq_true (by kernel_rfl)
abbrev laidL : List (String × DataW Unit) := Rows.fnModeBadRow.laid
theorem door_met (os : Os) (args : Array Value) : laidMetH Tryd.prog laidL ((World.doorLaid Tryd.prog 62 os).forCall (fun _ _ => 0) ⟨#[], args, []⟩).memory :=
  laidMetH_of_parts3 (fuel := 8) (laidMet_of_run' 8 (by kernel_rfl) (by kernel_rfl)) (by kernel_rfl) (by kernel_rfl)
theorem star : "*" ++ "errors.errorString" = "*errors.errorString" := by decide
theorem rowE (u : TypeId) (h : Tryd.prog.typeName? 3 u = some "*errors.errorString") : u = 50 :=
  typeName_ptr_named (nm := "errors.errorString") (by rw [star]; kernel_rfl) (by kernel_rfl) (by decide) u (by rw [star]; exact h)
theorem cellsE : Tryd.prog.cellsOf 52 = 1 := by kernel_rfl
theorem cellsS : Tryd.prog.cellsOf 9 = 1 := by kernel_rfl
theorem g3 : Tryd.prog.globalNamed "strconv.ErrRange" = some 1 := by kernel_rfl
theorem gt3 : (Tryd.prog.globals[1]?).map (·.type) = some 31 := by kernel_rfl
theorem g4 : Tryd.prog.globalNamed "strconv.ErrSyntax" = some 0 := by kernel_rfl
theorem gt4 : (Tryd.prog.globals[0]?).map (·.type) = some 31 := by kernel_rfl
theorem of_laid {W : World} (h : laidMetH Tryd.prog laidL W) : (∃ a s, W.cell? ⟨1, 0, none⟩ = some (.iface 50 (.pointer (some a))) ∧ W.cell? a = some (.string s)) ∧ (∃ a s, W.cell? ⟨0, 0, none⟩ = some (.iface 50 (.pointer (some a))) ∧ W.cell? a = some (.string s)) := by
  rw [MakeChecks.laidMetH_plain _ _ _ (by kernel_rfl)] at h
  obtain ⟨b3, s3, hv3, hc3, _, _⟩ := laid_sentinel h.tail.tail.tail g3 gt3 Tryd.underlying31 rowE Tryd.underlying50 Tryd.underlying52 rfl rfl Tryd.underlying9 cellsE cellsS
  have e3 : W.cell? ⟨1, 0, none⟩ = some (.iface 50 (.pointer (some b3))) := by simpa using World.var?_cell g3 hv3 0
  obtain ⟨b4, s4, hv4, hc4, _, _⟩ := laid_sentinel h.tail.tail.tail.tail g4 gt4 Tryd.underlying31 rowE Tryd.underlying50 Tryd.underlying52 rfl rfl Tryd.underlying9 cellsE cellsS
  have e4 : W.cell? ⟨0, 0, none⟩ = some (.iface 50 (.pointer (some b4))) := by simpa using World.var?_cell g4 hv4 0
  exact ⟨⟨b3, s3, e3, hc3⟩, ⟨b4, s4, e4, hc4⟩⟩
set_option maxRecDepth 100000 in
theorem lifted (os : Os) (started : os.Started) (H : Type) (enc : TypeId × Value → H) :
    ReturnsInHanded {} Tryd.checked os 3 .any (fun w args => (Rows.fnModeBadSpec.pre enc Tryd.prog Tryd.f3 [] false w args ∧ laidMetH Tryd.prog laidL w) ∧ sizedMet enc Tryd.prog Tryd.f3 (OpenSpec.ofChange Rows.fnModeBadSpec) false w args)
      (Rows.fnModeBadSpec.post enc Tryd.prog Tryd.f3 false true false false) := by
  refine returnsInHanded_of_change_and (C := Tryd.checked) (X := fun w _ => laidMetH Tryd.prog laidL w) (fun _ _ _ hh h => h.of_heap hh) own started (by kernel_rfl) Tryd.func3
    (ChangeSpec.witness_shaped (enc := enc) (C := Tryd.checked) (os := os) (X := fun w _ => laidMetH Tryd.prog laidL w) false (World.doorLaid Tryd.prog 62 os) #[.string ByteArray.empty, .int .u8 0, .string ByteArray.empty] 8 rfl (World.shaped_of_RefB (by kernel_rfl) (by kernel_rfl)) (by kernel_rfl) (by kernel_rfl) (by kernel_rfl) (door_met os _)) ?_
  intro W base args ds gs before hval0 hW hcnd hsz0 hL _
  have hsz : (DataW.weightsEach Tryd.prog (Tryd.f3.params.toList ++ Rows.fnModeBadSpec.plain.varTypes Tryd.prog) (ds ++ gs)).all (· ≤ reachBytes) = true := hsz0
  have hval : ∀ (j : Nat) t v, Tryd.f3.params[j]? = some t → args[j]? = some v → Value.okWide Tryd.prog W .any base t v := hval0
  have hW' := hW
  obtain ⟨p, q, hA0, hV, rfl, hfz, hnd⟩ := hW
  have hA : DataW.TrodAll enc Tryd.prog W 0 (fun _ => true) true Tryd.f3.params.toList args.toList ds p := hA0
  have hltA : ∀ x ∈ p, x.block < W.heap.size := fun x hx => hW'.lt x (List.mem_append_left _ hx)
  rw [Tryd.params3] at hA hval hsz
  obtain ⟨v0, vs0, d0, ds0, p0, q0, hargs, rfl, rfl, h0, r0⟩ := trodAll_cons hA
  obtain ⟨v1, vs1, d1, ds1, p1, q1, rfl, rfl, rfl, h1, r1⟩ := trodAll_cons r0
  obtain ⟨v2, vs2, d2, ds2, p2, q2, rfl, rfl, rfl, h2, r2⟩ := trodAll_cons r1
  obtain ⟨rfl, rfl, rfl⟩ := trodAll_nil r2
  obtain rfl : args = #[v0, v1, v2] := by cases args; simp_all
  have hk0 := h0
  have hk1 := h1
  have hk2 := h2
  obtain ⟨rfl, rfl⟩ := trodVars_none hV
  obtain ⟨a0, rfl, rfl, rfl, y0⟩ := open_string Tryd.underlying9 (hval 0 9 v0 rfl rfl) h0
  have w0 : a0.size ≤ 140737488351232 := by
    have z := sized_string hsz (j := 0) (t := 9) rfl rfl
    rw [Array.length_toList] at z
    exact z
  obtain ⟨a1, rfl, rfl, rfl, y1⟩ := open_int Tryd.underlying5 (hval 1 5 v1 rfl rfl) h1
  obtain ⟨a2, rfl, rfl, rfl, y2⟩ := open_string Tryd.underlying9 (hval 2 9 v2 rfl rfl) h2
  have w2 : a2.size ≤ 140737488351232 := by
    have z := sized_string hsz (j := 2) (t := 9) rfl rfl
    rw [Array.length_toList] at z
    exact z
  obtain ⟨⟨b3, s3, e3, f3⟩, ⟨b4, s4, e4, f4⟩⟩ := of_laid hL
  refine (WalkB.law2 a0 a1 a2 W w0 w2 y1 ⟨⟨_, _, e4⟩, _, _, e3⟩).mono fun e W' ⟨he, bel⟩ => ?_
  subst he
  exact ⟨_, rfl, _, _, _, [], _, [], hW', trodAll_mk1 (shut_bool Tryd.underlying4 _), (trodAll_cons_mk (Below.trod laidOut read9 has9 hk0 bel (fun x hx => hltA x (by first | (simp [hx]; done) | exact absurd hx List.not_mem_nil))) (trodAll_cons_mk (Below.trod laidOut read5 has5 hk1 bel (fun x hx => hltA x (by first | (simp [hx]; done) | exact absurd hx List.not_mem_nil))) (trodAll_cons_mk (Below.trod laidOut read9 has9 hk2 bel (fun x hx => hltA x (by first | (simp [hx]; done) | exact absurd hx List.not_mem_nil))) trodAll_mk0))), rfl, bel.frame _, fun h => by cases h⟩
theorem over : Rows.fnModeBadRow.holds Tryd.pinned (OpenSpec.ofChange Rows.fnModeBadSpec) :=
  OpenClaim.holds_of_wide 3 Tryd.f3 rfl rfl rfl rfl rfl rfl rfl ⟨rfl, rfl, rfl, rfl, rfl⟩ rfl rfl rfl rfl rfl (by kernel_rfl) Tryd.func3 (by kernel_rfl)
    (of_decide_eq_true (by kernel_rfl)) (by unfold Func.isWrapper; first | (rw [if_pos (by decide +kernel)]; kernel_rfl) | (rw [if_neg (by decide +kernel)]; exact ⟨rfl, rfl⟩))
    (fun os started H enc _ => lifted os started H enc)
theorem proved : Rows.FnModeBadSaid := over
theorem card : Rows.FnModeBadCardSaid :=
  Claim7.holds_tied_plain_at .later [] [.data, .data, .data, .sentinel, .sentinel] true (true, "e64b0ff9f84e50f47dba093185303f4ca28a1d6667701b3a307ce9c5b8ef2f5c") true
    over (fun _ h => by cases h) (by kernel_rfl) (fun _ h => by cases h) fnModeBad_row_tie rfl ⟨rfl, rfl⟩ (by kernel_rfl) rfl
    (fun f fn hf hfn => by
      obtain rfl : f = 3 := Option.some.inj ((show Tryd.prog.funcNamed "loop.example/pub-g01474/laws.FnModeBad" = some 3 by kernel_rfl).symm.trans hf) |>.symm
      obtain rfl : fn = Tryd.f3 := (Option.some.inj (Tryd.func3.symm.trans hfn)).symm
      exact ⟨by kernel_rfl, fun j t ht => by
        rw [Tryd.params3] at ht
        have hm : t ∈ [9, 5, 9] := by simpa using Array.mem_of_getElem? ht
        have hall : ([9, 5, 9].all fun u => !Tryd.prog.wantsStandIn u) = true := by kernel_rfl
        exact (show Tryd.prog.wantsStandIn t = false by simpa using List.all_eq_true.1 hall t hm)⟩)
    (by kernel_rfl)
#print axioms card
end Go.Proofs.YtlfabebbpoipgaaDoor.fnModeBad_row
namespace Go.Proofs.YtlfabebbpoipgaaDoor
theorem fnModeBad_holds : Rows.FnModeBadCardSaid := fnModeBad_row.card
end Go.Proofs.YtlfabebbpoipgaaDoor
