/- For all files and every name: FnIdxAdd returns true. The listed variable is tied to the program's text by the card. -/
import Derived.Test.YtcokggnbgakonaaDoorRows
import Derived.Test.YtcokggnbgakonaaDoorTie
import Derived.Test.YtcokggnbgakonaaDoorCards
import Derived.Test.YtcokggnbgakonaaDoorWalkA
import Derived.WalkKit
import Derived.ProofKit
import Derived.OpenShut
import Derived.ShutString
import Derived.ChangeOld
import Derived.Below
import Derived.SizedLaws
import Derived.OpenVars
import Derived.KernelRfl
import Derived.LaidMore
import Derived.Stop.Joined
import Derived.Stop.LaidErr
import Derived.SevenTiedAt
import Derived.Test.YtcokggnbgakonaaDoorOpen
namespace Go.Proofs.YtcokggnbgakonaaDoor.fnIdxAdd_row
open Go.ChangeShapes Go.WideShapes Go.ChangeAt Go.RowKit
open Go.ChangeMaps (open_string shut_string)
set_option linter.unusedVariables false
set_option linter.unusedSimpArgs false
theorem own : ownKnob Tryd.prog.godebug = none := by kernel_rfl
theorem laidOut : laidOutB Tryd.prog = true := by kernel_rfl
theorem rowed : varsRowed Tryd.prog Rows.fnIdxAddSpec.vars = true := by kernel_rfl
theorem read9 : Tryd.prog.readableRec 9 = true := by kernel_rfl
theorem has9 : 9 < Tryd.prog.types.size := of_decide_eq_true (by kernel_rfl)
theorem read22 : Tryd.prog.readableRec 22 = true := by kernel_rfl
theorem has22 : 22 < Tryd.prog.types.size := of_decide_eq_true (by kernel_rfl)
abbrev laidL : List (String × DataW Unit) := Rows.fnIdxAddRow.laid
theorem door_met (os : Os) (args : Array Value) : laidMetH Tryd.prog laidL ((World.doorLaid Tryd.prog 28 os).forCall (fun _ _ => 0) ⟨#[], args, []⟩).memory :=
  laidMetH_of_parts3 (fuel := 8) (laidMet_of_run' 8 (by kernel_rfl) (by kernel_rfl)) (by kernel_rfl) (by kernel_rfl)
theorem star : "*" ++ "errors.errorString" = "*errors.errorString" := by decide
theorem rowE (u : TypeId) (h : Tryd.prog.typeName? 3 u = some "*errors.errorString") : u = 75 :=
  typeName_ptr_named (nm := "errors.errorString") (by rw [star]; kernel_rfl) (by kernel_rfl) (by decide) u (by rw [star]; exact h)
theorem cellsE : Tryd.prog.cellsOf 101 = 1 := by kernel_rfl
theorem cellsS : Tryd.prog.cellsOf 9 = 1 := by kernel_rfl
theorem g0 : Tryd.prog.globalNamed "encoding/hex.ErrLength" = some 0 := by kernel_rfl
theorem gt0 : (Tryd.prog.globals[0]?).map (·.type) = some 60 := by kernel_rfl
theorem of_laid {W : World} (h : laidMetH Tryd.prog laidL W) : (∃ a s, W.cell? ⟨0, 0, none⟩ = some (.iface 75 (.pointer (some a))) ∧ W.cell? a = some (.string s)) := by
  rw [MakeChecks.laidMetH_plain _ _ _ (by kernel_rfl)] at h
  obtain ⟨b0, s0, hv0, hc0, _, _⟩ := laid_sentinel h g0 gt0 Tryd.underlying60 rowE Tryd.underlying75 Tryd.underlying101 rfl rfl Tryd.underlying9 cellsE cellsS
  have e0 : W.cell? ⟨0, 0, none⟩ = some (.iface 75 (.pointer (some b0))) := by simpa using World.var?_cell g0 hv0 0
  exact ⟨b0, s0, e0, hc0⟩
open Go.Proofs.YtcokggnbgakonaaDoorW.PrintWords
theorem opn2 : Open.Opn Tryd.prog 2 (Kd.int .i64) (fun x => (Lit.int .i64 x).wf = true) := Open.Opn.int Tryd.underlying2 (by kernel_rfl)
def B28 (x : Go.Proofs.YtcokggnbgakonaaDoor.QAll.S28) : Prop := (Lit.int .i64 x.f0).wf = true ∧ (Lit.int .i64 x.f1).wf = true
theorem opn28 : Open.Opn Tryd.prog 28 Go.Proofs.YtcokggnbgakonaaDoor.QAll.k28 B28 := (Open.Opn.iso (fun x : Go.Proofs.YtcokggnbgakonaaDoor.QAll.S28 => (x.f0, x.f1)) (fun p => ⟨p.1, p.2⟩) (fun _ => rfl) (Open.Opn.struct Tryd.underlying28 (by kernel_rfl) (Open.OpnF.cons rfl rfl opn2 (Open.OpnF.last rfl rfl opn2)))).imp (fun _ h => h)
theorem opn29 : Open.Opn Tryd.prog 29 (Kd.int .u32) (fun x => (Lit.int .u32 x).wf = true) := Open.Opn.int Tryd.underlying29 (by kernel_rfl)
theorem opn9 : Open.Opn Tryd.prog 9 Kd.string (fun x => x.size ≤ 140737488351232) := Open.Opn.string Tryd.underlying9 (by kernel_rfl)
theorem opn3 : Open.Opn Tryd.prog 3 (Kd.int .i64) (fun x => (Lit.int .i64 x).wf = true) := Open.Opn.int Tryd.underlying3 (by kernel_rfl)
theorem opn4 : Open.Opn Tryd.prog 4 Kd.bool (fun x => True) := Open.Opn.bool Tryd.underlying4 (by kernel_rfl)
def B31 (x : Go.Proofs.YtcokggnbgakonaaDoor.QAll.S31) : Prop := B28 x.f0 ∧ B28 x.f1 ∧ (Lit.int .u32 x.f2).wf = true ∧ (Lit.int .u32 x.f3).wf = true ∧ (Lit.int .u32 x.f4).wf = true ∧ (Lit.int .u32 x.f5).wf = true ∧ (Lit.int .u32 x.f6).wf = true ∧ (Lit.int .u32 x.f7).wf = true ∧ x.f8.size ≤ 140737488351232 ∧ x.f9.size ≤ 140737488351232 ∧ (Lit.int .i64 x.f10).wf = true ∧ True ∧ True
theorem opn31 : Open.Opn Tryd.prog 31 Go.Proofs.YtcokggnbgakonaaDoor.QAll.k31 B31 := (Open.Opn.iso (fun x : Go.Proofs.YtcokggnbgakonaaDoor.QAll.S31 => (x.f0, x.f1, x.f2, x.f3, x.f4, x.f5, x.f6, x.f7, x.f8, x.f9, x.f10, x.f11, x.f12)) (fun p => ⟨p.1, p.2.1, p.2.2.1, p.2.2.2.1, p.2.2.2.2.1, p.2.2.2.2.2.1, p.2.2.2.2.2.2.1, p.2.2.2.2.2.2.2.1, p.2.2.2.2.2.2.2.2.1, p.2.2.2.2.2.2.2.2.2.1, p.2.2.2.2.2.2.2.2.2.2.1, p.2.2.2.2.2.2.2.2.2.2.2.1, p.2.2.2.2.2.2.2.2.2.2.2.2⟩) (fun _ => rfl) (Open.Opn.struct Tryd.underlying31 (by kernel_rfl) (Open.OpnF.cons rfl rfl opn28 (Open.OpnF.cons rfl rfl opn28 (Open.OpnF.cons rfl rfl opn29 (Open.OpnF.cons rfl rfl opn29 (Open.OpnF.cons rfl rfl opn29 (Open.OpnF.cons rfl rfl opn29 (Open.OpnF.cons rfl rfl opn29 (Open.OpnF.cons rfl rfl opn29 (Open.OpnF.cons rfl rfl opn9 (Open.OpnF.cons rfl rfl opn9 (Open.OpnF.cons rfl rfl opn3 (Open.OpnF.cons rfl rfl opn4 (Open.OpnF.last rfl rfl opn4))))))))))))))).imp (fun _ h => h)
def B22 (l : List Go.Proofs.YtcokggnbgakonaaDoor.QAll.S31) : Prop := l.length * 104 ≤ 140737488351232 ∧ ∀ x ∈ l, B31 x
theorem opn22 : Open.Opn Tryd.prog 22 (Kd.slice 31 Go.Proofs.YtcokggnbgakonaaDoor.QAll.k31) B22 := (Open.Opn.slice Tryd.underlying22 (by kernel_rfl) (by kernel_rfl : Tryd.prog.bytesOf 31 = 104) opn31).imp (fun _ h => h)
set_option maxRecDepth 100000 in
theorem lifted (os : Os) (started : os.Started) (H : Type) (enc : TypeId × Value → H) :
    ReturnsInHanded {} Tryd.checked os 3 .any (fun w args => (Rows.fnIdxAddSpec.pre enc Tryd.prog Tryd.f3 [] false w args ∧ laidMetH Tryd.prog laidL w) ∧ sizedMet enc Tryd.prog Tryd.f3 (OpenSpec.ofChange Rows.fnIdxAddSpec) false w args)
      (Rows.fnIdxAddSpec.post enc Tryd.prog Tryd.f3 false true false false) := by
  refine returnsInHanded_of_change_and (C := Tryd.checked) (X := fun w _ => laidMetH Tryd.prog laidL w) (fun _ _ _ hh h => h.of_heap hh) own started (by kernel_rfl) Tryd.func3
    (ChangeSpec.witness_shaped (enc := enc) (C := Tryd.checked) (os := os) (X := fun w _ => laidMetH Tryd.prog laidL w) false (World.doorLaid Tryd.prog 28 os) #[.slice none 0 0, .string ByteArray.empty] 8 rfl (World.shaped_of_RefB (by kernel_rfl) (by kernel_rfl)) (by kernel_rfl) (by kernel_rfl) (by kernel_rfl) (door_met os _)) ?_
  intro W base args ds gs before hval0 hW hcnd hsz0 hL _
  have hsz : (DataW.weightsEach Tryd.prog (Tryd.f3.params.toList ++ Rows.fnIdxAddSpec.plain.varTypes Tryd.prog) (ds ++ gs)).all (· ≤ reachBytes) = true := hsz0
  have hval : ∀ (j : Nat) t v, Tryd.f3.params[j]? = some t → args[j]? = some v → Value.okWide Tryd.prog W .any base t v := hval0
  have hW' := hW
  obtain ⟨p, q, hA0, hV, rfl, hfz, hnd⟩ := hW
  have hA : DataW.TrodAll enc Tryd.prog W 0 (fun _ => true) true Tryd.f3.params.toList args.toList ds p := hA0
  have hltA : ∀ x ∈ p, x.block < W.heap.size := fun x hx => hW'.lt x (List.mem_append_left _ hx)
  rw [Tryd.params3] at hA hval hsz
  obtain ⟨v0, vs0, d0, ds0, p0, q0, hargs, rfl, rfl, h0, r0⟩ := trodAll_cons hA
  obtain ⟨v1, vs1, d1, ds1, p1, q1, rfl, rfl, rfl, h1, r1⟩ := trodAll_cons r0
  obtain ⟨rfl, rfl, rfl⟩ := trodAll_nil r1
  obtain rfl : args = #[v0, v1] := by cases args; simp_all
  have hk0 := h0
  have hk1 := h1
  obtain ⟨rfl, rfl⟩ := trodVars_none hV
  obtain ⟨A0, l0, c0, rfl, hc0, hC0, hB0⟩ := Open.arg_slice opn22 (okWide_slice Tryd.underlying22 (hval 0 22 v0 rfl rfl)) h0 hsz (j := 0) rfl rfl
  obtain ⟨a1, rfl, rfl, rfl, y1⟩ := open_string Tryd.underlying9 (hval 1 9 v1 rfl rfl) h1
  have w1 : a1.size ≤ 140737488351232 := by
    have z := sized_string hsz (j := 1) (t := 9) rfl rfl
    rw [Array.length_toList] at z
    exact z
  obtain ⟨b0, s0, e0, f0⟩ := of_laid hL
  refine (WalkA.law A0 c0 l0 a1 W _ hC0 hc0 (by have := hB0.1; omega) w1 e0).mono fun e W' ⟨he, bel⟩ => ?_
  subst he
  exact ⟨_, rfl, _, _, _, [], _, [], hW', trodAll_mk1 (shut_bool Tryd.underlying4 _), (trodAll_cons_mk (Below.trod laidOut read22 has22 hk0 bel (fun x hx => hltA x (by first | (simp [hx]; done) | exact absurd hx List.not_mem_nil))) (trodAll_cons_mk (Below.trod laidOut read9 has9 hk1 bel (fun x hx => hltA x (by first | (simp [hx]; done) | exact absurd hx List.not_mem_nil))) trodAll_mk0)), rfl, bel.frame _, fun h => by cases h⟩
theorem over : Rows.fnIdxAddRow.holds Tryd.pinned (OpenSpec.ofChange Rows.fnIdxAddSpec) :=
  OpenClaim.holds_of_wide 3 Tryd.f3 rfl rfl rfl rfl rfl rfl rfl ⟨rfl, rfl, rfl, rfl, rfl⟩ rfl rfl rfl rfl rfl (by kernel_rfl) Tryd.func3 (by kernel_rfl)
    (of_decide_eq_true (by kernel_rfl)) (by unfold Func.isWrapper; first | (rw [if_pos (by decide +kernel)]; kernel_rfl) | (rw [if_neg (by decide +kernel)]; exact ⟨rfl, rfl⟩))
    (fun os started H enc _ => lifted os started H enc)
theorem proved : Rows.FnIdxAddSaid := over
theorem card : Rows.FnIdxAddCardSaid :=
  Claim7.holds_tied_plain_at .later [] [.sentinel] true (true, "337b055ea5379def29001095b2c7d694128c910bc3a2c6e864efd6bbb292b4d9") false
    over (fun _ h => by cases h) (by kernel_rfl) (fun _ h => by cases h) fnIdxAdd_row_tie rfl ⟨rfl, rfl⟩ (by kernel_rfl) rfl
    (fun f fn hf hfn => by
      obtain rfl : f = 3 := Option.some.inj ((show Tryd.prog.funcNamed "loop.example/pub-g01474/laws.FnIdxAdd" = some 3 by kernel_rfl).symm.trans hf) |>.symm
      obtain rfl : fn = Tryd.f3 := (Option.some.inj (Tryd.func3.symm.trans hfn)).symm
      exact ⟨by kernel_rfl, fun j t ht => by
        rw [Tryd.params3] at ht
        have hm : t ∈ [22, 9] := by simpa using Array.mem_of_getElem? ht
        have hall : ([22, 9].all fun u => !Tryd.prog.wantsStandIn u) = true := by kernel_rfl
        exact (show Tryd.prog.wantsStandIn t = false by simpa using List.all_eq_true.1 hall t hm)⟩)
    (by kernel_rfl)
#print axioms card
end Go.Proofs.YtcokggnbgakonaaDoor.fnIdxAdd_row
namespace Go.Proofs.YtcokggnbgakonaaDoor
theorem fnIdxAdd_holds : Rows.FnIdxAddCardSaid := fnIdxAdd_row.card
end Go.Proofs.YtcokggnbgakonaaDoor
