/- For all sections, names and values: FnConfOthers returns true. The listed variables are tied to the program's text by the card. -/
import Derived.Test.YtacndeejapfkiaaDoorRows
import Derived.Test.YtacndeejapfkiaaDoorTie
import Derived.Test.YtacndeejapfkiaaDoorCards
import Derived.Test.YtacndeejapfkiaaDoorWalkM
import Derived.WalkKit
import Derived.Lay
import Derived.ProofKit
import Derived.OpenShut
import Derived.ShutString
import Derived.ChangeOld
import Derived.Below
import Derived.SizedLaws
import Derived.OpenVars
import Derived.KernelRfl
import Derived.LaidMore
import Derived.Stop.Joined
import Derived.Stop.LaidErr
import Derived.SevenTiedAt
import Derived.Test.YtacndeejapfkiaaDoorOpen
namespace Go.Proofs.YtacndeejapfkiaaDoor.fnConfOthers_row
open Go.ChangeShapes Go.WideShapes Go.ChangeAt Go.RowKit
open Go.ChangeMaps (open_string shut_string)
set_option linter.unusedVariables false
set_option linter.unusedSimpArgs false
theorem own : ownKnob Tryd.prog.godebug = none := by kernel_rfl
theorem laidOut : laidOutB Tryd.prog = true := by kernel_rfl
theorem rowed : varsRowed Tryd.prog Rows.fnConfOthersSpec.vars = true := by kernel_rfl
theorem read9 : Tryd.prog.readableRec 9 = true := by kernel_rfl
theorem has9 : 9 < Tryd.prog.types.size := of_decide_eq_true (by kernel_rfl)
theorem read22 : Tryd.prog.readableRec 22 = true := by kernel_rfl
theorem has22 : 22 < Tryd.prog.types.size := of_decide_eq_true (by kernel_rfl)
abbrev laidL : List (String × DataW Unit) := Rows.fnConfOthersRow.laid
theorem door_met (os : Os) (args : Array Value) : laidMetH Tryd.prog laidL ((World.laidAll Tryd.prog os laidL).forCall (fun _ _ => 0) ⟨#[], args, []⟩).memory := by
  rw [MakeChecks.laidMetH_plain _ _ _ (by kernel_rfl)]
  exact laidMet_laidAll args (by kernel_rfl) (by kernel_rfl)

open Go.Proofs.YtacndeejapfkiaaDoorW.PrintWords
theorem opn9 : Open.Opn Tryd.prog 9 Kd.string (fun x => x.size ≤ 140737488351232) := Open.Opn.string Tryd.underlying9 (by kernel_rfl)
def B42 (x : Go.Proofs.YtacndeejapfkiaaDoor.QAll.S42) : Prop := x.f0.size ≤ 140737488351232 ∧ x.f1.size ≤ 140737488351232
theorem opn42 : Open.Opn Tryd.prog 42 Go.Proofs.YtacndeejapfkiaaDoor.QAll.k42 B42 := (Open.Opn.iso (fun x : Go.Proofs.YtacndeejapfkiaaDoor.QAll.S42 => (x.f0, x.f1)) (fun p => ⟨p.1, p.2⟩) (fun _ => rfl) (Open.Opn.struct Tryd.underlying42 (by kernel_rfl) (Open.OpnF.cons rfl rfl opn9 (Open.OpnF.last rfl rfl opn9)))).imp (fun _ h => h)
def B29 (l : List Go.Proofs.YtacndeejapfkiaaDoor.QAll.S42) : Prop := l.length * 32 ≤ 140737488351232 ∧ ∀ x ∈ l, B42 x
theorem opn29 : Open.Opn Tryd.prog 29 (Kd.slice 42 Go.Proofs.YtacndeejapfkiaaDoor.QAll.k42) B29 := (Open.Opn.slice Tryd.underlying29 (by kernel_rfl) (by kernel_rfl : Tryd.prog.bytesOf 42 = 32) opn42).imp (fun _ h => h)
def B46 (x : Go.Proofs.YtacndeejapfkiaaDoor.QAll.S46) : Prop := x.f0.size ≤ 140737488351232 ∧ B29 x.f1
theorem opn46 : Open.Opn Tryd.prog 46 Go.Proofs.YtacndeejapfkiaaDoor.QAll.k46 B46 := (Open.Opn.iso (fun x : Go.Proofs.YtacndeejapfkiaaDoor.QAll.S46 => (x.f0, x.f1)) (fun p => ⟨p.1, p.2⟩) (fun _ => rfl) (Open.Opn.struct Tryd.underlying46 (by kernel_rfl) (Open.OpnF.cons rfl rfl opn9 (Open.OpnF.last rfl rfl opn29)))).imp (fun _ h => h)
def B34 (l : List Go.Proofs.YtacndeejapfkiaaDoor.QAll.S46) : Prop := l.length * 40 ≤ 140737488351232 ∧ ∀ x ∈ l, B46 x
theorem opn34 : Open.Opn Tryd.prog 34 (Kd.slice 46 Go.Proofs.YtacndeejapfkiaaDoor.QAll.k46) B34 := (Open.Opn.slice Tryd.underlying34 (by kernel_rfl) (by kernel_rfl : Tryd.prog.bytesOf 46 = 40) opn46).imp (fun _ h => h)
def B36 (x : Go.Proofs.YtacndeejapfkiaaDoor.QAll.S36) : Prop := x.f0.size ≤ 140737488351232 ∧ B29 x.f1 ∧ B34 x.f2
theorem opn36 : Open.Opn Tryd.prog 36 Go.Proofs.YtacndeejapfkiaaDoor.QAll.k36 B36 := (Open.Opn.iso (fun x : Go.Proofs.YtacndeejapfkiaaDoor.QAll.S36 => (x.f0, x.f1, x.f2)) (fun p => ⟨p.1, p.2.1, p.2.2⟩) (fun _ => rfl) (Open.Opn.struct Tryd.underlying36 (by kernel_rfl) (Open.OpnF.cons rfl rfl opn9 (Open.OpnF.cons rfl rfl opn29 (Open.OpnF.last rfl rfl opn34))))).imp (fun _ h => h)
def B22 (l : List Go.Proofs.YtacndeejapfkiaaDoor.QAll.S36) : Prop := l.length * 64 ≤ 140737488351232 ∧ ∀ x ∈ l, B36 x
theorem opn22 : Open.Opn Tryd.prog 22 (Kd.slice 36 Go.Proofs.YtacndeejapfkiaaDoor.QAll.k36) B22 := (Open.Opn.slice Tryd.underlying22 (by kernel_rfl) (by kernel_rfl : Tryd.prog.bytesOf 36 = 64) opn36).imp (fun _ h => h)
theorem szO {l : List Go.Proofs.YtacndeejapfkiaaDoor.QAll.S42} (h : B29 l) : Go.Proofs.YtacndeejapfkiaaDoor.PureS.SzO l := ⟨by have := h.1; omega, h.2⟩
theorem szS {l : List Go.Proofs.YtacndeejapfkiaaDoor.QAll.S36} (h : B22 l) : Go.Proofs.YtacndeejapfkiaaDoor.PureT.SzS l :=
  ⟨by have := h.1; omega, fun x hx => ⟨(h.2 x hx).1, szO (h.2 x hx).2.1, by have := (h.2 x hx).2.2.1; omega, fun p hp => ⟨((h.2 x hx).2.2.2 p hp).1, szO ((h.2 x hx).2.2.2 p hp).2⟩⟩⟩
set_option maxRecDepth 100000 in
theorem lifted (os : Os) (started : os.Started) (H : Type) (enc : TypeId × Value → H) :
    ReturnsInHanded {} Tryd.checked os 4 .any (fun w args => (Rows.fnConfOthersSpec.pre enc Tryd.prog Tryd.f4 [] false w args ∧ laidMetH Tryd.prog laidL w) ∧ sizedMet enc Tryd.prog Tryd.f4 (OpenSpec.ofChange Rows.fnConfOthersSpec) false w args)
      (Rows.fnConfOthersSpec.post enc Tryd.prog Tryd.f4 false true false false) := by
  refine returnsInHanded_of_change_and (C := Tryd.checked) (X := fun w _ => laidMetH Tryd.prog laidL w) (fun _ _ _ hh h => h.of_heap hh) own started (by kernel_rfl) Tryd.func4
    (ChangeSpec.witness_shaped (enc := enc) (C := Tryd.checked) (os := os) (X := fun w _ => laidMetH Tryd.prog laidL w) false (World.laidAll Tryd.prog os laidL) #[.slice none 0 0, .string ByteArray.empty, .string ByteArray.empty, .string ByteArray.empty, .string ByteArray.empty, .string ByteArray.empty, .string ByteArray.empty, .string ByteArray.empty] 8 (World.laidAll_os _ _ _) (World.shaped_of_ZipB (by kernel_rfl) (by kernel_rfl)) (by kernel_rfl) (by kernel_rfl) (by kernel_rfl) (door_met os _)) ?_
  intro W base args ds gs before hval0 hW hcnd hsz0 hL _
  have hsz : (DataW.weightsEach Tryd.prog (Tryd.f4.params.toList ++ Rows.fnConfOthersSpec.plain.varTypes Tryd.prog) (ds ++ gs)).all (· ≤ reachBytes) = true := hsz0
  have hval : ∀ (j : Nat) t v, Tryd.f4.params[j]? = some t → args[j]? = some v → Value.okWide Tryd.prog W .any base t v := hval0
  have hW' := hW
  obtain ⟨p, q, hA0, hV, rfl, hfz, hnd⟩ := hW
  have hA : DataW.TrodAll enc Tryd.prog W 0 (fun _ => true) true Tryd.f4.params.toList args.toList ds p := hA0
  have hltA : ∀ x ∈ p, x.block < W.heap.size := fun x hx => hW'.lt x (List.mem_append_left _ hx)
  rw [Tryd.params4] at hA hval hsz
  obtain ⟨v0, vs0, d0, ds0, p0, q0, hargs, rfl, rfl, h0, r0⟩ := trodAll_cons hA
  obtain ⟨v1, vs1, d1, ds1, p1, q1, rfl, rfl, rfl, h1, r1⟩ := trodAll_cons r0
  obtain ⟨v2, vs2, d2, ds2, p2, q2, rfl, rfl, rfl, h2, r2⟩ := trodAll_cons r1
  obtain ⟨v3, vs3, d3, ds3, p3, q3, rfl, rfl, rfl, h3, r3⟩ := trodAll_cons r2
  obtain ⟨v4, vs4, d4, ds4, p4, q4, rfl, rfl, rfl, h4, r4⟩ := trodAll_cons r3
  obtain ⟨v5, vs5, d5, ds5, p5, q5, rfl, rfl, rfl, h5, r5⟩ := trodAll_cons r4
  obtain ⟨v6, vs6, d6, ds6, p6, q6, rfl, rfl, rfl, h6, r6⟩ := trodAll_cons r5
  obtain ⟨v7, vs7, d7, ds7, p7, q7, rfl, rfl, rfl, h7, r7⟩ := trodAll_cons r6
  obtain ⟨rfl, rfl, rfl⟩ := trodAll_nil r7
  obtain rfl : args = #[v0, v1, v2, v3, v4, v5, v6, v7] := by cases args; simp_all
  have hk0 := h0
  have hk1 := h1
  have hk2 := h2
  have hk3 := h3
  have hk4 := h4
  have hk5 := h5
  have hk6 := h6
  have hk7 := h7
  obtain ⟨rfl, rfl⟩ := trodVars_none hV
  obtain ⟨A0, l0, c0, rfl, hc0, hC0, hB0⟩ := Open.arg_slice opn22 (okWide_slice Tryd.underlying22 (hval 0 22 v0 rfl rfl)) h0 hsz (j := 0) rfl rfl
  obtain ⟨a1, rfl, rfl, rfl, y1⟩ := open_string Tryd.underlying9 (hval 1 9 v1 rfl rfl) h1
  have w1 : a1.size ≤ 140737488351232 := by
    have z := sized_string hsz (j := 1) (t := 9) rfl rfl
    rw [Array.length_toList] at z
    exact z
  obtain ⟨a2, rfl, rfl, rfl, y2⟩ := open_string Tryd.underlying9 (hval 2 9 v2 rfl rfl) h2
  have w2 : a2.size ≤ 140737488351232 := by
    have z := sized_string hsz (j := 2) (t := 9) rfl rfl
    rw [Array.length_toList] at z
    exact z
  obtain ⟨a3, rfl, rfl, rfl, y3⟩ := open_string Tryd.underlying9 (hval 3 9 v3 rfl rfl) h3
  have w3 : a3.size ≤ 140737488351232 := by
    have z := sized_string hsz (j := 3) (t := 9) rfl rfl
    rw [Array.length_toList] at z
    exact z
  obtain ⟨a4, rfl, rfl, rfl, y4⟩ := open_string Tryd.underlying9 (hval 4 9 v4 rfl rfl) h4
  have w4 : a4.size ≤ 140737488351232 := by
    have z := sized_string hsz (j := 4) (t := 9) rfl rfl
    rw [Array.length_toList] at z
    exact z
  obtain ⟨a5, rfl, rfl, rfl, y5⟩ := open_string Tryd.underlying9 (hval 5 9 v5 rfl rfl) h5
  have w5 : a5.size ≤ 140737488351232 := by
    have z := sized_string hsz (j := 5) (t := 9) rfl rfl
    rw [Array.length_toList] at z
    exact z
  obtain ⟨a6, rfl, rfl, rfl, y6⟩ := open_string Tryd.underlying9 (hval 6 9 v6 rfl rfl) h6
  have w6 : a6.size ≤ 140737488351232 := by
    have z := sized_string hsz (j := 6) (t := 9) rfl rfl
    rw [Array.length_toList] at z
    exact z
  obtain ⟨a7, rfl, rfl, rfl, y7⟩ := open_string Tryd.underlying9 (hval 7 9 v7 rfl rfl) h7
  have w7 : a7.size ≤ 140737488351232 := by
    have z := sized_string hsz (j := 7) (t := 9) rfl rfl
    rw [Array.length_toList] at z
    exact z

  refine (WalkM.law A0 c0 l0 a1 a2 a3 a4 a5 a6 a7 W hC0 hc0 (szS hB0)).mono fun e W' ⟨he, bel⟩ => ?_
  subst he
  exact ⟨_, rfl, _, _, _, [], _, [], hW', trodAll_mk1 (shut_bool Tryd.underlying4 _), (trodAll_cons_mk (Below.trod laidOut read22 has22 hk0 bel (fun x hx => hltA x (by first | (simp [hx]; done) | exact absurd hx List.not_mem_nil))) (trodAll_cons_mk (Below.trod laidOut read9 has9 hk1 bel (fun x hx => hltA x (by first | (simp [hx]; done) | exact absurd hx List.not_mem_nil))) (trodAll_cons_mk (Below.trod laidOut read9 has9 hk2 bel (fun x hx => hltA x (by first | (simp [hx]; done) | exact absurd hx List.not_mem_nil))) (trodAll_cons_mk (Below.trod laidOut read9 has9 hk3 bel (fun x hx => hltA x (by first | (simp [hx]; done) | exact absurd hx List.not_mem_nil))) (trodAll_cons_mk (Below.trod laidOut read9 has9 hk4 bel (fun x hx => hltA x (by first | (simp [hx]; done) | exact absurd hx List.not_mem_nil))) (trodAll_cons_mk (Below.trod laidOut read9 has9 hk5 bel (fun x hx => hltA x (by first | (simp [hx]; done) | exact absurd hx List.not_mem_nil))) (trodAll_cons_mk (Below.trod laidOut read9 has9 hk6 bel (fun x hx => hltA x (by first | (simp [hx]; done) | exact absurd hx List.not_mem_nil))) (trodAll_cons_mk (Below.trod laidOut read9 has9 hk7 bel (fun x hx => hltA x (by first | (simp [hx]; done) | exact absurd hx List.not_mem_nil))) trodAll_mk0)))))))), rfl, bel.frame _, fun h => by cases h⟩
theorem over : Rows.fnConfOthersRow.holds Tryd.pinned (OpenSpec.ofChange Rows.fnConfOthersSpec) :=
  OpenClaim.holds_of_wide 4 Tryd.f4 rfl rfl rfl rfl rfl rfl rfl ⟨rfl, rfl, rfl, rfl, rfl⟩ rfl rfl rfl rfl rfl (by kernel_rfl) Tryd.func4 (by kernel_rfl)
    (of_decide_eq_true (by kernel_rfl)) (by unfold Func.isWrapper; first | (rw [if_pos (by decide +kernel)]; kernel_rfl) | (rw [if_neg (by decide +kernel)]; exact ⟨rfl, rfl⟩))
    (fun os started H enc _ => lifted os started H enc)
theorem proved : Rows.FnConfOthersSaid := over
theorem card : Rows.FnConfOthersCardSaid :=
  Claim7.holds_tied_plain_at .later [] [.data, .data, .data, .pinned, .pinned] true (true, "fea332f8333ff5611396ac2afbb52d1a290373175075c4fabda34aff28d5b0cb") false
    over (fun _ h => by cases h) (by kernel_rfl) (fun _ h => by cases h) fnConfOthers_row_tie rfl ⟨rfl, rfl⟩ (by kernel_rfl) rfl
    (fun f fn hf hfn => by
      obtain rfl : f = 4 := Option.some.inj ((show Tryd.prog.funcNamed "loop.example/pub-g01474/laws.FnConfOthers" = some 4 by kernel_rfl).symm.trans hf) |>.symm
      obtain rfl : fn = Tryd.f4 := (Option.some.inj (Tryd.func4.symm.trans hfn)).symm
      exact ⟨by kernel_rfl, fun j t ht => by
        rw [Tryd.params4] at ht
        have hm : t ∈ [22, 9, 9, 9, 9, 9, 9, 9] := by simpa using Array.mem_of_getElem? ht
        have hall : ([22, 9, 9, 9, 9, 9, 9, 9].all fun u => !Tryd.prog.wantsStandIn u) = true := by kernel_rfl
        exact (show Tryd.prog.wantsStandIn t = false by simpa using List.all_eq_true.1 hall t hm)⟩)
    (by kernel_rfl)
#print axioms card
end Go.Proofs.YtacndeejapfkiaaDoor.fnConfOthers_row
namespace Go.Proofs.YtacndeejapfkiaaDoor
theorem fnConfOthers_holds : Rows.FnConfOthersCardSaid := fnConfOthers_row.card
end Go.Proofs.YtacndeejapfkiaaDoor
