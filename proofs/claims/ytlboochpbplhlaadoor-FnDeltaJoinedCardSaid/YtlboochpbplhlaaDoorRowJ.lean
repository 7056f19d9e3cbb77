/- For every base and any two lists of instructions: FnDeltaJoined returns true. The listed variables are tied to the program's text by the card. -/
import Derived.Test.YtlboochpbplhlaaDoorRows
import Derived.Test.YtlboochpbplhlaaDoorTie
import Derived.Test.YtlboochpbplhlaaDoorCards
import Derived.Test.YtlboochpbplhlaaDoorWalkJ
import Derived.WalkKit
import Derived.ProofKit
import Derived.OpenShut
import Derived.ShutString
import Derived.ChangeOld
import Derived.Below
import Derived.SizedLaws
import Derived.OpenVars
import Derived.KernelRfl
import Derived.LaidMore
import Derived.Stop.Joined
import Derived.Stop.LaidErr
import Derived.SevenTiedAt
import Derived.Test.YtlboochpbplhlaaDoorOpen
import Derived.Test.YtlboochpbplhlaaDoorLaid
namespace Go.Proofs.YtlboochpbplhlaaDoor.fnDeltaJoined_row
open Go.ChangeShapes Go.WideShapes Go.ChangeAt Go.RowKit
open Go.ChangeMaps (open_string shut_string)
set_option linter.unusedVariables false
set_option linter.unusedSimpArgs false
theorem own : ownKnob Tryd.prog.godebug = none := by kernel_rfl
theorem laidOut : laidOutB Tryd.prog = true := by kernel_rfl
theorem rowed : varsRowed Tryd.prog Rows.fnDeltaJoinedSpec.vars = true := by kernel_rfl
theorem read22 : Tryd.prog.readableRec 22 = true := by kernel_rfl
theorem has22 : 22 < Tryd.prog.types.size := of_decide_eq_true (by kernel_rfl)
theorem read23 : Tryd.prog.readableRec 23 = true := by kernel_rfl
theorem has23 : 23 < Tryd.prog.types.size := of_decide_eq_true (by kernel_rfl)
abbrev laidL : List (String × DataW Unit) := Rows.fnDeltaJoinedRow.laid
theorem door_met (os : Os) (args : Array Value) : laidMetH Tryd.prog laidL ((World.doorLaid Tryd.prog 112 os).forCall (fun _ _ => 0) ⟨#[], args, []⟩).memory :=
  laidMetH_of_parts3 (fuel := 8) (laidMet_of_run' 8 (by kernel_rfl) (by kernel_rfl)) (by kernel_rfl) (by kernel_rfl)

open Go.Proofs.YtlboochpbplhlaaDoorW.PrintWords
theorem opn5 : Open.Opn Tryd.prog 5 (Kd.int .u8) (fun x => (Lit.int .u8 x).wf = true) := Open.Opn.int Tryd.underlying5 (by kernel_rfl)
def B22 (l : List Int) : Prop := l.length * 1 ≤ 140737488351232 ∧ ∀ x ∈ l, (Lit.int .u8 x).wf = true
theorem opn22 : Open.Opn Tryd.prog 22 (Kd.slice 5 (Kd.int .u8)) B22 := (Open.Opn.slice Tryd.underlying22 (by kernel_rfl) (by kernel_rfl : Tryd.prog.bytesOf 5 = 1) opn5).imp (fun _ h => h)
theorem opn4 : Open.Opn Tryd.prog 4 Kd.bool (fun x => True) := Open.Opn.bool Tryd.underlying4 (by kernel_rfl)
theorem opn3 : Open.Opn Tryd.prog 3 (Kd.int .i64) (fun x => (Lit.int .i64 x).wf = true) := Open.Opn.int Tryd.underlying3 (by kernel_rfl)
def B38 (x : Go.Proofs.YtlboochpbplhlaaDoor.QAll.S38) : Prop := True ∧ (Lit.int .i64 x.f1).wf = true ∧ (Lit.int .i64 x.f2).wf = true ∧ B22 x.f3 ∧ (Lit.int .i64 x.f4).wf = true
theorem opn38 : Open.Opn Tryd.prog 38 Go.Proofs.YtlboochpbplhlaaDoor.QAll.k38 B38 := (Open.Opn.iso (fun x : Go.Proofs.YtlboochpbplhlaaDoor.QAll.S38 => (x.f0, x.f1, x.f2, x.f3, x.f4)) (fun p => ⟨p.1, p.2.1, p.2.2.1, p.2.2.2.1, p.2.2.2.2⟩) (fun _ => rfl) (Open.Opn.struct Tryd.underlying38 (by kernel_rfl) (Open.OpnF.cons rfl rfl opn4 (Open.OpnF.cons rfl rfl opn3 (Open.OpnF.cons rfl rfl opn3 (Open.OpnF.cons rfl rfl opn22 (Open.OpnF.last rfl rfl opn3))))))).imp (fun _ h => h)
def B23 (l : List Go.Proofs.YtlboochpbplhlaaDoor.QAll.S38) : Prop := l.length * 56 ≤ 140737488351232 ∧ ∀ x ∈ l, B38 x
theorem opn23 : Open.Opn Tryd.prog 23 (Kd.slice 38 Go.Proofs.YtlboochpbplhlaaDoor.QAll.k38) B23 := (Open.Opn.slice Tryd.underlying23 (by kernel_rfl) (by kernel_rfl : Tryd.prog.bytesOf 38 = 56) opn38).imp (fun _ h => h)
theorem vars_len {H : Type} {enc : TypeId × Value → H} {P : Program} {w : World} {sp : Nat → Bool} : ∀ {ns : List String} {gs : List (DataW H)} {ps : List MemPlace}, DataW.TrodVars enc P w sp ns gs ps → gs.length = ns.length
  | [], [], _, _ => rfl
  | [], _ :: _, _, h => h.elim
  | _ :: _, [], _, h => h.elim
  | _ :: _, _ :: _, _, h => by obtain ⟨g, t, cs, fuel, p, q, _, _, _, _, hs, _⟩ := h; simp [vars_len hs]
set_option maxRecDepth 100000 in
theorem lifted (os : Os) (started : os.Started) (H : Type) (enc : TypeId × Value → H) :
    ReturnsInHanded {} Tryd.checked os 3 .any (fun w args => (Rows.fnDeltaJoinedSpec.pre enc Tryd.prog Tryd.f3 [] false w args ∧ laidMetH Tryd.prog laidL w) ∧ sizedMet enc Tryd.prog Tryd.f3 (OpenSpec.ofChange Rows.fnDeltaJoinedSpec) false w args)
      (Rows.fnDeltaJoinedSpec.post enc Tryd.prog Tryd.f3 false true false false) := by
  refine returnsInHanded_of_change_and (C := Tryd.checked) (X := fun w _ => laidMetH Tryd.prog laidL w) (fun _ _ _ hh h => h.of_heap hh) own started (by kernel_rfl) Tryd.func3
    (ChangeSpec.witness_shaped (enc := enc) (C := Tryd.checked) (os := os) (X := fun w _ => laidMetH Tryd.prog laidL w) false (World.doorLaid Tryd.prog 112 os) #[.slice none 0 0, .slice none 0 0, .slice none 0 0] 8 rfl (World.shaped_of_RefB (by kernel_rfl) (by kernel_rfl)) (by kernel_rfl) (by kernel_rfl) (by kernel_rfl) (door_met os _)) ?_
  intro W base args ds gs before hval0 hW hcnd hsz0 hL _
  have hsz : (DataW.weightsEach Tryd.prog (Tryd.f3.params.toList ++ Rows.fnDeltaJoinedSpec.plain.varTypes Tryd.prog) (ds ++ gs)).all (· ≤ reachBytes) = true := hsz0
  have hval : ∀ (j : Nat) t v, Tryd.f3.params[j]? = some t → args[j]? = some v → Value.okWide Tryd.prog W .any base t v := hval0
  have hW' := hW
  obtain ⟨p, q, hA0, hV, rfl, hfz, hnd⟩ := hW
  have hA : DataW.TrodAll enc Tryd.prog W 0 (fun _ => true) true Tryd.f3.params.toList args.toList ds p := hA0
  have hltA : ∀ x ∈ p, x.block < W.heap.size := fun x hx => hW'.lt x (List.mem_append_left _ hx)
  rw [Tryd.params3] at hA hval hsz
  obtain ⟨v0, vs0, d0, ds0, p0, q0, hargs, rfl, rfl, h0, r0⟩ := trodAll_cons hA
  obtain ⟨v1, vs1, d1, ds1, p1, q1, rfl, rfl, rfl, h1, r1⟩ := trodAll_cons r0
  obtain ⟨v2, vs2, d2, ds2, p2, q2, rfl, rfl, rfl, h2, r2⟩ := trodAll_cons r1
  obtain ⟨rfl, rfl, rfl⟩ := trodAll_nil r2
  obtain rfl : args = #[v0, v1, v2] := by cases args; simp_all
  have hk0 := h0
  have hk1 := h1
  have hk2 := h2
  have hVk := hV
  have hVl : gs.length = 5 := vars_len hV
  obtain ⟨t0, u0, rfl⟩ := List.exists_cons_of_length_eq_add_one hVl
  have hVl1 : u0.length = 4 := by have z := hVl; simp only [List.length_cons] at z; omega
  obtain ⟨t1, u1, rfl⟩ := List.exists_cons_of_length_eq_add_one hVl1
  have hVl2 : u1.length = 3 := by have z := hVl1; simp only [List.length_cons] at z; omega
  obtain ⟨t2, u2, rfl⟩ := List.exists_cons_of_length_eq_add_one hVl2
  have hVl3 : u2.length = 2 := by have z := hVl2; simp only [List.length_cons] at z; omega
  obtain ⟨t3, u3, rfl⟩ := List.exists_cons_of_length_eq_add_one hVl3
  have hVl4 : u3.length = 1 := by have z := hVl3; simp only [List.length_cons] at z; omega
  obtain ⟨t4, u4, rfl⟩ := List.exists_cons_of_length_eq_add_one hVl4
  have hVl5 : u4.length = 0 := by have z := hVl4; simp only [List.length_cons] at z; omega
  obtain rfl := List.eq_nil_of_length_eq_zero hVl5
  obtain ⟨A0, l0, c0, rfl, hc0, hC0, hB0⟩ := Open.arg_slice opn22 (okWide_slice Tryd.underlying22 (hval 0 22 v0 rfl rfl)) h0 hsz (j := 0) rfl rfl
  obtain ⟨A1, l1, c1, rfl, hc1, hC1, hB1⟩ := Open.arg_slice opn23 (okWide_slice Tryd.underlying23 (hval 1 23 v1 rfl rfl)) h1 hsz (j := 1) rfl rfl
  obtain ⟨A2, l2, c2, rfl, hc2, hC2, hB2⟩ := Open.arg_slice opn23 (okWide_slice Tryd.underlying23 (hval 2 23 v2 rfl rfl)) h2 hsz (j := 2) rfl rfl

  refine (WalkJ.law A0 A1 A2 c0 c1 c2 l0 l1 l2 W hC0 hc0 hC1 hc1 hC2 hc2 (by have := hB0.1; omega) (by have := hB1.1; omega) (by have := hB2.1; omega) (fun x hx => HandH.wf_u8 (hB0.2 x hx)) (fun s hs x hx => HandH.wf_u8 ((hB1.2 s hs).2.2.2.1.2 x hx)) (fun s hs x hx => HandH.wf_u8 ((hB2.2 s hs).2.2.2.1.2 x hx)) (Laid.vars_joined hL)).mono fun e W' ⟨he, bel⟩ => ?_
  subst he
  exact ⟨_, rfl, _, _, _, [], _, _, hW', trodAll_mk1 (shut_bool Tryd.underlying4 _), (trodAll_cons_mk (Below.trod laidOut read22 has22 hk0 bel (fun x hx => hltA x (by first | (simp [hx]; done) | exact absurd hx List.not_mem_nil))) (trodAll_cons_mk (Below.trod laidOut read23 has23 hk1 bel (fun x hx => hltA x (by first | (simp [hx]; done) | exact absurd hx List.not_mem_nil))) (trodAll_cons_mk (Below.trod laidOut read23 has23 hk2 bel (fun x hx => hltA x (by first | (simp [hx]; done) | exact absurd hx List.not_mem_nil))) trodAll_mk0))), (Below.trodVars laidOut bel rowed hVk), bel.frame _, fun h => by cases h⟩
theorem over : Rows.fnDeltaJoinedRow.holds Tryd.pinned (OpenSpec.ofChange Rows.fnDeltaJoinedSpec) :=
  OpenClaim.holds_of_wide 3 Tryd.f3 rfl rfl rfl rfl rfl rfl rfl ⟨rfl, rfl, rfl, rfl, rfl⟩ rfl rfl rfl rfl rfl (by kernel_rfl) Tryd.func3 (by kernel_rfl)
    (of_decide_eq_true (by kernel_rfl)) (by unfold Func.isWrapper; first | (rw [if_pos (by decide +kernel)]; kernel_rfl) | (rw [if_neg (by decide +kernel)]; exact ⟨rfl, rfl⟩))
    (fun os started H enc _ => lifted os started H enc)
theorem proved : Rows.FnDeltaJoinedSaid := over
theorem card : Rows.FnDeltaJoinedCardSaid :=
  Claim7.holds_tied_plain_at .later [] [.sentinel, .sentinel, .sentinel, .data, .data, .sentinel] true (true, "a7a4a9275b284e8668affb04e3e23ef1c27bd2442621709abd305a54f72f3873") false
    over (fun _ h => by cases h) (by kernel_rfl) (fun _ h => by cases h) fnDeltaJoined_row_tie rfl ⟨rfl, rfl⟩ (by kernel_rfl) rfl
    (fun f fn hf hfn => by
      obtain rfl : f = 3 := Option.some.inj ((show Tryd.prog.funcNamed "loop.example/pub-g01474/laws.FnDeltaJoined" = some 3 by kernel_rfl).symm.trans hf) |>.symm
      obtain rfl : fn = Tryd.f3 := (Option.some.inj (Tryd.func3.symm.trans hfn)).symm
      exact ⟨by kernel_rfl, fun j t ht => by
        rw [Tryd.params3] at ht
        have hm : t ∈ [22, 23, 23] := by simpa using Array.mem_of_getElem? ht
        have hall : ([22, 23, 23].all fun u => !Tryd.prog.wantsStandIn u) = true := by kernel_rfl
        exact (show Tryd.prog.wantsStandIn t = false by simpa using List.all_eq_true.1 hall t hm)⟩)
    (by kernel_rfl)
#print axioms card
end Go.Proofs.YtlboochpbplhlaaDoor.fnDeltaJoined_row
namespace Go.Proofs.YtlboochpbplhlaaDoor
theorem fnDeltaJoined_holds : Rows.FnDeltaJoinedCardSaid := fnDeltaJoined_row.card
end Go.Proofs.YtlboochpbplhlaaDoor
