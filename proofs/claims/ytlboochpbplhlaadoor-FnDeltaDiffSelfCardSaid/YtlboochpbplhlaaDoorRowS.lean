/- For every base: FnDeltaDiffSelf returns true. The listed variables are tied to the program's text by the card. -/
import Derived.Test.YtlboochpbplhlaaDoorRows
import Derived.Test.YtlboochpbplhlaaDoorTie
import Derived.Test.YtlboochpbplhlaaDoorCards
import Derived.Test.YtlboochpbplhlaaDoorWalkS
import Derived.WalkKit
import Derived.Lay
import Derived.ProofKit
import Derived.OpenShut
import Derived.ShutString
import Derived.ChangeOld
import Derived.Below
import Derived.SizedLaws
import Derived.OpenVars
import Derived.KernelRfl
import Derived.LaidMore
import Derived.Stop.Joined
import Derived.Stop.LaidErr
import Derived.SevenTiedAt
import Derived.Test.YtlboochpbplhlaaDoorOpen
import Derived.Test.YtlboochpbplhlaaDoorWalkD
namespace Go.Proofs.YtlboochpbplhlaaDoor.fnDeltaDiffSelf_row
open Go.ChangeShapes Go.WideShapes Go.ChangeAt Go.RowKit
open Go.ChangeMaps (open_string shut_string)
set_option linter.unusedVariables false
set_option linter.unusedSimpArgs false
theorem own : ownKnob Tryd.prog.godebug = none := by kernel_rfl
theorem laidOut : laidOutB Tryd.prog = true := by kernel_rfl
theorem rowed : varsRowed Tryd.prog Rows.fnDeltaDiffSelfSpec.vars = true := by kernel_rfl
theorem read22 : Tryd.prog.readableRec 22 = true := by kernel_rfl
theorem has22 : 22 < Tryd.prog.types.size := of_decide_eq_true (by kernel_rfl)
abbrev laidL : List (String × DataW Unit) := Rows.fnDeltaDiffSelfRow.laid
theorem door_met (os : Os) (args : Array Value) : laidMetH Tryd.prog laidL ((World.laidAll Tryd.prog os laidL).forCall (fun _ _ => 0) ⟨#[], args, []⟩).memory := by
  rw [MakeChecks.laidMetH_plain _ _ _ (by kernel_rfl)]
  exact laidMet_laidAll args (by kernel_rfl) (by kernel_rfl)

open Go.Proofs.YtlboochpbplhlaaDoorW.PrintWords
theorem opn5 : Open.Opn Tryd.prog 5 (Kd.int .u8) (fun x => (Lit.int .u8 x).wf = true) := Open.Opn.int Tryd.underlying5 (by kernel_rfl)
def B22 (l : List Int) : Prop := l.length * 1 ≤ 140737488351232 ∧ ∀ x ∈ l, (Lit.int .u8 x).wf = true
theorem opn22 : Open.Opn Tryd.prog 22 (Kd.slice 5 (Kd.int .u8)) B22 := (Open.Opn.slice Tryd.underlying22 (by kernel_rfl) (by kernel_rfl : Tryd.prog.bytesOf 5 = 1) opn5).imp (fun _ h => h)
theorem vars_len {H : Type} {enc : TypeId × Value → H} {P : Program} {w : World} {sp : Nat → Bool} : ∀ {ns : List String} {gs : List (DataW H)} {ps : List MemPlace}, DataW.TrodVars enc P w sp ns gs ps → gs.length = ns.length
  | [], [], _, _ => rfl
  | [], _ :: _, _, h => h.elim
  | _ :: _, [], _, h => h.elim
  | _ :: _, _ :: _, _, h => by obtain ⟨g, t, cs, fuel, p, q, _, _, _, _, hs, _⟩ := h; simp [vars_len hs]
set_option maxRecDepth 100000 in
theorem lifted (os : Os) (started : os.Started) (H : Type) (enc : TypeId × Value → H) :
    ReturnsInHanded {} Tryd.checked os 7 .any (fun w args => (Rows.fnDeltaDiffSelfSpec.pre enc Tryd.prog Tryd.f7 [] false w args ∧ laidMetH Tryd.prog laidL w) ∧ sizedMet enc Tryd.prog Tryd.f7 (OpenSpec.ofChange Rows.fnDeltaDiffSelfSpec) false w args)
      (Rows.fnDeltaDiffSelfSpec.post enc Tryd.prog Tryd.f7 false true false false) := by
  refine returnsInHanded_of_change_and (C := Tryd.checked) (X := fun w _ => laidMetH Tryd.prog laidL w) (fun _ _ _ hh h => h.of_heap hh) own started (by kernel_rfl) Tryd.func7
    (ChangeSpec.witness_shaped (enc := enc) (C := Tryd.checked) (os := os) (X := fun w _ => laidMetH Tryd.prog laidL w) false (World.laidAll Tryd.prog os laidL) #[.slice none 0 0] 8 (World.laidAll_os _ _ _) (World.shaped_of_ZipB (by kernel_rfl) (by kernel_rfl)) (by kernel_rfl) (by kernel_rfl) (by kernel_rfl) (door_met os _)) ?_
  intro W base args ds gs before hval0 hW hcnd hsz0 hL _
  have hsz : (DataW.weightsEach Tryd.prog (Tryd.f7.params.toList ++ Rows.fnDeltaDiffSelfSpec.plain.varTypes Tryd.prog) (ds ++ gs)).all (· ≤ reachBytes) = true := hsz0
  have hval : ∀ (j : Nat) t v, Tryd.f7.params[j]? = some t → args[j]? = some v → Value.okWide Tryd.prog W .any base t v := hval0
  have hW' := hW
  obtain ⟨p, q, hA0, hV, rfl, hfz, hnd⟩ := hW
  have hA : DataW.TrodAll enc Tryd.prog W 0 (fun _ => true) true Tryd.f7.params.toList args.toList ds p := hA0
  have hltA : ∀ x ∈ p, x.block < W.heap.size := fun x hx => hW'.lt x (List.mem_append_left _ hx)
  rw [Tryd.params7] at hA hval hsz
  obtain ⟨v0, vs0, d0, ds0, p0, q0, hargs, rfl, rfl, h0, r0⟩ := trodAll_cons hA
  obtain ⟨rfl, rfl, rfl⟩ := trodAll_nil r0
  obtain rfl : args = #[v0] := by cases args; simp_all
  have hk0 := h0
  have hVk := hV
  have hVl : gs.length = 7 := vars_len hV
  obtain ⟨t0, u0, rfl⟩ := List.exists_cons_of_length_eq_add_one hVl
  have hVl1 : u0.length = 6 := by have z := hVl; simp only [List.length_cons] at z; omega
  obtain ⟨t1, u1, rfl⟩ := List.exists_cons_of_length_eq_add_one hVl1
  have hVl2 : u1.length = 5 := by have z := hVl1; simp only [List.length_cons] at z; omega
  obtain ⟨t2, u2, rfl⟩ := List.exists_cons_of_length_eq_add_one hVl2
  have hVl3 : u2.length = 4 := by have z := hVl2; simp only [List.length_cons] at z; omega
  obtain ⟨t3, u3, rfl⟩ := List.exists_cons_of_length_eq_add_one hVl3
  have hVl4 : u3.length = 3 := by have z := hVl3; simp only [List.length_cons] at z; omega
  obtain ⟨t4, u4, rfl⟩ := List.exists_cons_of_length_eq_add_one hVl4
  have hVl5 : u4.length = 2 := by have z := hVl4; simp only [List.length_cons] at z; omega
  obtain ⟨t5, u5, rfl⟩ := List.exists_cons_of_length_eq_add_one hVl5
  have hVl6 : u5.length = 1 := by have z := hVl5; simp only [List.length_cons] at z; omega
  obtain ⟨t6, u6, rfl⟩ := List.exists_cons_of_length_eq_add_one hVl6
  have hVl7 : u6.length = 0 := by have z := hVl6; simp only [List.length_cons] at z; omega
  obtain rfl := List.eq_nil_of_length_eq_zero hVl7
  obtain ⟨A0, l0, c0, rfl, hc0, hC0, hB0⟩ := Open.arg_slice opn22 (okWide_slice Tryd.underlying22 (hval 0 22 v0 rfl rfl)) h0 hsz (j := 0) rfl rfl

  refine (WalkS.law A0 c0 l0 W hC0 hc0 (fun x hx => HandH.wf_u8 (hB0.2 x hx)) (LaidD.vars_self hL).1 (LaidD.vars_self hL).2.1 (LaidD.vars_self hL).2.2).mono fun e W' ⟨he, bel⟩ => ?_
  subst he
  exact ⟨_, rfl, _, _, _, [], _, _, hW', trodAll_mk1 (shut_bool Tryd.underlying4 _), (trodAll_cons_mk (Below.trod laidOut read22 has22 hk0 bel (fun x hx => hltA x (by first | (simp [hx]; done) | exact absurd hx List.not_mem_nil))) trodAll_mk0), (Below.trodVars laidOut bel rowed hVk), bel.frame _, fun h => by cases h⟩
theorem over : Rows.fnDeltaDiffSelfRow.holds Tryd.pinned (OpenSpec.ofChange Rows.fnDeltaDiffSelfSpec) :=
  OpenClaim.holds_of_wide 7 Tryd.f7 rfl rfl rfl rfl rfl rfl rfl ⟨rfl, rfl, rfl, rfl, rfl⟩ rfl rfl rfl rfl rfl (by kernel_rfl) Tryd.func7 (by kernel_rfl)
    (of_decide_eq_true (by kernel_rfl)) (by unfold Func.isWrapper; first | (rw [if_pos (by decide +kernel)]; kernel_rfl) | (rw [if_neg (by decide +kernel)]; exact ⟨rfl, rfl⟩))
    (fun os started H enc _ => lifted os started H enc)
theorem proved : Rows.FnDeltaDiffSelfSaid := over
theorem card : Rows.FnDeltaDiffSelfCardSaid :=
  Claim7.holds_tied_plain_at .later [] [.sentinel, .data, .data, .sentinel, .sentinel, .data, .data, .sentinel] true (true, "a7a4a9275b284e8668affb04e3e23ef1c27bd2442621709abd305a54f72f3873") false
    over (fun _ h => by cases h) (by kernel_rfl) (fun _ h => by cases h) fnDeltaDiffSelf_row_tie rfl ⟨rfl, rfl⟩ (by kernel_rfl) rfl
    (fun f fn hf hfn => by
      obtain rfl : f = 7 := Option.some.inj ((show Tryd.prog.funcNamed "loop.example/pub-g01474/laws.FnDeltaDiffSelf" = some 7 by kernel_rfl).symm.trans hf) |>.symm
      obtain rfl : fn = Tryd.f7 := (Option.some.inj (Tryd.func7.symm.trans hfn)).symm
      exact ⟨by kernel_rfl, fun j t ht => by
        rw [Tryd.params7] at ht
        have hm : t ∈ [22] := by simpa using Array.mem_of_getElem? ht
        have hall : ([22].all fun u => !Tryd.prog.wantsStandIn u) = true := by kernel_rfl
        exact (show Tryd.prog.wantsStandIn t = false by simpa using List.all_eq_true.1 hall t hm)⟩)
    (by kernel_rfl)
#print axioms card
end Go.Proofs.YtlboochpbplhlaaDoor.fnDeltaDiffSelf_row
namespace Go.Proofs.YtlboochpbplhlaaDoor
theorem fnDeltaDiffSelf_holds : Rows.FnDeltaDiffSelfCardSaid := fnDeltaDiffSelf_row.card
end Go.Proofs.YtlboochpbplhlaaDoor
