/- For every tree: FnTreeBytes returns true. The listed variables are tied to the program's text by the card. -/
import Derived.Test.YtddnepddilbikaaDoorRows
import Derived.Test.YtddnepddilbikaaDoorTie
import Derived.Test.YtddnepddilbikaaDoorCards
import Derived.Test.YtddnepddilbikaaDoorWalkB
import Derived.WalkKit
import Derived.Lay
import Derived.ProofKit
import Derived.OpenShut
import Derived.ShutString
import Derived.ChangeOld
import Derived.Below
import Derived.SizedLaws
import Derived.OpenVars
import Derived.KernelRfl
import Derived.LaidMore
import Derived.Stop.Joined
import Derived.Stop.LaidErr
import Derived.SevenTiedAt
import Derived.Test.YtddnepddilbikaaDoorOpen
namespace Go.Proofs.YtddnepddilbikaaDoor.fnTreeBytes_row
open Go.ChangeShapes Go.WideShapes Go.ChangeAt Go.RowKit
open Go.ChangeMaps (open_string shut_string)
set_option linter.unusedVariables false
set_option linter.unusedSimpArgs false
theorem own : ownKnob Tryd.prog.godebug = none := by kernel_rfl
theorem laidOut : laidOutB Tryd.prog = true := by kernel_rfl
theorem rowed : varsRowed Tryd.prog Rows.fnTreeBytesSpec.vars = true := by kernel_rfl
theorem read22 : Tryd.prog.readableRec 22 = true := by kernel_rfl
theorem has22 : 22 < Tryd.prog.types.size := of_decide_eq_true (by kernel_rfl)
abbrev laidL : List (String × DataW Unit) := Rows.fnTreeBytesRow.laid
theorem door_met (os : Os) (args : Array Value) : laidMetH Tryd.prog laidL ((World.laidAll Tryd.prog os laidL).forCall (fun _ _ => 0) ⟨#[], args, []⟩).memory := by
  rw [MakeChecks.laidMetH_plain _ _ _ (by kernel_rfl)]
  exact laidMet_laidAll args (by kernel_rfl) (by kernel_rfl)
/-- A listed sentinel, with the row that it leads to. -/
theorem laid_one {P : Program} {n nm : String} {text : List UInt8} {r : List (String × DataW Unit)} {W : World} {g : Nat} {ti tp te ts : TypeId} {ms : Array (String × TypeId)} {f : Field}
    (h : laidMet P ((n, .iface nm (.ptr (.agg [.lit (.string text)]))) :: r) W)
    (hg : P.globalNamed n = some g) (ht : (P.globals[g]?).map (·.type) = some ti) (hi : P.underlying ti = some (.interface ms)) (hrow : ∀ u, P.typeName? 3 u = some nm → u = tp)
    (hp : P.underlying tp = some (.pointer te)) (he : P.underlying te = some (.struct #[f])) (hft : f.type = ts) (hfo : f.offset = 0) (hs : P.underlying ts = some .string) (hc : P.cellsOf te = 1) (hcs : P.cellsOf ts = 1) :
    ∃ (a : Addr) (s : ByteArray), W.cell? ⟨g, 0, none⟩ = some (.iface tp (.pointer (some a))) ∧ W.cell? a = some (.string s) ∧ s.data.toList = text ∧ ∃ c t, W.heap[a.block]? = some (.cells c t (0, 0)) := by
  obtain ⟨ps, ⟨g0, t0, cs0, f0, p0, q0, hg0, ht0, hv0, hd0, _, e0⟩, _, hrows⟩ := h
  obtain rfl := Option.some.inj (hg.symm.trans hg0)
  obtain rfl := Option.some.inj (ht.symm.trans ht0)
  subst e0
  obtain ⟨l0⟩ := cs0
  have ok0 : ∀ u v, l0 = [.iface u v] → Value.okWide P W .any 0 u v := fun u v e => by
    subst e
    exact (hrows g 0 (by simp [MemPlace.row])).2 u v (by simpa using World.var?_cell hg0 hv0 0)
  obtain ⟨a0, s0, rfl, hc0, hs0, hz0, rfl⟩ := errorString_of_trod hi hrow hp he hft hfo hs hc hcs hd0 ok0
  obtain ⟨c0, t0, hb0⟩ := (hrows a0.block a0.off (by simp [MemPlace.row])).1
  exact ⟨a0, s0, by simpa using World.var?_cell hg0 hv0 0, hc0, hs0, c0, t0, hb0⟩
theorem star : "*" ++ "errors.errorString" = "*errors.errorString" := by decide
theorem rowE (u : TypeId) (h : Tryd.prog.typeName? 3 u = some "*errors.errorString") : u = 134 :=
  typeName_ptr_named (nm := "errors.errorString") (by rw [star]; kernel_rfl) (by kernel_rfl) (by decide) u (by rw [star]; exact h)
theorem cellsE : Tryd.prog.cellsOf 136 = 1 := by kernel_rfl
theorem cellsS : Tryd.prog.cellsOf 9 = 1 := by kernel_rfl
theorem gE : Tryd.prog.globalNamed "io.EOF" = some 1 := by kernel_rfl
theorem gtE : (Tryd.prog.globals[1]?).map (·.type) = some 63 := by kernel_rfl
theorem sentE {W : World} (h : laidMetH Tryd.prog laidL W) : ∃ a, W.cell? ⟨1, 0, none⟩ = some (.iface 134 (.pointer (some a))) := by
  rw [MakeChecks.laidMetH_plain _ _ _ (by kernel_rfl)] at h
  obtain ⟨b, s, e, c, t, r⟩ := laid_one h.tail.tail.tail gE gtE Tryd.underlying63 rowE Tryd.underlying134 Tryd.underlying136 rfl rfl Tryd.underlying9 cellsE cellsS
  exact ⟨b, e⟩
theorem gH : Tryd.prog.globalNamed "encoding/hex.ErrLength" = some 2 := by kernel_rfl
theorem gtH : (Tryd.prog.globals[2]?).map (·.type) = some 63 := by kernel_rfl
theorem sentH {W : World} (h : laidMetH Tryd.prog laidL W) : ∃ a, W.cell? ⟨2, 0, none⟩ = some (.iface 134 (.pointer (some a))) := by
  rw [MakeChecks.laidMetH_plain _ _ _ (by kernel_rfl)] at h
  obtain ⟨b, s, e, c, t, r⟩ := laid_one h.tail.tail.tail.tail gH gtH Tryd.underlying63 rowE Tryd.underlying134 Tryd.underlying136 rfl rfl Tryd.underlying9 cellsE cellsS
  exact ⟨b, e⟩
theorem gT : Tryd.prog.globalNamed "math/bits.deBruijn64tab" = some 6 := by kernel_rfl
theorem gtT : (Tryd.prog.globals[6]?).map (·.type) = some 185 := by kernel_rfl
theorem tabT : (Rows.laid_math_bits_deBruijn64tab : DataW Unit) = Lib.tabData .u8 WalkB.dbTab := by kernel_rfl
theorem cellsU : Tryd.prog.cellsOf 5 = 1 := by kernel_rfl
theorem cellsT : Tryd.prog.cellsOf 185 = 64 := by kernel_rfl
theorem htab {W : World} (h : laidMetH Tryd.prog laidL W) : Lib.TabIs Tryd.prog W "math/bits.deBruijn64tab" .u8 WalkB.dbTab := by
  rw [MakeChecks.laidMetH_plain _ _ _ (by kernel_rfl)] at h
  have h2 := h.tail
  rw [tabT] at h2
  exact Lib.tabIs_of_head gT gtT Tryd.underlying185 Tryd.underlying5 cellsU cellsT h2

open Go.Proofs.YtddnepddilbikaaDoorW.PrintWords
theorem opn9 : Open.Opn Tryd.prog 9 Kd.string (fun x => x.size ≤ 140737488351232) := Open.Opn.string Tryd.underlying9 (by kernel_rfl)
theorem opn42 : Open.Opn Tryd.prog 42 (Kd.int .u32) (fun x => (Lit.int .u32 x).wf = true) := Open.Opn.int Tryd.underlying42 (by kernel_rfl)
def B44 (x : Go.Proofs.YtddnepddilbikaaDoor.QAll.S44) : Prop := x.f0.size ≤ 140737488351232 ∧ (Lit.int .u32 x.f1).wf = true ∧ x.f2.size ≤ 140737488351232
theorem opn44 : Open.Opn Tryd.prog 44 Go.Proofs.YtddnepddilbikaaDoor.QAll.k44 B44 := (Open.Opn.iso (fun x : Go.Proofs.YtddnepddilbikaaDoor.QAll.S44 => (x.f0, x.f1, x.f2)) (fun p => ⟨p.1, p.2.1, p.2.2⟩) (fun _ => rfl) (Open.Opn.struct Tryd.underlying44 (by kernel_rfl) (Open.OpnF.cons rfl rfl opn9 (Open.OpnF.cons rfl rfl opn42 (Open.OpnF.last rfl rfl opn9))))).imp (fun _ h => h)
def B22 (l : List Go.Proofs.YtddnepddilbikaaDoor.QAll.S44) : Prop := l.length * 40 ≤ 140737488351232 ∧ ∀ x ∈ l, B44 x
theorem opn22 : Open.Opn Tryd.prog 22 (Kd.slice 44 Go.Proofs.YtddnepddilbikaaDoor.QAll.k44) B22 := (Open.Opn.slice Tryd.underlying22 (by kernel_rfl) (by kernel_rfl : Tryd.prog.bytesOf 44 = 40) opn44).imp (fun _ h => h)
theorem vars_len {H : Type} {enc : TypeId × Value → H} {P : Program} {w : World} {sp : Nat → Bool} : ∀ {ns : List String} {gs : List (DataW H)} {ps : List MemPlace}, DataW.TrodVars enc P w sp ns gs ps → gs.length = ns.length
  | [], [], _, _ => rfl
  | [], _ :: _, _, h => h.elim
  | _ :: _, [], _, h => h.elim
  | _ :: _, _ :: _, _, h => by obtain ⟨g, t, cs, fuel, p, q, _, _, _, _, hs, _⟩ := h; simp [vars_len hs]
set_option maxRecDepth 100000 in
theorem lifted (os : Os) (started : os.Started) (H : Type) (enc : TypeId × Value → H) :
    ReturnsInHanded {} Tryd.checked os 3 .any (fun w args => (Rows.fnTreeBytesSpec.pre enc Tryd.prog Tryd.f3 [] false w args ∧ laidMetH Tryd.prog laidL w) ∧ sizedMet enc Tryd.prog Tryd.f3 (OpenSpec.ofChange Rows.fnTreeBytesSpec) false w args)
      (Rows.fnTreeBytesSpec.post enc Tryd.prog Tryd.f3 false true false false) := by
  refine returnsInHanded_of_change_and (C := Tryd.checked) (X := fun w _ => laidMetH Tryd.prog laidL w) (fun _ _ _ hh h => h.of_heap hh) own started (by kernel_rfl) Tryd.func3
    (ChangeSpec.witness_shaped (enc := enc) (C := Tryd.checked) (os := os) (X := fun w _ => laidMetH Tryd.prog laidL w) false (World.laidAll Tryd.prog os laidL) #[.slice none 0 0] 8 (World.laidAll_os _ _ _) (World.shaped_of_ZipB (by kernel_rfl) (by kernel_rfl)) (by kernel_rfl) (by kernel_rfl) (by kernel_rfl) (door_met os _)) ?_
  intro W base args ds gs before hval0 hW hcnd hsz0 hL _
  have hsz : (DataW.weightsEach Tryd.prog (Tryd.f3.params.toList ++ Rows.fnTreeBytesSpec.plain.varTypes Tryd.prog) (ds ++ gs)).all (· ≤ reachBytes) = true := hsz0
  have hval : ∀ (j : Nat) t v, Tryd.f3.params[j]? = some t → args[j]? = some v → Value.okWide Tryd.prog W .any base t v := hval0
  have hW' := hW
  obtain ⟨p, q, hA0, hV, rfl, hfz, hnd⟩ := hW
  have hA : DataW.TrodAll enc Tryd.prog W 0 (fun _ => true) true Tryd.f3.params.toList args.toList ds p := hA0
  have hltA : ∀ x ∈ p, x.block < W.heap.size := fun x hx => hW'.lt x (List.mem_append_left _ hx)
  rw [Tryd.params3] at hA hval hsz
  obtain ⟨v0, vs0, d0, ds0, p0, q0, hargs, rfl, rfl, h0, r0⟩ := trodAll_cons hA
  obtain ⟨rfl, rfl, rfl⟩ := trodAll_nil r0
  obtain rfl : args = #[v0] := by cases args; simp_all
  have hk0 := h0
  have hVk := hV
  have hVl : gs.length = 1 := vars_len hV
  obtain ⟨t0, u0, rfl⟩ := List.exists_cons_of_length_eq_add_one hVl
  have hVl1 : u0.length = 0 := by have z := hVl; simp only [List.length_cons] at z; omega
  obtain rfl := List.eq_nil_of_length_eq_zero hVl1
  obtain ⟨A0, l0, c0, rfl, hc0, hC0, hB0⟩ := Open.arg_slice opn22 (okWide_slice Tryd.underlying22 (hval 0 22 v0 rfl rfl)) h0 hsz (j := 0) rfl rfl

  obtain ⟨aE, hsE⟩ := sentE hL
  obtain ⟨aH, hsH⟩ := sentH hL
  refine (WalkB.law A0 c0 l0 W _ aE hc0 hC0 (htab hL) hsE hsH).mono fun e W' ⟨he, bel⟩ => ?_
  subst he
  exact ⟨_, rfl, _, _, _, [], _, _, hW', trodAll_mk1 (shut_bool Tryd.underlying4 _), (trodAll_cons_mk (Below.trod laidOut read22 has22 hk0 bel (fun x hx => hltA x (by first | (simp [hx]; done) | exact absurd hx List.not_mem_nil))) trodAll_mk0), (Below.trodVars laidOut bel rowed hVk), bel.frame _, fun h => by cases h⟩
theorem over : Rows.fnTreeBytesRow.holds Tryd.pinned (OpenSpec.ofChange Rows.fnTreeBytesSpec) :=
  OpenClaim.holds_of_wide 3 Tryd.f3 rfl rfl rfl rfl rfl rfl rfl ⟨rfl, rfl, rfl, rfl, rfl⟩ rfl rfl rfl rfl rfl (by kernel_rfl) Tryd.func3 (by kernel_rfl)
    (of_decide_eq_true (by kernel_rfl)) (by unfold Func.isWrapper; first | (rw [if_pos (by decide +kernel)]; kernel_rfl) | (rw [if_neg (by decide +kernel)]; exact ⟨rfl, rfl⟩))
    (fun os started H enc _ => lifted os started H enc)
theorem proved : Rows.FnTreeBytesSaid := over
theorem card : Rows.FnTreeBytesCardSaid :=
  Claim7.holds_tied_plain_at .later [] [.data, .data, .data, .sentinel, .sentinel, .sentinel] true (true, "9637133ba11949d58e972035f8bc746bc85eaf542b44ca1d14ad9feb0dd03405") true
    over (fun _ h => by cases h) (by kernel_rfl) (fun _ h => by cases h) fnTreeBytes_row_tie rfl ⟨rfl, rfl⟩ (by kernel_rfl) rfl
    (fun f fn hf hfn => by
      obtain rfl : f = 3 := Option.some.inj ((show Tryd.prog.funcNamed "loop.example/pub-g01474/laws.FnTreeBytes" = some 3 by kernel_rfl).symm.trans hf) |>.symm
      obtain rfl : fn = Tryd.f3 := (Option.some.inj (Tryd.func3.symm.trans hfn)).symm
      exact ⟨by kernel_rfl, fun j t ht => by
        rw [Tryd.params3] at ht
        have hm : t ∈ [22] := by simpa using Array.mem_of_getElem? ht
        have hall : ([22].all fun u => !Tryd.prog.wantsStandIn u) = true := by kernel_rfl
        exact (show Tryd.prog.wantsStandIn t = false by simpa using List.all_eq_true.1 hall t hm)⟩)
    (by kernel_rfl)
#print axioms card
end Go.Proofs.YtddnepddilbikaaDoor.fnTreeBytes_row
namespace Go.Proofs.YtddnepddilbikaaDoor
theorem fnTreeBytes_holds : Rows.FnTreeBytesCardSaid := fnTreeBytes_row.card
end Go.Proofs.YtddnepddilbikaaDoor
