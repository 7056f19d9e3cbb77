/- For every kind of side band, all chunks and every text: FnSideError returns true. The listed variables are tied to the program's text by the card. -/
import Derived.Test.YtponeoodgfgejaaDoorRows
import Derived.Test.YtponeoodgfgejaaDoorTie
import Derived.Test.YtponeoodgfgejaaDoorCards
import Derived.Test.YtponeoodgfgejaaDoorWalkT
import Derived.WalkKit
import Derived.Lay
import Derived.ProofKit
import Derived.OpenShut
import Derived.ShutString
import Derived.ChangeOld
import Derived.Below
import Derived.SizedLaws
import Derived.OpenVars
import Derived.KernelRfl
import Derived.LaidMore
import Derived.Stop.Joined
import Derived.Stop.LaidErr
import Derived.SevenTiedAt
import Derived.Test.YtponeoodgfgejaaDoorOpen
namespace Go.Proofs.YtponeoodgfgejaaDoor.fnSideError_row
open Go.ChangeShapes Go.WideShapes Go.ChangeAt Go.RowKit
open Go.ChangeMaps (open_string shut_string)
set_option linter.unusedVariables false
set_option linter.unusedSimpArgs false
theorem own : ownKnob Tryd.prog.godebug = none := by kernel_rfl
theorem laidOut : laidOutB Tryd.prog = true := by kernel_rfl
theorem rowed : varsRowed Tryd.prog Rows.fnSideErrorSpec.vars = true := by kernel_rfl
theorem read4 : Tryd.prog.readableRec 4 = true := by kernel_rfl
theorem has4 : 4 < Tryd.prog.types.size := of_decide_eq_true (by kernel_rfl)
theorem read22 : Tryd.prog.readableRec 22 = true := by kernel_rfl
theorem has22 : 22 < Tryd.prog.types.size := of_decide_eq_true (by kernel_rfl)
theorem read25 : Tryd.prog.readableRec 25 = true := by kernel_rfl
theorem has25 : 25 < Tryd.prog.types.size := of_decide_eq_true (by kernel_rfl)
abbrev laidL : List (String × DataW Unit) := Rows.fnSideErrorRow.laid
theorem door_met (os : Os) (args : Array Value) : laidMetH Tryd.prog laidL ((World.laidAll Tryd.prog os laidL).forCall (fun _ _ => 0) ⟨#[], args, []⟩).memory := by
  rw [MakeChecks.laidMetH_plain _ _ _ (by kernel_rfl)]
  exact laidMet_laidAll args (by kernel_rfl) (by kernel_rfl)
/-- A listed sentinel, with the row that it leads to. -/
theorem laid_one {P : Program} {n nm : String} {text : List UInt8} {r : List (String × DataW Unit)} {W : World} {g : Nat} {ti tp te ts : TypeId} {ms : Array (String × TypeId)} {f : Field}
    (h : laidMet P ((n, .iface nm (.ptr (.agg [.lit (.string text)]))) :: r) W)
    (hg : P.globalNamed n = some g) (ht : (P.globals[g]?).map (·.type) = some ti) (hi : P.underlying ti = some (.interface ms)) (hrow : ∀ u, P.typeName? 3 u = some nm → u = tp)
    (hp : P.underlying tp = some (.pointer te)) (he : P.underlying te = some (.struct #[f])) (hft : f.type = ts) (hfo : f.offset = 0) (hs : P.underlying ts = some .string) (hc : P.cellsOf te = 1) (hcs : P.cellsOf ts = 1) :
    ∃ (a : Addr) (s : ByteArray), W.cell? ⟨g, 0, none⟩ = some (.iface tp (.pointer (some a))) ∧ W.cell? a = some (.string s) ∧ s.data.toList = text ∧ ∃ c t, W.heap[a.block]? = some (.cells c t (0, 0)) := by
  obtain ⟨ps, ⟨g0, t0, cs0, f0, p0, q0, hg0, ht0, hv0, hd0, _, e0⟩, _, hrows⟩ := h
  obtain rfl := Option.some.inj (hg.symm.trans hg0)
  obtain rfl := Option.some.inj (ht.symm.trans ht0)
  subst e0
  obtain ⟨l0⟩ := cs0
  have ok0 : ∀ u v, l0 = [.iface u v] → Value.okWide P W .any 0 u v := fun u v e => by
    subst e
    exact (hrows g 0 (by simp [MemPlace.row])).2 u v (by simpa using World.var?_cell hg0 hv0 0)
  obtain ⟨a0, s0, rfl, hc0, hs0, hz0, rfl⟩ := errorString_of_trod hi hrow hp he hft hfo hs hc hcs hd0 ok0
  obtain ⟨c0, t0, hb0⟩ := (hrows a0.block a0.off (by simp [MemPlace.row])).1
  exact ⟨a0, s0, by simpa using World.var?_cell hg0 hv0 0, hc0, hs0, c0, t0, hb0⟩
theorem apart {W : World} {a b : Addr} {s s' : ByteArray} {t t' : List UInt8} (ha : W.cell? a = some (.string s)) (hb : W.cell? b = some (.string s')) (hs : s.data.toList = t) (hs' : s'.data.toList = t') (hne : t ≠ t') : a ≠ b := by
  rintro rfl
  rw [ha] at hb
  injection hb with hb
  injection hb with hb
  subst hb
  exact hne (hs.symm.trans hs')
theorem star : "*" ++ "errors.errorString" = "*errors.errorString" := by decide
theorem rowE (u : TypeId) (h : Tryd.prog.typeName? 3 u = some "*errors.errorString") : u = 126 :=
  typeName_ptr_named (nm := "errors.errorString") (by rw [star]; kernel_rfl) (by kernel_rfl) (by decide) u (by rw [star]; exact h)
theorem cellsE : Tryd.prog.cellsOf 128 = 1 := by kernel_rfl
theorem cellsS : Tryd.prog.cellsOf 9 = 1 := by kernel_rfl
theorem gE : Tryd.prog.globalNamed "io.EOF" = some 0 := by kernel_rfl
theorem gtE : (Tryd.prog.globals[0]?).map (·.type) = some 58 := by kernel_rfl
theorem gU : Tryd.prog.globalNamed "io.ErrUnexpectedEOF" = some 2 := by kernel_rfl
theorem gtU : (Tryd.prog.globals[2]?).map (·.type) = some 58 := by kernel_rfl
theorem gI : Tryd.prog.globalNamed "loop.example/pub-g01474/pub/gogit/plumbing/format/pktline.ErrInvalidPktLen" = some 3 := by kernel_rfl
theorem gtI : (Tryd.prog.globals[3]?).map (·.type) = some 58 := by kernel_rfl
theorem sent {W : World} (h : laidMetH Tryd.prog laidL W) : ∃ aE aU aI, Go.Proofs.YtponeoodgfgejaaDoor.HandD.Sent W aE aU aI := by
  rw [MakeChecks.laidMetH_plain _ _ _ (by kernel_rfl)] at h
  obtain ⟨bE, sE, eE, cE, tE, rE⟩ := laid_one h.tail.tail gE gtE Tryd.underlying58 rowE Tryd.underlying126 Tryd.underlying128 rfl rfl Tryd.underlying9 cellsE cellsS
  obtain ⟨bU, sU, eU, cU, tU, rU⟩ := laid_one h.tail.tail.tail gU gtU Tryd.underlying58 rowE Tryd.underlying126 Tryd.underlying128 rfl rfl Tryd.underlying9 cellsE cellsS
  obtain ⟨bI, sI, eI, cI, tI, rI⟩ := laid_one h.tail.tail.tail.tail.tail.tail.tail gI gtI Tryd.underlying58 rowE Tryd.underlying126 Tryd.underlying128 rfl rfl Tryd.underlying9 cellsE cellsS
  exact ⟨bE, bU, bI, ⟨eE, eU, eI, rE, rU, rI, apart cE cU tE tU (by decide), apart cI cE tI tE (by decide)⟩⟩

open Go.Proofs.YtponeoodgfgejaaDoorW.PrintWords
theorem opn3 : Open.Opn Tryd.prog 3 (Kd.int .i64) (fun x => (Lit.int .i64 x).wf = true) := Open.Opn.int Tryd.underlying3 (by kernel_rfl)
theorem opn5 : Open.Opn Tryd.prog 5 (Kd.int .u8) (fun x => (Lit.int .u8 x).wf = true) := Open.Opn.int Tryd.underlying5 (by kernel_rfl)
def B25 (l : List Int) : Prop := l.length * 1 ≤ 140737488351232 ∧ ∀ x ∈ l, (Lit.int .u8 x).wf = true
theorem opn25 : Open.Opn Tryd.prog 25 (Kd.slice 5 (Kd.int .u8)) B25 := (Open.Opn.slice Tryd.underlying25 (by kernel_rfl) (by kernel_rfl : Tryd.prog.bytesOf 5 = 1) opn5).imp (fun _ h => h)
def B39 (x : Go.Proofs.YtponeoodgfgejaaDoor.QAll.S39) : Prop := (Lit.int .i64 x.f0).wf = true ∧ B25 x.f1
theorem opn39 : Open.Opn Tryd.prog 39 Go.Proofs.YtponeoodgfgejaaDoor.QAll.k39 B39 := (Open.Opn.iso (fun x : Go.Proofs.YtponeoodgfgejaaDoor.QAll.S39 => (x.f0, x.f1)) (fun p => ⟨p.1, p.2⟩) (fun _ => rfl) (Open.Opn.struct Tryd.underlying39 (by kernel_rfl) (Open.OpnF.cons rfl rfl opn3 (Open.OpnF.last rfl rfl opn25)))).imp (fun _ h => h)
def B22 (l : List Go.Proofs.YtponeoodgfgejaaDoor.QAll.S39) : Prop := l.length * 32 ≤ 140737488351232 ∧ ∀ x ∈ l, B39 x
theorem opn22 : Open.Opn Tryd.prog 22 (Kd.slice 39 Go.Proofs.YtponeoodgfgejaaDoor.QAll.k39) B22 := (Open.Opn.slice Tryd.underlying22 (by kernel_rfl) (by kernel_rfl : Tryd.prog.bytesOf 39 = 32) opn39).imp (fun _ h => h)
theorem vars_len {H : Type} {enc : TypeId × Value → H} {P : Program} {w : World} {sp : Nat → Bool} : ∀ {ns : List String} {gs : List (DataW H)} {ps : List MemPlace}, DataW.TrodVars enc P w sp ns gs ps → gs.length = ns.length
  | [], [], _, _ => rfl
  | [], _ :: _, _, h => h.elim
  | _ :: _, [], _, h => h.elim
  | _ :: _, _ :: _, _, h => by obtain ⟨g, t, cs, fuel, p, q, _, _, _, _, hs, _⟩ := h; simp [vars_len hs]
set_option maxRecDepth 100000 in
theorem lifted (os : Os) (started : os.Started) (H : Type) (enc : TypeId × Value → H) :
    ReturnsInHanded {} Tryd.checked os 4 .any (fun w args => (Rows.fnSideErrorSpec.pre enc Tryd.prog Tryd.f4 [] false w args ∧ laidMetH Tryd.prog laidL w) ∧ sizedMet enc Tryd.prog Tryd.f4 (OpenSpec.ofChange Rows.fnSideErrorSpec) false w args)
      (Rows.fnSideErrorSpec.post enc Tryd.prog Tryd.f4 false true false false) := by
  refine returnsInHanded_of_change_and (C := Tryd.checked) (X := fun w _ => laidMetH Tryd.prog laidL w) (fun _ _ _ hh h => h.of_heap hh) own started (by kernel_rfl) Tryd.func4
    (ChangeSpec.witness_shaped (enc := enc) (C := Tryd.checked) (os := os) (X := fun w _ => laidMetH Tryd.prog laidL w) false (World.laidAll Tryd.prog os laidL) #[.bool false, .slice none 0 0, .slice none 0 0] 8 (World.laidAll_os _ _ _) (World.shaped_of_ZipB (by kernel_rfl) (by kernel_rfl)) (by kernel_rfl) (by kernel_rfl) (by kernel_rfl) (door_met os _)) ?_
  intro W base args ds gs before hval0 hW hcnd hsz0 hL _
  have hsz : (DataW.weightsEach Tryd.prog (Tryd.f4.params.toList ++ Rows.fnSideErrorSpec.plain.varTypes Tryd.prog) (ds ++ gs)).all (· ≤ reachBytes) = true := hsz0
  have hval : ∀ (j : Nat) t v, Tryd.f4.params[j]? = some t → args[j]? = some v → Value.okWide Tryd.prog W .any base t v := hval0
  have hW' := hW
  obtain ⟨p, q, hA0, hV, rfl, hfz, hnd⟩ := hW
  have hA : DataW.TrodAll enc Tryd.prog W 0 (fun _ => true) true Tryd.f4.params.toList args.toList ds p := hA0
  have hltA : ∀ x ∈ p, x.block < W.heap.size := fun x hx => hW'.lt x (List.mem_append_left _ hx)
  rw [Tryd.params4] at hA hval hsz
  obtain ⟨v0, vs0, d0, ds0, p0, q0, hargs, rfl, rfl, h0, r0⟩ := trodAll_cons hA
  obtain ⟨v1, vs1, d1, ds1, p1, q1, rfl, rfl, rfl, h1, r1⟩ := trodAll_cons r0
  obtain ⟨v2, vs2, d2, ds2, p2, q2, rfl, rfl, rfl, h2, r2⟩ := trodAll_cons r1
  obtain ⟨rfl, rfl, rfl⟩ := trodAll_nil r2
  obtain rfl : args = #[v0, v1, v2] := by cases args; simp_all
  have hk0 := h0
  have hk1 := h1
  have hk2 := h2
  have hVk := hV
  have hVl : gs.length = 2 := vars_len hV
  obtain ⟨t0, u0, rfl⟩ := List.exists_cons_of_length_eq_add_one hVl
  have hVl1 : u0.length = 1 := by have z := hVl; simp only [List.length_cons] at z; omega
  obtain ⟨t1, u1, rfl⟩ := List.exists_cons_of_length_eq_add_one hVl1
  have hVl2 : u1.length = 0 := by have z := hVl1; simp only [List.length_cons] at z; omega
  obtain rfl := List.eq_nil_of_length_eq_zero hVl2
  obtain ⟨a0, rfl, rfl, rfl⟩ := open_bool Tryd.underlying4 (hval 0 4 v0 rfl rfl) h0
  obtain ⟨A1, l1, c1, rfl, hc1, hC1, hB1⟩ := Open.arg_slice opn22 (okWide_slice Tryd.underlying22 (hval 1 22 v1 rfl rfl)) h1 hsz (j := 1) rfl rfl
  obtain ⟨A2, l2, c2, rfl, hc2, hC2, hB2⟩ := Open.arg_slice opn25 (okWide_slice Tryd.underlying25 (hval 2 25 v2 rfl rfl)) h2 hsz (j := 2) rfl rfl

  obtain ⟨aE, aU, aI, hsent⟩ := sent hL
  refine (WalkT.law a0 A1 c1 l1 A2 c2 l2 aE aU aI W hC1 hc1 hC2 hc2 hsent).mono fun e W' ⟨he, bel⟩ => ?_
  subst he
  exact ⟨_, rfl, _, _, _, [], _, _, hW', trodAll_mk1 (shut_bool Tryd.underlying4 _), (trodAll_cons_mk (Below.trod laidOut read4 has4 hk0 bel (fun x hx => hltA x (by first | (simp [hx]; done) | exact absurd hx List.not_mem_nil))) (trodAll_cons_mk (Below.trod laidOut read22 has22 hk1 bel (fun x hx => hltA x (by first | (simp [hx]; done) | exact absurd hx List.not_mem_nil))) (trodAll_cons_mk (Below.trod laidOut read25 has25 hk2 bel (fun x hx => hltA x (by first | (simp [hx]; done) | exact absurd hx List.not_mem_nil))) trodAll_mk0))), (Below.trodVars laidOut bel rowed hVk), bel.frame _, fun h => by cases h⟩
theorem over : Rows.fnSideErrorRow.holds Tryd.pinned (OpenSpec.ofChange Rows.fnSideErrorSpec) :=
  OpenClaim.holds_of_wide 4 Tryd.f4 rfl rfl rfl rfl rfl rfl rfl ⟨rfl, rfl, rfl, rfl, rfl⟩ rfl rfl rfl rfl rfl (by kernel_rfl) Tryd.func4 (by kernel_rfl)
    (of_decide_eq_true (by kernel_rfl)) (by unfold Func.isWrapper; first | (rw [if_pos (by decide +kernel)]; kernel_rfl) | (rw [if_neg (by decide +kernel)]; exact ⟨rfl, rfl⟩))
    (fun os started H enc _ => lifted os started H enc)
theorem proved : Rows.FnSideErrorSaid := over
theorem card : Rows.FnSideErrorCardSaid :=
  Claim7.holds_tied_plain_at .later [] [.data, .sentinel, .sentinel, .sentinel, .listed, .sentinel, .data, .sentinel, .sentinel, .pinned] true (true, "cdc77ace89fcc4fe9eca6be3b57a64852337b4fd2e07f4e01976246bb9339b04") true
    over (fun _ h => by cases h) (by kernel_rfl) (fun _ h => by cases h) fnSideError_row_tie rfl ⟨rfl, rfl⟩ (by kernel_rfl) rfl
    (fun f fn hf hfn => by
      obtain rfl : f = 4 := Option.some.inj ((show Tryd.prog.funcNamed "loop.example/pub-g01474/laws.FnSideError" = some 4 by kernel_rfl).symm.trans hf) |>.symm
      obtain rfl : fn = Tryd.f4 := (Option.some.inj (Tryd.func4.symm.trans hfn)).symm
      exact ⟨by kernel_rfl, fun j t ht => by
        rw [Tryd.params4] at ht
        have hm : t ∈ [4, 22, 25] := by simpa using Array.mem_of_getElem? ht
        have hall : ([4, 22, 25].all fun u => !Tryd.prog.wantsStandIn u) = true := by kernel_rfl
        exact (show Tryd.prog.wantsStandIn t = false by simpa using List.all_eq_true.1 hall t hm)⟩)
    (by kernel_rfl)
#print axioms card
end Go.Proofs.YtponeoodgfgejaaDoor.fnSideError_row
namespace Go.Proofs.YtponeoodgfgejaaDoor
theorem fnSideError_holds : Rows.FnSideErrorCardSaid := fnSideError_row.card
end Go.Proofs.YtponeoodgfgejaaDoor
