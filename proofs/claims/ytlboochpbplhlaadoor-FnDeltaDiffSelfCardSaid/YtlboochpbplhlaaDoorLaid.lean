/- The listed variables, opened: a table of pairs of numbers, the errors; all that a patch reads. -/
import Derived.Test.YtlboochpbplhlaaDoorRows
import Derived.Test.YtlboochpbplhlaaDoorOpen
import Derived.Test.YtlboochpbplhlaaDoorHandE
import Derived.LaidMore
import Derived.Stop.Joined
import Derived.Stop.LaidErr
import Derived.ChangeSame
set_option linter.unusedVariables false
set_option linter.unusedSimpArgs false
namespace Go.Proofs.YtlboochpbplhlaaDoor.Laid
open Go.RowKit Go.ChangeShapes Go.Proofs.YtlboochpbplhlaaDoorW.PrintWords Go.Proofs.YtlboochpbplhlaaDoor.Open HandB HandE

theorem plain_cell {w : World} {a : Addr} {v : Value} (h : w.cell? a = some v) : a = ⟨a.block, a.off, none⟩ := by
  have := World.cell?_spot h
  cases a
  simp_all
theorem tab_of_laid {P : Program} {n : String} {rows : List (Int × Int)} {r : List (String × DataW Unit)} {W : World} {g : Nat} {ts te t0 t1 : TypeId} {f0 f1 : Field} {k0 k1 : IntKind}
    (h : laidMet P ((n, .slice (rows.map fun x => .agg [.lit (.int k0 x.1), .lit (.int k1 x.2)]) []) :: r) W)
    (hg : P.globalNamed n = some g) (ht : (P.globals[g]?).map (·.type) = some ts) (hs : P.underlying ts = some (.slice te)) (he : P.underlying te = some (.struct #[f0, f1]))
    (h0t : f0.type = t0) (h1t : f1.type = t1) (h0o : f0.offset = 0) (h1o : f1.offset = 1) (hk0 : P.underlying t0 = some (.int k0)) (hk1 : P.underlying t1 = some (.int k1)) (hc0 : P.cellsOf t0 = 1) (hc1 : P.cellsOf t1 = 1) (hct : P.cellsOf te = 2) (hne : rows ≠ []) :
    ∃ b o c, W.cell? ⟨g, 0, none⟩ = some (.slice (some ⟨b, o, none⟩) rows.length c) ∧ rows.length ≤ c ∧ ∀ i m s, rows[i]? = some (m, s) → W.cell? ⟨b, o + i * 2, none⟩ = some (.int k0 m) ∧ W.cell? ⟨b, o + i * 2 + 1, none⟩ = some (.int k1 s) := by
  obtain ⟨ps, ⟨g0, t0', cs0, fu, p0, q0, hg0, ht0, hv0, hd0, _, e0⟩, _, hrows⟩ := h
  obtain rfl := Option.some.inj (hg.symm.trans hg0)
  obtain rfl := Option.some.inj (ht.symm.trans ht0)
  rcases DataW.trod_slice hs hd0 with ⟨_, h1⟩ | ⟨a, len, cap, elems, rest, m, _, hcs, hx, _, hl, _, hlen, hel, _, _⟩
  · cases h1
  · simp only [Prod.mk.injEq, DataW.slice.injEq] at hx
    obtain ⟨⟨hx1, hx2⟩, _⟩ := hx
    have hrl : rows.length = len := by
      have := congrArg List.length hx1
      simp at this
      omega
    have hvar : W.cell? ⟨g, 0, none⟩ = some (.slice (some a) len cap) := by
      obtain ⟨l0⟩ := cs0
      subst hcs
      simpa using World.var?_cell hg hv0 0
    have hcell : ∀ i m s, rows[i]? = some (m, s) → W.cell? (a.add (i * 2)) = some (.int k0 m) ∧ W.cell? ((a.add (i * 2)).add 1) = some (.int k1 s) := by
      intro i m' s' hi
      have hil : i < len := by rw [← hrl]; exact (List.getElem?_eq_some_iff.1 hi).1
      have hE := hel i hil
      have hil2 : i < elems.length := by omega
      rw [List.getElem?_eq_getElem hil2, hct] at hE
      obtain ⟨c, hc, hc2⟩ := Option.bind_eq_some_iff.1 hE
      obtain ⟨hcl, hcc⟩ := cells?_of hc
      obtain ⟨y0, y1, q, hy, _, hy0, hy1⟩ := trod_struct2 he hc2
      rw [h0t, h0o, hc0] at hy0
      rw [h1t, h1o, hc1] at hy1
      obtain ⟨n0, e0, rfl, _⟩ := DataW.trod_int hk0 hy0
      obtain ⟨n1, e1, rfl, _⟩ := DataW.trod_int hk1 hy1
      have hv : (elems[i]).1 = .agg [.lit (.int k0 m'), .lit (.int k1 s')] := by
        have h3 := congrArg (·[i]?) hx1
        simp only [List.getElem?_map, hi, Option.map_some, List.getElem?_eq_getElem hil2] at h3
        exact (Option.some.inj h3).symm
      rw [hy] at hv
      simp only [DataW.agg.injEq, List.cons.injEq, DataW.lit.injEq, Lit.int.injEq, true_and, and_true] at hv
      obtain ⟨rfl, rfl⟩ := hv
      have g0 : c[0]? = some (.int k0 n0) := by
        have := congrArg (·[0]?) e0
        simpa [List.getElem?_take, List.getElem?_drop] using this
      have g1 : c[1]? = some (.int k1 n1) := by
        have := congrArg (·[0]?) e1
        simpa [List.getElem?_take, List.getElem?_drop] using this
      refine ⟨?_, ?_⟩
      · have := hcc 0 _ g0
        rwa [show (a.add (i * 2)).add 0 = a.add (i * 2) by unfold Addr.add; simp] at this
      · exact hcc 1 _ g1
    have hpl : a = ⟨a.block, a.off, none⟩ := by
      obtain ⟨x, hx⟩ : ∃ x, rows[0]? = some x := by
        cases rows with
        | nil => exact absurd rfl hne
        | cons x l => exact ⟨x, rfl⟩
      have := (hcell 0 x.1 x.2 hx).1
      rw [Nat.zero_mul, show a.add 0 = a by unfold Addr.add; simp] at this
      exact plain_cell this
    refine ⟨a.block, a.off, cap, by rw [← hpl, hrl]; exact hvar, by omega, fun i m s hi => ?_⟩
    obtain ⟨q1, q2⟩ := hcell i m s hi
    rw [hpl, Lib.addr_add] at q1 q2
    rw [Lib.addr_add] at q2
    exact ⟨q1, q2⟩

theorem star : "*" ++ "errors.errorString" = "*errors.errorString" := by decide
theorem rowE (u : TypeId) (h : Tryd.prog.typeName? 3 u = some "*errors.errorString") : u = 99 :=
  typeName_ptr_named (nm := "errors.errorString") (by rw [star]; kernel_rfl) (by kernel_rfl) (by decide) u (by rw [star]; exact h)
theorem cellsE : Tryd.prog.cellsOf 117 = 1 := by kernel_rfl
theorem cellsS : Tryd.prog.cellsOf 9 = 1 := by kernel_rfl
theorem g0 : Tryd.prog.globalNamed "loop.example/pub-g01474/pub/gogit/plumbing/format/packfile.ErrInvalidDelta" = some 0 := by kernel_rfl
theorem gt0 : (Tryd.prog.globals[0]?).map (·.type) = some 42 := by kernel_rfl
theorem g3 : Tryd.prog.globalNamed "loop.example/pub-g01474/pub/gogit/plumbing/format/packfile.offsets" = some 3 := by kernel_rfl
theorem gt3 : (Tryd.prog.globals[3]?).map (·.type) = some 79 := by kernel_rfl
theorem g4 : Tryd.prog.globalNamed "loop.example/pub-g01474/pub/gogit/plumbing/format/packfile.sizes" = some 4 := by kernel_rfl
theorem gt4 : (Tryd.prog.globals[4]?).map (·.type) = some 79 := by kernel_rfl
theorem c5 : Tryd.prog.cellsOf 5 = 1 := by kernel_rfl
theorem c60 : Tryd.prog.cellsOf 60 = 1 := by kernel_rfl
theorem c81 : Tryd.prog.cellsOf 81 = 2 := by kernel_rfl
theorem tab_mk {W : World} {v m n : Nat} (rows : List (Int × Int)) (hn : rows.length = n) (hr : ∀ i, i < n → rows[i]? = some (((2 ^ (m + i) : Nat) : Int), ((8 * i : Nat) : Int))) (hp : 0 < n)
    (h : ∃ b o c, W.cell? ⟨v, 0, none⟩ = some (.slice (some ⟨b, o, none⟩) rows.length c) ∧ rows.length ≤ c ∧ ∀ i m s, rows[i]? = some (m, s) → W.cell? ⟨b, o + i * 2, none⟩ = some (.int .u8 m) ∧ W.cell? ⟨b, o + i * 2 + 1, none⟩ = some (.int .u64 s)) : Tab W v m n := by
  obtain ⟨b, o, c, h1, h2, h3⟩ := h
  rw [hn] at h1 h2
  exact ⟨b, o, c, h1, h2, World.block_lt_of_cell? W _ (h3 0 _ _ (hr 0 hp)).1, World.block_lt_of_cell? W _ h1, fun i hi => h3 i _ _ (hr i hi)⟩
/-- The six variables of the list's head. -/
theorem vars_of {W : World} {r : List (String × DataW Unit)} (h : laidMet Tryd.prog (("bytes.ErrTooLarge", Rows.laid_bytes_ErrTooLarge) :: ("loop.example/pub-g01474/pub/gogit/plumbing/format/packfile.ErrInvalidDelta", Rows.laid_loop_example_pub_g01474_pub_gogit_plumbing_format_packfile_ErrInvalidDelta) ::
    ("loop.example/pub-g01474/pub/gogit/plumbing/format/packfile.ErrDeltaCmd", Rows.laid_loop_example_pub_g01474_pub_gogit_plumbing_format_packfile_ErrDeltaCmd) :: ("loop.example/pub-g01474/pub/gogit/plumbing/format/packfile.offsets", Rows.laid_loop_example_pub_g01474_pub_gogit_plumbing_format_packfile_offsets) ::
    ("loop.example/pub-g01474/pub/gogit/plumbing/format/packfile.sizes", Rows.laid_loop_example_pub_g01474_pub_gogit_plumbing_format_packfile_sizes) :: r) W) : Vars W := by
  obtain ⟨b1, s1, hv1, _, _, _⟩ := laid_sentinel h.tail g0 gt0 Tryd.underlying42 rowE Tryd.underlying99 Tryd.underlying117 rfl rfl Tryd.underlying9 cellsE cellsS
  have e1 : W.cell? ⟨0, 0, none⟩ = some (.iface 99 (.pointer (some b1))) := by simpa using World.var?_cell g0 hv1 0
  have t3 := tab_of_laid (rows := [(1, 0), (2, 8), (4, 16), (8, 24)]) (k0 := .u8) (k1 := .u64) h.tail.tail.tail g3 gt3 Tryd.underlying79 Tryd.underlying81 rfl rfl rfl rfl Tryd.underlying5 Tryd.underlying60 c5 c60 c81 (by simp)
  have t4 := tab_of_laid (rows := [(16, 0), (32, 8), (64, 16)]) (k0 := .u8) (k1 := .u64) h.tail.tail.tail.tail g4 gt4 Tryd.underlying79 Tryd.underlying81 rfl rfl rfl rfl Tryd.underlying5 Tryd.underlying60 c5 c60 c81 (by simp)
  refine ⟨tab_mk _ rfl (fun i hi => ?_) (by omega) t3, tab_mk _ rfl (fun i hi => ?_) (by omega) t4, _, _, e1⟩
  · rcases i with _ | _ | _ | _ | i
    · rfl
    · rfl
    · rfl
    · rfl
    · omega
  · rcases i with _ | _ | _ | i
    · rfl
    · rfl
    · rfl
    · omega
theorem vars_made {W : World} (h : laidMetH Tryd.prog Rows.fnDeltaMadeRow.laid W) : Vars W := by
  rw [MakeChecks.laidMetH_plain _ _ _ (by kernel_rfl)] at h
  exact vars_of h
theorem vars_joined {W : World} (h : laidMetH Tryd.prog Rows.fnDeltaJoinedRow.laid W) : Vars W := by
  rw [MakeChecks.laidMetH_plain _ _ _ (by kernel_rfl)] at h
  exact vars_of h
theorem vars_other {W : World} (h : laidMetH Tryd.prog Rows.fnDeltaOtherRow.laid W) : Vars W := by
  rw [MakeChecks.laidMetH_plain _ _ _ (by kernel_rfl)] at h
  exact vars_of h
end Go.Proofs.YtlboochpbplhlaaDoor.Laid
