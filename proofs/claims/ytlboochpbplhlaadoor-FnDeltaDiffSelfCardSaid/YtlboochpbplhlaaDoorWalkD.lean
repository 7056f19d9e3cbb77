/- The listed variables that the finding of a delta reads: two tables of numbers. FnDeltaDiff, walked. -/
import Derived.Test.YtlboochpbplhlaaDoorLaid
import Derived.Test.YtlboochpbplhlaaDoorHandQ
import Derived.OpenShut
import Derived.Test.YtlboochpbplhlaaDoorHandX
import Derived.Test.YtlboochpbplhlaaDoorHandH
set_option linter.unusedVariables false
set_option linter.unusedSimpArgs false
namespace Go.Proofs.YtlboochpbplhlaaDoor.LaidD
open Go.RowKit Go.ChangeShapes Go.Proofs.YtlboochpbplhlaaDoorW.PrintWords Go.Proofs.YtlboochpbplhlaaDoor.Open HandB HandE HandN HandQ Laid

theorem row_of_laid {P : Program} {n : String} {rows : List Int} {r : List (String × DataW Unit)} {W : World} {g : Nat} {ts te : TypeId} {k : IntKind}
    (h : laidMet P ((n, .slice (rows.map fun x => .lit (.int k x)) []) :: r) W)
    (hg : P.globalNamed n = some g) (ht : (P.globals[g]?).map (·.type) = some ts) (hs : P.underlying ts = some (.slice te)) (hk : P.underlying te = some (.int k)) (hct : P.cellsOf te = 1) (hne : rows ≠ []) :
    ∃ b o c, W.cell? ⟨g, 0, none⟩ = some (.slice (some ⟨b, o, none⟩) rows.length c) ∧ rows.length ≤ c ∧ ∀ i x, rows[i]? = some x → W.cell? ⟨b, o + i, none⟩ = some (.int k x) := by
  obtain ⟨ps, ⟨g0, t0', cs0, fu, p0, q0, hg0, ht0, hv0, hd0, _, e0⟩, _, hrows⟩ := h
  obtain rfl := Option.some.inj (hg.symm.trans hg0)
  obtain rfl := Option.some.inj (ht.symm.trans ht0)
  rcases DataW.trod_slice hs hd0 with ⟨_, h1⟩ | ⟨a, len, cap, elems, rest, m, _, hcs, hx, _, hl, _, hlen, hel, _, _⟩
  · cases h1
  · simp only [Prod.mk.injEq, DataW.slice.injEq] at hx
    obtain ⟨⟨hx1, hx2⟩, _⟩ := hx
    have hrl : rows.length = len := by
      have := congrArg List.length hx1
      simp at this
      omega
    have hvar : W.cell? ⟨g, 0, none⟩ = some (.slice (some a) len cap) := by
      obtain ⟨l0⟩ := cs0
      subst hcs
      simpa using World.var?_cell hg hv0 0
    have hcell : ∀ i x, rows[i]? = some x → W.cell? (a.add i) = some (.int k x) := by
      intro i x hi
      have hil : i < len := by rw [← hrl]; exact (List.getElem?_eq_some_iff.1 hi).1
      have hE := hel i hil
      have hil2 : i < elems.length := by omega
      rw [List.getElem?_eq_getElem hil2, hct] at hE
      obtain ⟨c, hc, hc2⟩ := Option.bind_eq_some_iff.1 hE
      obtain ⟨hcl, hcc⟩ := cells?_of hc
      obtain ⟨n0, e0, hy, _⟩ := DataW.trod_int hk hc2
      have hv : (elems[i]).1 = .lit (.int k x) := by
        have h3 := congrArg (·[i]?) hx1
        simp only [List.getElem?_map, hi, Option.map_some, List.getElem?_eq_getElem hil2] at h3
        exact (Option.some.inj h3).symm
      rw [hy] at hv
      simp only [DataW.lit.injEq, Lit.int.injEq, true_and] at hv
      subst hv
      have g0 : c[0]? = some (.int k n0) := by
        have := congrArg (·[0]?) e0
        simpa using this
      have h9 := hcc 0 _ g0
      rw [Nat.mul_one] at h9
      rwa [show (a.add i).add 0 = a.add i by unfold Addr.add; simp] at h9
    have hpl : a = ⟨a.block, a.off, none⟩ := by
      obtain ⟨x, hx⟩ : ∃ x, rows[0]? = some x := by
        cases rows with
        | nil => exact absurd rfl hne
        | cons x l => exact ⟨x, rfl⟩
      have := hcell 0 x hx
      rw [show a.add 0 = a by unfold Addr.add; simp] at this
      exact plain_cell this
    refine ⟨a.block, a.off, cap, by rw [← hpl, hrl]; exact hvar, by omega, fun i x hi => ?_⟩
    have q1 := hcell i x hi
    rw [hpl, Lib.addr_add] at q1
    exact q1
theorem arr_of_laid {P : Program} {n : String} {rows : List Int} {r : List (String × DataW Unit)} {W : World} {g m : Nat} {ts te : TypeId} {k : IntKind}
    (h : laidMet P ((n, .agg (rows.map fun x => .lit (.int k x))) :: r) W)
    (hg : P.globalNamed n = some g) (ht : (P.globals[g]?).map (·.type) = some ts) (hs : P.underlying ts = some (.array m te)) (hk : P.underlying te = some (.int k)) (hct : P.cellsOf te = 1) :
    ∀ i x, rows[i]? = some x → W.cell? ⟨g, i, none⟩ = some (.int k x) := by
  obtain ⟨ps, ⟨g0, t0', cs0, fu, p0, q0, hg0, ht0, hv0, hd0, _, e0⟩, _, hrows⟩ := h
  obtain rfl := Option.some.inj (hg.symm.trans hg0)
  obtain rfl := Option.some.inj (ht.symm.trans ht0)
  obtain ⟨xs, m0, _, hx, _, hxl, hel⟩ := DataW.trod_array hs hd0
  simp only [Prod.mk.injEq, DataW.agg.injEq] at hx
  have hx1 := hx.1
  have hrl : rows.length = xs.length := by
    have := congrArg List.length hx1
    simpa using this
  intro i x hi
  have hil : i < xs.length := by rw [← hrl]; exact (List.getElem?_eq_some_iff.1 hi).1
  have hE := hel i (by omega)
  rw [List.getElem?_eq_getElem hil, hct, Nat.mul_one] at hE
  obtain ⟨n0, e0, hy, _⟩ := DataW.trod_int hk hE
  have hv : (xs[i]).1 = .lit (.int k x) := by
    have h3 := congrArg (·[i]?) hx1
    simp only [List.getElem?_map, hi, Option.map_some, List.getElem?_eq_getElem hil] at h3
    exact (Option.some.inj h3).symm
  rw [hy] at hv
  simp only [DataW.lit.injEq, Lit.int.injEq, true_and] at hv
  subst hv
  have g0 : cs0.toList[i]? = some (.int k n0) := by
    have h5 := congrArg (·[0]?) e0
    simpa [List.getElem?_take, List.getElem?_drop] using h5
  rw [World.var?_cell hg hv0 i]
  simpa using g0

def nums8 : List Nat := [0, 1, 2, 2, 3, 3, 3, 3, 4, 4, 4, 4, 4, 4, 4, 4, 5, 5, 5, 5, 5, 5, 5, 5, 5, 5, 5, 5, 5, 5, 5, 5, 6, 6, 6, 6, 6, 6, 6, 6, 6, 6, 6, 6, 6, 6, 6, 6, 6, 6, 6, 6, 6, 6, 6, 6, 6, 6, 6, 6, 6, 6, 6, 6, 7, 7, 7, 7, 7, 7, 7, 7, 7, 7, 7, 7, 7, 7, 7, 7, 7, 7, 7, 7, 7, 7, 7, 7, 7, 7, 7, 7, 7, 7, 7, 7, 7, 7, 7, 7, 7, 7, 7, 7, 7, 7, 7, 7, 7, 7, 7, 7, 7, 7, 7, 7, 7, 7, 7, 7, 7, 7, 7, 7, 7, 7, 7, 7, 8, 8, 8, 8, 8, 8, 8, 8, 8, 8, 8, 8, 8, 8, 8, 8, 8, 8, 8, 8, 8, 8, 8, 8, 8, 8, 8, 8, 8, 8, 8, 8, 8, 8, 8, 8, 8, 8, 8, 8, 8, 8, 8, 8, 8, 8, 8, 8, 8, 8, 8, 8, 8, 8, 8, 8, 8, 8, 8, 8, 8, 8, 8, 8, 8, 8, 8, 8, 8, 8, 8, 8, 8, 8, 8, 8, 8, 8, 8, 8, 8, 8, 8, 8, 8, 8, 8, 8, 8, 8, 8, 8, 8, 8, 8, 8, 8, 8, 8, 8, 8, 8, 8, 8, 8, 8, 8, 8, 8, 8, 8, 8, 8, 8, 8, 8, 8, 8, 8, 8, 8, 8, 8, 8, 8, 8, 8, 8]
def numsT : List Nat := [0, 3569791789, 2102121847, 2844616282, 777066947, 4204243694, 1394265268, 2279374745, 1554133894, 2288287915, 568977137, 4113520092, 1928538693, 2788530536, 263782194, 3682487327, 1837290529, 3108267788, 281608534, 3289363067, 1137954274, 2534768335, 1050155157, 3932072888, 824240039, 3857077386, 1282093776, 2561507837, 527564388, 3417787721, 1647979283, 3070007358, 264444783, 3674581058, 1921568280, 2790161717, 563217068, 4115968385, 1557780443, 2283758838, 1398876393, 2275908548, 774569374, 4209790643, 2100310314, 2851504647, 8119389, 3569178480, 1648480078, 3062332515, 520755769, 3419187476, 1276171917, 2564187552, 828048378, 3852316887, 1055128776, 3928313829, 1135094207, 2540608146, 280159499, 3295958566, 1845047420, 3107947345, 528889566, 3410003443, 1657660329, 3054194820, 836185885, 3843136560, 1285356138, 2556053831, 1126434136, 2548217461, 1047515183, 3936969474, 1836391579, 3115560886, 272550380, 3304618689, 1912922879, 2797752786, 256849800, 3683222693, 1549138748, 2291353617, 555626059, 4124613990, 782684537, 4200620628, 1408041998, 2267789091, 16238778, 3560012695, 2109480397, 2843389664, 272969137, 3296960156, 1829697734, 3116911595, 1041511538, 3939665759, 1130356997, 2543407656, 1290214967, 2552343834, 833407808, 3848960109, 1656096756, 3060839641, 536728195, 3409666478, 2110257552, 2835434173, 9186535, 3561660362, 1402396755, 2270188414, 786248996, 4196107785, 560318998, 4121131323, 1546526561, 2296949836, 255120341, 3690094840, 1920927394, 2797188495, 1057779132, 3955941009, 1111996619, 2525039590, 291337343, 3315320658, 1813422344, 3100643877, 1672371770, 3077106967, 518359885, 3391305824, 1308575737, 2570712276, 817140366, 3832684963, 1385085341, 2252868272, 801467626, 4211335111, 2095030366, 2820215667, 26506537, 3578971652, 237799963, 3672783158, 1936154476, 2812406849, 545100760, 4105904373, 1563838127, 2314270082, 818902739, 3825845758, 1300538276, 2571243657, 513699600, 3394821181, 1674951271, 3071478090, 1819100501, 3098277496, 287739938, 3319800591, 1111252118, 2533027771, 1064798689, 3954260684, 1565369074, 2307592671, 537294725, 4106273960, 1931262769, 2816083996, 240610886, 3666992491, 32477556, 3576242777, 2091140099, 2825058094, 801015991, 4218960794, 1391812032, 2251550445, 545938274, 4098680911, 1572965909, 2298953016, 249250465, 3659395468, 1938855894, 2807440635, 2083023076, 2834226121, 23313811, 3584364222, 1383690535, 2260713994, 791848016, 4227078013, 1292406595, 2580429934, 809720372, 3833981209, 1666815616, 3080660397, 504513527, 3402952922, 296402117, 3312193512, 1826711986, 3089619615, 1073456390, 3946649131, 1118859377, 2524365660, 793329677, 4220515104, 1375901050, 2261001815, 18373070, 3588156131, 2085850297, 2828353428, 1944810379, 2804793510, 245409532, 3664123345, 1572497992, 2306660709, 552714047, 4097248274, 1120637996, 2517444353, 1065369947, 3947295350, 1822068207, 3093053122, 298932376, 3306679221, 510240682, 3400471687, 1663202013, 3085222384, 809025129, 3841854788, 1299409694, 2578831411]
theorem lenT : numsT.length = 256 := by kernel_rfl
theorem all8 : ∀ i : Fin 256, (nums8[i.val]?).any (fun v => decide (v ≤ 8) && (i.val == 0 || decide (1 ≤ v))) = true := by decide +kernel
theorem allT : ∀ i : Fin 256, (numsT[i.val]?).any (fun t => decide (t < 4294967296) && (t / 2147483648 == i.val % 2)) = true := by decide +kernel
theorem at8 (i : Nat) (h : i < 256) : ∃ v, nums8[i]? = some v ∧ v ≤ 8 ∧ (1 ≤ i → 1 ≤ v) := by
  have h1 := all8 ⟨i, h⟩
  cases hv : nums8[i]? with
  | none => simp only [hv] at h1; cases h1
  | some v =>
    simp only [hv, Option.any_some, Bool.and_eq_true, Bool.or_eq_true, decide_eq_true_eq, beq_iff_eq] at h1
    exact ⟨v, rfl, h1.1, fun hi => by omega⟩
theorem atT (i : Nat) (h : i < 256) : ∃ t, numsT[i]? = some t ∧ t < 4294967296 ∧ t / 2147483648 = i % 2 := by
  have h1 := allT ⟨i, h⟩
  cases hv : numsT[i]? with
  | none => simp only [hv] at h1; cases h1
  | some v =>
    simp only [hv, Option.any_some, Bool.and_eq_true, decide_eq_true_eq, beq_iff_eq] at h1
    exact ⟨v, rfl, h1.1, h1.2⟩
set_option maxRecDepth 100000 in
theorem laid8 : (Rows.laid_loop_example_pub_g01474_pub_gogit_plumbing_format_packfile_len8tab : DataW Unit) = .agg ((nums8.map (fun n : Nat => (n : Int))).map fun x => .lit (.int .u8 x)) := by kernel_rfl
set_option maxRecDepth 100000 in
theorem laidT : (Rows.laid_loop_example_pub_g01474_pub_gogit_plumbing_format_packfile_T : DataW Unit) = .slice ((numsT.map (fun n : Nat => (n : Int))).map fun x => .lit (.int .u32 x)) [] := by kernel_rfl
theorem g7 : Tryd.prog.globalNamed "loop.example/pub-g01474/pub/gogit/plumbing/format/packfile.len8tab" = some 7 := by kernel_rfl
theorem gt7 : (Tryd.prog.globals[7]?).map (·.type) = some 98 := by kernel_rfl
theorem g6 : Tryd.prog.globalNamed "loop.example/pub-g01474/pub/gogit/plumbing/format/packfile.T" = some 6 := by kernel_rfl
theorem gt6 : (Tryd.prog.globals[6]?).map (·.type) = some 96 := by kernel_rfl
theorem c95 : Tryd.prog.cellsOf 95 = 1 := by kernel_rfl

theorem tab8_of {W : World} {r : List (String × DataW Unit)} (h : laidMet Tryd.prog (("loop.example/pub-g01474/pub/gogit/plumbing/format/packfile.len8tab", Rows.laid_loop_example_pub_g01474_pub_gogit_plumbing_format_packfile_len8tab) :: r) W) : Tab8 W := by
  rw [laid8] at h
  have hc := arr_of_laid h g7 gt7 und98 Tryd.underlying5 c5
  have key : ∀ i : Nat, i < 256 → ∃ v : Nat, W.cell? ⟨7, i, none⟩ = some (.int .u8 (v : Int)) ∧ v ≤ 8 ∧ (1 ≤ i → 1 ≤ v) := fun i hi => by
    obtain ⟨v, h1, h2⟩ := at8 i hi
    exact ⟨v, hc i v (by rw [List.getElem?_map, h1]; rfl), h2⟩
  obtain ⟨v, h1, _⟩ := key 0 (by omega)
  exact ⟨World.block_lt_of_cell? W _ h1, key⟩
theorem tabT_of {W : World} {r : List (String × DataW Unit)} (h : laidMet Tryd.prog (("loop.example/pub-g01474/pub/gogit/plumbing/format/packfile.T", Rows.laid_loop_example_pub_g01474_pub_gogit_plumbing_format_packfile_T) :: r) W) : TabT W := by
  rw [laidT] at h
  obtain ⟨b, o, c, h1, h2, h3⟩ := row_of_laid h g6 gt6 Tryd.underlying96 Tryd.underlying95 c95 (fun e => by have e2 := congrArg List.length e; rw [List.length_map, lenT] at e2; cases e2)
  have hl : (numsT.map (fun n : Nat => (n : Int))).length = 256 := by rw [List.length_map, lenT]
  rw [hl] at h1 h2
  have key : ∀ i : Nat, i < 256 → ∃ t : Nat, W.cell? ⟨b, o + i, none⟩ = some (.int .u32 (t : Int)) ∧ t < 4294967296 ∧ t / 2147483648 = i % 2 := fun i hi => by
    obtain ⟨v, k1, k2⟩ := atT i hi
    exact ⟨v, h3 i v (by rw [List.getElem?_map, k1]; rfl), k2⟩
  obtain ⟨v, k1, _⟩ := key 0 (by omega)
  exact ⟨b, o, c, h1, h2, World.block_lt_of_cell? W _ k1, World.block_lt_of_cell? W _ h1, key⟩
/-- What a patch reads, of a list that begins with another variable. -/
theorem vars_any {W : World} {n0 : String} {d0 : DataW Unit} {r : List (String × DataW Unit)} (h : laidMet Tryd.prog ((n0, d0) :: ("loop.example/pub-g01474/pub/gogit/plumbing/format/packfile.ErrInvalidDelta", Rows.laid_loop_example_pub_g01474_pub_gogit_plumbing_format_packfile_ErrInvalidDelta) ::
    ("loop.example/pub-g01474/pub/gogit/plumbing/format/packfile.ErrDeltaCmd", Rows.laid_loop_example_pub_g01474_pub_gogit_plumbing_format_packfile_ErrDeltaCmd) :: ("loop.example/pub-g01474/pub/gogit/plumbing/format/packfile.offsets", Rows.laid_loop_example_pub_g01474_pub_gogit_plumbing_format_packfile_offsets) ::
    ("loop.example/pub-g01474/pub/gogit/plumbing/format/packfile.sizes", Rows.laid_loop_example_pub_g01474_pub_gogit_plumbing_format_packfile_sizes) :: r) W) : Vars W := by
  obtain ⟨b1, s1, hv1, _, _, _⟩ := laid_sentinel h.tail g0 gt0 Tryd.underlying42 rowE Tryd.underlying99 Tryd.underlying117 rfl rfl Tryd.underlying9 cellsE cellsS
  have e1 : W.cell? ⟨0, 0, none⟩ = some (.iface 99 (.pointer (some b1))) := by simpa using World.var?_cell g0 hv1 0
  have t3 := tab_of_laid (rows := [(1, 0), (2, 8), (4, 16), (8, 24)]) (k0 := .u8) (k1 := .u64) h.tail.tail.tail g3 gt3 Tryd.underlying79 Tryd.underlying81 rfl rfl rfl rfl Tryd.underlying5 Tryd.underlying60 c5 c60 c81 (by simp)
  have t4 := tab_of_laid (rows := [(16, 0), (32, 8), (64, 16)]) (k0 := .u8) (k1 := .u64) h.tail.tail.tail.tail g4 gt4 Tryd.underlying79 Tryd.underlying81 rfl rfl rfl rfl Tryd.underlying5 Tryd.underlying60 c5 c60 c81 (by simp)
  refine ⟨tab_mk _ rfl (fun i hi => ?_) (by omega) t3, tab_mk _ rfl (fun i hi => ?_) (by omega) t4, _, _, e1⟩
  · rcases i with _ | _ | _ | _ | i
    · rfl
    · rfl
    · rfl
    · rfl
    · omega
  · rcases i with _ | _ | _ | i
    · rfl
    · rfl
    · rfl
    · omega
theorem vars_diff {W : World} (h : laidMetH Tryd.prog Rows.fnDeltaDiffRow.laid W) : Vars W ∧ TabT W ∧ Tab8 W := by
  rw [MakeChecks.laidMetH_plain _ _ _ (by kernel_rfl)] at h
  exact ⟨vars_any h.tail.tail, tabT_of h.tail.tail, tab8_of h.tail⟩
theorem vars_self {W : World} (h : laidMetH Tryd.prog Rows.fnDeltaDiffSelfRow.laid W) : Vars W ∧ TabT W ∧ Tab8 W := by
  rw [MakeChecks.laidMetH_plain _ _ _ (by kernel_rfl)] at h
  exact ⟨vars_any h.tail.tail, tabT_of h.tail.tail, tab8_of h.tail⟩
end Go.Proofs.YtlboochpbplhlaaDoor.LaidD

set_option linter.unusedVariables false
set_option linter.unusedSimpArgs false
namespace Go.Proofs.YtlboochpbplhlaaDoor.WalkD
open Go.RowKit Go.Proofs.YtlboochpbplhlaaDoorW.PrintWords Go.Proofs.YtlboochpbplhlaaDoor.QAll PureD HandA HandB HandC HandD HandE HandF HandG HandH HandN HandQ HandY PureE PureF
open Go.Proofs.YtlboochpbplhlaaDoorW.PrintLast Go.Proofs.YtlboochpbplhlaaDoorW.PrintMore

theorem small1 (l : List Int) : ∃ b, (b = true → l.length ≤ 1000000) ∧ Ev (fun k => laws_deltaSmall.f k [l]) b := by
  by_cases h : (l.length : Int) > 1000000
  · exact ⟨false, by simp, 2, fun k hk => by
      obtain ⟨m, rfl⟩ : ∃ m, k = m + 2 := ⟨k - 2, by omega⟩
      show laws_deltaSmall.f (m + 2) [l] = _
      unfold laws_deltaSmall.f
      rw [laws_deltaSmall.l0, if_pos (by simp), if_pos (by omega), if_pos (by simp), show rd_L3 [l] 0 = l from rfl, if_pos h]⟩
  · exact ⟨true, fun _ => by omega, 2, fun k hk => by
      obtain ⟨m, rfl⟩ : ∃ m, k = m + 2 := ⟨k - 2, by omega⟩
      show laws_deltaSmall.f (m + 2) [l] = _
      unfold laws_deltaSmall.f
      rw [laws_deltaSmall.l0, if_pos (by simp), if_pos (by omega), if_pos (by simp), show rd_L3 [l] 0 = l from rfl, if_neg h, laws_deltaSmall.l0, if_neg (by simp [wrap64])]⟩
theorem small2 (l0 l1 : List Int) : ∃ b, (b = true → l0.length ≤ 1000000 ∧ l1.length ≤ 1000000) ∧ Ev (fun k => laws_deltaSmall.f k [l0, l1]) b := by
  by_cases h : (l0.length : Int) > 1000000
  · exact ⟨false, by simp, 2, fun k hk => by
      obtain ⟨m, rfl⟩ : ∃ m, k = m + 2 := ⟨k - 2, by omega⟩
      show laws_deltaSmall.f (m + 2) [l0, l1] = _
      unfold laws_deltaSmall.f
      rw [laws_deltaSmall.l0, if_pos (by simp), if_pos (by omega), if_pos (by simp), show rd_L3 [l0, l1] 0 = l0 from rfl, if_pos h]⟩
  · have hw : wrap64 (0 + 1) = 1 := by rw [Txt.w64 _ (by omega) (by omega)]; rfl
    by_cases h1 : (l1.length : Int) > 1000000
    · exact ⟨false, by simp, 3, fun k hk => by
        obtain ⟨m, rfl⟩ : ∃ m, k = m + 3 := ⟨k - 3, by omega⟩
        show laws_deltaSmall.f (m + 3) [l0, l1] = _
        unfold laws_deltaSmall.f
        rw [laws_deltaSmall.l0, if_pos (by simp), if_pos (by omega), if_pos (by simp), show rd_L3 [l0, l1] 0 = l0 from rfl, if_neg h, hw, laws_deltaSmall.l0, if_pos (by simp), if_pos (by omega), if_pos (by simp), show rd_L3 [l0, l1] 1 = l1 from rfl, if_pos h1]⟩
    · exact ⟨true, fun _ => by omega, 3, fun k hk => by
        obtain ⟨m, rfl⟩ : ∃ m, k = m + 3 := ⟨k - 3, by omega⟩
        show laws_deltaSmall.f (m + 3) [l0, l1] = _
        unfold laws_deltaSmall.f
        rw [laws_deltaSmall.l0, if_pos (by simp), if_pos (by omega), if_pos (by simp), show rd_L3 [l0, l1] 0 = l0 from rfl, if_neg h, hw, laws_deltaSmall.l0, if_pos (by simp), if_pos (by omega), if_pos (by simp), show rd_L3 [l0, l1] 1 = l1 from rfl, if_neg h1, laws_deltaSmall.l0, if_neg (by simp [wrap64])]⟩
theorem smallC1 (A : Option Addr) (c : Nat) (l : List Int) (w : World) (hr : Kd.C (Kd.int .u8) w A l.length l) (hc : l.length ≤ c) :
    ∃ b, (b = true → l.length ≤ 1000000) ∧ ∀ W, Below w.heap.size w W → Calls Tryd.prog 15 #[.slice (some ⟨W.heap.size, 0, none⟩) 1 1] (W.alloc (.cells #[.slice A l.length c] 22)) fun e w' => e = .returned (.bool b) ∧ Below W.heap.size W w' := by
  obtain ⟨b, hb1, K, h⟩ := small1 l
  refine ⟨b, hb1, fun W hb => ?_⟩
  have hbA : Below W.heap.size W (W.alloc (.cells #[.slice A l.length c] 22)) := (Below.refl _ _).alloc (Nat.le_refl _) _
  have hcc : Kd.C (Kd.slice 5 (Kd.int .u8)) (W.alloc (.cells #[.slice A l.length c] 22)) (some ⟨W.heap.size, 0, none⟩) ([l] : List (List Int)).length [l] :=
    ⟨rfl, by simp, fun _ => ⟨_, rfl, fun j p hj => by
      obtain rfl : j = 0 := by have := (List.getElem?_eq_some_iff.1 hj).1; simp at this; exact this
      simp only [List.getElem?_cons_zero, Option.some.injEq] at hj
      subst hj
      refine ⟨[.slice A l.length c], rfl, ⟨A, c, rfl, hc, Kd.C_below (Kd.C_below hr hb) hbA⟩, fun i u hu => ?_⟩
      obtain rfl : i = 0 := by have := (List.getElem?_eq_some_iff.1 hu).1; simp at this; exact this
      simp only [List.getElem?_cons_zero, Option.some.injEq] at hu
      subst hu
      rw [add_plain, Lib.cell_of_heap (heap_alloc_new W _)]
      rfl⟩⟩
  refine (laws_deltaSmall.calls K _ 1 [l] b _ hcc (by simp) (h K (Nat.le_refl _))).mono fun e w' hh => ⟨hh.1, below_step hbA hh.2.below⟩
theorem smallC2 (A0 A1 : Option Addr) (c0 c1 : Nat) (l0 l1 : List Int) (w : World) (hr0 : Kd.C (Kd.int .u8) w A0 l0.length l0) (hc0 : l0.length ≤ c0) (hr1 : Kd.C (Kd.int .u8) w A1 l1.length l1) (hc1 : l1.length ≤ c1) :
    ∃ b, (b = true → l0.length ≤ 1000000 ∧ l1.length ≤ 1000000) ∧ ∀ W, Below w.heap.size w W → Calls Tryd.prog 15 #[.slice (some ⟨W.heap.size, 0, none⟩) 2 2] (W.alloc (.cells #[.slice A0 l0.length c0, .slice A1 l1.length c1] 22)) fun e w' => e = .returned (.bool b) ∧ Below W.heap.size W w' := by
  obtain ⟨b, hb1, K, h⟩ := small2 l0 l1
  refine ⟨b, hb1, fun W hb => ?_⟩
  have hbA : Below W.heap.size W (W.alloc (.cells #[.slice A0 l0.length c0, .slice A1 l1.length c1] 22)) := (Below.refl _ _).alloc (Nat.le_refl _) _
  have hcc : Kd.C (Kd.slice 5 (Kd.int .u8)) (W.alloc (.cells #[.slice A0 l0.length c0, .slice A1 l1.length c1] 22)) (some ⟨W.heap.size, 0, none⟩) ([l0, l1] : List (List Int)).length [l0, l1] :=
    ⟨rfl, by simp, fun _ => ⟨_, rfl, fun j p hj => by
      rcases j with _ | _ | j
      · simp only [List.getElem?_cons_zero, Option.some.injEq] at hj
        subst hj
        refine ⟨[.slice A0 l0.length c0], rfl, ⟨A0, c0, rfl, hc0, Kd.C_below (Kd.C_below hr0 hb) hbA⟩, fun i u hu => ?_⟩
        obtain rfl : i = 0 := by have := (List.getElem?_eq_some_iff.1 hu).1; simp at this; exact this
        simp only [List.getElem?_cons_zero, Option.some.injEq] at hu
        subst hu
        rw [add_plain, Lib.cell_of_heap (heap_alloc_new W _)]
        rfl
      · simp only [List.getElem?_cons_succ, List.getElem?_cons_zero, Option.some.injEq] at hj
        subst hj
        refine ⟨[.slice A1 l1.length c1], rfl, ⟨A1, c1, rfl, hc1, Kd.C_below (Kd.C_below hr1 hb) hbA⟩, fun i u hu => ?_⟩
        obtain rfl : i = 0 := by have := (List.getElem?_eq_some_iff.1 hu).1; simp at this; exact this
        simp only [List.getElem?_cons_zero, Option.some.injEq] at hu
        subst hu
        rw [add_plain, Lib.cell_of_heap (heap_alloc_new W _)]
        rfl
      · simp at hj⟩⟩
  refine (laws_deltaSmall.calls K _ 2 [l0, l1] b _ hcc (by simp) (h K (Nat.le_refl _))).mono fun e w' hh => ⟨hh.1, below_step hbA hh.2.below⟩

/-- A found delta is applied. -/
theorem applied (A0 A2 : Option Addr) (c0 c2 : Nat) (l0 l1 d bs : List Int) (is : List Ins) (w : World) (hV : Vars w) (hr0 : Kd.C (Kd.int .u8) w A0 l0.length l0) (hr2 : Kd.C (Kd.int .u8) w A2 d.length d) (h0 : ∀ x ∈ l0, 0 ≤ x ∧ x ≤ 255) (hF : HandY.Found l0 l1 bs is) (hd : d = enc7 l0.length ++ (enc7 l1.length ++ bs)) (hp : 1 ≤ l0.length) (hl0 : l0.length ≤ 1000000) (hl1 : l1.length ≤ 2000000) :
    Calls Tryd.prog 11 #[.slice A0 l0.length c0, .slice A2 d.length c2] w fun e w' => ∃ v, e = .returned (.tuple #[v, .bool true]) ∧ Kd.R (Kd.int .u8) 5 w' w.heap.size (fun _ => True) v l1 ∧ Below w.heap.size w w' := by
  obtain ⟨h1, h2, h3, h4, h5⟩ := hF
  have hdl : d.length ≤ 140737488351232 := by
    have k1 := enc7_le l0.length 8 (by omega) (by omega)
    have k2 := enc7_le l1.length 8 (by omega) (by omega)
    rw [hd, List.length_append, List.length_append]
    omega
  have h := patch_good A0 A2 c0 c2 l0 d bs is w hV hr0 hr2 h0 (by rw [hd]; exact delta_range _ _ _ h4) (by omega) hdl hp (by rw [h2]; omega) (by rw [h2]; exact hd) h1 h3
  rw [h2] at h
  exact h

set_option maxHeartbeats 16000000 in
set_option maxRecDepth 100000 in
theorem law (A0 A1 : Option Addr) (c0 c1 : Nat) (l0 l1 : List Int) (w : World) (hr0 : Kd.C (Kd.int .u8) w A0 l0.length l0) (hc0 : l0.length ≤ c0) (hr1 : Kd.C (Kd.int .u8) w A1 l1.length l1) (hc1 : l1.length ≤ c1)
    (h0 : ∀ x ∈ l0, 0 ≤ x ∧ x ≤ 255) (h1 : ∀ x ∈ l1, 0 ≤ x ∧ x ≤ 255) (hV : Vars w) (hT : TabT w) (h8 : Tab8 w) :
    Calls Tryd.prog 6 #[.slice A0 l0.length c0, .slice A1 l1.length c1] w fun e w' => e = .returned (.bool true) ∧ Below w.heap.size w w' := by
  obtain ⟨b15, hsm, hS⟩ := smallC2 A0 A1 c0 c1 l0 l1 w hr0 hc0 hr1 hc1
  have HS := Aside0.mk hS
  have HR0 := Aside0.mk hr0
  have HR1 := Aside0.mk hr1
  have HC0 := Aside0.mk hc0
  have HC1 := Aside0.mk hc1
  have HX0 := Aside0.mk h0
  have HX1 := Aside0.mk h1
  have HV := Aside0.mk hV
  have HB := Aside0.mk (Below.refl w.heap.size w)
  have HW := Aside0.mk (fun W (hb : Below w.heap.size w W) => works W (hV.below hb))
  have HT := Aside0.mk hT
  have H8 := Aside0.mk h8
  clear hS hr0 hr1 h0 h1 hV hc0 hc1 hT h8
  by_cases hs0 : (2147483647 : Int) < (l0.length : Int)
  · clear hsm
    go_enter Tryd.func6, Tryd.ntmps6
    go_wp2
    go_ret
    exact ⟨rfl, HB.out⟩
  · by_cases hs1 : (2147483647 : Int) < (l1.length : Int)
    · clear hsm
      go_enter Tryd.func6, Tryd.ntmps6
      go_wp2
      go_ret
      exact ⟨rfl, HB.out⟩
    · by_cases hn : l0.length = 0
      · have hn0 : ((l0.length : Int) == 0) = true := beq_iff_eq.2 (by omega)
        clear hsm
        go_enter Tryd.func6, Tryd.ntmps6
        go_wp2_with (first
          | (go_at_call 10; (with_reducible refine (HW.out _ ?b10).mono ?_); (case b10 => repeat (first | (with_reducible first | exact HB.out | apply below_alloc | apply pw_below_drewN | apply below_drew1) | exact HB.out)); rintro e w' ⟨rfl, hb⟩; have n1_ := Aside0.mk (below_step (by repeat (first | (with_reducible first | exact HB.out | apply below_alloc | apply pw_below_drewN | apply below_drew1) | exact HB.out)) hb); clear HB; have HB := n1_; clear n1_ hb)
          | fail)
        go_ret
        exact ⟨rfl, HB.out⟩
      · have hn0 : ((l0.length : Int) == 0) = false := beq_eq_false_iff_ne.2 (by omega)
        by_cases hm : l1.length = 0
        · have hm0 : ((l1.length : Int) == 0) = true := beq_iff_eq.2 (by omega)
          clear hsm
          go_enter Tryd.func6, Tryd.ntmps6
          go_wp2_with (first
            | (go_at_call 10; (with_reducible refine (HW.out _ ?b10).mono ?_); (case b10 => repeat (first | (with_reducible first | exact HB.out | apply below_alloc | apply pw_below_drewN | apply below_drew1) | exact HB.out)); rintro e w' ⟨rfl, hb⟩; have n1_ := Aside0.mk (below_step (by repeat (first | (with_reducible first | exact HB.out | apply below_alloc | apply pw_below_drewN | apply below_drew1) | exact HB.out)) hb); clear HB; have HB := n1_; clear n1_ hb)
            | fail)
          go_ret
          exact ⟨rfl, HB.out⟩
        · have hm0 : ((l1.length : Int) == 0) = false := beq_eq_false_iff_ne.2 (by omega)
          cases b15 with
          | false =>
            clear hsm
            go_enter Tryd.func6, Tryd.ntmps6
            go_wp2_with (first
              | (go_at_call 15; (with_reducible refine (HS.out _ ?b15).mono ?_); (case b15 => repeat (first | (with_reducible first | exact HB.out | apply below_alloc | apply pw_below_drewN | apply below_drew1) | exact HB.out)); rintro e w' ⟨rfl, hb⟩; have n1_ := Aside0.mk (below_step (by repeat (first | (with_reducible first | exact HB.out | apply below_alloc | apply pw_below_drewN | apply below_drew1) | exact HB.out)) hb); clear HB; have HB := n1_; clear n1_ hb)
              | (go_at_call 10; (with_reducible refine (HW.out _ ?b10).mono ?_); (case b10 => repeat (first | (with_reducible first | exact HB.out | apply below_alloc | apply pw_below_drewN | apply below_drew1) | exact HB.out)); rintro e w' ⟨rfl, hb⟩; have n1_ := Aside0.mk (below_step (by repeat (first | (with_reducible first | exact HB.out | apply below_alloc | apply pw_below_drewN | apply below_drew1) | exact HB.out)) hb); clear HB; have HB := n1_; clear n1_ hb)
              | fail)
            go_ret
            exact ⟨rfl, HB.out⟩
          | true =>
            have HSM : Aside0 (l0.length ≤ 1000000 ∧ l1.length ≤ 2000000) := ⟨by have := hsm rfl; omega⟩
            have HP1 : Aside0 (1 ≤ l0.length) := ⟨by omega⟩
            have HD : Aside0 (∀ W, Below w.heap.size w W → Calls Tryd.prog 16 #[.slice A0 l0.length c0, .slice A1 l1.length c1] W fun e w' => ∃ v bs is, e = .returned v ∧ HandY.Found l0 l1 bs is ∧ Kd.R (Kd.int .u8) 5 w' W.heap.size (fun _ => True) v (enc7 l0.length ++ (enc7 l1.length ++ bs)) ∧ Below W.heap.size W w') :=
              ⟨fun W hb => implDiff A0 A1 c0 c1 l0 l1 W (HT.out.below hb) (H8.out.below hb) (Kd.C_below HR0.out hb) (Kd.C_below HR1.out hb) HX0.out HX1.out HSM.out.1 HSM.out.2 (by omega)⟩
            clear hsm
            go_enter Tryd.func6, Tryd.ntmps6
            go_wp2_with (first
              | (go_at_call 15; (with_reducible refine (HS.out _ ?b15).mono ?_); (case b15 => repeat (first | (with_reducible first | exact HB.out | apply below_alloc | apply pw_below_drewN | apply below_drew1) | exact HB.out)); rintro e w' ⟨rfl, hb⟩; have n1_ := Aside0.mk (below_step (by repeat (first | (with_reducible first | exact HB.out | apply below_alloc | apply pw_below_drewN | apply below_drew1) | exact HB.out)) hb); clear HB; have HB := n1_; clear n1_ hb)
              | (go_at_call 16
                 (with_reducible refine (HD.out _ ?b16).mono ?_)
                 (case b16 => repeat (first | (with_reducible first | exact HB.out | apply below_alloc | apply pw_below_drewN | apply below_drew1) | exact HB.out))
                 rintro e w2 ⟨v2, bs, is, rfl, hF, hR, hb⟩
                 obtain ⟨d, hd⟩ : ∃ d, d = enc7 l0.length ++ (enc7 l1.length ++ bs) := ⟨_, rfl⟩
                 rw [← hd] at hR
                 have n1_ := Aside0.mk (below_step (by repeat (first | (with_reducible first | exact HB.out | apply below_alloc | apply pw_below_drewN | apply below_drew1) | exact HB.out)) hb); clear HB; have HB := n1_; clear n1_ hb
                 obtain ⟨A2, c2, e2, hc2, hr2⟩ := Kd.R_reads hR
                 subst e2
                 have HPC := Aside0.mk (applied A0 A2 c0 c2 l0 l1 d bs is w2 (HV.out.below HB.out) (Kd.C_below HR0.out HB.out) hr2 HX0.out hF hd HP1.out HSM.out.1 HSM.out.2)
                 clear hR hc2 hr2 hF hd)
              | (go_at_call 11
                 (with_reducible refine HPC.out.mono ?_)
                 rintro e w3 ⟨v3, rfl, hR, hb⟩
                 have n1_ := Aside0.mk (below_step (by repeat (first | (with_reducible first | exact HB.out | apply below_alloc | apply pw_below_drewN | apply below_drew1) | exact HB.out)) hb); clear HB; have HB := n1_; clear n1_ hb
                 obtain ⟨A3, c3, e3, hc3, hr3⟩ := Kd.R_reads hR
                 subst e3
                 have HR3 := Aside0.mk hr3
                 have HC3 := Aside0.mk hc3
                 clear hR hc3 hr3)
              | (go_at_call 13
                 (with_reducible refine (sameC _ _ _ _ l1 _ HR3.out HC3.out (Kd.C_below HR1.out HB.out) HC1.out).mono ?_)
                 rintro e w5 ⟨rfl, hb⟩
                 have n1_ := Aside0.mk (below_step (by repeat (first | (with_reducible first | exact HB.out | apply below_alloc | apply pw_below_drewN | apply below_drew1) | exact HB.out)) hb); clear HB; have HB := n1_; clear n1_ hb)
              | fail)
            go_ret
            exact ⟨rfl, HB.out⟩
end Go.Proofs.YtlboochpbplhlaaDoor.WalkD
