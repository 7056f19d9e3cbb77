/- impl.EncodeTree, walked. -/
import Derived.Test.YtddnepddilbikaaDoorObjO
import Derived.Test.YtddnepddilbikaaDoorObjF
set_option linter.unusedVariables false
set_option linter.unusedSimpArgs false
namespace Go.Proofs.YtddnepddilbikaaDoor.ObjP
open Go.RowKit Go.Proofs.YtddnepddilbikaaDoorW.PrintLast Go.Proofs.YtddnepddilbikaaDoorW.PrintMore Go.Proofs.YtddnepddilbikaaDoor.QAll Ptr SrtL ObjA ObjB ObjC ObjD ObjE ObjF ObjL ObjM ObjN ObjO
open Go.Proofs.YtddnepddilbikaaDoorW.PrintWords hiding nums

/-- The row of entries, taken apart. -/
theorem rw_of {W : World} {b : Nat} {A : Option Addr} {d : Nat} {l : List S44} (h : kT.R 95 W b (fun _ => True) (.slice A l.length d) l) : ∃ gb, Rw W gb l ∧ (0 < l.length → A = some ⟨gb, 0, none⟩ ∧ gb < W.heap.size) := by
  by_cases z : 0 < l.length
  · obtain ⟨g, cap, e, _, hg, pcs, hpc⟩ := Kd.R_form h z
    injection e with e1 e2 e3
    obtain ⟨_, _, hC⟩ := Kd.R_reads' h
    refine ⟨g, ⟨fun _ => ⟨pcs, hpc⟩, fun k hk j v hj => ?_⟩, fun _ => ⟨e1, hg⟩⟩
    obtain ⟨ad, cs, e4, _, hK, hr⟩ := Kd.C_get hC z44 (k : Int) (by omega) (by omega)
    rw [e1] at e4
    cases e4
    rw [Int.toNat_natCast] at hK
    have hKc : cs = cellsE (l.getD k z44) := hK
    rw [← hKc] at hj
    have h5 := hr j v hj
    rw [Int.toNat_natCast] at h5
    have e6 : (⟨g, 0, none⟩ : Addr).add (k * 22 + j) = ⟨g, k * 22 + j, none⟩ := by unfold Addr.add; split <;> simp_all
    have h6 : W.cell? ((⟨g, 0, none⟩ : Addr).add (k * 22 + j)) = some v := h5
    rw [e6] at h6
    exact h6
  · have hz : l = [] := List.eq_nil_of_length_eq_zero (by omega)
    subst hz
    exact ⟨0, ⟨fun h => absurd h z, fun k hk => absurd hk (Nat.not_lt_zero _)⟩, fun h => absurd h z⟩
set_option maxHeartbeats 16000000 in
set_option maxRecDepth 100000 in
theorem encodeTree {A0 : Option Addr} {c0 : Nat} {l : List S44} {ev : Value} {aE : Addr} (w : World) (hC : Kd.C k44 w A0 l.length l) (hn1 : l.length ≤ 1000) (hg : ∀ s ∈ l, s.f2.size = 40 ∧ (dec s.f2).length = 20)
    (hok : ∀ s ∈ l, OkE s) (hs : Sorted l) (hc3 : ∀ W1, Below w.heap.size w W1 → W1.cell? ⟨6, 7, none⟩ = some (.int .u8 3)) (hE : w.cell? ⟨1, 0, none⟩ = some (.iface 134 (.pointer (some aE)))) (hE2 : w.cell? ⟨2, 0, none⟩ = some ev) :
    Calls Tryd.prog 8 #[.slice A0 l.length c0] w fun e w' => ∃ B d, e = .returned (.tuple #[.slice B (entsOut l).length d, .bool true]) ∧ (entsOut l).length ≤ d ∧ Kd.C (Kd.int .u8) w' B (entsOut l).length (entsOut l) ∧ Below w.heap.size w w' := by
  have HEN := Aside0.mk (entriesOf A0 c0 l ev w hC hn1 hE2 hg)
  have HLL : Aside0 ((entsOut l).length ≤ 900000000) := ⟨by
    have := entsOut_len l hok
    have : l.length * 4200 ≤ 1000 * 4200 := Nat.mul_le_mul_right _ hn1
    omega⟩
  have HTE : Aside0 (∀ (W : World) (o g gb : Nat) (tcs : Array Value) (A : Option Addr) (c : Nat), Mo w W o 0 [] → W.heap[g]? = some (.cells tcs 56 (0, 0)) → tcs[0]? = some (.slice A l.length c) → g ≠ o → Rw W gb l → (0 < l.length → gb ≠ o) → (0 < l.length → A = some ⟨gb, 0, none⟩) → Calls Tryd.prog 23 #[.pointer (some ⟨g, 0, none⟩), .iface 57 (.pointer (some ⟨o, 0, none⟩))] W fun e w' => e = .returned .nilIface ∧ Mo w w' o 2 (entsOut l)) :=
    ⟨fun W o g gb tcs A c m1 m2 m3 m4 m5 m6 m7 => by
      have h := treeEncode m1 m2 m3 m4 m5 m6 m7 hn1 hok hs hc3
      rw [List.nil_append] at h
      exact h⟩
  have HE := Aside0.mk hE
  clear hC hn1 hg hok hs hc3 hE hE2
  obtain ⟨np, hnp⟩ : ∃ np, np = l.length := ⟨_, rfl⟩
  rw [← hnp] at HEN ⊢
  have HNP := Aside0.mk hnp
  clear hnp
  go_enter Tryd.func8, Tryd.ntmps8
  go_upto_region 2 with (first
    | (go_at_call 22
       (with_reducible refine HEN.out.mono ?_)
       rintro x w1 ⟨v, rfl, hR, hb⟩
       obtain ⟨AP, cp, rfl⟩ := Kd.R_slice hR
       have HR := Aside0.mk hR
       have HB := Aside0.mk hb
       clear hR hb)
    | fail)
  have hgt : (w1.alloc (.cells #[.slice AP l.length cp, .int .u8 0, .int .u8 0, .int .u8 0, .int .u8 0, .int .u8 0, .int .u8 0, .int .u8 0, .int .u8 0, .int .u8 0, .int .u8 0, .int .u8 0, .int .u8 0, .int .u8 0, .int .u8 0, .int .u8 0, .int .u8 0, .int .u8 0, .int .u8 0, .int .u8 0, .int .u8 0, .nilIface, .map none, .bool false] 56)).heap[w1.heap.size]? = some (.cells #[.slice AP l.length cp, .int .u8 0, .int .u8 0, .int .u8 0, .int .u8 0, .int .u8 0, .int .u8 0, .int .u8 0, .int .u8 0, .int .u8 0, .int .u8 0, .int .u8 0, .int .u8 0, .int .u8 0, .int .u8 0, .int .u8 0, .int .u8 0, .int .u8 0, .int .u8 0, .int .u8 0, .int .u8 0, .nilIface, .map none, .bool false] 56 (0, 0)) := blk_new _ _
  have HB9 : Aside0 (Below w.heap.size w (w1.alloc (.cells #[.slice AP l.length cp, .int .u8 0, .int .u8 0, .int .u8 0, .int .u8 0, .int .u8 0, .int .u8 0, .int .u8 0, .int .u8 0, .int .u8 0, .int .u8 0, .int .u8 0, .int .u8 0, .int .u8 0, .int .u8 0, .int .u8 0, .int .u8 0, .int .u8 0, .int .u8 0, .int .u8 0, .int .u8 0, .nilIface, .map none, .bool false] 56)) ∧ Below w1.heap.size w1 (w1.alloc (.cells #[.slice AP l.length cp, .int .u8 0, .int .u8 0, .int .u8 0, .int .u8 0, .int .u8 0, .int .u8 0, .int .u8 0, .int .u8 0, .int .u8 0, .int .u8 0, .int .u8 0, .int .u8 0, .int .u8 0, .int .u8 0, .int .u8 0, .int .u8 0, .int .u8 0, .int .u8 0, .int .u8 0, .int .u8 0, .nilIface, .map none, .bool false] 56))) := ⟨HB.out.trans ((below_alloc (Below.refl _ _) _).mono HB.out.size), below_alloc (Below.refl _ _) _⟩
  generalize w1.alloc (.cells #[.slice AP l.length cp, .int .u8 0, .int .u8 0, .int .u8 0, .int .u8 0, .int .u8 0, .int .u8 0, .int .u8 0, .int .u8 0, .int .u8 0, .int .u8 0, .int .u8 0, .int .u8 0, .int .u8 0, .int .u8 0, .int .u8 0, .int .u8 0, .int .u8 0, .int .u8 0, .int .u8 0, .int .u8 0, .nilIface, .map none, .bool false] 56) = wg at hgt HB9 ⊢
  obtain ⟨gt, hgte⟩ : ∃ gt, gt = w1.heap.size := ⟨_, rfl⟩
  rw [← hgte] at hgt
  simp only [← hgte]
  have HGT := Aside0.mk hgt
  have HGE := Aside0.mk hgte
  clear hgt hgte
  go_upto_region 3 with fail
  have hbox : (wg.alloc (.cells #[.int .i8 0, .int .u8 0, .int .u8 0, .int .u8 0, .int .u8 0, .int .u8 0, .int .u8 0, .int .u8 0, .int .u8 0, .int .u8 0, .int .u8 0, .int .u8 0, .int .u8 0, .int .u8 0, .int .u8 0, .int .u8 0, .int .u8 0, .int .u8 0, .int .u8 0, .int .u8 0, .int .u8 0, .slice none 0 0, .int .i64 0] 61)).heap[wg.heap.size]? = some (.cells (mcells 0 (.slice none 0 0) 0) 61 (0, 0)) := blk_new _ _
  have hb : Below wg.heap.size wg (wg.alloc (.cells #[.int .i8 0, .int .u8 0, .int .u8 0, .int .u8 0, .int .u8 0, .int .u8 0, .int .u8 0, .int .u8 0, .int .u8 0, .int .u8 0, .int .u8 0, .int .u8 0, .int .u8 0, .int .u8 0, .int .u8 0, .int .u8 0, .int .u8 0, .int .u8 0, .int .u8 0, .int .u8 0, .int .u8 0, .slice none 0 0, .int .i64 0] 61)) := below_alloc (Below.refl _ _) _
  generalize wg.alloc (.cells #[.int .i8 0, .int .u8 0, .int .u8 0, .int .u8 0, .int .u8 0, .int .u8 0, .int .u8 0, .int .u8 0, .int .u8 0, .int .u8 0, .int .u8 0, .int .u8 0, .int .u8 0, .int .u8 0, .int .u8 0, .int .u8 0, .int .u8 0, .int .u8 0, .int .u8 0, .int .u8 0, .int .u8 0, .slice none 0 0, .int .i64 0] 61) = wi at hbox hb ⊢
  obtain ⟨o, ho⟩ : ∃ o, o = wg.heap.size := ⟨_, rfl⟩
  simp only [← ho] at hbox ⊢
  have HK : Aside0 (Calls Tryd.prog 23 #[.pointer (some ⟨gt, 0, none⟩), .iface 57 (.pointer (some ⟨o, 0, none⟩))] wi fun e w' => e = .returned .nilIface ∧ Mo w w' o 2 (entsOut l)) := ⟨by
    obtain ⟨gb, h1, h2⟩ := rw_of HR.out
    have hB := HB9.out.2
    have hlt := blk_lt HGT.out
    exact HTE.out wi o gt gb _ AP cp ⟨.slice none 0 0, hbox, Kd.R_nil _ _ _ _ _, HB9.out.1.trans (hb.mono HB9.out.1.size), by rw [ho]; exact HB9.out.1.size⟩ ((hb.block gt hlt).trans HGT.out) rfl (by omega) ((h1.below hB).below hb) (fun z => by have := (h2 z).2; have := hB.size; omega) (fun z => (h2 z).1)⟩
  clear ho hbox hb HTE HR
  go_wp2_with (first
    | (go_at_call 23
       (with_reducible refine HK.out.mono ?_)
       rintro x wj ⟨rfl, k⟩
       have K := Aside0.mk k
       clear k)
    | (go_at_call 24
       (with_reducible refine (textOf K.out aE (pw_cell_below K.out.bel HE.out) HLL.out).mono ?_)
       rintro x wl ⟨B, d, rfl, k1, k2, k3⟩
       have F := Aside0.mk (And.intro k1 (And.intro k2 k3))
       clear k1 k2 k3)
    | fail)
  go_ret2
  exact ⟨B, d, rfl, F.out.1, F.out.2.1, K.out.bel.trans (F.out.2.2.mono K.out.bel.size)⟩
end Go.Proofs.YtddnepddilbikaaDoor.ObjP
