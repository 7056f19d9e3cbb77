/- Config.Section, Section.Subsection, walked, with all that they leave as it was. -/
import Derived.Test.YtacndeejapfkiaaDoorHandP
set_option linter.unusedVariables false
set_option linter.unusedSimpArgs false
namespace Go.Proofs.YtacndeejapfkiaaDoor.HandQ
open Go.RowKit Go.Proofs.YtacndeejapfkiaaDoorW.PrintWords Go.Proofs.YtacndeejapfkiaaDoorW.PrintLast Go.Proofs.YtacndeejapfkiaaDoorW.PrintMore Go.Proofs.YtacndeejapfkiaaDoor.QAll Txt Ptr SepK HandA HandB HandC HandD HandE HandF HandM PureS HandN HandO HandP

/-- x is section i of l1, which is l, or l and a new one. -/
def SecAt (l : List S36) (u : ByteArray) (l1 : List S36) (i : Nat) (x : S36) : Prop := l1[i]? = some x ∧ x.f0 = u ∧ (l1 = l ∨ (x = ⟨u, [], []⟩ ∧ l1 = l ++ [x] ∧ i = l.length ∧ ∀ y ∈ l, y.f0 ≠ u))
def PartAt (l : List S46) (u : ByteArray) (l1 : List S46) (i : Nat) (x : S46) : Prop := l1[i]? = some x ∧ x.f0 = u ∧ (l1 = l ∨ (x = ⟨u, []⟩ ∧ l1 = l ++ [x] ∧ i = l.length ∧ ∀ y ∈ l, y.f0 ≠ u))
theorem cell_set_far {w : World} {g j : Nat} {v : Value} {a : Addr} (h : a.block ≠ g) : (w.setCell ⟨g, j, none⟩ v).cell? a = w.cell? a := World.cell?_of_block (Below.heap_setCell w ⟨g, j, none⟩ v a.block h)
/-- The last of a row, once the row has been stored. -/
theorem focus_last {α : Type} {d : Kd α} {e : Nat} {w1 : World} {base g j : Nat} {ok : Nat → Prop} {V V' u : Value} {xs : List α} {p : α} (h : SR d e w1 base ok V (xs ++ [p])) (hs : d.sz = 1) (hc : ∃ ad c, V = .slice (some ad) (xs.length + 1) c ∧ w1.cell? (ad.add xs.length) = some u) (hok : ∀ k, ok k → k ≠ g) :
    ∃ O : Nat → Prop, d.M (w1.setCell ⟨g, j, none⟩ V') base O p [u] ∧ (∀ k, O k → ok k) ∧ ∀ w3 p', Far (w1.setCell ⟨g, j, none⟩ V') w3 O → d.M w3 base (fun k => O k ∨ (w1.setCell ⟨g, j, none⟩ V').heap.size ≤ k) p' [u] → SR d e w3 base (fun k => ok k ∨ (w1.setCell ⟨g, j, none⟩ V').heap.size ≤ k) V ((xs ++ [p]).set xs.length p') := by
  have h2 : SR d e (w1.setCell ⟨g, j, none⟩ V') base ok V (xs ++ [p]) := SR_step h (fun k hk _ => Below.heap_setCell w1 ⟨g, j, none⟩ V' k (hok k hk))
  obtain ⟨ad, c, v, O, hV, hcell, hM, hsub, hput⟩ := SR_focus h2 hs (i := xs.length) (x := p) (by rw [List.getElem?_append_right (Nat.le_refl _), Nat.sub_self]; rfl)
  obtain ⟨ad2, c2, hV2, hcell2⟩ := hc
  rw [hV] at hV2
  injection hV2 with hA _ _
  injection hA with hA
  subst hA
  have hne : (ad.add xs.length).block ≠ g := by
    have := hok ad.block (h.1 ad.block (by rw [hV]; rfl))
    unfold Addr.add
    split <;> exact this
  rw [cell_set_far hne, hcell2] at hcell
  injection hcell with hcell
  subst hcell
  exact ⟨O, hM, hsub, hput⟩

set_option maxHeartbeats 8000000 in
set_option maxRecDepth 100000 in
theorem section2 (g : Nat) (V : Value) (l : List S36) (u : ByteArray) (w0 w : World) (hgw : w0.heap.size ≤ g) (hcfg : w.heap[g]? = some (.cells (cfgC V) 64 (0, 0))) (hS : SR kS 53 w w0.heap.size (fun k => k ≠ g) V l) (hB : Below w0.heap.size w0 w) (hl : l.length ≤ 101) (hw : ∀ x ∈ l, Word x.f0) (hu : Word u) :
    Calls Tryd.prog 27 #[.pointer (some ⟨g, 0, none⟩), .string u] w fun e w' => ∃ (gs : Nat) (V1 : Value) (l1 : List S36) (i : Nat) (x : S36) (O : Nat → Prop), e = .returned (.pointer (some ⟨gs, 0, none⟩)) ∧ SecAt l u l1 i x ∧ w'.heap[g]? = some (.cells (cfgC V1) 64 (0, 0)) ∧ kS.M w' w0.heap.size O x [.pointer (some ⟨gs, 0, none⟩)] ∧ (∀ k, O k → k ≠ g) ∧
      (∀ w2 x', Far w' w2 O → kS.M w2 w0.heap.size (fun k => O k ∨ w'.heap.size ≤ k) x' [.pointer (some ⟨gs, 0, none⟩)] → SR kS 53 w2 w0.heap.size (fun k => k ≠ g) V1 (l1.set i x')) ∧ Below w0.heap.size w0 w' := by
  have ha : FoldA u u := FoldL.refl _
  obtain ⟨A, c, rfl, hlc, _⟩ := Kd.R_reads (SR_toR hS)
  have HS := Aside0.mk hS
  have HB := Aside0.mk hB
  have HW := Aside0.mk hw
  have HU := Aside0.mk hu
  have HA := Aside0.mk ha
  have HCF := Aside0.mk hcfg
  have HGW := Aside0.mk hgw
  have hl1 : (l.length : Int) ≤ 101 := by omega
  have HL := Aside0.mk hl
  have hgc : w.cell? ⟨g, 1, none⟩ = some (.slice A l.length c) := (blk_cell hcfg 1).trans rfl
  have hgo : ∀ o, (w.alloc o).cell? ⟨g, 1, none⟩ = some (.slice A l.length c) := fun o => (blk_cell (blk_alloc hcfg o) 1).trans rfl
  clear hS hB hw hu ha hl hcfg hgw
  go_enter Tryd.func27, Tryd.ntmps27
  go_wp2
  go_loopg [5] l.length (fun gk v5 w' => ∃ z : Int, v5 = .int .i64 z ∧ Aside0 (z = (gk : Int) - 1) ∧ Aside0 (gk ≤ l.length) ∧ Aside0 (∀ y ∈ l.drop gk, y.f0 ≠ u) ∧ w' = w)
  case atStart => exact ⟨_, rfl, ⟨rfl⟩, ⟨Nat.le_refl _⟩, ⟨fun y hy => by rw [List.drop_length] at hy; cases hy⟩, rfl⟩
  case round =>
    obtain ⟨z, rfl, HZ, HK, HV, rfl⟩ := hrel
    cases gk with
    | zero =>
      obtain rfl : z = -1 := by have := HZ.out; omega
      have hv := HV.out
      rw [List.drop_zero] at hv
      have HV2 := Aside0.mk hv
      clear hv
      go_wp2_with (first
        | ((with_reducible refine gate_builtin (b := .append) (xs := #[.tmp 36, .tmp 38]) rfl ?_); at_builtin; refine SR_append2 kS (w0 := w0) w0.heap.size wr.heap.size rfl (.tmp 36) (.tmp 38) 60 53 (.pointer none) 8 rfl rfl Tryd.underlying60 info53 rfl (by decide) (by decide) (.slice A l.length c) l ⟨u, [], []⟩ (.pointer (some ⟨wr.heap.size, 0, none⟩)) (fun k => k ≠ g) rfl ?hx (newS0 u HB.out.size (blk_lt HCF.out)) (fun k hk => ?hfr) ?hNN (SR_old HS.out (below_alloc (Below.refl _ _) _)) (below_alloc HB.out _) ?hbase ?hlen ?_
           case hx => first | (go_simp; done) | (simp [Act.eval]; done)
           case hfr => have := blk_lt HCF.out; simp only [World.alloc, Array.size_push] at hk; omega
           case hNN => simp
           case hbase => exact Nat.le_trans HB.out.size (by simp)
           case hlen => have := HL.out; omega
           intro v7 w7 ho7 hb7 hg7 hat7 hlast7
           obtain ⟨A7, n7, c7, rfl⟩ : ∃ A n c, v7 = .slice A n c := by obtain ⟨A, c, h⟩ := SR_slice ho7; exact ⟨A, _, c, h⟩
           have hne : some g ≠ (Value.slice A l.length c).ownBlock := fun e => HS.out.1 g e.symm rfl
           have hc7b : w7.heap[g]? = some (.cells (cfgC (.slice A l.length c)) 64 (0, 0)) := (hg7.block g (blk_lt (blk_alloc HCF.out _)) hne).trans (blk_alloc HCF.out _)
           have HP7 := Aside0.mk (blk_put hc7b 1 (.slice A7 n7 c7) (rfl : _ = cfgC (.slice A7 n7 c7)))
           have HM7 := Aside0.mk (focus_last (g := g) (j := 1) (V' := .slice A7 n7 c7) ho7 rfl hlast7 (fun k hk => hk))
           have HB7 : Aside0 (Below w0.heap.size w0 (w7.setCell ⟨g, 1, none⟩ (.slice A7 n7 c7))) := ⟨below_set hb7 HGW.out⟩
           have HLT7 : Aside0 (g < (w7.setCell ⟨g, 1, none⟩ (.slice A7 n7 c7)).heap.size) := ⟨blk_lt HP7.out⟩
           have hc7 : w7.cell? ⟨g, 1, none⟩ = some (.slice A l.length c) := (blk_cell hc7b 1).trans rfl
           have hz7 := blk_frozen hc7b 1
           clear ho7 hb7 hg7 hat7 hne hc7b hlast7))
      go_ret
      obtain ⟨O, hM, hsub, hput⟩ := HM7.out
      refine ⟨_, .slice A7 n7 c7, l ++ [⟨u, [], []⟩], l.length, ⟨u, [], []⟩, O, rfl, ⟨by rw [List.getElem?_append_right (Nat.le_refl _), Nat.sub_self]; rfl, rfl, Or.inr ⟨rfl, rfl, rfl, HV2.out⟩⟩, HP7.out, hM, hsub, fun w2 x' hf hM' => SR_mono (hput w2 x' hf hM') (fun k hk => ?_), HB7.out⟩
      rcases hk with hk | hk
      · exact hk
      · have := HLT7.out
        omega
    | succ m =>
      obtain rfl : z = (m : Int) := by have := HZ.out; omega
      have hm : m < l.length := by have := HK.out; omega
      have hm1 : (m : Int) < (l.length : Int) := by omega
      have hgt := getD_at l z36 m hm
      generalize l.getD m z36 = x at hgt
      obtain ⟨ad, c', v, O, hV, hcell, hM, hsub, hput⟩ := SR_focus HS.out rfl hgt
      injection hV with hA _ hc
      subst hA
      subst hc
      obtain ⟨gs, cells, hv, _⟩ := id hM
      obtain rfl : v = .pointer (some ⟨gs, 0, none⟩) := by simpa using hv
      obtain ⟨gs', B1, b1, B2, b2, hv', hg, _, _, _, _⟩ := kS_open (kS.K_of_M hM)
      obtain rfl : gs = gs' := by simpa using hv'
      have HI := Aside0.mk (secName gs x.f0 u u _ _ wr hg (HW.out x (List.mem_of_getElem? hgt)) HU.out HA.out)
      have HM := Aside0.mk hM
      have HSUB := Aside0.mk hsub
      have HPUT := Aside0.mk hput
      have HG := Aside0.mk hgt
      clear hM hg hgt hv hv' hsub hput
      by_cases hou : x.f0 = u
      · have hd : decide (x.f0 = u) = true := decide_eq_true hou
        have HR := Aside0.mk hou
        clear hou
        go_wp2_with (first | (go_at_call 42; (with_reducible refine HI.out.mono ?_); rintro e w1 ⟨rfl, rfl⟩))
        go_ret
        refine ⟨gs, _, l, m, x, O, rfl, ⟨HG.out, HR.out, Or.inl rfl⟩, HCF.out, HM.out, HSUB.out, fun w2 x' hf hM' => SR_mono (HPUT.out w2 x' hf hM') (fun k hk => ?_), HB.out⟩
        rcases hk with hk | hk
        · exact hk
        · have := blk_lt HCF.out
          omega
      · have hd : decide (x.f0 = u) = false := decide_eq_false hou
        have HR : Aside0 (∀ y ∈ l.drop m, y.f0 ≠ u) := ⟨fun y hy => by
          rw [drop_at HG.out] at hy
          rcases List.mem_cons.1 hy with rfl | hy
          · exact hou
          · exact HV.out y hy⟩
        have hwz : wrap64 ((m : Int) - 1) = (m : Int) - 1 := by unfold wrap64; omega
        clear hou
        go_wp2_with (first | (go_at_call 42; (with_reducible refine HI.out.mono ?_); rintro e w1 ⟨rfl, rfl⟩))
        go_roundg m
        case measure => omega
        case rel => exact ⟨_, rfl, ⟨rfl⟩, ⟨by have := HK.out; omega⟩, HR, rfl⟩

set_option maxHeartbeats 8000000 in
set_option maxRecDepth 100000 in
theorem subsection2 (gs : Nat) (x : S36) (sub : ByteArray) (O : Nat → Prop) (w0 w : World) (hM : kS.M w w0.heap.size O x [.pointer (some ⟨gs, 0, none⟩)]) (hB : Below w0.heap.size w0 w) (hl : x.f2.length ≤ 3518437208883) :
    Calls Tryd.prog 30 #[.pointer (some ⟨gs, 0, none⟩), .string sub] w fun e w' => ∃ (gb : Nat) (ps : List S46) (j : Nat) (p : S46) (Ob : Nat → Prop), e = .returned (.pointer (some ⟨gb, 0, none⟩)) ∧ PartAt x.f2 sub ps j p ∧ kB.M w' w0.heap.size Ob p [.pointer (some ⟨gb, 0, none⟩)] ∧ (∀ k, Ob k → O k ∨ w.heap.size ≤ k) ∧ Far w w' O ∧
      (∀ w2 p', Far w' w2 Ob → kB.M w2 w0.heap.size (fun k => Ob k ∨ w'.heap.size ≤ k) p' [.pointer (some ⟨gb, 0, none⟩)] → kS.M w2 w0.heap.size (fun k => O k ∨ w.heap.size ≤ k) ⟨x.f0, x.f1, ps.set j p'⟩ [.pointer (some ⟨gs, 0, none⟩)]) ∧ Below w0.heap.size w0 w' := by
  obtain ⟨gs', VO, VP, P, hv, hO, hgw, hgs, hR, hS⟩ := kS_openM hM
  obtain rfl : gs = gs' := by simpa using hv
  obtain ⟨A, c, rfl, hlc, _⟩ := Kd.R_reads (SR_toR hS)
  have HS := Aside0.mk hS
  have HR := Aside0.mk hR
  have HB := Aside0.mk hB
  have HCF := Aside0.mk hgs
  have HGW := Aside0.mk hgw
  have HO := Aside0.mk hO
  have HL := Aside0.mk hl
  have hgc : w.cell? ⟨gs, 2, none⟩ = some (.slice A x.f2.length c) := (blk_cell hgs 2).trans rfl
  have hgo : ∀ o, (w.alloc o).cell? ⟨gs, 2, none⟩ = some (.slice A x.f2.length c) := fun o => (blk_cell (blk_alloc hgs o) 2).trans rfl
  obtain ⟨l, hll⟩ : ∃ l, l = x.f2 := ⟨_, rfl⟩
  have HE := Aside0.mk hll
  simp only [← hll] at HS HL hlc hgc hgo ⊢
  have HCF2 : Aside0 (w.heap[gs]? = some (.cells #[.string x.f0, VO, .slice A l.length c] 70 (0, 0))) := ⟨by rw [hll]; exact HCF.out⟩
  have hl1 : (l.length : Int) ≤ 3518437208883 := by have := HL.out; omega
  clear hS hB hR hl hgs hgw hO hv hM hll
  go_enter Tryd.func30, Tryd.ntmps30
  go_wp2
  go_loopg [5] l.length (fun gk v5 w' => ∃ z : Int, v5 = .int .i64 z ∧ Aside0 (z = (gk : Int) - 1) ∧ Aside0 (gk ≤ l.length) ∧ Aside0 (∀ y ∈ l.drop gk, y.f0 ≠ sub) ∧ w' = w)
  case atStart => exact ⟨_, rfl, ⟨rfl⟩, ⟨Nat.le_refl _⟩, ⟨fun y hy => by rw [List.drop_length] at hy; cases hy⟩, rfl⟩
  case round =>
    obtain ⟨z, rfl, HZ, HK, HV, rfl⟩ := hrel
    cases gk with
    | zero =>
      obtain rfl : z = -1 := by have := HZ.out; omega
      have hv := HV.out
      rw [List.drop_zero] at hv
      have HV2 := Aside0.mk hv
      clear hv
      have HSN : Aside0 (SR kB 56 wr w0.heap.size (fun k => ((O k ∨ wr.heap.size ≤ k) ∧ k ≠ gs) ∧ ¬ (k < wr.heap.size ∧ P k)) (.slice A l.length c) l) := ⟨SR_mono HS.out (fun k hk => ⟨⟨Or.inl hk.1.1, hk.1.2⟩, fun h => hk.2 h.2⟩)⟩
      go_wp2_with (first
        | ((with_reducible refine gate_builtin (b := .append) (xs := #[.tmp 36, .tmp 38]) rfl ?_); at_builtin; refine SR_append2 kB (w0 := w0) w0.heap.size wr.heap.size rfl (.tmp 36) (.tmp 38) 68 56 (.pointer none) 8 rfl rfl Tryd.underlying68 info56 rfl (by decide) (by decide) (.slice A l.length c) l ⟨sub, []⟩ (.pointer (some ⟨wr.heap.size, 0, none⟩)) (fun k => ((O k ∨ wr.heap.size ≤ k) ∧ k ≠ gs) ∧ ¬ (k < wr.heap.size ∧ P k)) rfl ?hx (Kd.M_mono kB (fun k hk => ⟨⟨⟨Or.inr hk.2, ?hfr0⟩, ?hfr1⟩, hk.2⟩) (newB0 sub HB.out.size)) (fun k hk => ?hfr) ?hNN (SR_old HSN.out (below_alloc (Below.refl _ _) _)) (below_alloc HB.out _) ?hbase ?hlen ?_
           case hx => first | (go_simp; done) | (simp [Act.eval]; done)
           case hfr0 => have := blk_lt HCF.out; have := hk.2; omega
           case hfr1 => intro h; have := hk.2; omega
           case hfr =>
             have := blk_lt HCF.out
             simp only [World.alloc, Array.size_push] at hk
             exact ⟨⟨Or.inr (by omega), by omega⟩, fun h => by omega⟩
           case hNN => simp
           case hbase => exact Nat.le_trans HB.out.size (by simp)
           case hlen => have := HL.out; omega
           intro v7 w7 ho7 hb7 hg7 hat7 hlast7
           obtain ⟨A7, n7, c7, hV7⟩ : ∃ A n c, v7 = .slice A n c := by obtain ⟨A, c, h⟩ := SR_slice ho7; exact ⟨A, _, c, h⟩
           subst hV7
           have hne : some gs ≠ (Value.slice A l.length c).ownBlock := fun e => (HS.out.1 gs e.symm).1.2 rfl
           have hc7b : w7.heap[gs]? = some (.cells #[.string x.f0, VO, .slice A l.length c] 70 (0, 0)) := (hg7.block gs (blk_lt (blk_alloc HCF2.out _)) hne).trans (blk_alloc HCF2.out _)
           have HP7 := Aside0.mk (blk_put hc7b 2 (.slice A7 n7 c7) (rfl : _ = #[.string x.f0, VO, .slice A7 n7 c7]))
           have HF7 : Aside0 (Far wr (w7.setCell ⟨gs, 2, none⟩ (.slice A7 n7 c7)) O) := ⟨(Far.of_grown ((World.grownBy_alloc wr _ _).trans hg7) (fun k hk _ => (HS.out.1 k hk).1.1)).set HO.out _⟩
           have HR7 : Aside0 (kO.R 81 (w7.setCell ⟨gs, 2, none⟩ (.slice A7 n7 c7)) w0.heap.size (fun k => ((O k ∨ wr.heap.size ≤ k) ∧ k ≠ gs) ∧ (k < wr.heap.size ∧ P k)) VO x.f1) := ⟨Kd.R_mono (Kd.R_move (w1 := w7.setCell ⟨gs, 2, none⟩ (.slice A7 n7 c7)) (Kd.R_bound HR.out) (fun k hk => (Below.heap_setCell w7 _ _ k hk.1.1.2).trans ((((World.grownBy_alloc wr _ _).trans hg7).block k hk.2.2.1 (fun e => (HS.out.1 k e.symm).2 hk.1.2))))) (fun k hk => ⟨⟨Or.inl hk.1.1.1, hk.1.1.2⟩, hk.2.2.1, hk.1.2⟩)⟩
           have HM7 := Aside0.mk (focus_last (g := gs) (j := 2) (V' := .slice A7 n7 c7) ho7 rfl hlast7 (fun k hk => hk.1.2))
           have HB7 : Aside0 (Below w0.heap.size w0 (w7.setCell ⟨gs, 2, none⟩ (.slice A7 n7 c7))) := ⟨below_set hb7 HGW.out⟩
           have hc7 : w7.cell? ⟨gs, 2, none⟩ = some (.slice A l.length c) := (blk_cell hc7b 2).trans rfl
           have hz7 := blk_frozen hc7b 2
           clear ho7 hb7 hg7 hat7 hne hc7b hlast7))
      go_ret
      obtain ⟨Ob, hM, hsub, hput⟩ := HM7.out
      refine ⟨_, l ++ [⟨sub, []⟩], l.length, ⟨sub, []⟩, Ob, rfl, ⟨by rw [List.getElem?_append_right (Nat.le_refl _), Nat.sub_self]; rfl, rfl, Or.inr ⟨rfl, rfl, rfl, HV2.out⟩⟩, hM, fun k hk => (hsub k hk).1.1, HF7.out, fun w2 p' hf hM' => ?_, HB7.out⟩
      have hlt7 := blk_lt HP7.out
      refine kS_mkM (P := fun k => k < wr.heap.size ∧ P k) (VO := VO) (VP := .slice A7 n7 c7) (Or.inl HO.out) HGW.out ((hf.2 gs hlt7 (fun h => (hsub gs h).1.2 rfl)).trans HP7.out) ?_ ?_
      · have h1 := Kd.R_move (w1 := w2) (Kd.R_bound HR7.out) (fun k hk => hf.2 k hk.2.2.1 (fun h => (hsub k h).2 hk.1.2))
        exact Kd.R_mono h1 (fun k hk => hk.1)
      · refine SR_mono (hput w2 p' hf hM') (fun k hk => ?_)
        rcases hk with hk | hk
        · exact hk
        · have h1 := HF7.out.1
          have h2 := blk_lt HCF.out
          exact ⟨⟨Or.inr (Nat.le_trans h1 hk), by omega⟩, fun h => by omega⟩
    | succ m =>
      obtain rfl : z = (m : Int) := by have := HZ.out; omega
      have hm : m < l.length := by have := HK.out; omega
      have hm1 : (m : Int) < (l.length : Int) := by omega
      have hgt := getD_at l z46 m hm
      generalize l.getD m z46 = p at hgt
      obtain ⟨ad, c', v, Ob, hV, hcell, hM, hsub, hput⟩ := kS_part HO.out HGW.out HCF.out HR.out (by rw [← HE.out]; exact HS.out) (j := m) (p := p) (by rw [← HE.out]; exact hgt)
      injection hV with hA _ hc
      subst hA
      subst hc
      obtain ⟨gb, cells, hv, _⟩ := id hM
      obtain rfl : v = .pointer (some ⟨gb, 0, none⟩) := by simpa using hv
      obtain ⟨gb', B1, b1, hv', hg, _, _⟩ := kB_open (kB.K_of_M hM)
      obtain rfl : gb = gb' := by simpa using hv'
      have HI := Aside0.mk (subName gb p.f0 sub _ wr hg)
      have HM := Aside0.mk hM
      have HSUB := Aside0.mk hsub
      have HPUT := Aside0.mk hput
      have HG := Aside0.mk hgt
      clear hM hg hgt hv hv' hsub hput
      by_cases hou : p.f0 = sub
      · have hd : decide (p.f0 = sub) = true := decide_eq_true hou
        have HRR := Aside0.mk hou
        clear hou
        go_wp2_with (first | (go_at_call 45; (with_reducible refine HI.out.mono ?_); rintro e w1 ⟨rfl, rfl⟩))
        go_ret
        exact ⟨gb, l, m, p, Ob, rfl, ⟨HG.out, HRR.out, Or.inl rfl⟩, HM.out, fun k hk => Or.inl (HSUB.out k hk), Far.refl _ _, fun w2 p' hf hM' => by rw [HE.out]; exact HPUT.out w2 p' hf hM', HB.out⟩
      · have hd : decide (p.f0 = sub) = false := decide_eq_false hou
        have HRR : Aside0 (∀ y ∈ l.drop m, y.f0 ≠ sub) := ⟨fun y hy => by
          rw [drop_at HG.out] at hy
          rcases List.mem_cons.1 hy with rfl | hy
          · exact hou
          · exact HV.out y hy⟩
        have hwz : wrap64 ((m : Int) - 1) = (m : Int) - 1 := by unfold wrap64; omega
        clear hou
        go_wp2_with (first | (go_at_call 45; (with_reducible refine HI.out.mono ?_); rintro e w1 ⟨rfl, rfl⟩))
        go_roundg m
        case measure => omega
        case rel => exact ⟨_, rfl, ⟨rfl⟩, ⟨by have := HK.out; omega⟩, HRR, rfl⟩
#print axioms section2
#print axioms subsection2
end Go.Proofs.YtacndeejapfkiaaDoor.HandQ
