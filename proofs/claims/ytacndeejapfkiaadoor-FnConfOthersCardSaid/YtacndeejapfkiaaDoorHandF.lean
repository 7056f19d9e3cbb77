/- Config.Section, Section.Subsection, impl.GetOption, walked. -/
import Derived.Test.YtacndeejapfkiaaDoorHandE
set_option linter.unusedVariables false
set_option linter.unusedSimpArgs false
namespace Go.Proofs.YtacndeejapfkiaaDoor.HandF
open Go.RowKit Go.Proofs.YtacndeejapfkiaaDoorW.PrintWords Go.Proofs.YtacndeejapfkiaaDoorW.PrintLast Go.Proofs.YtacndeejapfkiaaDoorW.PrintMore Go.Proofs.YtacndeejapfkiaaDoor.QAll Txt Ptr SepK HandA HandB HandC HandD HandE

/-- x is the section u of l, or a new one with the name as it was told. -/
def SecIs (l : List S36) (u key : ByteArray) (x : S36) : Prop := (∃ i : Nat, l[i]? = some x ∧ x.f0 = u) ∨ (x = ⟨key, [], []⟩ ∧ ∀ y ∈ l, y.f0 ≠ u)
def SubIs (l : List S46) (sub : ByteArray) (p : S46) : Prop := (∃ i : Nat, l[i]? = some p ∧ p.f0 = sub) ∨ (p = ⟨sub, []⟩ ∧ ∀ q ∈ l, q.f0 ≠ sub)
/-- A section with a name alone. -/
theorem newS0 {W : World} {base g : Nat} (key : ByteArray) (hB : base ≤ W.heap.size) (hg : g < W.heap.size) : kS.M (W.alloc (.cells #[.string key, .slice none 0 0, .slice none 0 0] 70)) base (fun k => k ≠ g ∧ W.heap.size ≤ k) ⟨key, [], []⟩ [.pointer (some ⟨W.heap.size, 0, none⟩)] := by
  refine ptr_new (d := kSec) (cells := #[.string key, .slice none 0 0, .slice none 0 0]) ?_ hB ⟨by omega, Nat.le_refl _⟩
  exact ⟨[.string key], [.slice none 0 0, .slice none 0 0], rfl, rfl, fun _ => True, [.slice none 0 0], [.slice none 0 0], rfl, ⟨_, rfl, Kd.R_nil _ _ _ _ _⟩, _, rfl, SR_nil _ _ _ _ _⟩
theorem newB0 {W : World} {base : Nat} (sub : ByteArray) (hB : base ≤ W.heap.size) : kB.M (W.alloc (.cells #[.string sub, .slice none 0 0] 73)) base (fun k => True ∧ W.heap.size ≤ k) ⟨sub, []⟩ [.pointer (some ⟨W.heap.size, 0, none⟩)] := by
  refine ptr_new (d := kSub) (cells := #[.string sub, .slice none 0 0]) ?_ hB ⟨trivial, Nat.le_refl _⟩
  exact ⟨[.string sub], [.slice none 0 0], rfl, rfl, _, rfl, Kd.R_nil _ _ _ _ _⟩
/-- Element m of a row of pointers: its cell, and what it leads to. -/
theorem at_row {α : Type} {d : Kd α} {e base : Nat} {ok : Nat → Prop} {w : World} {V : Value} {xs : List α} (z : α) (hs : d.sz = 1) (h : d.R e w base ok V xs) (m : Nat) (hm : m < xs.length) : ∃ ad c v, V = .slice (some ad) xs.length c ∧ xs.length ≤ c ∧ w.cell? (ad.add m) = some v ∧ d.M w base ok (xs.getD m z) [v] := by
  obtain ⟨A, c, rfl, hlc, hC⟩ := Kd.R_reads h
  obtain ⟨ad, v, rfl, hK, hcell⟩ := at_ptr z hs hC m hm
  obtain ⟨cs, hl, hM, hc⟩ := Kd.R_get h z (m : Int) (by omega) (by omega)
  rw [Int.toNat_natCast, hs, Nat.mul_one] at hc
  rw [Int.toNat_natCast] at hM
  match cs, hl.trans hs with
  | [u], _ =>
    have h1 := hc 0 u rfl
    have h2 : w.cell? (ad.add m) = some u := by simpa using h1
    rw [hcell] at h2
    cases h2
    exact ⟨ad, c, v, rfl, hlc, hcell, d.M_mono (fun k hk => hk.1) hM⟩

set_option maxHeartbeats 8000000 in
set_option maxRecDepth 100000 in
theorem section_ (g : Nat) (V : Value) (l : List S36) (key u : ByteArray) (w0 w : World) (hgw : w0.heap.size ≤ g) (hcfg : w.heap[g]? = some (.cells (cfgC V) 64 (0, 0))) (hS : SR kS 53 w w0.heap.size (fun k => k ≠ g) V l) (hB : Below w0.heap.size w0 w) (hl : l.length ≤ 101) (hw : ∀ x ∈ l, Word x.f0) (hu : Word u) (ha : FoldA key u) :
    Calls Tryd.prog 27 #[.pointer (some ⟨g, 0, none⟩), .string key] w fun e w' => ∃ gs x, e = .returned (.pointer (some ⟨gs, 0, none⟩)) ∧ SecIs l u key x ∧ kS.M w' w0.heap.size (fun _ => True) x [.pointer (some ⟨gs, 0, none⟩)] ∧ Below w0.heap.size w0 w' := by
  obtain ⟨A, c, rfl, hlc, _⟩ := Kd.R_reads (SR_toR hS)
  have HS := Aside0.mk hS
  have HB := Aside0.mk hB
  have HW := Aside0.mk hw
  have HU := Aside0.mk hu
  have HA := Aside0.mk ha
  have HCF := Aside0.mk hcfg
  have HGW := Aside0.mk hgw
  have hl1 : (l.length : Int) ≤ 101 := by omega
  have HL := Aside0.mk hl
  have hgc : w.cell? ⟨g, 1, none⟩ = some (.slice A l.length c) := (blk_cell hcfg 1).trans rfl
  have hgo : ∀ o, (w.alloc o).cell? ⟨g, 1, none⟩ = some (.slice A l.length c) := fun o => (blk_cell (blk_alloc hcfg o) 1).trans rfl
  clear hS hB hw hu ha hl hcfg hgw
  go_enter Tryd.func27, Tryd.ntmps27
  go_wp2
  go_loopg [5] l.length (fun gk v5 w' => ∃ z : Int, v5 = .int .i64 z ∧ Aside0 (z = (gk : Int) - 1) ∧ Aside0 (gk ≤ l.length) ∧ Aside0 (∀ y ∈ l.drop gk, y.f0 ≠ u) ∧ w' = w)
  case atStart => exact ⟨_, rfl, ⟨rfl⟩, ⟨Nat.le_refl _⟩, ⟨fun y hy => by rw [List.drop_length] at hy; cases hy⟩, rfl⟩
  case round =>
    obtain ⟨z, rfl, HZ, HK, HV, rfl⟩ := hrel
    cases gk with
    | zero =>
      obtain rfl : z = -1 := by have := HZ.out; omega
      have hv := HV.out
      rw [List.drop_zero] at hv
      have HV2 := Aside0.mk hv
      clear hv
      go_wp2_with (first
        | ((with_reducible refine gate_builtin (b := .append) (xs := #[.tmp 36, .tmp 38]) rfl ?_); at_builtin; refine SR_append kS (w0 := w0) w0.heap.size wr.heap.size rfl (.tmp 36) (.tmp 38) 60 53 (.pointer none) 8 rfl Tryd.underlying60 info53 rfl (by decide) (by decide) (.slice A l.length c) l ⟨key, [], []⟩ [.pointer (some ⟨wr.heap.size, 0, none⟩)] (fun k => k ≠ g) rfl ?hx (newS0 key HB.out.size (blk_lt HCF.out)) (fun k hk => ?hfr) ?hNN (SR_old HS.out (below_alloc (Below.refl _ _) _)) (below_alloc HB.out _) ?hbase ?hlen ?_
           case hx => first | (go_simp; done) | (simp [Act.eval]; done)
           case hfr => have := blk_lt HCF.out; simp only [World.alloc, Array.size_push] at hk; omega
           case hNN => simp
           case hbase => exact Nat.le_trans HB.out.size (by simp)
           case hlen => have := HL.out; omega
           intro v7 w7 ho7 hb7 hg7 hat7
           obtain ⟨A7, n7, c7, rfl⟩ : ∃ A n c, v7 = .slice A n c := by obtain ⟨A, c, h⟩ := SR_slice ho7; exact ⟨A, _, c, h⟩
           have hne : some g ≠ (Value.slice A l.length c).ownBlock := fun e => HS.out.1 g e.symm rfl
           have hc7b : w7.heap[g]? = some (.cells (cfgC (.slice A l.length c)) 64 (0, 0)) := (hg7.block g (blk_lt (blk_alloc HCF.out _)) hne).trans (blk_alloc HCF.out _)
           have HM7 : Aside0 (kS.M (w7.setCell ⟨g, 1, none⟩ (.slice A7 n7 c7)) w0.heap.size (fun _ => True) ⟨key, [], []⟩ [.pointer (some ⟨wr.heap.size, 0, none⟩)]) := ⟨Kd.M_mono kS (fun _ _ => trivial) (Kd.M_step (Kd.M_step (newS0 (W := wr) key HB.out.size (blk_lt HCF.out)) (fun k hk hlt => hg7.block k hlt (fun e => by obtain ⟨inner, ho⟩ := Kd.R_own (SR_toR HS.out); have := own_lt ho k e.symm; omega))) (fun k hk _ => Below.heap_setCell w7 _ _ k hk.1))⟩
           have HB7 : Aside0 (Below w0.heap.size w0 (w7.setCell ⟨g, 1, none⟩ (.slice A7 n7 c7))) := ⟨below_set hb7 HGW.out⟩
           have hc7 : w7.cell? ⟨g, 1, none⟩ = some (.slice A l.length c) := (blk_cell hc7b 1).trans rfl
           have hz7 := blk_frozen hc7b 1
           clear ho7 hb7 hg7 hat7 hne hc7b))
      go_ret
      exact ⟨_, ⟨key, [], []⟩, rfl, Or.inr ⟨rfl, HV2.out⟩, HM7.out, HB7.out⟩
    | succ m =>
      obtain rfl : z = (m : Int) := by have := HZ.out; omega
      have hm : m < l.length := by have := HK.out; omega
      have hm1 : (m : Int) < (l.length : Int) := by omega
      obtain ⟨ad, c', v, hV, hlc', hcell, hM⟩ := at_row z36 rfl (SR_toR HS.out) m hm
      injection hV with hA _ hc
      subst hA
      subst hc
      have hgt := getD_at l z36 m hm
      generalize l.getD m z36 = x at hM hgt
      obtain ⟨gs, cells, hv, _⟩ := id hM
      obtain rfl : v = .pointer (some ⟨gs, 0, none⟩) := by simpa using hv
      obtain ⟨gs', B1, b1, B2, b2, hv', hg, _, _, _, _⟩ := kS_open (kS.K_of_M hM)
      obtain rfl : gs = gs' := by simpa using hv'
      have HI := Aside0.mk (secName gs x.f0 key u _ _ wr hg (HW.out x (List.mem_of_getElem? hgt)) HU.out HA.out)
      have HM : Aside0 (kS.M wr w0.heap.size (fun _ => True) x [.pointer (some ⟨gs, 0, none⟩)]) := ⟨Kd.M_mono kS (fun _ _ => trivial) hM⟩
      have HG := Aside0.mk hgt
      clear hM hg hgt hv hv'
      by_cases hou : x.f0 = u
      · have hd : decide (x.f0 = u) = true := decide_eq_true hou
        have HR : Aside0 (SecIs l u key x) := ⟨Or.inl ⟨m, HG.out, hou⟩⟩
        clear hou
        go_wp2_with (first | (go_at_call 42; (with_reducible refine HI.out.mono ?_); rintro e w1 ⟨rfl, rfl⟩))
        go_ret
        exact ⟨gs, x, rfl, HR.out, HM.out, HB.out⟩
      · have hd : decide (x.f0 = u) = false := decide_eq_false hou
        have HR : Aside0 (∀ y ∈ l.drop m, y.f0 ≠ u) := ⟨fun y hy => by
          rw [drop_at HG.out] at hy
          rcases List.mem_cons.1 hy with rfl | hy
          · exact hou
          · exact HV.out y hy⟩
        have hwz : wrap64 ((m : Int) - 1) = (m : Int) - 1 := by unfold wrap64; omega
        clear hou
        go_wp2_with (first | (go_at_call 42; (with_reducible refine HI.out.mono ?_); rintro e w1 ⟨rfl, rfl⟩))
        go_roundg m
        case measure => omega
        case rel => exact ⟨_, rfl, ⟨rfl⟩, ⟨by have := HK.out; omega⟩, HR, rfl⟩

set_option maxHeartbeats 8000000 in
set_option maxRecDepth 100000 in
theorem subsection (gs : Nat) (x : S36) (sub : ByteArray) (w0 w : World) (hM : kS.M w w0.heap.size (fun _ => True) x [.pointer (some ⟨gs, 0, none⟩)]) (hB : Below w0.heap.size w0 w) (hl : x.f2.length ≤ 3518437208883) :
    Calls Tryd.prog 30 #[.pointer (some ⟨gs, 0, none⟩), .string sub] w fun e w' => ∃ gb p, e = .returned (.pointer (some ⟨gb, 0, none⟩)) ∧ SubIs x.f2 sub p ∧ kB.M w' w0.heap.size (fun _ => True) p [.pointer (some ⟨gb, 0, none⟩)] ∧ Below w0.heap.size w0 w' := by
  obtain ⟨gs', cells, hv, _, hgw, hgs, c0, c1, hce, hc0, Pq, c2, c3, hc23, ⟨VO, rfl, hO⟩, VP, rfl, hS0⟩ := hM
  obtain rfl : gs = gs' := by simpa using hv
  have hS : SR kB 56 w w0.heap.size (fun k => k ≠ gs) VP x.f2 := SR_mono hS0 (fun k hk => hk.1.2)
  obtain rfl : c0 = [.string x.f0] := hc0
  have hce2 : cells = #[.string x.f0, VO, VP] := by
    have : cells.toList = [.string x.f0, VO, VP] := by rw [hce, hc23]; rfl
    rw [← this]
  rw [hce2] at hgs
  obtain ⟨A, c, rfl, hlc, _⟩ := Kd.R_reads (SR_toR hS)
  have HS := Aside0.mk hS
  have HB := Aside0.mk hB
  have HCF := Aside0.mk hgs
  have HGW := Aside0.mk hgw
  have HL := Aside0.mk hl
  generalize x.f2 = l at HS HL hlc hgs HCF ⊢
  have hl1 : (l.length : Int) ≤ 3518437208883 := by have := HL.out; omega
  have hgc : w.cell? ⟨gs, 2, none⟩ = some (.slice A l.length c) := (blk_cell hgs 2).trans rfl
  have hgo : ∀ o, (w.alloc o).cell? ⟨gs, 2, none⟩ = some (.slice A l.length c) := fun o => (blk_cell (blk_alloc hgs o) 2).trans rfl
  clear hS hS0 hO hB hl hgs hgw hce hce2 hc23 hv
  go_enter Tryd.func30, Tryd.ntmps30
  go_wp2
  go_loopg [5] l.length (fun gk v5 w' => ∃ z : Int, v5 = .int .i64 z ∧ Aside0 (z = (gk : Int) - 1) ∧ Aside0 (gk ≤ l.length) ∧ Aside0 (∀ y ∈ l.drop gk, y.f0 ≠ sub) ∧ w' = w)
  case atStart => exact ⟨_, rfl, ⟨rfl⟩, ⟨Nat.le_refl _⟩, ⟨fun y hy => by rw [List.drop_length] at hy; cases hy⟩, rfl⟩
  case round =>
    obtain ⟨z, rfl, HZ, HK, HV, rfl⟩ := hrel
    cases gk with
    | zero =>
      obtain rfl : z = -1 := by have := HZ.out; omega
      have hv := HV.out
      rw [List.drop_zero] at hv
      have HV2 := Aside0.mk hv
      clear hv
      go_wp2_with (first
        | ((with_reducible refine gate_builtin (b := .append) (xs := #[.tmp 36, .tmp 38]) rfl ?_); at_builtin; refine SR_append kB (w0 := w0) w0.heap.size wr.heap.size rfl (.tmp 36) (.tmp 38) 68 56 (.pointer none) 8 rfl Tryd.underlying68 info56 rfl (by decide) (by decide) (.slice A l.length c) l ⟨sub, []⟩ [.pointer (some ⟨wr.heap.size, 0, none⟩)] (fun k => k ≠ gs) rfl ?hx (Kd.M_mono kB (fun k hk => ⟨?hfr0, hk.2⟩) (newB0 sub HB.out.size)) (fun k hk => ?hfr) ?hNN (SR_old HS.out (below_alloc (Below.refl _ _) _)) (below_alloc HB.out _) ?hbase ?hlen ?_
           case hx => first | (go_simp; done) | (simp [Act.eval]; done)
           case hfr0 => have := blk_lt HCF.out; have := hk.2; omega
           case hfr => have := blk_lt HCF.out; simp only [World.alloc, Array.size_push] at hk; omega
           case hNN => simp
           case hbase => exact Nat.le_trans HB.out.size (by simp)
           case hlen => have := HL.out; omega
           intro v7 w7 ho7 hb7 hg7 hat7
           obtain ⟨A7, n7, c7, rfl⟩ : ∃ A n c, v7 = .slice A n c := by obtain ⟨A, c, h⟩ := SR_slice ho7; exact ⟨A, _, c, h⟩
           have hne : some gs ≠ (Value.slice A l.length c).ownBlock := fun e => HS.out.1 gs e.symm rfl
           have hc7b : w7.heap[gs]? = some (.cells #[.string x.f0, VO, .slice A l.length c] 70 (0, 0)) := (hg7.block gs (blk_lt (blk_alloc HCF.out _)) hne).trans (blk_alloc HCF.out _)
           have HM7 : Aside0 (kB.M (w7.setCell ⟨gs, 2, none⟩ (.slice A7 n7 c7)) w0.heap.size (fun _ => True) ⟨sub, []⟩ [.pointer (some ⟨wr.heap.size, 0, none⟩)]) := ⟨Kd.M_mono kB (fun _ _ => trivial) (Kd.M_step (Kd.M_step (newB0 (W := wr) sub HB.out.size) (fun k hk hlt => hg7.block k hlt (fun e => by obtain ⟨inner, ho⟩ := Kd.R_own (SR_toR HS.out); have := own_lt ho k e.symm; have := hk.2; omega))) (fun k hk _ => Below.heap_setCell w7 _ _ k (by show k ≠ gs; have := hk.2; have := blk_lt HCF.out; omega)))⟩
           have HB7 : Aside0 (Below w0.heap.size w0 (w7.setCell ⟨gs, 2, none⟩ (.slice A7 n7 c7))) := ⟨below_set hb7 HGW.out⟩
           have hc7 : w7.cell? ⟨gs, 2, none⟩ = some (.slice A l.length c) := (blk_cell hc7b 2).trans rfl
           have hz7 := blk_frozen hc7b 2
           clear ho7 hb7 hg7 hat7 hne hc7b))
      go_ret
      exact ⟨_, ⟨sub, []⟩, rfl, Or.inr ⟨rfl, HV2.out⟩, HM7.out, HB7.out⟩
    | succ m =>
      obtain rfl : z = (m : Int) := by have := HZ.out; omega
      have hm : m < l.length := by have := HK.out; omega
      have hm1 : (m : Int) < (l.length : Int) := by omega
      obtain ⟨ad, c', v, hV, hlc', hcell, hM⟩ := at_row z46 rfl (SR_toR HS.out) m hm
      injection hV with hA _ hc
      subst hA
      subst hc
      have hgt := getD_at l z46 m hm
      generalize l.getD m z46 = p at hM hgt
      obtain ⟨gb, cells, hv, _⟩ := id hM
      obtain rfl : v = .pointer (some ⟨gb, 0, none⟩) := by simpa using hv
      obtain ⟨gb', B1, b1, hv', hg, _, _⟩ := kB_open (kB.K_of_M hM)
      obtain rfl : gb = gb' := by simpa using hv'
      have HI := Aside0.mk (subName gb p.f0 sub _ wr hg)
      have HM : Aside0 (kB.M wr w0.heap.size (fun _ => True) p [.pointer (some ⟨gb, 0, none⟩)]) := ⟨Kd.M_mono kB (fun _ _ => trivial) hM⟩
      have HG := Aside0.mk hgt
      clear hM hg hgt hv hv'
      by_cases hou : p.f0 = sub
      · have hd : decide (p.f0 = sub) = true := decide_eq_true hou
        have HR : Aside0 (SubIs l sub p) := ⟨Or.inl ⟨m, HG.out, hou⟩⟩
        clear hou
        go_wp2_with (first | (go_at_call 45; (with_reducible refine HI.out.mono ?_); rintro e w1 ⟨rfl, rfl⟩))
        go_ret
        exact ⟨gb, p, rfl, HR.out, HM.out, HB.out⟩
      · have hd : decide (p.f0 = sub) = false := decide_eq_false hou
        have HR : Aside0 (∀ y ∈ l.drop m, y.f0 ≠ sub) := ⟨fun y hy => by
          rw [drop_at HG.out] at hy
          rcases List.mem_cons.1 hy with rfl | hy
          · exact hou
          · exact HV.out y hy⟩
        have hwz : wrap64 ((m : Int) - 1) = (m : Int) - 1 := by unfold wrap64; omega
        clear hou
        go_wp2_with (first | (go_at_call 45; (with_reducible refine HI.out.mono ?_); rintro e w1 ⟨rfl, rfl⟩))
        go_roundg m
        case measure => omega
        case rel => exact ⟨_, rfl, ⟨rfl⟩, ⟨by have := HK.out; omega⟩, HR, rfl⟩

/-- os are the options of the section, or of the part of it, as the program finds them. -/
def OptIs (l : List S36) (us sec sub : ByteArray) (os : List S42) : Prop := ∃ x, SecIs l us sec x ∧ ((sub.toList = [] ∧ os = x.f1) ∨ (sub.toList ≠ [] ∧ ∃ p, SubIs x.f2 sub p ∧ os = p.f1))
/-- What is asked of the names. -/
structure Named (l : List S36) : Prop where
  s : ∀ x ∈ l, Word x.f0
  o : ∀ x ∈ l, ∀ o ∈ x.f1, Word o.f0
  b : ∀ x ∈ l, ∀ p ∈ x.f2, ∀ o ∈ p.f1, Word o.f0
theorem SecIs.facts {l : List S36} {us sec : ByteArray} {x : S36} (h : SecIs l us sec x) (hz : Sized l) (hn : Named l) : x.f1.length ≤ 1001 ∧ x.f2.length ≤ 3518437208883 ∧ (∀ o ∈ x.f1, Word o.f0) ∧ (∀ p ∈ x.f2, p.f1.length ≤ 1001 ∧ ∀ o ∈ p.f1, Word o.f0) := by
  rcases h with ⟨i, hi, _⟩ | ⟨rfl, _⟩
  · have hm := List.mem_of_getElem? hi
    exact ⟨Nat.le_trans (hz.o x hm) (by omega), Nat.le_trans (hz.b x hm) (by omega), hn.o x hm, fun p hp => ⟨hz.p x hm p hp, hn.b x hm p hp⟩⟩
  · exact ⟨by simp, by simp, fun o ho => (by cases ho), fun p hp => (by cases hp)⟩
theorem SubIs.facts {l : List S46} {sub : ByteArray} {p : S46} (h : SubIs l sub p) (hl : ∀ p ∈ l, p.f1.length ≤ 1001 ∧ ∀ o ∈ p.f1, Word o.f0) : p.f1.length ≤ 1001 ∧ ∀ o ∈ p.f1, Word o.f0 := by
  rcases h with ⟨i, hi, _⟩ | ⟨rfl, _⟩
  · have hm := List.mem_of_getElem? hi
    exact ⟨Nat.le_trans (hl p hm).1 (by omega), (hl p hm).2⟩
  · exact ⟨by simp, fun o ho => (by cases ho)⟩
#print axioms section_
#print axioms subsection
end Go.Proofs.YtacndeejapfkiaaDoor.HandF
