/- Config.SetOption, Config.AddOption, walked. -/
import Derived.Test.YtacndeejapfkiaaDoorHandQ
set_option linter.unusedVariables false
set_option linter.unusedSimpArgs false
namespace Go.Proofs.YtacndeejapfkiaaDoor.HandR
open Go.RowKit Go.Proofs.YtacndeejapfkiaaDoorW.PrintWords Go.Proofs.YtacndeejapfkiaaDoorW.PrintLast Go.Proofs.YtacndeejapfkiaaDoorW.PrintMore Go.Proofs.YtacndeejapfkiaaDoor.QAll Txt Ptr SepK HandA HandB HandC HandD HandE HandF HandM PureS HandN HandO HandP HandQ

/-- l2 is l, in which the options of the section sec, or of the part sub of it, have become what f makes of them. -/
def Upd (l : List S36) (sec sub : ByteArray) (f : List S42 → List S42) (l2 : List S36) : Prop :=
  ∃ l1 i x x', SecAt l sec l1 i x ∧ l2 = l1.set i x' ∧ ((sub.toList = [] ∧ x' = ⟨x.f0, f x.f1, x.f2⟩) ∨ (sub.toList ≠ [] ∧ ∃ ps j p, PartAt x.f2 sub ps j p ∧ x' = ⟨x.f0, x.f1, ps.set j ⟨p.f0, f p.f1⟩⟩))
theorem SecAt.facts {l : List S36} {u : ByteArray} {l1 : List S36} {i : Nat} {x : S36} (h : SecAt l u l1 i x) (hz : Tight l) (hn : Named l) : x.f1.length ≤ 1001 ∧ x.f2.length ≤ 3518437208883 ∧ (∀ o ∈ x.f1, Word o.f0) ∧ (∀ p ∈ x.f2, p.f1.length ≤ 1001 ∧ ∀ o ∈ p.f1, Word o.f0) := by
  obtain ⟨h1, _, rfl | ⟨rfl, _, _, _⟩⟩ := h
  · have hm := List.mem_of_getElem? h1
    exact ⟨Nat.le_trans (hz.o x hm) (by omega), Nat.le_trans (hz.b x hm) (by omega), hn.o x hm, fun p hp => ⟨Nat.le_trans (hz.p x hm p hp) (by omega), hn.b x hm p hp⟩⟩
  · exact ⟨by simp, by simp, fun o ho => (by cases ho), fun p hp => (by cases hp)⟩
theorem PartAt.facts {l : List S46} {u : ByteArray} {l1 : List S46} {i : Nat} {p : S46} (h : PartAt l u l1 i p) (hl : ∀ p ∈ l, p.f1.length ≤ 1001 ∧ ∀ o ∈ p.f1, Word o.f0) : p.f1.length ≤ 1001 ∧ ∀ o ∈ p.f1, Word o.f0 := by
  obtain ⟨h1, _, rfl | ⟨rfl, _, _, _⟩⟩ := h
  · exact hl p (List.mem_of_getElem? h1)
  · exact ⟨by simp, fun o ho => (by cases ho)⟩

set_option maxHeartbeats 8000000 in
set_option maxRecDepth 100000 in
theorem setOption (g : Nat) (V : Value) (l : List S36) (sec sub key val : ByteArray) (w0 w : World) (hgw : w0.heap.size ≤ g) (hcfg : w.heap[g]? = some (.cells (cfgC V) 64 (0, 0))) (hS : SR kS 53 w w0.heap.size (fun k => k ≠ g) V l) (hB : Below w0.heap.size w0 w) (hz : Tight l) (hn : Named l) (hs : Word sec) (hk : Word key) :
    Calls Tryd.prog 21 #[.pointer (some ⟨g, 0, none⟩), .string sec, .string sub, .string key, .string val] w fun e w' => ∃ (V1 : Value) (l2 : List S36), e = .returned (.pointer (some ⟨g, 0, none⟩)) ∧ w'.heap[g]? = some (.cells (cfgC V1) 64 (0, 0)) ∧ SR kS 53 w' w0.heap.size (fun k => k ≠ g) V1 l2 ∧ Upd l sec sub (fun os => setOpts os key val) l2 ∧ Below w0.heap.size w0 w' := by
  have HSC := Aside0.mk (section2 g V l sec w0 w hgw hcfg hS hB (Nat.le_trans hz.n (by omega)) hn.s hs)
  have HZ := Aside0.mk hz
  have HN := Aside0.mk hn
  have HKEY := Aside0.mk hk
  clear hgw hcfg hS hB hz hn hs hk
  by_cases hsub0 : sub.toList = []
  · have hs1 : sub.toList.isEmpty = true := by rw [hsub0]; rfl
    have HSUB0 := Aside0.mk hsub0
    clear hsub0
    go_enter Tryd.func21, Tryd.ntmps21
    go_wp2_with (first
      | (go_at_call 27; (with_reducible refine HSC.out.mono ?_); rintro e w1 ⟨gs, V1, l1, i, x, O, rfl, hat, hcf, hM, hsub, hput, hb⟩
         have hfx := SecAt.facts hat HZ.out HN.out
         have HAT := Aside0.mk hat
         have HCF := Aside0.mk hcf
         have HM := Aside0.mk hM
         have HSUB := Aside0.mk hsub
         have HPUT := Aside0.mk hput
         have HB1 := Aside0.mk hb
         have HFX := Aside0.mk hfx
         clear hat hcf hM hsub hput hb hfx)
      | (go_at_call 36; (with_reducible refine (secSet gs x key val w0.heap.size O w1 HM.out HB1.out.size HFX.out.1 HFX.out.2.2.1 HKEY.out).mono ?_); rintro e w2 ⟨rfl, hm2, hf2, hb2⟩
         have HS2 := Aside0.mk (HPUT.out w2 _ hf2 hm2)
         have HC2 : Aside0 (w2.heap[g]? = some (.cells (cfgC V1) 64 (0, 0))) := ⟨(hf2.2 g (blk_lt HCF.out) (fun h => HSUB.out g h rfl)).trans HCF.out⟩
         have HB2 : Aside0 (Below w0.heap.size w0 w2) := ⟨HB1.out.trans hb2⟩
         clear hm2 hf2 hb2))
    go_ret
    exact ⟨V1, _, rfl, HC2.out, HS2.out, ⟨l1, i, x, _, HAT.out, rfl, Or.inl ⟨HSUB0.out, rfl⟩⟩, HB2.out⟩
  · have hs1 : sub.toList.isEmpty = false := by cases h : sub.toList with | nil => exact absurd h hsub0 | cons _ _ => rfl
    have HSUB0 := Aside0.mk hsub0
    clear hsub0
    go_enter Tryd.func21, Tryd.ntmps21
    go_wp2_with (first
      | (go_at_call 27; (with_reducible refine HSC.out.mono ?_); rintro e w1 ⟨gs, V1, l1, i, x, O, rfl, hat, hcf, hM, hsub, hput, hb⟩
         have hfx := SecAt.facts hat HZ.out HN.out
         have HAT := Aside0.mk hat
         have HCF := Aside0.mk hcf
         have HM := Aside0.mk hM
         have HSUB := Aside0.mk hsub
         have HPUT := Aside0.mk hput
         have HB1 := Aside0.mk hb
         have HFX := Aside0.mk hfx
         clear hat hcf hM hsub hput hb hfx)
      | (go_at_call 30; (with_reducible refine (subsection2 gs x sub O w0 w1 HM.out HB1.out HFX.out.2.1).mono ?_); rintro e w2 ⟨gb, ps, j, p, Ob, rfl, hpa, hmb, hob, hf2, hput2, hb2⟩
         have HPA := Aside0.mk hpa
         have HPF := Aside0.mk (PartAt.facts hpa HFX.out.2.2.2)
         have HMB := Aside0.mk hmb
         have HOB := Aside0.mk hob
         have HF2 := Aside0.mk hf2
         have HPUT2 := Aside0.mk hput2
         have HB2 := Aside0.mk hb2
         clear hpa hmb hob hf2 hput2 hb2)
      | (go_at_call 37; (with_reducible refine (subSet gb p key val (some ⟨w2.heap.size, 0, none⟩) 1 w0.heap.size Ob (w2.alloc (.cells #[.string val] 9)) (Kd.M_below HMB.out (below_alloc (Below.refl _ _) _)) (Nat.le_trans HB2.out.size (below_alloc (Below.refl w2.heap.size w2) _).size) HPF.out.1 HPF.out.2 HKEY.out (lit_val w2 val) (Nat.le_refl _)).mono ?_); rintro e w4 ⟨rfl, hm4, hf4, hb4⟩
         have hal := below_alloc (Below.refl w2.heap.size w2) (.cells #[.string val] 9)
         have hf24 : Far w2 w4 Ob := (Far.of_below hal Ob).trans hf4 (fun k hk => Or.inl hk)
         have hm24 := Kd.M_mono kB (ok' := fun k => Ob k ∨ w2.heap.size ≤ k) (fun k hk => by rcases hk with hk | hk; exact Or.inl hk; exact Or.inr (Nat.le_trans hal.size hk)) hm4
         have hb24 : Below w0.heap.size w0 w4 := (HB2.out.trans (hal.mono HB2.out.size)).trans hb4
         have hf14 : Far w1 w4 O := HF2.out.trans hf24 HOB.out
         have HS4 := Aside0.mk (HPUT.out w4 _ hf14 (HPUT2.out w4 _ hf24 hm24))
         have HC4 : Aside0 (w4.heap[g]? = some (.cells (cfgC V1) 64 (0, 0))) := ⟨(hf14.2 g (blk_lt HCF.out) (fun h => HSUB.out g h rfl)).trans HCF.out⟩
         have HB4 := Aside0.mk hb24
         clear hf14 hf24 hm24 hb24 hb4))
    go_ret
    exact ⟨V1, _, rfl, HC4.out, HS4.out, ⟨l1, i, x, _, HAT.out, rfl, Or.inr ⟨HSUB0.out, ps, j, p, HPA.out, rfl⟩⟩, HB4.out⟩
#print axioms setOption

set_option maxHeartbeats 8000000 in
set_option maxRecDepth 100000 in
theorem addOption (g : Nat) (V : Value) (l : List S36) (sec sub key val : ByteArray) (w0 w : World) (hgw : w0.heap.size ≤ g) (hcfg : w.heap[g]? = some (.cells (cfgC V) 64 (0, 0))) (hS : SR kS 53 w w0.heap.size (fun k => k ≠ g) V l) (hB : Below w0.heap.size w0 w) (hz : Tight l) (hn : Named l) (hs : Word sec) (hk : Word key) :
    Calls Tryd.prog 22 #[.pointer (some ⟨g, 0, none⟩), .string sec, .string sub, .string key, .string val] w fun e w' => ∃ (V1 : Value) (l2 : List S36), e = .returned (.pointer (some ⟨g, 0, none⟩)) ∧ w'.heap[g]? = some (.cells (cfgC V1) 64 (0, 0)) ∧ SR kS 53 w' w0.heap.size (fun k => k ≠ g) V1 l2 ∧ Upd l sec sub (fun os => addOpts os key val) l2 ∧ Below w0.heap.size w0 w' := by
  have HSC := Aside0.mk (section2 g V l sec w0 w hgw hcfg hS hB (Nat.le_trans hz.n (by omega)) hn.s hs)
  have HZ := Aside0.mk hz
  have HN := Aside0.mk hn
  have HKEY := Aside0.mk hk
  clear hgw hcfg hS hB hz hn hs hk
  by_cases hsub0 : sub.toList = []
  · have hs1 : sub.toList.isEmpty = true := by rw [hsub0]; rfl
    have HSUB0 := Aside0.mk hsub0
    clear hsub0
    go_enter Tryd.func22, Tryd.ntmps22
    go_wp2_with (first
      | (go_at_call 27; (with_reducible refine HSC.out.mono ?_); rintro e w1 ⟨gs, V1, l1, i, x, O, rfl, hat, hcf, hM, hsub, hput, hb⟩
         have hfx := SecAt.facts hat HZ.out HN.out
         have HAT := Aside0.mk hat
         have HCF := Aside0.mk hcf
         have HM := Aside0.mk hM
         have HSUB := Aside0.mk hsub
         have HPUT := Aside0.mk hput
         have HB1 := Aside0.mk hb
         have HFX := Aside0.mk hfx
         clear hat hcf hM hsub hput hb hfx)
      | (go_at_call 38; (with_reducible refine (secAdd gs x key val w0.heap.size O w1 HM.out HB1.out.size HFX.out.1).mono ?_); rintro e w2 ⟨rfl, hm2, hf2, hb2⟩
         have HS2 := Aside0.mk (HPUT.out w2 _ hf2 hm2)
         have HC2 : Aside0 (w2.heap[g]? = some (.cells (cfgC V1) 64 (0, 0))) := ⟨(hf2.2 g (blk_lt HCF.out) (fun h => HSUB.out g h rfl)).trans HCF.out⟩
         have HB2 : Aside0 (Below w0.heap.size w0 w2) := ⟨HB1.out.trans hb2⟩
         clear hm2 hf2 hb2))
    go_ret
    exact ⟨V1, _, rfl, HC2.out, HS2.out, ⟨l1, i, x, _, HAT.out, rfl, Or.inl ⟨HSUB0.out, rfl⟩⟩, HB2.out⟩
  · have hs1 : sub.toList.isEmpty = false := by cases h : sub.toList with | nil => exact absurd h hsub0 | cons _ _ => rfl
    have HSUB0 := Aside0.mk hsub0
    clear hsub0
    go_enter Tryd.func22, Tryd.ntmps22
    go_wp2_with (first
      | (go_at_call 27; (with_reducible refine HSC.out.mono ?_); rintro e w1 ⟨gs, V1, l1, i, x, O, rfl, hat, hcf, hM, hsub, hput, hb⟩
         have hfx := SecAt.facts hat HZ.out HN.out
         have HAT := Aside0.mk hat
         have HCF := Aside0.mk hcf
         have HM := Aside0.mk hM
         have HSUB := Aside0.mk hsub
         have HPUT := Aside0.mk hput
         have HB1 := Aside0.mk hb
         have HFX := Aside0.mk hfx
         clear hat hcf hM hsub hput hb hfx)
      | (go_at_call 30; (with_reducible refine (subsection2 gs x sub O w0 w1 HM.out HB1.out HFX.out.2.1).mono ?_); rintro e w2 ⟨gb, ps, j, p, Ob, rfl, hpa, hmb, hob, hf2, hput2, hb2⟩
         have HPA := Aside0.mk hpa
         have HPF := Aside0.mk (PartAt.facts hpa HFX.out.2.2.2)
         have HMB := Aside0.mk hmb
         have HOB := Aside0.mk hob
         have HF2 := Aside0.mk hf2
         have HPUT2 := Aside0.mk hput2
         have HB2 := Aside0.mk hb2
         clear hpa hmb hob hf2 hput2 hb2)
      | (go_at_call 39; (with_reducible refine (subAdd gb p key val w0.heap.size Ob w2 HMB.out HB2.out.size HPF.out.1).mono ?_); rintro e w4 ⟨rfl, hm24, hf24, hb4⟩
         have hb24 : Below w0.heap.size w0 w4 := HB2.out.trans hb4
         have hf14 : Far w1 w4 O := HF2.out.trans hf24 HOB.out
         have HS4 := Aside0.mk (HPUT.out w4 _ hf14 (HPUT2.out w4 _ hf24 hm24))
         have HC4 : Aside0 (w4.heap[g]? = some (.cells (cfgC V1) 64 (0, 0))) := ⟨(hf14.2 g (blk_lt HCF.out) (fun h => HSUB.out g h rfl)).trans HCF.out⟩
         have HB4 := Aside0.mk hb24
         clear hf14 hf24 hm24 hb24 hb4))
    go_ret
    exact ⟨V1, _, rfl, HC4.out, HS4.out, ⟨l1, i, x, _, HAT.out, rfl, Or.inr ⟨HSUB0.out, ps, j, p, HPA.out, rfl⟩⟩, HB4.out⟩
#print axioms addOption
end Go.Proofs.YtacndeejapfkiaaDoor.HandR

