/- impl.GetOption, spec.OptionsOf, spec.Capital, walked. -/
import Derived.Test.YtacndeejapfkiaaDoorHandF
set_option linter.unusedVariables false
set_option linter.unusedSimpArgs false
namespace Go.Proofs.YtacndeejapfkiaaDoor.HandG
open Go.RowKit Go.Proofs.YtacndeejapfkiaaDoorW.PrintWords Go.Proofs.YtacndeejapfkiaaDoorW.PrintLast Go.Proofs.YtacndeejapfkiaaDoorW.PrintMore Go.Proofs.YtacndeejapfkiaaDoor.QAll Txt Ptr SepK HandA HandB HandC HandD HandE HandF

set_option maxHeartbeats 8000000 in
set_option maxRecDepth 100000 in
theorem getOption (A : Option Addr) (c : Nat) (l : List S36) (sec us sub key uk : ByteArray) (w : World) (hC : Kd.C k36 w A l.length l) (hc : l.length ≤ c) (hz : Sized l) (hn : Named l) (hus : Word us) (has : FoldA sec us) (huk : Word uk) (hak : FoldA key uk) :
    Calls Tryd.prog 17 #[.slice A l.length c, .string sec, .string sub, .string key] w fun e w' => ∃ os v, e = .returned (.tuple #[.string (lastOf os uk), v]) ∧ OptIs l us sec sub os ∧ Kd.string.R 9 w' w.heap.size (fun _ => True) v (vals os uk) ∧ Below w.heap.size w w' := by
  have HCF := Aside0.mk (configOf A c l w hC hc hz)
  have HZ := Aside0.mk hz
  have HN := Aside0.mk hn
  have HUS := Aside0.mk hus
  have HAS := Aside0.mk has
  have HUK := Aside0.mk huk
  have HAK := Aside0.mk hak
  clear hC hc hz hn hus has huk hak
  by_cases hsub : sub.toList = []
  · have hs1 : sub.toList.isEmpty = true := by rw [hsub]; rfl
    have HSUB := Aside0.mk hsub
    go_enter Tryd.func17, Tryd.ntmps17
    go_wp2_with (first
      | (go_at_call 20; (with_reducible refine HCF.out.mono ?_); rintro e w1 ⟨g, V, rfl, hgw, hcfg, hS, hb⟩; have HB1 := Aside0.mk hb; have HSC := Aside0.mk (section_ g V l sec us w w1 hgw hcfg hS hb (Nat.le_trans HZ.out.n (by omega)) HN.out.s HUS.out HAS.out); clear hgw hcfg hS hb)
      | (go_at_call 27; (with_reducible refine HSC.out.mono ?_); rintro e w2 ⟨gs, x, rfl, hx, hM, hb⟩
         obtain ⟨gs', A1, c1, B1, b1, hv, hg, hl1, hC1, _, _⟩ := kS_open (kS.K_of_M hM)
         obtain rfl : gs = gs' := by simpa using hv
         obtain ⟨f1, f2, f3, f4⟩ := hx.facts HZ.out HN.out
         have HX := Aside0.mk hx
         have HB2 := Aside0.mk hb
         have HO := Aside0.mk (secOption gs x.f0 A1 c1 _ x.f1 key uk w2 hg hC1 hl1 f1 f3 HUK.out HAK.out)
         have HALL : Aside0 (∀ W, Below w2.heap.size w2 W → Calls Tryd.prog 29 #[.pointer (some ⟨gs, 0, none⟩), .string key] W fun e w' => ∃ v, e = .returned v ∧ Kd.string.R 9 w' W.heap.size (fun _ => True) v (vals x.f1 uk) ∧ Below W.heap.size W w') := ⟨fun W hW => secAll gs x.f0 A1 c1 _ x.f1 key uk W (blk_below hg hW) (Kd.C_below hC1 hW) hl1 f1 f3 HUK.out HAK.out⟩
         have HLV : Aside0 ((vals x.f1 uk).length ≤ 1001) := ⟨Nat.le_trans (vals_len _ _) f1⟩
         clear hx hM hb hv hg hl1 hC1 f1 f2 f3 f4)
      | (go_at_call 28; (with_reducible refine HO.out.mono ?_); rintro e w3 ⟨rfl, rfl⟩)
      | (go_at_call 29; (with_reducible refine (HALL.out _ (below_alloc (Below.refl _ _) _)).mono ?_); rintro e w4 ⟨v, rfl, hr, hb⟩
         obtain ⟨A4, c4, rfl, hl4, hC4⟩ := Kd.R_reads hr
         have HB4 : Aside0 (Below w.heap.size w w4) := ⟨(below_alloc HB2.out _).trans (hb.mono (below_alloc HB2.out _).size)⟩
         have HE4 : Aside0 (Kd.string.R 9 w4 w.heap.size (fun _ => True) (.slice (some ⟨w3.heap.size, 0, none⟩) 0 0) []) := ⟨Kd.R_below (Kd.R_lower (Kd.R_of_own (xs := []) (own_lit_of (enc := Value.string) w3 w3.heap.size 9 [] (Nat.le_refl _) (by decide)) (fun _ _ => trivial)) HB2.out.size) hb⟩
         have HC4 := Aside0.mk hC4
         clear hr hb hl4 hC4)
      | ((with_reducible refine gate_builtin (b := .append) (xs := #[.tmp 21, .tmp 24]) rfl ?_); at_builtin; refine Kd.R_append_row Value.string ByteArray.empty (h1 := fun _ => rfl) (w0 := w) w.heap.size rfl (.tmp 21) (.tmp 24) 27 9 (.string ⟨#[]⟩) 16 rfl Tryd.underlying27 info9s rfl (by decide) (.slice (some ⟨w3.heap.size, 0, none⟩) 0 0) [] (vals x.f1 uk) A4 (vals x.f1 uk).length c4 (fun _ => True) rfl rfl (fun _ _ => trivial) HE4.out HC4.out HB4.out HB4.out.size ?hlen ?_
         case hlen => have := HLV.out; simp only [List.length_nil]; omega
         intro v7 w7 ho7 hb7 hg7 hat7
         have HR7 : Aside0 (Kd.string.R 9 w7 w.heap.size (fun _ => True) v7 (vals x.f1 uk)) := ⟨ho7⟩
         have HB7 := Aside0.mk hb7
         clear ho7 hb7 hg7 hat7))
    go_ret2
    exact ⟨x.f1, v7, rfl, ⟨x, HX.out, Or.inl ⟨HSUB.out, rfl⟩⟩, HR7.out, HB7.out⟩
  · have hs1 : sub.toList.isEmpty = false := by cases h : sub.toList with | nil => exact absurd h hsub | cons _ _ => rfl
    have HSUB := Aside0.mk hsub
    go_enter Tryd.func17, Tryd.ntmps17
    go_wp2_with (first
      | (go_at_call 20; (with_reducible refine HCF.out.mono ?_); rintro e w1 ⟨g, V, rfl, hgw, hcfg, hS, hb⟩; have HB1 := Aside0.mk hb; have HSC := Aside0.mk (section_ g V l sec us w w1 hgw hcfg hS hb (Nat.le_trans HZ.out.n (by omega)) HN.out.s HUS.out HAS.out); clear hgw hcfg hS hb)
      | (go_at_call 27; (with_reducible refine HSC.out.mono ?_); rintro e w2 ⟨gs, x, rfl, hx, hM, hb⟩
         obtain ⟨f1, f2, f3, f4⟩ := hx.facts HZ.out HN.out
         have HX := Aside0.mk hx
         have HF4 := Aside0.mk f4
         have HSB := Aside0.mk (subsection gs x sub w w2 hM hb f2)
         clear hx hM hb f1 f2 f3 f4)
      | (go_at_call 30; (with_reducible refine HSB.out.mono ?_); rintro e w3 ⟨gb, p, rfl, hp, hM, hb⟩
         obtain ⟨gb', A1, c1, hv, hg, hl1, hC1⟩ := kB_open (kB.K_of_M hM)
         obtain rfl : gb = gb' := by simpa using hv
         obtain ⟨f1, f3⟩ := hp.facts HF4.out
         have HP := Aside0.mk hp
         have HB2 := Aside0.mk hb
         have HO := Aside0.mk (subOption gb p.f0 A1 c1 p.f1 key uk w3 hg hC1 hl1 f1 f3 HUK.out HAK.out)
         have HALL : Aside0 (∀ W, Below w3.heap.size w3 W → Calls Tryd.prog 32 #[.pointer (some ⟨gb, 0, none⟩), .string key] W fun e w' => ∃ v, e = .returned v ∧ Kd.string.R 9 w' W.heap.size (fun _ => True) v (vals p.f1 uk) ∧ Below W.heap.size W w') := ⟨fun W hW => subAll gb p.f0 A1 c1 p.f1 key uk W (blk_below hg hW) (Kd.C_below hC1 hW) hl1 f1 f3 HUK.out HAK.out⟩
         have HLV : Aside0 ((vals p.f1 uk).length ≤ 1001) := ⟨Nat.le_trans (vals_len _ _) f1⟩
         clear hp hM hb hv hg hl1 hC1 f1 f3)
      | (go_at_call 31; (with_reducible refine HO.out.mono ?_); rintro e w5 ⟨rfl, rfl⟩)
      | (go_at_call 32; (with_reducible refine (HALL.out _ (below_alloc (Below.refl _ _) _)).mono ?_); rintro e w4 ⟨v, rfl, hr, hb⟩
         obtain ⟨A4, c4, rfl, hl4, hC4⟩ := Kd.R_reads hr
         have HB4 : Aside0 (Below w.heap.size w w4) := ⟨(below_alloc HB2.out _).trans (hb.mono (below_alloc HB2.out _).size)⟩
         have HE4 : Aside0 (Kd.string.R 9 w4 w.heap.size (fun _ => True) (.slice (some ⟨w5.heap.size, 0, none⟩) 0 0) []) := ⟨Kd.R_below (Kd.R_lower (Kd.R_of_own (xs := []) (own_lit_of (enc := Value.string) w5 w5.heap.size 9 [] (Nat.le_refl _) (by decide)) (fun _ _ => trivial)) HB2.out.size) hb⟩
         have HC4 := Aside0.mk hC4
         clear hr hb hl4 hC4)
      | ((with_reducible refine gate_builtin (b := .append) (xs := #[.tmp 32, .tmp 35]) rfl ?_); at_builtin; refine Kd.R_append_row Value.string ByteArray.empty (h1 := fun _ => rfl) (w0 := w) w.heap.size rfl (.tmp 32) (.tmp 35) 27 9 (.string ⟨#[]⟩) 16 rfl Tryd.underlying27 info9s rfl (by decide) (.slice (some ⟨w5.heap.size, 0, none⟩) 0 0) [] (vals p.f1 uk) A4 (vals p.f1 uk).length c4 (fun _ => True) rfl rfl (fun _ _ => trivial) HE4.out HC4.out HB4.out HB4.out.size ?hlen ?_
         case hlen => have := HLV.out; simp only [List.length_nil]; omega
         intro v7 w7 ho7 hb7 hg7 hat7
         have HR7 : Aside0 (Kd.string.R 9 w7 w.heap.size (fun _ => True) v7 (vals p.f1 uk)) := ⟨ho7⟩
         have HB7 := Aside0.mk hb7
         clear ho7 hb7 hg7 hat7))
    go_ret2
    exact ⟨p.f1, v7, rfl, ⟨x, HX.out, Or.inr ⟨HSUB.out, p, HP.out, rfl⟩⟩, HR7.out, HB7.out⟩
#print axioms getOption
end Go.Proofs.YtacndeejapfkiaaDoor.HandG
