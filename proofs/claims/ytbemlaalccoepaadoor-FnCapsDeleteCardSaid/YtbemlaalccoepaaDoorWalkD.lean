/- The law FnCapsDelete, walked. -/
import Derived.Test.YtbemlaalccoepaaDoorCapQ
import Derived.Test.YtbemlaalccoepaaDoorCapK
import Derived.Test.YtbemlaalccoepaaDoorHandN
set_option linter.unusedVariables false
set_option linter.unusedSimpArgs false
namespace Go.Proofs.YtbemlaalccoepaaDoor.WalkD
open Go.RowKit Go.Proofs.YtbemlaalccoepaaDoorW.PrintWords Go.Proofs.YtbemlaalccoepaaDoorW.PrintLast Go.Proofs.YtbemlaalccoepaaDoorW.PrintMore Go.Proofs.YtbemlaalccoepaaDoor.QAll Txt CapA CapB CapC CapD CapE CapI CapJ CapP CapQ CapR CapK

/-- Elements that are lent: what their rows say stands in an elder world. -/
def lent {α : Type} (W0 : World) (d : Kd α) : Kd α where
  sz := d.sz
  E := []
  K := fun _ x cs => d.K W0 x cs
  M := fun _ _ _ x cs => d.K W0 x cs
  K_len := fun h => d.K_len h
  K_one := fun h => d.K_one h
  K_below := fun _ h => h
  K_of_M := fun h => h
  M_mono := fun _ h => h
  M_bound := fun h => h
  M_move := fun _ h => h
  M_lower := fun _ h => h
theorem lent_C {α : Type} {W0 w : World} {d : Kd α} {A : Option Addr} {n : Nat} {xs : List α} (h : (lent W0 d).C w A n xs) (hb : Below W0.heap.size W0 w) : d.C w A n xs :=
  ReadsRow.imp_ h (Below.refl _ _) (fun _ _ hp => d.K_below hb hp)
theorem info27' : (Tryd.prog.info? 27).map (fun i => (i.zero, i.size, i.bytes)) = some (some (.agg #[(.string ⟨#[]⟩), (.slice none 0 0)]), 2, 40) := by kernel_rfl
theorem rdT' (l : List S27) (k : Nat) (hk : k < l.length) : l.getD (k : Int).toNat z27 = l[k] := rdT l k hk
set_option maxHeartbeats 16000000 in
set_option maxRecDepth 100000 in
theorem law (A0 : Option Addr) (c0 : Nat) (l : List S27) (nm : ByteArray) (aE aU aI : Addr) (W : World) (hC : Kd.C k27 W A0 l.length l) (hc : l.length ≤ c0) (hnm : nm.size ≤ maxLen) (hs : HandD.Sent W aE aU aI) :
    Calls Tryd.prog 3 #[.slice A0 l.length c0, .string nm] W fun e w' => e = .returned (.bool true) ∧ Below W.heap.size W w' := by
  have HS := Aside0.mk hs
  have HC := Aside0.mk hC
  have HCc := Aside0.mk hc
  clear hs hC hc
  obtain ⟨r1, ⟨K1, hk1⟩, hr1⟩ := fits_f l
  have hf1 := hk1 K1 (Nat.le_refl _)
  have HF1 : Aside0 (∀ W1, Below W.heap.size W W1 → Calls Tryd.prog 5 #[.slice A0 l.length c0] W1 fun e w' => e = .returned (.bool r1) ∧ Below W1.heap.size W1 w') := ⟨fun W1 hb => laws_zzFits29.calls K1 A0 c0 l r1 W1 (Kd.C_below HC.out hb) HCc.out hf1⟩
  have HWK : Aside0 (∀ W1, Below W.heap.size W W1 → Calls Tryd.prog 7 #[] W1 fun e w' => e = .returned (.bool true) ∧ Below W1.heap.size W1 w') := ⟨fun W1 hb => HandN.works aE aU aI W1 (HS.out.below hb)⟩
  clear hk1 hf1
  by_cases q1 : nm.size ≤ 2147483647
  rotate_left
  · have d0 : decide (2147483647 < nm.size) = true := decide_eq_true (by omega)
    have d1 : decide (2147483647 < (nm.size : Int)) = true := decide_eq_true (by omega)
    clear q1 hr1
    cases r1 with
    | false =>
      go_enter Tryd.func3, Tryd.ntmps3
      go_wp2_with (first | (go_at_call 5; (with_reducible refine (HF1.out _ (Below.refl _ _)).mono ?_); rintro e w1 ⟨rfl, hd⟩; have HB1 := Aside0.mk hd; clear hd))
      go_ret
      exact ⟨rfl, HB1.out⟩
    | true =>
      go_enter Tryd.func3, Tryd.ntmps3
      go_wp2_with (first | (go_at_call 5; (with_reducible refine (HF1.out _ (Below.refl _ _)).mono ?_); rintro e w1 ⟨rfl, hd⟩; have HB1 := Aside0.mk hd; clear hd))
      go_ret
      exact ⟨rfl, HB1.out⟩
  have d0 : decide (2147483647 < nm.size) = false := decide_eq_false (by omega)
  have d1 : decide (2147483647 < (nm.size : Int)) = false := decide_eq_false (by omega)
  cases r1 with
  | false =>
    clear hr1 q1
    go_enter Tryd.func3, Tryd.ntmps3
    go_wp2_with (first | (go_at_call 5; (with_reducible refine (HF1.out _ (Below.refl _ _)).mono ?_); rintro e w1 ⟨rfl, hd⟩; have HB1 := Aside0.mk hd; clear hd))
    go_ret
    exact ⟨rfl, HB1.out⟩
  | true =>
    obtain ⟨hle, hles⟩ := hr1 rfl
    clear hr1
    obtain ⟨r2, ⟨K2, hk2⟩, hr2⟩ := good_f l hle hles
    have hf2 := hk2 K2 (Nat.le_refl _)
    have HF2 : Aside0 (∀ W1, Below W.heap.size W W1 → Calls Tryd.prog 6 #[.slice A0 l.length c0] W1 fun e w' => e = .returned (.bool r2) ∧ Below W1.heap.size W1 w') := ⟨fun W1 hb => spec_GoodCaps.calls K2 A0 c0 l r2 W1 (Kd.C_below HC.out hb) HCc.out hf2⟩
    clear hk2 hf2 hles q1
    cases r2 with
    | false =>
      clear hr2 hle
      go_enter Tryd.func3, Tryd.ntmps3
      go_wp2_with (first
        | (go_at_call 5; (with_reducible refine (HF1.out _ (Below.refl _ _)).mono ?_); rintro e w1 ⟨rfl, hd⟩; have HB1 := Aside0.mk hd; clear hd)
        | (go_at_call 6; (with_reducible refine (HF2.out _ HB1.out).mono ?_); rintro e w2 ⟨rfl, hd⟩; have HB2 := Aside0.mk (below_step HB1.out hd); clear hd)
        | (go_at_call 7; (with_reducible refine (HWK.out _ HB2.out).mono ?_); rintro e w3 ⟨rfl, hd⟩; have HB3 := Aside0.mk (below_step HB2.out hd); clear hd))
      go_ret
      exact ⟨rfl, HB3.out⟩
    | true =>
      have HG := Aside0.mk (goodL (hr2 rfl))
      have hn : l.length ≤ 60 := HG.out.sz.n
      have HN := Aside0.mk hn
      have HEQ : Aside0 (joined (words (without nm l)) = acc (words (without nm l))) := ⟨(acc_joined _ (words_pos (HG.out.filter _).pos)).symm⟩
      have hu27 := Tryd.underlying27
      clear hr2 hle hn
      go_enter Tryd.func3, Tryd.ntmps3
      go_upto_region 6 with (first
        | (go_at_call 5; (with_reducible refine (HF1.out _ (Below.refl _ _)).mono ?_); rintro e w1 ⟨rfl, hd⟩; have HB1 := Aside0.mk hd; clear hd)
        | (go_at_call 6; (with_reducible refine (HF2.out _ HB1.out).mono ?_); rintro e w2 ⟨rfl, hd⟩; have HB2 := Aside0.mk (below_step HB1.out hd); clear hd))
      clear HF1 HF2
      go_wp2
      go_loopg [5, 24] l.length (fun gk v5 v24 w' => ∃ (k : Nat) (V5 : Value), v5 = V5 ∧ v24 = .int .i64 (k : Int) ∧ Aside0 (k + gk = l.length) ∧ Aside0 (Below W.heap.size W w') ∧ Aside0 ((lent W k27).R 27 w' W.heap.size (fun _ => True) V5 (without nm (l.take k))))
      case atStart => exact ⟨0, .slice none 0 0, rfl, rfl, ⟨by omega⟩, HB2, ⟨Kd.R_nil _ _ _ _ _⟩⟩
      case round =>
        obtain ⟨k, V5, hV5, rfl, HK, HB, HR⟩ := hrel
        replace hV5 := hV5.symm
        subst hV5
        by_cases hlt : k < l.length
        rotate_left
        · obtain rfl : k = l.length := by have := HK.out; omega
          have hR := HR.out
          rw [List.take_length] at hR
          obtain ⟨A5, c5, rfl, hc5, hC5⟩ := Kd.R_reads hR
          have HC5 : Aside0 (k27.C wr A5 (without nm l).length (without nm l)) := ⟨lent_C hC5 HB.out⟩
          have HSZ : Aside0 (Sized (without nm l)) := ⟨(HG.out.filter fun s => decide (s.f0 ≠ nm)).sz⟩
          clear hR hc5 hC5
          go_wp2_with (first
            | (go_at_call 8; (with_reducible refine (deleteCap A0 c0 l nm _ (Kd.C_below HC.out HB.out) HG.out).mono ?_); rintro e w3 ⟨rfl, hd⟩; rw [HEQ.out]; have HB3 := Aside0.mk (below_step HB.out hd); have HC6 := Aside0.mk (Kd.C_below HC5.out hd); clear hd)
            | (go_at_call 9; (with_reducible refine (capsText A5 c5 (without nm l) _ HC6.out HSZ.out).mono ?_); rintro e w4 ⟨rfl, hd⟩; have HB4 := Aside0.mk (below_step HB3.out hd); clear hd)
            | (go_at_call 7; (with_reducible refine (HWK.out _ HB4.out).mono ?_); rintro e w5 ⟨rfl, hd⟩; have HB5 := Aside0.mk (below_step HB4.out hd); clear hd))
          go_ret
          exact ⟨rfl, HB5.out⟩
        obtain ⟨g0, rfl⟩ : ∃ m, gk = m + 1 := ⟨gk - 1, by have := HK.out; omega⟩
        have hk1 : (k : Int) < (l.length : Int) := by omega
        obtain ⟨ad, A1, c1, rfl, hx0, hx1, l1, g1⟩ := at_T27 HC.out (k : Int) (by omega) hk1
        have hsk : rd_T27 l (k : Int) = l[k] := by unfold rd_T27; simp [hlt]
        rw [hsk, Int.toNat_natCast] at hx0 hx1
        rw [hsk] at l1 g1
        obtain ⟨s, hs⟩ : ∃ s, s = l[k] := ⟨_, rfl⟩
        rw [← hs] at hx0 hx1 l1 g1
        replace hx0 := pw_cell_below HB.out hx0
        replace hx1 := pw_cell_below HB.out hx1
        have HM : Aside0 (k27.K W s [.string s.f0, .slice A1 s.f1.length c1]) := ⟨k27_mk W s l1 g1⟩
        have HTK : Aside0 (l.take (k + 1) = l.take k ++ [s]) := ⟨by rw [List.take_succ_eq_append_getElem hlt, hs]⟩
        have HWK2 : Aside0 (wrap64 ((k : Int) + 1) = ((k + 1 : Nat) : Int)) := ⟨by have := HN.out; unfold wrap64; omega⟩
        have HFL : Aside0 ((without nm (l.take k)).length ≤ 60) := ⟨by
          refine Nat.le_trans (List.length_filter_le _ _) ?_
          rw [List.length_take]
          have := HN.out
          omega⟩
        clear hsk hs l1 g1
        by_cases z : s.f0 = nm
        · have hz : (s.f0.toList == nm.toList) = true := by rw [z]; simp
          have HF : Aside0 (without nm (l.take (k + 1)) = without nm (l.take k)) := ⟨by rw [HTK.out]; unfold without; rw [List.filter_append]; simp [z]⟩
          clear z
          go_upto_region 9 with fail
          have hg0 : (wr.alloc (.cells #[.string s.f0, .slice A1 s.f1.length c1] 27)).heap[wr.heap.size]? = some (.cells #[.string s.f0, .slice A1 s.f1.length c1] 27 (0, 0)) := blk_new _ _
          have HBA : Aside0 (Below W.heap.size W (wr.alloc (.cells #[.string s.f0, .slice A1 s.f1.length c1] 27))) := ⟨below_alloc HB.out _⟩
          have HRA : Aside0 ((lent W k27).R 27 (wr.alloc (.cells #[.string s.f0, .slice A1 s.f1.length c1] 27)) W.heap.size (fun _ => True) V5 (without nm (l.take k))) := ⟨Kd.R_below HR.out (below_alloc (Below.refl _ _) _)⟩
          generalize wr.alloc (.cells #[.string s.f0, .slice A1 s.f1.length c1] 27) = wa at hg0 HBA HRA ⊢
          have hq0 : wa.cell? ⟨wr.heap.size, 0, none⟩ = some (.string s.f0) := (blk_cell hg0 0).trans rfl
          go_wp2
          go_roundg g0
          case measure => omega
          case rel => exact ⟨k + 1, V5, rfl, by rw [HWK2.out], ⟨by have := HK.out; omega⟩, HBA, ⟨by rw [HF.out]; exact HRA.out⟩⟩
        · have hz : (s.f0.toList == nm.toList) = false := by
            rw [beq_eq_false_iff_ne]
            intro e
            exact z (ba_ext e)
          have HF : Aside0 (without nm (l.take (k + 1)) = without nm (l.take k) ++ [s]) := ⟨by rw [HTK.out]; unfold without; rw [List.filter_append]; simp [z]⟩
          clear z
          go_upto_region 9 with fail
          have hg0 : (wr.alloc (.cells #[.string s.f0, .slice A1 s.f1.length c1] 27)).heap[wr.heap.size]? = some (.cells #[.string s.f0, .slice A1 s.f1.length c1] 27 (0, 0)) := blk_new _ _
          have HBA : Aside0 (Below W.heap.size W (wr.alloc (.cells #[.string s.f0, .slice A1 s.f1.length c1] 27))) := ⟨below_alloc HB.out _⟩
          have HRA : Aside0 ((lent W k27).R 27 (wr.alloc (.cells #[.string s.f0, .slice A1 s.f1.length c1] 27)) W.heap.size (fun _ => True) V5 (without nm (l.take k))) := ⟨Kd.R_below HR.out (below_alloc (Below.refl _ _) _)⟩
          generalize wr.alloc (.cells #[.string s.f0, .slice A1 s.f1.length c1] 27) = wa at hg0 HBA HRA ⊢
          have hq0 : wa.cell? ⟨wr.heap.size, 0, none⟩ = some (.string s.f0) := (blk_cell hg0 0).trans rfl
          have hq1 : wa.cell? ⟨wr.heap.size, 1, none⟩ = some (.slice A1 s.f1.length c1) := (blk_cell hg0 1).trans rfl
          go_wp2_with (first
            | ((with_reducible refine gate_builtin (b := .append) (xs := #[.tmp 32, .tmp 34]) rfl ?_); at_builtin; refine Kd.R_append (lent W k27) (w0 := W) W.heap.size rfl (.tmp 32) (.tmp 34) 22 27 _ 40 rfl Tryd.underlying22 info27' rfl (by show 0 < 2; decide) (by first | decide | (show 0 < 2; decide)) V5 (without nm (l.take k)) s [.string s.f0, .slice A1 s.f1.length c1] (fun _ => True) (fun _ => False) rfl ?hx HM.out (fun _ h => h.elim) (fun _ _ => trivial) HRA.out HBA.out HBA.out.size ?hlen ?_
               case hx => first | (go_simp; done) | (simp [Act.eval]; done)
               case hlen => have := HFL.out; omega
               intro v7 w7 ho7 hb7 hg7 hat7
               have HR7 := Aside0.mk ho7
               have HB7 := Aside0.mk hb7
               clear ho7 hb7 hg7 hat7))
          go_roundg g0
          case measure => omega
          case rel => exact ⟨k + 1, v7, rfl, by rw [HWK2.out], ⟨by have := HK.out; omega⟩, HB7, ⟨by rw [HF.out]; exact HR7.out⟩⟩
#print axioms law
end Go.Proofs.YtbemlaalccoepaaDoor.WalkD
