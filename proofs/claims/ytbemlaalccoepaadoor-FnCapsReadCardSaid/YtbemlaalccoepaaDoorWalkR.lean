/- The law FnCapsRead, walked. -/
import Derived.Test.YtbemlaalccoepaaDoorCapS
import Derived.Test.YtbemlaalccoepaaDoorHandN
import Derived.Lib.AppendIntMem
set_option linter.unusedVariables false
set_option linter.unusedSimpArgs false
namespace Go.Proofs.YtbemlaalccoepaaDoor.WalkR
open Go.RowKit Go.Proofs.YtbemlaalccoepaaDoorW.PrintWords Go.Proofs.YtbemlaalccoepaaDoorW.PrintLast Go.Proofs.YtbemlaalccoepaaDoorW.PrintMore Go.Proofs.YtbemlaalccoepaaDoor.QAll Txt SMap CapA Ptr CapB CapC CapD CapE CapF CapI CapJ CapP CapQ CapR CapS CapT CapU CapV CapW

theorem texts_loop (l : List ByteArray) (hl : l.length ≤ 2147483647) (n : Nat) : ∀ i, i + n = l.length → Ev (fun k => spec_SameTexts.l0 k l l (l.length : Int) (i : Int)) true := by
  induction n with
  | zero =>
    intro i h
    exact ev_now (fun m => by rw [spec_SameTexts.l0, if_neg (by omega)])
  | succ n ih =>
    intro i h
    have hw : wrap64 ((i : Int) + 1) = ((i + 1 : Nat) : Int) := by unfold wrap64; omega
    exact ev_round (ih (i + 1) (by omega)) (fun m hm => by
      rw [spec_SameTexts.l0, if_pos (by omega), if_pos (by omega), if_pos (by omega), if_pos (by omega), if_pos rfl, hw]
      exact hm)
theorem texts_f (l : List ByteArray) (hl : l.length ≤ 2147483647) : Ev (fun k => spec_SameTexts.f k l l) true := by
  have := texts_loop l hl l.length 0 (by omega)
  simpa [spec_SameTexts.f] using this
theorem same_loop (l : List S27) (hl : l.length ≤ 2147483647) (hs : ∀ s ∈ l, s.f1.length ≤ 2147483647) (n : Nat) : ∀ i, i + n = l.length → Ev (fun k => spec_SameCaps.l0 k l l (l.length : Int) (i : Int)) true := by
  induction n with
  | zero =>
    intro i h
    exact ev_now (fun m => by rw [spec_SameCaps.l0, if_neg (by omega)])
  | succ n ih =>
    intro i h
    have hi : i < l.length := by omega
    have hw : wrap64 ((i : Int) + 1) = ((i + 1 : Nat) : Int) := by unfold wrap64; omega
    exact ev_round2 (ih (i + 1) (by omega)) (texts_f l[i].f1 (hs _ (List.getElem_mem hi))) (fun m h2 h1 => by
      rw [spec_SameCaps.l0, if_pos (by omega), if_pos (by omega), if_pos (by omega), if_pos (by omega), if_pos rfl, hw, rdT l i hi, h1]
      simpa using h2)
theorem same_f (l : List S27) (hl : l.length ≤ 2147483647) (hs : ∀ s ∈ l, s.f1.length ≤ 2147483647) : Ev (fun k => spec_SameCaps.f k l l) true := by
  have := same_loop l hl hs l.length 0 (by omega)
  simpa [spec_SameCaps.f] using this
theorem goodV {l : List S27} (h : l.length ≤ 60 ∧ ∀ j (hj : j < l.length), (Fits l[j].f0 l[j].f1 ∧ ∀ s ∈ l[j].f1, Word s) ∧ ∀ s ∈ l.take j, s.f0.toList ≠ l[j].f0.toList) : GoodV l :=
  ⟨goodL h, fun s hs v hv => by
    obtain ⟨j, hj, rfl⟩ := List.mem_iff_getElem.1 hs
    exact word_clean ((h.2 j hj).1.2 v hv)⟩
set_option maxHeartbeats 8000000 in
set_option maxRecDepth 100000 in
theorem readCaps (l : List S27) (b c : Nat) (D : List Int) (w : World) (htab : Lib.TabIs Tryd.prog w "bytes.asciiSpace" .u8 Lib.asciiSpaceTab) (hC : Kd.C (Kd.int .u8) w (some ⟨b, 0, none⟩) D.length D) (hc : D.length ≤ c) (hg : GoodV l) (hD : D = bytesOf (joined (words l))) :
    Calls Tryd.prog 10 #[.slice (some ⟨b, 0, none⟩) D.length c] w fun e w' => ∃ v, e = .returned (.tuple #[v, .bool true]) ∧ k27.R 27 w' w.heap.size (fun _ => True) v l ∧ Below w.heap.size w w' := by
  have HT := Aside0.mk htab
  have HC := Aside0.mk hC
  have HCc := Aside0.mk hc
  have HG := Aside0.mk hg
  have HD := Aside0.mk hD
  have HL0 := Aside0.mk (newLSt w (fun _ => 0))
  have HB0 : Aside0 (Below w.heap.size w ((w.alloc (.map #[] 0)).alloc (.cells #[.map (some w.heap.size), .slice none 0 0] 66))) := ⟨(below_alloc (Below.refl _ _) _).trans ((below_alloc (Below.refl _ _) _).mono (below_alloc (Below.refl w.heap.size w) _).size)⟩
  clear htab hC hc hg hD
  go_enter Tryd.func10, Tryd.ntmps10
  go_upto_region 2 with (first | (go_at_call 19; (with_reducible refine (newList _).mono ?_); rintro e w1 ⟨rfl, hw⟩; rw [← hw] at HL0 HB0; clear hw))
  have HDC := Aside0.mk (CapW.decode l b c (w.heap.size + 1) w.heap.size D w w1 (Lib.tabBelow_of_tabIs HT.out w1 HB0.out) HB0.out HC.out HCc.out HL0.out HG.out HD.out)
  go_upto_region 4 with (first | (go_at_call 20; (with_reducible refine HDC.out.mono ?_); rintro e w2 ⟨rfl, G, L, V, hl2, hc2, hb2⟩; have HL2 := Aside0.mk hl2; have HC2 := Aside0.mk hc2; have HB2 := Aside0.mk hb2; clear hl2 hc2 hb2))
  have HCO := Aside0.mk (capsOf (w.heap.size + 1) w.heap.size w.heap.size G L V w2 HL2.out (by have := congrArg List.length HC2.out; rw [List.length_map] at this; have := HG.out.g.sz.n; omega) (fun e he => by
    have hm : e.cap ∈ l := by rw [← HC2.out]; exact List.mem_map.2 ⟨e, he, rfl⟩
    exact (HG.out.g.ok _ hm).len))
  go_wp2_with (first | (go_at_call 21; (with_reducible refine HCO.out.mono ?_); rintro e w3 ⟨v3, rfl, hr3, hb3⟩; have HR3 := Aside0.mk hr3; have HB3 := Aside0.mk hb3; clear hr3 hb3))
  go_ret2
  exact ⟨v3, rfl, by rw [← HC2.out]; exact Kd.R_lower HR3.out HB2.out.size, HB2.out.trans (HB3.out.mono HB2.out.size)⟩
set_option maxHeartbeats 8000000 in
set_option maxRecDepth 100000 in
theorem law (A0 : Option Addr) (c0 : Nat) (l : List S27) (aE aU aI : Addr) (W : World) (hC : Kd.C k27 W A0 l.length l) (hc : l.length ≤ c0) (hs : HandD.Sent W aE aU aI) (htab : Lib.TabIs Tryd.prog W "bytes.asciiSpace" .u8 Lib.asciiSpaceTab) :
    Calls Tryd.prog 4 #[.slice A0 l.length c0] W fun e w' => e = .returned (.bool true) ∧ Below W.heap.size W w' := by
  have HS := Aside0.mk hs
  have HC := Aside0.mk hC
  have HCc := Aside0.mk hc
  have HT := Aside0.mk htab
  clear hs hC hc htab
  obtain ⟨r1, ⟨K1, hk1⟩, hr1⟩ := fits_f l
  have hf1 := hk1 K1 (Nat.le_refl _)
  have HF1 : Aside0 (∀ W1, Below W.heap.size W W1 → Calls Tryd.prog 5 #[.slice A0 l.length c0] W1 fun e w' => e = .returned (.bool r1) ∧ Below W1.heap.size W1 w') := ⟨fun W1 hb => laws_zzFits29.calls K1 A0 c0 l r1 W1 (Kd.C_below HC.out hb) HCc.out hf1⟩
  have HWK : Aside0 (∀ W1, Below W.heap.size W W1 → Calls Tryd.prog 7 #[] W1 fun e w' => e = .returned (.bool true) ∧ Below W1.heap.size W1 w') := ⟨fun W1 hb => HandN.works aE aU aI W1 (HS.out.below hb)⟩
  clear hk1 hf1
  cases r1 with
  | false =>
    clear hr1
    go_enter Tryd.func4, Tryd.ntmps4
    go_wp2_with (first | (go_at_call 5; (with_reducible refine (HF1.out _ (Below.refl _ _)).mono ?_); rintro e w1 ⟨rfl, hd⟩; have HB1 := Aside0.mk hd; clear hd))
    go_ret
    exact ⟨rfl, HB1.out⟩
  | true =>
    obtain ⟨hle, hles⟩ := hr1 rfl
    clear hr1
    obtain ⟨r2, ⟨K2, hk2⟩, hr2⟩ := good_f l hle hles
    have hf2 := hk2 K2 (Nat.le_refl _)
    have HF2 : Aside0 (∀ W1, Below W.heap.size W W1 → Calls Tryd.prog 6 #[.slice A0 l.length c0] W1 fun e w' => e = .returned (.bool r2) ∧ Below W1.heap.size W1 w') := ⟨fun W1 hb => spec_GoodCaps.calls K2 A0 c0 l r2 W1 (Kd.C_below HC.out hb) HCc.out hf2⟩
    clear hk2 hf2
    cases r2 with
    | false =>
      clear hr2 hle hles
      go_enter Tryd.func4, Tryd.ntmps4
      go_wp2_with (first
        | (go_at_call 5; (with_reducible refine (HF1.out _ (Below.refl _ _)).mono ?_); rintro e w1 ⟨rfl, hd⟩; have HB1 := Aside0.mk hd; clear hd)
        | (go_at_call 6; (with_reducible refine (HF2.out _ HB1.out).mono ?_); rintro e w2 ⟨rfl, hd⟩; have HB2 := Aside0.mk (below_step HB1.out hd); clear hd)
        | (go_at_call 7; (with_reducible refine (HWK.out _ HB2.out).mono ?_); rintro e w3 ⟨rfl, hd⟩; have HB3 := Aside0.mk (below_step HB2.out hd); clear hd))
      go_ret
      exact ⟨rfl, HB3.out⟩
    | true =>
      have HG := Aside0.mk (goodV (hr2 rfl))
      obtain ⟨K3, hk3⟩ := same_f l hle (fun s hs => (hles s hs).1)
      have HF3 := Aside0.mk (hk3 K3 (Nat.le_refl _))
      have HJ : Aside0 (acc (words l) = joined (words l)) := ⟨acc_joined _ (words_pos HG.out.g.pos)⟩
      have HSZ : Aside0 ((joined (words l)).size ≤ 4000000) := ⟨by
        have h1 := join_len (words l) (word_size HG.out.g.sz)
        have h2 := words_len HG.out.g.sz
        have h3 := HG.out.g.sz.n
        show (Lib.join _ [32]).length ≤ _
        omega⟩
      have hcv : ∀ W, (convert 9 34 (.string (joined (words l)))).run Tryd.prog W = .ok (.slice (some ⟨W.heap.size, 0, none⟩) (joined (words l)).size (grownCap W (joined (words l)).size 0 5)) (Lib.bytesWorld W 5 (joined (words l))) := fun W => Lib.run_convert_string_bytes W 9 34 5 _ Tryd.underlying9 Tryd.underlying34 Tryd.underlying5
      clear hr2 hle hles hk3
      have HRC : Aside0 (∀ W1, Below W.heap.size W W1 → Calls Tryd.prog 10 #[.slice (some ⟨W1.heap.size, 0, none⟩) (joined (words l)).size (grownCap W1 (joined (words l)).size 0 5)] (Lib.bytesWorld W1 5 (joined (words l))) fun e w' => ∃ v, e = .returned (.tuple #[v, .bool true]) ∧ k27.R 27 w' W1.heap.size (fun _ => True) v l ∧ Below W.heap.size W w') := ⟨fun W1 hb => by
        have hbw := bytes_below hb hb.size 5 (joined (words l))
        have hC : Kd.C (Kd.int .u8) (Lib.bytesWorld W1 5 (joined (words l))) (some ⟨W1.heap.size, 0, none⟩) (bytesOf (joined (words l))).length (bytesOf (joined (words l))) := by
          rw [bytesOf_length]
          exact Kd.C_of_reads (h1 := fun _ => rfl) (bytes_reads W1 5 (joined (words l)) (by have := HSZ.out; omega))
        have h := readCaps l W1.heap.size (grownCap W1 (joined (words l)).size 0 5) (bytesOf (joined (words l))) (Lib.bytesWorld W1 5 (joined (words l))) (Lib.tabBelow_of_tabIs HT.out _ hbw) hC (by rw [bytesOf_length]; exact grownCap_ge W1 _ _ _) HG.out rfl
        rw [bytesOf_length] at h
        refine h.mono ?_
        rintro e w' ⟨v, rfl, hr, hb2⟩
        have hsz : W1.heap.size ≤ (Lib.bytesWorld W1 5 (joined (words l))).heap.size := by rw [Lib.bytesWorld_size]; omega
        exact ⟨v, rfl, Kd.R_lower hr hsz, hbw.trans (hb2.mono hbw.size)⟩⟩
      go_enter Tryd.func4, Tryd.ntmps4
      go_wp2_with (first
        | (go_at_call 5; (with_reducible refine (HF1.out _ (Below.refl _ _)).mono ?_); rintro e w1 ⟨rfl, hd⟩; have HB1 := Aside0.mk hd; clear hd)
        | (go_at_call 6; (with_reducible refine (HF2.out _ HB1.out).mono ?_); rintro e w2 ⟨rfl, hd⟩; have HB2 := Aside0.mk (below_step HB1.out hd); clear hd)
        | (go_at_call 9; (with_reducible refine (capsText A0 c0 l _ (Kd.C_below HC.out HB2.out) HG.out.g.sz).mono ?_); rintro e w3 ⟨rfl, hd⟩; rw [HJ.out]; have HB3 := Aside0.mk (below_step HB2.out hd); clear hd)
        | (go_at_call 10; (with_reducible refine (HRC.out _ HB3.out).mono ?_); rintro e w4 ⟨v4, rfl, hr4, hb4⟩; have HB4 := Aside0.mk hb4; obtain ⟨A4, c4, rfl, hc4, hC4⟩ := Kd.R_reads hr4; have HC4 := Aside0.mk hC4; have HL4 := Aside0.mk hc4; clear hr4 hb4 hc4 hC4)
        | (go_at_call 11; (with_reducible refine (spec_SameCaps.calls K3 A4 c4 l A0 c0 l true _ HC4.out HL4.out (Kd.C_below HC.out HB4.out) HCc.out HF3.out).mono ?_); rintro e w5 ⟨rfl, hd⟩; have HB5 := Aside0.mk (below_step HB4.out (Drawn0.below hd)); clear hd)
        | (go_at_call 7; (with_reducible refine (HWK.out _ HB5.out).mono ?_); rintro e w6 ⟨rfl, hd⟩; have HB6 := Aside0.mk (below_step HB5.out hd); clear hd))
      go_ret
      exact ⟨rfl, HB6.out⟩
#print axioms law
end Go.Proofs.YtbemlaalccoepaaDoor.WalkR
