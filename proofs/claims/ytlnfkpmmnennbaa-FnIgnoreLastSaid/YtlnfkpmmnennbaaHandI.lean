/- impl.Ignored, walked, for patterns of names with no domains. -/
import Derived.Test.YtlnfkpmmnennbaaHandR
import Derived.Deep.RegionLawGrows
set_option linter.unusedVariables false
set_option linter.unusedSimpArgs false
namespace Go.Proofs.Ytlnfkpmmnennbaa.HandI
open Go.RowKit Go.Proofs.YtlnfkpmmnennbaaW.PrintWords Go.Proofs.YtlnfkpmmnennbaaW.PrintLast Go.Proofs.Ytlnfkpmmnennbaa.QAll Txt PureG HandG HandM HandP HandN HandL HandR

theorem info40 : (Try.prog.info? 40).map (fun i => (i.zero, i.size, i.bytes)) = some (some .nilIface, 1, 16) := by kernel_rfl
/-- The first patterns are made: an interface value each. -/
def Made (W : World) (cells : List Value) (l : List (Bool × ByteArray)) : Prop :=
  ∀ i p, i < cells.length → l[i]? = some p → ∃ g, cells[i]? = some (.iface 52 (.pointer (some ⟨g, 0, none⟩))) ∧ PatR W g [p.2] p.1 false false
theorem Made.below {W W1 : World} {cells : List Value} {l : List (Bool × ByteArray)} (h : Made W cells l) (hb : Below W.heap.size W W1) : Made W1 cells l := by
  intro i p hi hp
  obtain ⟨g, h1, h2⟩ := h i p hi hp
  exact ⟨g, h1, h2.below hb⟩
theorem Made.grown {W W1 : World} {cells : List Value} {l : List (Bool × ByteArray)} {row : Option Nat} (h : Made W cells l) (hg : W.grownBy W1 row) (hrow : ∀ b, row = some b → ∃ cs, W.heap[b]? = some (.cells cs 40 (0, 0))) : Made W1 cells l := by
  intro i p hi hp
  obtain ⟨g, h1, h2⟩ := h i p hi hp
  exact ⟨g, h1, h2.grown hg hrow⟩
theorem own_row {W : World} {base n : Nat} {V : Value} {xs : List Value} (h : W.ownsRow base 40 1 V n xs) : ∀ b, V.ownBlock = some b → ∃ cs, W.heap[b]? = some (.cells cs 40 (0, 0)) := by
  intro b hb
  rcases h.2 with ⟨rfl, _⟩ | ⟨g, cap, cur, rfl, _, h3, _⟩
  · simp [Value.ownBlock] at hb
  · simp [Value.ownBlock] at hb
    subst hb
    exact ⟨cur, h3⟩

theorem own_still {W W1 : World} {base n : Nat} {V : Value} {xs : List Value} (h : W.ownsRow base 40 1 V n xs) (hb : Below W.heap.size W W1) : W1.ownsRow base 40 1 V n xs := by
  refine ⟨h.1, ?_⟩
  rcases h.2 with h2 | ⟨g, cap, cur, h2, h3, h4, h5⟩
  · exact .inl h2
  · exact .inr ⟨g, cap, cur, h2, h3, (hb.block g (blk_lt h4)).trans h4, h5⟩
theorem Made.snoc {W2 W3 : World} {cells : List Value} {pats : List (Bool × ByteArray)} {V : Value} {base : Nat} {g : Nat} {p : Bool × ByteArray} (hm : Made W2 cells pats) (ho : W2.ownsRow base 40 1 V cells.length cells) (hg : W2.grownBy W3 V.ownBlock) (hp : pats[cells.length]? = some p) (hP : PatR W2 g [p.2] p.1 false false) :
    Made W3 (cells ++ [.iface 52 (.pointer (some ⟨g, 0, none⟩))]) pats := by
  intro i q hi hq
  rw [List.length_append] at hi
  rcases Nat.lt_or_ge i cells.length with hlt | hge
  · obtain ⟨g', h1, h2⟩ := hm.grown hg (own_row ho) i q hlt hq
    exact ⟨g', by rw [List.getElem?_append_left hlt]; exact h1, h2⟩
  · obtain rfl : i = cells.length := by simp at hi; omega
    rw [hp] at hq
    cases hq
    exact ⟨g, by rw [List.getElem?_append_right (Nat.le_refl _), Nat.sub_self]; rfl, hP.grown hg (own_row ho)⟩

theorem found53 : (Try.prog.info? 53).map (fun i => (i.methods.find? (fun m => m.name == "Match")).map (fun m => (m.path, m.func))) = some (some (#[], some (54, true))) := by kernel_rfl
theorem info53 : ∃ i m, Try.prog.info? 53 = some i ∧ i.methods.find? (fun m => m.name == "Match") = some m ∧ m.path = #[] ∧ m.func = some (54, true) := by
  obtain ⟨i, hi, h1⟩ := Option.map_eq_some_iff.1 found53
  obtain ⟨m, hm, h2⟩ := Option.map_eq_some_iff.1 h1
  simp only [Prod.mk.injEq] at h2
  exact ⟨i, m, hi, hm, h2.1, h2.2⟩
theorem nilAhead53 (n g : Nat) (W : World) : (nilAhead (n + 1) 53 (.pointer (some ⟨g, 0, none⟩)) "Match").run Try.prog W = .ok (some false) W := by
  obtain ⟨i, m, h1, h2, h3, h4⟩ := info53
  unfold nilAhead
  simp [typeInfo, h1, h2, h3, h4, followBlind]
theorem method53 (n g : Nat) (W : World) : (method (n + 1) 53 (.pointer (some ⟨g, 0, none⟩)) "Match").run Try.prog W = .ok (54, .pointer (some ⟨g, 0, none⟩)) W := by
  obtain ⟨i, m, h1, h2, h3, h4⟩ := info53
  unfold method
  simp [typeInfo, h1, h2, h3, h4, follow, receiverAt, Place.get, Try.underlying53]
theorem newM (A : Option Addr) (n c : Nat) (w : World) : Calls Try.prog 20 #[.slice A n c] w fun e w' => ∃ gm, e = .returned (.iface 53 (.pointer (some ⟨gm, 0, none⟩))) ∧ w'.heap[gm]? = some (.cells #[.slice A n c] 55 (0, 0)) ∧ Below w.heap.size w w' := by
  go_enter Try.func20, Try.ntmps20
  go_wp2
  go_ret
  exact ⟨w.heap.size, rfl, by simpa using heap_alloc_new w _, below_alloc (Below.refl _ _) _⟩
theorem pats_of {W : World} {base : Nat} {A : Option Addr} {c : Nat} {cells : List Value} {l : List (Bool × ByteArray)} (ho : W.ownsRow base 40 1 (.slice A cells.length c) cells.length cells) (hm : Made W cells l) (hl : l.length = cells.length) : Pats W A l := by
  intro i p hi
  have hlt : i < cells.length := by
    obtain ⟨h, _⟩ := List.getElem?_eq_some_iff.1 hi
    omega
  obtain ⟨g, h1, h2⟩ := hm i p hlt hi
  rcases ho.2 with ⟨_, h0⟩ | ⟨b, cap, cur, he, _, h3, _, _, h6, h7⟩
  · omega
  · injection he with e1 e2 e3
    refine ⟨_, g, e1, ?_, h2.pat⟩
    have hci : cur[i]? = some (.iface 52 (.pointer (some ⟨g, 0, none⟩))) := by
      have h8 : (cur.toList.take (cells.length * 1))[i]? = some (.iface 52 (.pointer (some ⟨g, 0, none⟩))) := by rw [h7]; exact h1
      rw [List.getElem?_take, if_pos (by omega)] at h8
      simpa using h8
    rw [show ((⟨b, 0, none⟩ : Addr).add i) = ⟨b, i, none⟩ by (simp [Addr.add]; omega), blk_cell h3]
    exact hci

set_option maxHeartbeats 8000000 in
set_option maxRecDepth 100000 in
theorem ignored (l0 : List ByteArray) (pats : List (Bool × ByteArray)) (l1 : List (List ByteArray)) (isDir : Bool) (A0 A1 A2 : Option Addr) (c0 c1 c2 : Nat) (e0 : ByteArray) (l : List ByteArray) (w : World)
    (hlen : pats.length = l0.length) (hlen1 : l1.length = l0.length) (hmax : l0.length ≤ 1000) (hnil : ∀ d ∈ l1, d = [])
    (hparse : ∀ (i : Nat) (t : ByteArray) (p : Bool × ByteArray), l0[i]? = some t → pats[i]? = some p → ∀ (A : Option Addr) (c : Nat) (w : World), Calls Try.prog 19 #[.string t, .slice A 0 c] w fun e w' => ∃ g, e = .returned (.iface 52 (.pointer (some ⟨g, 0, none⟩))) ∧ PatR w' g [p.2] p.1 false false ∧ w.heap.size ≤ g ∧ Below w.heap.size w w')
    (hC0 : Kd.C Kd.string w A0 l0.length l0) (hc0 : l0.length ≤ c0) (hC1 : Kd.C (Kd.slice 9 Kd.string) w A1 l1.length l1) (hc1 : l1.length ≤ c1)
    (hC : Kd.C Kd.string w A2 (e0 :: l).length (e0 :: l)) (hc : (e0 :: l).length ≤ c2) (hl : (e0 :: l).length ≤ 1000) (hp : ∀ p ∈ pats, GoodP p.2 ∧ (stars2 p.2).isSome = true) (hq : ∀ q ∈ e0 :: l, GoodN q) :
    Calls Try.prog 16 #[.slice A0 l0.length c0, .slice A1 l1.length c1, .slice A2 (e0 :: l).length c2, .bool isDir] w fun e w' => e = .returned (.bool (dec isDir (e0 :: l) pats pats.length)) ∧ Below w.heap.size w w' := by
  have HC0 := Aside0.mk hC0
  have HC1 := Aside0.mk hC1
  have HC := Aside0.mk hC
  have HPa := Aside0.mk hparse
  have HN := Aside0.mk hnil
  have HL := Aside0.mk hlen
  have HL1 := Aside0.mk hlen1
  have HGP := Aside0.mk hp
  have HGN := Aside0.mk hq
  clear hC0 hC1 hC hparse hnil hp hq hlen hlen1
  go_enter Try.func16, Try.ntmps16
  go_wp2
  go_loopg [9, 15] l0.length (fun gk v9 v15 w' => ∃ (k : Nat) (cells : List Value) (V : Value), v9 = V ∧ v15 = .int .i64 (k : Int) ∧ Aside0 (k + gk = l0.length) ∧ Aside0 (Below w.heap.size w w') ∧ Aside0 (cells.length = k) ∧ Aside0 (w'.ownsRow w.heap.size 40 1 V cells.length cells) ∧ Aside0 (Made w' cells pats))
  case atStart => exact ⟨0, [], _, rfl, rfl, ⟨by omega⟩, ⟨Below.refl _ _⟩, ⟨rfl⟩, ⟨World.ownsRow_nil _ _ _ _⟩, ⟨fun i p hi => by simp at hi⟩⟩
  case round =>
    obtain ⟨k, cells, V, hV, rfl, hk, hb, hcl, hown, hmade⟩ := hrel
    replace hV := hV.symm
    subst hV
    by_cases hlt : k < l0.length
    · obtain ⟨g0, rfl⟩ : ∃ m, gk = m + 1 := ⟨gk - 1, by have := hk.out; omega⟩
      obtain ⟨ad, e, hx⟩ := Kd.at_string (Kd.C_below HC0.out hb.out) (k : Int) (by omega) (by omega)
      cases e
      rw [Int.toNat_natCast] at hx
      have hgt : l0[k]? = some (rdOf ByteArray.empty l0 (k : Int)) := by
        unfold rdOf
        rw [Int.toNat_natCast, List.getD_eq_getElem?_getD, List.getElem?_eq_getElem hlt]
        rfl
      generalize rdOf ByteArray.empty l0 (k : Int) = t at hx hgt
      obtain ⟨p, hpk⟩ : ∃ p, pats[k]? = some p := ⟨_, List.getElem?_eq_getElem (by rw [HL.out]; exact hlt)⟩
      obtain ⟨ad1, cc, e1, hcz, ⟨Ai, ci, rfl, hci, _⟩, hread⟩ := Kd.C_get (Kd.C_below HC1.out hb.out) [] (k : Int) (by omega) (by have := HL1.out; omega)
      cases e1
      rw [Int.toNat_natCast] at hread hci
      have hd0 : l1.getD k [] = [] := by
        rw [List.getD_eq_getElem?_getD, List.getElem?_eq_getElem (by have := HL1.out; omega)]
        exact HN.out _ (List.getElem_mem _)
      have hx1 := hread 0 _ rfl
      rw [hd0] at hx1
      have hx1' : wr.cell? (ad1.add k) = some (.slice Ai 0 ci) := by simpa [Kd.slice] using hx1
      have hlt1 : ((k : Int) < (l1.length : Int)) = True := eq_true (by have := HL1.out; omega)
      have HT := Aside0.mk (HPa.out k t p hgt hpk)
      have HPK := Aside0.mk hpk
      clear hx1 hread hcz hci hd0 hgt hpk
      go_wp2_with (first
        | ((with_reducible refine gate_builtin (b := .append) (xs := #[.tmp 24, .tmp 28]) rfl ?_); at_builtin; refine Kd.R_append_rows Kd.string (w0 := w) w.heap.size rfl (.tmp 24) (.tmp 28) 22 9 (.string ⟨#[]⟩) 16 rfl Try.underlying22 info9 rfl (by decide) (by omega) (.slice none 0 0) [] [] _ _ _ (fun _ => True) (fun _ => False) rfl rfl (Kd.R_nil _ _ _ _ _) (Rr := fun _ _ => False) ⟨rfl, by simp, fun h => absurd h (Nat.lt_irrefl 0)⟩ (fun _ _ h => h.elim) (fun _ h => h.elim) (fun _ _ => trivial) hb.out hb.out.size (by simp) ?_; intro v1 w1 ho hb1 hg hat; obtain ⟨A3, c3, rfl, hc3, _⟩ := Kd.R_reads ho; have HB1 := Aside0.mk hb1; have HW1 : Aside0 (Below wr.heap.size wr w1) := ⟨(Below.refl wr.heap.size wr).grown hg (Nat.le_refl _) (fun k hk => by simp [Value.ownBlock] at hk)⟩; clear ho hb1 hg hat)
        | (go_at_call 19; (with_reducible refine (HT.out _ _ _).mono ?_); rintro e w2 ⟨g, rfl, hPR, hge, hb2⟩; have HPR := Aside0.mk hPR; have HB2 : Aside0 (Below w.heap.size w w2) := ⟨HB1.out.trans (hb2.mono HB1.out.size)⟩; have HW2 : Aside0 (Below wr.heap.size wr w2) := ⟨HW1.out.trans (hb2.mono HW1.out.size)⟩; clear hPR hge hb2)
        | ((with_reducible refine gate_builtin (b := .append) (xs := #[.tmp 30, .tmp 34]) rfl ?_); at_builtin; refine print_append (w0 := w) (W := w2) w.heap.size rfl (.tmp 30) (.tmp 34) 43 40 .nilIface 16 rfl Try.underlying43 info40 rfl (by decide) V cells (.iface 52 (.pointer (some ⟨g, 0, none⟩))) rfl rfl rfl (own_still hown.out HW2.out) HB2.out HB2.out.size (by have := hcl.out; omega) ?_; intro v3 w3 ho3 hb3 hg3 hat3; have HO3 := Aside0.mk ho3; have HB3 := Aside0.mk hb3; have HM3 : Aside0 (Made w3 (cells ++ [.iface 52 (.pointer (some ⟨g, 0, none⟩))]) pats) := ⟨Made.snoc (hmade.out.below HW2.out) (own_still hown.out HW2.out) hg3 (by rw [hcl.out]; exact HPK.out) HPR.out⟩; clear ho3 hb3 hg3 hat3))
      go_roundg g0
      case measure => omega
      case rel => exact ⟨k + 1, cells ++ [.iface 52 (.pointer (some ⟨g, 0, none⟩))], v3, rfl, by push_cast; rfl, ⟨by have := hk.out; omega⟩, HB3, ⟨by rw [List.length_append, hcl.out]; rfl⟩, HO3, HM3⟩
    · have hkn : k = l0.length := by have := hk.out; omega
      have hcn : cells.length = pats.length := by rw [hcl.out, hkn, HL.out]
      obtain ⟨A4, c4, hV2⟩ := own_slice hown.out
      have hP := pats_of (c := c4) (A := A4) (by rw [← hV2]; exact hown.out) hmade.out hcn.symm
      rw [hcn] at hV2
      subst hV2
      have HPt := Aside0.mk hP
      obtain ⟨i0, hi0, hz0, hsz0, hby0⟩ := info_parts info9
      obtain ⟨ad, hA, hcell⟩ := HC.out.2.2 (by simp)
      subst hA
      have HNs : Aside0 (∀ W, Below w.heap.size w W → ∀ j u, ((e0 :: l).map Value.string)[j]? = some u → W.cell? (ad.add j) = some u) := ⟨by
        intro W hb j u hu
        rw [List.getElem?_map] at hu
        obtain ⟨x, hx, rfl⟩ := Option.map_eq_some_iff.1 hu
        obtain ⟨hj, hxe⟩ := List.getElem?_eq_some_iff.1 hx
        obtain ⟨ad', e, hx'⟩ := Kd.at_string (Kd.C_below HC.out hb) (j : Int) (by omega) (by omega)
        cases e
        rw [Int.toNat_natCast] at hx'
        rw [hx']
        unfold rdOf
        rw [Int.toNat_natCast, List.getD_eq_getElem?_getD, hx]
        rfl⟩
      have HI := Aside0.mk (And.intro hi0 (And.intro hz0 (And.intro hsz0 hby0)))
      have MP : Aside0 (∀ gm A c W, W.heap[gm]? = some (.cells #[.slice A4 pats.length c4] 55 (0, 0)) → Pats W A4 pats → Kd.C Kd.string W A (e0 :: l).length (e0 :: l) → (e0 :: l).length ≤ c → Calls Try.prog 54 #[.pointer (some ⟨gm, 0, none⟩), .slice A (l.length + 1) c, .bool isDir] W fun e w' => e = .returned (.bool (dec isDir (e0 :: l) pats pats.length)) ∧ Below W.heap.size W w') := ⟨fun gm A c W h1 h2 h3 h4 => mmatch gm A4 c4 pats isDir A c e0 l W h1 h2 (by have := HL.out; omega) h3 h4 hl HGP.out HGN.out⟩
      have hna := fun g W => nilAhead53 201 g W
      have hme := fun g W => method53 201 g W
      clear hcell hi0 hz0 hsz0 hby0 hcn hkn hP
      go_wp2
      go_region_law (first
        | (go_simp; go_at_call 20; with_reducible refine (newM _ _ _ _).mono ?_; rintro e w' ⟨gm, rfl, hgm, hb2⟩; have HGM := Aside0.mk hgm; have HW1 : Aside0 (Below wr.heap.size wr w') := ⟨below_step (by repeat (first | exact Below.refl _ _ | apply below_alloc | apply below_drew)) hb2⟩; clear hgm hb2)
        | (refine step_append_grows rfl (.tmp 39) (.tmp 40) 22 rfl 9 i0 (.string ⟨#[]⟩) 1 16 Try.underlying22 HI.out.1 HI.out.2.1 HI.out.2.2.1 HI.out.2.2.2 rfl (by decide) _ 0 0 [] rfl (by simp) rfl (by simp) ad (l.length + 1) c2 ((e0 :: l).map Value.string) rfl (by simp) (HNs.out _ (hb.out.trans (Below.mono (by repeat (first | exact HW1.out | apply below_alloc | apply below_drew)) hb.out.size))) (by intro u hu; obtain ⟨x, _, rfl⟩ := List.mem_map.1 hu; rfl) (by omega) (by simp only [List.length_cons, maxLen] at hl ⊢; omega) (by simp only [List.length_cons] at hl; omega) ?_; intro v1 w1 hr hg; have hR := (Kd.R_of_own (enc := Value.string) (h1 := fun _ => rfl) (xs := e0 :: l) (ok := fun _ => True) (by have hr2 := hr; simp only [Nat.zero_add, List.nil_append] at hr2; exact hr2) (fun _ _ => trivial)); obtain ⟨A3, c3, rfl, hc3, hC3⟩ := Kd.R_reads hR; have HC3 : Aside0 (Kd.C Kd.string w1 A3 (e0 :: l).length (e0 :: l)) := ⟨hC3⟩; have Hc3 := Aside0.mk hc3; have hbw := Below.grown (B := w'.heap.size) (a := w') (by repeat (first | exact Below.refl _ _ | apply below_alloc | apply below_drew)) hg (Below.size (B := w'.heap.size) (by repeat (first | exact Below.refl _ _ | apply below_alloc | apply below_drew))) (fun k hk => by cases hk); have HG2 : Aside0 (w1.heap[gm]? = some (.cells #[.slice A4 pats.length c4] 55 (0, 0))) := ⟨(hbw.block gm (blk_lt HGM.out)).trans HGM.out⟩; have HW2 : Aside0 (Below wr.heap.size wr w1) := ⟨HW1.out.trans (hbw.mono HW1.out.size)⟩; clear hr hR hg hbw hC3 hc3)
        | (go_simp; go_at_call 54; with_reducible refine (MP.out _ _ _ _ HG2.out (HPt.out.below HW2.out) HC3.out Hc3.out).mono ?_; rintro e w2 ⟨rfl, hb3⟩; have HB3 : Aside0 (Below w.heap.size w w2) := ⟨(hb.out.trans (HW2.out.mono hb.out.size)).trans (hb3.mono (Nat.le_trans hb.out.size HW2.out.size))⟩; clear hb3))
      all_goals (go_wp2; go_ret; exact ⟨rfl, HB3.out⟩)
end Go.Proofs.Ytlnfkpmmnennbaa.HandI
