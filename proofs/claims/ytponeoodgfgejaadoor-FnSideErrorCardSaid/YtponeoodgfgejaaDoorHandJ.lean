/- impl.ReadLines, walked. -/
import Derived.Test.YtponeoodgfgejaaDoorHandG
import Derived.Test.YtponeoodgfgejaaDoorPureP
set_option linter.unusedVariables false
set_option linter.unusedSimpArgs false
namespace Go.Proofs.YtponeoodgfgejaaDoor.HandJ
open Go.RowKit Go.Proofs.YtponeoodgfgejaaDoorW.PrintWords Go.Proofs.YtponeoodgfgejaaDoorW.PrintLast Go.Proofs.YtponeoodgfgejaaDoorW.PrintMore Go.Proofs.YtponeoodgfgejaaDoor.QAll Txt PureA HandA HandB HandC HandD HandE HandF HandG HandH HandI PureP

abbrev KL : Kd (List Int) := Kd.slice 5 (Kd.int .u8)
theorem infoU8 : (Tryd.prog.info? 5).map (fun i => (i.zero, i.size, i.bytes)) = some (some (.int .u8 0), 1, 1) := by kernel_rfl
theorem info25 : (Tryd.prog.info? 25).map (fun i => (i.zero, i.size, i.bytes)) = some (some (.slice none 0 0), 1, 24) := by kernel_rfl
/-- A Scanner between two lines. -/
structure Sc (w0 w : World) (sc rb : Nat) (A : Option Addr) (D : List Int) (c pos : Nat) (X : Option Addr) (n cb : Nat) : Prop where
  s : ∃ ds, St w0 w sc rb A D c pos .nilIface (.slice X n cb) ds
  p : Pay w0.heap.size w sc rb X n cb
/-- The blocks of a Scanner. -/
def Own (sc rb : Nat) (X : Option Addr) (i : Nat) : Prop := i = sc ∨ i = rb ∨ ∃ ad, X = some ad ∧ i = ad.block
theorem Sc.keep {w0 w w' : World} {sc rb : Nat} {A : Option Addr} {D : List Int} {c pos : Nat} {X : Option Addr} {n cb : Nat} (h : Sc w0 w sc rb A D c pos X n cb) (hb : Below w0.heap.size w0 w') (hk : ∀ i, Own sc rb X i → w'.heap[i]? = w.heap[i]?) : Sc w0 w' sc rb A D c pos X n cb := by
  obtain ⟨⟨ds, hs⟩, hp⟩ := h
  obtain ⟨pr, hr⟩ := hs.r
  refine ⟨⟨ds, hb, (hk sc (Or.inl rfl)).trans hs.s, ⟨pr, (hk rb (Or.inr (Or.inl rfl))).trans hr⟩, hs.ne, hs.bs, hs.br, hs.dl⟩, hp.z, fun ad e => ?_, hp.n⟩
  obtain ⟨g, cur, e1, e2, e3⟩ := hp.s ad e
  exact ⟨g, cur, e1, (hk g (Or.inr (Or.inr ⟨ad, e, by rw [e1]⟩))).trans e2, e3⟩
theorem Sc.lt {w0 w : World} {sc rb : Nat} {A : Option Addr} {D : List Int} {c pos : Nat} {X : Option Addr} {n cb : Nat} (h : Sc w0 w sc rb A D c pos X n cb) (i : Nat) (hi : Own sc rb X i) : i < w.heap.size ∧ w0.heap.size ≤ i := by
  obtain ⟨⟨ds, hs⟩, hp⟩ := h
  obtain ⟨pr, hr⟩ := hs.r
  rcases hi with rfl | rfl | ⟨ad, e, rfl⟩
  · exact ⟨blk_lt hs.s, hs.bs⟩
  · exact ⟨blk_lt hr, hs.br⟩
  · obtain ⟨g, cur, rfl, e2, _, e3, _⟩ := hp.s ad e
    exact ⟨blk_lt e2, e3⟩
theorem R_empty (w : World) (base : Nat) (hb : base ≤ w.heap.size) : Kd.R (Kd.int .u8) 5 (w.alloc (.cells #[] 5)) base (fun k => w.heap.size ≤ k) (.slice (some ⟨w.heap.size, 0, none⟩) 0 0) [] := by
  refine ⟨fun k hk => ?_, [], ?_, Reps.none _ _⟩
  · have : w.heap.size = k := by simpa [Value.ownBlock] using hk
    omega
  · have h2 := World.ownsRow_lit (base := base) (e := 5) (size := 1) w #[] 0 hb (by decide) (by simp)
    exact h2
theorem fin {w wr w3 w4 : World} {sc rb : Nat} {X : Option Addr} {v : Value} {dn : List (List Int)} (h : Kd.R KL 25 wr w.heap.size (fun k => ¬ Own sc rb X k) v dn) (hf : Far wr w3 (Own sc rb X)) (hb : Below w3.heap.size w3 w4) : Kd.R KL 25 w4 w.heap.size (fun _ => True) v dn :=
  Kd.R_mono (Kd.R_below (Kd.R_step h (fun k hk hlt => hf.blk k hlt hk)) hb) (fun _ _ => trivial)
theorem farBelow {w wr w3 w4 : World} {sc rb : Nat} {A : Option Addr} {D : List Int} {c pos : Nat} {X : Option Addr} {n cb : Nat} (h : Sc w wr sc rb A D c pos X n cb) (hf : Far wr w3 (Own sc rb X)) (hb : Below w3.heap.size w3 w4) : Below w.heap.size wr w4 :=
  have hw : w.heap.size ≤ wr.heap.size := by obtain ⟨⟨ds, hs⟩, _⟩ := h; exact hs.b.size
  (hf.below hw (fun k hk => (h.lt k hk).2)).trans (hb.mono (Nat.le_trans hw hf.size))
theorem moved {w wr w3 : World} {sc rb : Nat} {X X3 : Option Addr} {v : Value} {dn : List (List Int)} (h : Kd.R KL 25 wr w.heap.size (fun k => ¬ Own sc rb X k) v dn) (hf : Far wr w3 (fun i => i = sc ∨ i = rb ∨ ∃ ad, X = some ad ∧ i = ad.block)) (hx : ∀ ad, X3 = some ad → X = some ad ∨ wr.heap.size ≤ ad.block) : Kd.R KL 25 w3 w.heap.size (fun k => ¬ Own sc rb X3 k) v dn := by
  have h2 := Kd.R_bound h
  refine Kd.R_mono (Kd.R_move h2 (fun k hk => hf.blk k hk.2.2.1 hk.1)) (fun k hk ho => ?_)
  rcases ho with q | q | ⟨ad, q, e⟩
  · exact hk.1 (Or.inl q)
  · exact hk.1 (Or.inr (Or.inl q))
  · rcases hx ad q with q2 | q2
    · exact hk.1 (Or.inr (Or.inr ⟨ad, q2, e⟩))
    · have := hk.2.2.1
      omega
set_option maxHeartbeats 8000000 in
set_option maxRecDepth 100000 in
theorem readLines (A : Option Addr) (c : Nat) (D : List Int) (l : List (List Int)) (aE aU aI : Addr) (w : World) (hs : Sent w aE aU aI) (hD : Kd.C (Kd.int .u8) w A D.length D) (hDc : D.length ≤ c) (hl : ∀ p ∈ l, PureP.Good p) (hn : l.length ≤ 1000) (hm : D.length ≤ (enc l).length) (he : D = (enc l).take D.length) :
    Calls Tryd.prog 17 #[.slice A D.length c] w fun e w' => ∃ v, e = .returned (.tuple #[v, .bool (parse l D.length).2]) ∧ Kd.R KL 25 w' w.heap.size (fun _ => True) v (parse l D.length).1 ∧ Below w.heap.size w w' := by
  have HS0 := Aside0.mk hs
  have HD : Aside0 (Dat w A D c) := ⟨⟨fun W hb => Kd.C_below hD hb, hDc⟩⟩
  have HG := Aside0.mk hl
  have HN := Aside0.mk hn
  have HE := Aside0.mk he
  have HM := Aside0.mk hm
  clear hs hD hDc hl hn hm he
  go_enter Tryd.func17, Tryd.ntmps17
  go_upto_region 2 with (first | (go_at_call 26; (with_reducible refine (newReader _ _ _ _).mono ?_); rintro e w1 ⟨rfl, hr1, hb1⟩; have HR1 := Aside0.mk hr1; have HB1 := Aside0.mk hb1; clear hr1 hb1) | (go_at_call 29; (with_reducible refine (newScanner _ _).mono ?_); rintro e w2 ⟨rfl, hr2, hb2⟩; have HR2 := Aside0.mk hr2; have HB2 := Aside0.mk hb2; clear hr2 hb2))
  have HSC : Aside0 (Sc w w2 w1.heap.size w.heap.size A D c 0 none 0 0) := ⟨{ s := ⟨_, ⟨HB1.out.trans (HB2.out.mono HB1.out.size), HR2.out, ⟨-1, (blk_below HR1.out HB2.out)⟩, (by have := blk_lt HR1.out; omega), HB1.out.size, Nat.le_refl _, rfl⟩⟩, p := ⟨fun _ => rfl, fun ad e => (by cases e), Nat.le_refl _⟩ }⟩
  obtain ⟨sc, hsc⟩ : ∃ sc, sc = w1.heap.size := ⟨_, rfl⟩
  obtain ⟨rb, hrb⟩ : ∃ rb, rb = w.heap.size := ⟨_, rfl⟩
  rw [← hsc, ← hrb] at HSC
  simp only [← hsc, ← hrb]
  clear HR1 HR2 HB1 HB2 hsc hrb
  go_wp2
  go_loopg [5] l.length (fun gk v5 w' => ∃ (dn r : List (List Int)) (pos n cb : Nat) (X : Option Addr), Aside0 (l = dn ++ r) ∧ gk = r.length ∧ Aside0 (D.drop pos = (enc r).take (D.length - pos)) ∧ Aside0 (pos ≤ D.length ∧ D.length - pos ≤ (enc r).length) ∧ Aside0 (parse l D.length = (dn ++ (parse r (D.length - pos)).1, (parse r (D.length - pos)).2)) ∧ Aside0 (Sc w w' sc rb A D c pos X n cb) ∧ Aside0 (Kd.R KL 25 w' w.heap.size (fun k => ¬ Own sc rb X k) v5 dn))
  case atStart => exact ⟨[], l, 0, 0, 0, none, ⟨rfl⟩, rfl, ⟨by rw [List.drop_zero, Nat.sub_zero]; exact HE.out⟩, ⟨Nat.zero_le _, by rw [Nat.sub_zero]; exact HM.out⟩, ⟨by rw [Nat.sub_zero]; simp⟩, HSC, ⟨Kd.R_nil _ _ _ _ _⟩⟩
  case round =>
    obtain ⟨dn, r, pos, n, cb, X, HL, rfl, HDR, HPO, HPA, HSC, HRL⟩ := hrel
    obtain ⟨⟨ds, hst⟩, hpay⟩ := HSC.out
    by_cases q1 : pos = D.length
    · have HX := Aside0.mk (scanEnd w sc rb A D c pos .nilIface X n cb ds aE aU aI wr hst HS0.out HD.out q1)
      have HPE : Aside0 (parse r (D.length - pos) = ([], true)) := ⟨by rw [q1, Nat.sub_self]; exact parse_zero r⟩
      have HB0 := Aside0.mk hst.b
      clear hst hpay q1
      go_wp2_with (first | (go_at_call 30; (with_reducible refine HX.out.mono ?_); rintro e w3 ⟨rfl, ds3, h3, hf3⟩; have HX3 := Aside0.mk h3; have HF3 : Aside0 (Far wr w3 (Own sc rb X)) := ⟨hf3.mono (fun i q => by rcases q with q | q; exact Or.inl q; exact Or.inr (Or.inl q))⟩; clear h3 hf3))
      go_region_law (first
        | (go_simp; go_at_call 32; with_reducible refine (errOf sc _ _ (Same.cell (Same.drew _) (St_cells HX3.out).2.1)).mono ?_; rintro e w4 ⟨rfl, hd4⟩; have HB4 : Aside0 (Below w3.heap.size w3 w4) := ⟨by rw [hd4]; exact (Same.drew w3).below w3.heap.size⟩; clear hd4))
      all_goals (
        go_wp2
        go_ret2
        exact ⟨_, by rw [HPA.out, HPE.out]; rfl, by simp only [HPA.out, HPE.out, List.append_nil]; exact fin HRL.out HF3.out HB4.out, HB0.out.trans (farBelow HSC.out HF3.out HB4.out)⟩)
    · rcases r with _ | ⟨p, r⟩
      · have := HPO.out
        simp [enc_nil] at this
        omega
      · have hgp := HG.out p (by rw [HL.out]; simp)
        by_cases q2 : D.length - pos < 4
        · have HX := Aside0.mk (scanPart w sc rb A D c pos .nilIface X n cb ds aE aU aI wr hst HS0.out HD.out (D.length - pos) rfl (by have := HPO.out; omega) q2)
          have HPE : Aside0 (parse (p :: r) (D.length - pos) = ([], false)) := ⟨parse_part p r _ (by have := HPO.out; omega) q2⟩
          have HB0 := Aside0.mk hst.b
          clear hst hpay q1 q2 hgp
          go_wp2_with (first | (go_at_call 30; (with_reducible refine HX.out.mono ?_); rintro e w3 ⟨rfl, ds3, h3, hf3⟩; have HX3 := Aside0.mk h3; have HF3 : Aside0 (Far wr w3 (Own sc rb X)) := ⟨hf3.mono (fun i q => by rcases q with q | q; exact Or.inl q; exact Or.inr (Or.inl q))⟩; clear h3 hf3))
          go_region_law (first
            | (go_simp; go_at_call 32; with_reducible refine (errOf sc _ _ (Same.cell (Same.drew _) (St_cells HX3.out).2.1)).mono ?_; rintro e w4 ⟨rfl, hd4⟩; have HB4 : Aside0 (Below w3.heap.size w3 w4) := ⟨by rw [hd4]; exact (Same.drew w3).below w3.heap.size⟩; clear hd4))
          all_goals (
            go_wp2
            go_ret2
            exact ⟨_, by rw [HPA.out, HPE.out]; rfl, by simp only [HPA.out, HPE.out, List.append_nil]; exact fin HRL.out HF3.out HB4.out, HB0.out.trans (farBelow HSC.out HF3.out HB4.out)⟩)
        · obtain ⟨d0, d1, d2, d3, hseg, _, g0, g1, g2, g3, hm⟩ := PureP.step D pos p r hgp.len HDR.out (by omega)
          by_cases q3 : D.length < pos + 4 + p.length
          · have HX := Aside0.mk (scanCut w sc rb A D c pos .nilIface X n cb ds aE aU aI wr hst HS0.out HD.out hpay d0 d1 d2 d3 (by omega) hseg g0 g1 g2 g3 p.length hm q3)
            have HPE : Aside0 (parse (p :: r) (D.length - pos) = ([], false)) := ⟨parse_cut p r _ (by omega) (by omega)⟩
            have HB0 := Aside0.mk hst.b
            clear hst hpay q1 q2 q3 hgp hseg g0 g1 g2 g3 hm
            go_wp2_with (first | (go_at_call 30; (with_reducible refine HX.out.mono ?_); rintro e w3 ⟨rfl, ae, pos', PV', ds3, h3, hf3⟩; have HX3 := Aside0.mk h3; have HF3 : Aside0 (Far wr w3 (Own sc rb X)) := ⟨hf3⟩; clear h3 hf3))
            go_region_law (first
              | (go_simp; go_at_call 32; with_reducible refine (errOf sc _ _ (Same.cell (Same.drew _) (St_cells HX3.out).2.1)).mono ?_; rintro e w4 ⟨rfl, hd4⟩; have HB4 : Aside0 (Below w3.heap.size w3 w4) := ⟨by rw [hd4]; exact (Same.drew w3).below w3.heap.size⟩; clear hd4))
            all_goals (
              go_wp2
              go_ret2
              exact ⟨_, by rw [HPA.out, HPE.out]; rfl, by simp only [HPA.out, HPE.out, List.append_nil]; exact fin HRL.out HF3.out HB4.out, HB0.out.trans (farBelow HSC.out HF3.out HB4.out)⟩)
          · obtain ⟨hb1, hb2⟩ := step_body D pos p r hgp.len HDR.out (by omega)
            have HX := Aside0.mk (scanAll w sc rb A D c pos .nilIface X n cb ds aE aU aI wr hst HS0.out HD.out hpay d0 d1 d2 d3 (by omega) hseg g0 g1 g2 g3 p.length hm (by omega) (by rw [hb1]; exact hgp.no))
            have HPE : Aside0 (parse (p :: r) (D.length - pos) = (p :: (parse r (D.length - (pos + 4 + p.length))).1, (parse r (D.length - (pos + 4 + p.length))).2)) := ⟨by rw [parse_all p r _ (by omega), show D.length - pos - (4 + p.length) = D.length - (pos + 4 + p.length) by omega]⟩
            rw [hb1] at HX
            have HB0 := Aside0.mk hst.b
            have HDR2 := Aside0.mk hb2
            have HPO2 : Aside0 (pos + 4 + p.length ≤ D.length ∧ D.length - (pos + 4 + p.length) ≤ (enc r).length) := ⟨by omega, by
              have := HPO.out
              rw [enc_cons, List.length_append, lineOf_len] at this
              omega⟩
            have HDN : Aside0 (dn.length < 1000) := ⟨by have := HN.out; rw [HL.out, List.length_append, List.length_cons] at this; omega⟩
            have HGP := Aside0.mk hgp
            clear hst hpay q1 q2 q3 hgp hseg g0 g1 g2 g3 hm hb1 hb2
            go_wp2_with (first
              | (go_at_call 30; (with_reducible refine HX.out.mono ?_); rintro e w3 ⟨rfl, X3, cb3, ds3, h3, hp3, hc3, hf3, hx3⟩; have HX3 : Aside0 (Sc w w3 sc rb A D c (pos + 4 + p.length) X3 p.length cb3) := ⟨{ s := ⟨_, h3⟩, p := hp3 }⟩; have HC3 := Aside0.mk hc3; have HB3 := Aside0.mk h3.b; have HZ3 : Aside0 (w.heap.size ≤ w3.heap.size) := ⟨h3.b.size⟩; have HPC : Aside0 (∀ o, (w3.alloc o).cell? ⟨sc, 2, none⟩ = some (.slice X3 p.length cb3)) := ⟨fun o => (World.cell?_of_block (a := ⟨sc, 2, none⟩) (Below.heap_alloc w3 o sc (blk_lt h3.s))).trans (St_cells h3).2.2.1⟩; have HR3 : Aside0 (Kd.R KL 25 w3 w.heap.size (fun k => ¬ Own sc rb X3 k) u5 dn) := ⟨moved HRL.out hf3 hx3⟩; clear h3 hp3 hc3 hf3 hx3)
              | (go_at_call 31; (with_reducible refine (bytesOf_ sc _ _ (HPC.out _)).mono ?_); rintro e w5 ⟨rfl, rfl⟩)
              | ((with_reducible refine gate_builtin (b := .append) (xs := #[.tmp 13, .tmp 15]) rfl ?_); at_builtin; refine Kd.R_append_rows (Kd.int .u8) (w0 := w) w.heap.size rfl (.tmp 13) (.tmp 15) 25 5 (.int .u8 0) 1 rfl Tryd.underlying25 infoU8 rfl (by decide) (by omega) (.slice (some ⟨w3.heap.size, 0, none⟩) 0 0) [] p _ _ _ (fun k => w3.heap.size ≤ k) (fun _ => False) rfl rfl (R_empty w3 _ HZ3.out) (Kd.C_below HC3.out (below_alloc (Below.refl _ _) _)) (fun _ _ h => h) (fun _ h => h.elim) (fun k hk => Nat.le_trans (below_alloc (Below.refl _ _) _ : Below w3.heap.size w3 _).size hk) (HB3.out.trans ((below_alloc (Below.refl _ _) _ : Below w3.heap.size w3 _).mono HZ3.out)) (Nat.le_trans HZ3.out (below_alloc (Below.refl _ _) _ : Below w3.heap.size w3 _).size) (by have := HGP.out.len; simp; omega) ?_; intro v6 w6 ho6 hb6 hg6 hat6; rw [List.nil_append] at ho6; have HQ6 : Aside0 (Below w3.heap.size w3 w6) := ⟨pw_below_grown (below_alloc (Below.refl _ _) _) (some w3.heap.size) (below_alloc (Below.refl _ _) _ : Below w3.heap.size w3 _).size hg6 (fun k e => by cases e; exact Nat.le_refl _)⟩; have HO6 := Aside0.mk ho6; have HB6 := Aside0.mk hb6; clear ho6 hb6 hg6 hat6; obtain ⟨A6, c6, e6⟩ := Kd.R_slice HO6.out; subst e6)
              | ((with_reducible refine gate_builtin (b := .append) (xs := #[.tmp 12, .tmp 17]) rfl ?_); at_builtin; refine Kd.R_append KL (w0 := w) (W := w6) w.heap.size rfl (.tmp 12) (.tmp 17) 44 25 (.slice none 0 0) 24 rfl Tryd.underlying44 info25 rfl (by decide) (by omega) u5 dn p [.slice A6 p.length c6] (fun k => ¬ Own sc rb X3 k) (fun k => w3.heap.size ≤ k) rfl rfl ⟨_, rfl, HO6.out⟩ (fun k hk => ⟨fun ho => by have := (HX3.out.lt k ho).1; omega, fun he => by have := Kd.R_lt HR3.out k he.symm; omega⟩) (fun k hk ho => by have := (HX3.out.lt k ho).1; have := HQ6.out.size; omega) (Kd.R_below HR3.out HQ6.out) HB6.out (Nat.le_trans HZ3.out HQ6.out.size) (by have := HDN.out; omega) ?_; intro v7 w7 ho7 hb7 hg7 hat7; have HO7 := Aside0.mk ho7; have HX7 : Aside0 (Sc w w7 sc rb A D c (pos + 4 + p.length) X3 p.length cb3) := ⟨HX3.out.keep hb7 (fun i hi => (hg7.block i (Nat.lt_of_lt_of_le (HX3.out.lt i hi).1 HQ6.out.size) (fun he => HR3.out.1 i he.symm hi)).trans (HQ6.out.block i (HX3.out.lt i hi).1))⟩; clear ho7 hb7 hg7 hat7))
            go_roundg r.length
            case measure => simp
            case rel => exact ⟨dn ++ [p], r, pos + 4 + p.length, p.length, cb3, X3, ⟨by rw [HL.out]; simp⟩, rfl, HDR2, HPO2, ⟨by rw [HPA.out, HPE.out]; simp⟩, HX7, HO7⟩
#print axioms readLines
end Go.Proofs.YtponeoodgfgejaaDoor.HandJ
