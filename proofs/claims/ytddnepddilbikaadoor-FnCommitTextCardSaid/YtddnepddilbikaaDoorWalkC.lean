/- FnCommitText, walked. -/
import Derived.Test.YtddnepddilbikaaDoorObjI
import Derived.Test.YtddnepddilbikaaDoorObjK
import Derived.Test.YtddnepddilbikaaDoorPureC
set_option linter.unusedVariables false
set_option linter.unusedSimpArgs false
namespace Go.Proofs.YtddnepddilbikaaDoor.WalkC
open Go.RowKit Go.Proofs.YtddnepddilbikaaDoorW.PrintLast Go.Proofs.YtddnepddilbikaaDoorW.PrintMore Go.Proofs.YtddnepddilbikaaDoor.QAll Txt SrtL ObjA ObjB ObjC ObjD ObjE ObjF ObjH ObjI ObjJ ObjK PureN PureL PureC PureD
open Go.Proofs.YtddnepddilbikaaDoorW.PrintWords hiding nums

theorem tab_below {n : String} {k : IntKind} {zs : List Int} {w w' : World} (h : Lib.TabIs Tryd.prog w n k zs) (hb : Below w.heap.size w w') : Lib.TabIs Tryd.prog w' n k zs := by
  unfold Lib.TabIs World.var? at h ⊢
  cases hg : Tryd.prog.globalNamed n with
  | none => rw [hg] at h; cases h
  | some g =>
    rw [hg] at h
    simp only [Option.bind_some] at h ⊢
    have hlt : g < w.heap.size := by
      rcases Nat.lt_or_ge g w.heap.size with h' | h'
      · exact h'
      · rw [Array.getElem?_eq_none h'] at h; cases h
    rw [hb.block g hlt]
    exact h
theorem strOfNums_nums (s : ByteArray) : strOfNums (ObjA.nums s) = s := by
  unfold strOfNums ObjA.nums
  rw [List.map_map]
  have e : ((fun n : Int => UInt8.ofNat n.toNat) ∘ fun c : UInt8 => (c.toNat : Int)) = id := by
    funext c
    simp
  rw [e, List.map_id]
theorem J_size (LS : List ByteArray) (h : (glue LS).length ≤ 100000) : (J LS).size ≤ 1000000 := by
  cases LS with
  | nil => decide
  | cons l ls =>
    have e := congrArg List.length (sig_join l ls)
    rw [List.length_cons, List.length_append, ObjA.nums_len] at e
    have hs : ∀ ls : List ByteArray, (sigOut ls).length ≤ 2 * (glue ls).length := by
      intro ls
      induction ls with
      | nil => exact Nat.zero_le _
      | cons m ls ih =>
        have e2 : sigOut (m :: ls) = ObjA.nums (sigL m) ++ sigOut ls := by unfold sigOut; simp
        rw [e2, glue_cons, List.length_append, ObjA.nums_len, sigL_size, List.length_append, List.length_cons, size_list]
        omega
    have := hs (l :: ls)
    omega
theorem encodeIt {th : ByteArray} {ps : List ByteArray} {an ae cn ce pgp enc msg : ByteArray} {A1 : Option Addr} {c1 : Nat} {aw az cw cz : Int} {LS : List ByteArray} {ev : Value} {aE : Addr} (w : World) (h : Cm th ps an ae aw az cn ce cw cz ⟨#[]⟩ pgp enc msg LS)
    (hC : Kd.C Kd.string w A1 ps.length ps) (hT : ∀ W1, Below w.heap.size w W1 → Lib.TabIs Tryd.prog W1 "internal/strconv.uint64pow10" .u64 Lib.pow10Tab)
    (hE : w.cell? ⟨1, 0, none⟩ = some (.iface 134 (.pointer (some aE)))) (hE2 : w.cell? ⟨2, 0, none⟩ = some ev) :
    ∃ OUT, OUT = ObjA.nums (comTxt th ps (who an ae (aw + 62135596800) az) (who cn ce (cw + 62135596800) cz) LS msg) ∧ OUT.length ≤ 900000000 ∧
    Calls Tryd.prog 17 #[.agg #[.string th, .slice A1 ps.length c1, .string an, .string ae, .int .i64 aw, .int .i64 az, .string cn, .string ce, .int .i64 cw, .int .i64 cz, .string ⟨#[]⟩, .string pgp, .string enc, .string msg]] w fun e w' => ∃ B d, e = .returned (.tuple #[.slice B OUT.length d, .bool true]) ∧ OUT.length ≤ d ∧ Kd.C (Kd.int .u8) w' B OUT.length OUT ∧ Below w.heap.size w w' := by
  have k1 := who_size h.a
  have k2 := who_size h.c
  have b1 := back h.t
  have hps : ∀ s ∈ ps, s.size = 40 ∧ s = hexOf (hb s) ∧ ∀ i, i < 20 → 0 ≤ hb s i ∧ hb s i < 256 := fun s hs => ⟨(h.p s hs).1, (back (h.p s hs)).1, fun i _ => hb_range s i⟩
  have hgl : (glue LS).length ≤ 100000 := by
    have := h.g
    rw [← size_list, h.gl] at this
    exact this
  have hll := glue_len LS
  have hJs := J_size LS hgl
  have ha := h.a
  have hc := h.c
  have a0 : 62135596800 ≤ aw + 62135596800 := by have := ha.w0; clear k1 k2; omega
  have a1 : aw + 62135596800 ≤ 10000000000000 := by have := ha.w1; clear k1 k2; omega
  have c0 : 62135596800 ≤ cw + 62135596800 := by have := hc.w0; clear k1 k2; omega
  have c1' : cw + 62135596800 ≤ 10000000000000 := by have := hc.w1; clear k1 k2; omega
  have sa := sig_f an ae aw az ha.w0 ha.w1
  have sc := sig_f cn ce cw cz hc.w0 hc.w1
  generalize aw + 62135596800 = asec at *
  generalize cw + 62135596800 = csec at *
  have hpl := parOut_len ps (fun s hs => (h.p s hs).1)
  have l1 : cTree.size = 5 := rfl
  have l3 : cAuth.size = 7 := rfl
  have l4 : cComm.size = 11 := rfl
  have l5 : cSig.size = 8 := rfl
  have l6 : cNl2.size = 2 := rfl
  have l7 : tNl.size = 1 := rfl
  have hth := h.t.1
  have hmsg := h.m
  have hpn := h.pl
  have hga : ∀ s ∈ ps, s.size = 40 ∧ (dec s).length = 20 := fun s hs => ⟨(h.p s hs).1, (back (h.p s hs)).2⟩
  rcases h.sn with ⟨hq, hLS⟩ | ⟨hq, hLS⟩
  · subst hLS
    have hlen : (ObjA.nums (comTxt th ps (who an ae asec az) (who cn ce csec cz) [] msg)).length ≤ 900000000 := by
      rw [out_plain]
      simp only [List.length_append, ObjA.nums_len, List.length_nil, ByteArray.size_append, hpl, l1, l3, l4, l5, l6, l7]
      generalize (who an ae asec az).size = s1 at *
      generalize (who cn ce csec cz).size = s2 at *
      omega
    refine ⟨_, rfl, hlen, ?_⟩
    rw [out_plain] at hlen ⊢
    exact encodeCommit w hth b1.2 hC hpn hga sa sc (fun W o g pb pcs AP cp m1 m2 m3 m4 m5 m6 m7 => commitPlain (cp := cp) (A := AP) (ps := ps) (th := th) m1 m2 m3 m4 m5 rfl m6 rfl hpn m7 b1.1 (fun i _ => hb_range th i) hth hps a0 a1 ha.zm ha.z0 ha.z1 c0 c1' hc.zm hc.z0 hc.z1 (Nat.le_trans k1 (by decide)) (Nat.le_trans k2 (by decide)) hmsg h.e hq hT) hlen hE hE2
  · have hlen : (ObjA.nums (comTxt th ps (who an ae asec az) (who cn ce csec cz) LS msg)).length ≤ 900000000 := by
      rw [out_signed hLS]
      simp only [List.length_append, ObjA.nums_len, List.length_nil, ByteArray.size_append, hpl, l1, l3, l4, l5, l6, l7]
      generalize (who an ae asec az).size = s1 at *
      generalize (who cn ce csec cz).size = s2 at *
      generalize (J LS).size = s3 at *
      omega
    refine ⟨_, rfl, hlen, ?_⟩
    rw [out_signed hLS] at hlen ⊢
    have hgi := glue_inter LS hLS
    obtain ⟨tr, htr⟩ : ∃ tr : ByteArray, tr.toList = inter LS := ⟨⟨(inter LS).toArray⟩, toList_lit _⟩
    have hgs := h.g
    have hp : pgp.toList = tr.toList ++ [10] := by rw [h.gl, hgi, htr]
    have htrs : tr.size ≤ 100000 := by
      rw [← size_list, hp, List.length_append, size_list] at hgs
      omega
    obtain ⟨K, hK⟩ := split_f LS tr (by omega) (by omega) hLS htr h.no
    exact encodeCommit w hth b1.2 hC hpn hga sa sc (fun W o g pb pcs AP cp m1 m2 m3 m4 m5 m6 m7 => commitSigned (cp := cp) (A := AP) (ps := ps) (th := th) (tr := tr) (J := J LS) (lines := LS) (K := K) m1 m2 m3 m4 m5 rfl m6 rfl hpn m7 b1.1 (fun i _ => hb_range th i) hth hps a0 a1 ha.zm ha.z0 ha.z1 c0 c1' hc.zm hc.z0 hc.z1 (Nat.le_trans k1 (by decide)) (Nat.le_trans k2 (by decide)) hmsg h.e hq (trim_f pgp tr (by omega) hp) (hK K (Nat.le_refl _)) rfl hJs (by omega) hT) hlen hE hE2
def com6.T6 : Bool × List (List Nat × List Nat) := (true, [([], []), ([0], [0]), ([1], [1]), ([2, 1], [1, 2]), ([1], [1]), ([4, 1, 1], [1, 4]), ([3, 5, 1], [1, 3, 5]), ([1, 6], [1, 6]), ([7, 5, 0, 1, 2, 3, 4, 5, 6, 7], [7])])
def com6.B6 : List Nat := [0, 1, 3, 7, 3, 19, 63, 127, 255]
theorem com6.tab6 : rtab .any (opsOf Tryd.f5 6) = com6.T6 := by kernel_rfl
theorem com6.bits6 : waitsOk com6.T6.2 com6.B6 = true := by kernel_rfl
set_option maxHeartbeats 16000000 in
set_option maxRecDepth 100000 in
theorem law (x : S38) (A1 : Option Addr) (c1 : Nat) (w : World) (ev : Value) (aE : Addr) (hc1 : x.f1.length ≤ c1) (hC1 : Kd.C Kd.string w A1 x.f1.length x.f1) (hT : Lib.TabIs Tryd.prog w "internal/strconv.uint64pow10" .u64 Lib.pow10Tab)
    (hE : w.cell? ⟨1, 0, none⟩ = some (.iface 134 (.pointer (some aE)))) (hE2 : w.cell? ⟨2, 0, none⟩ = some ev) :
    Calls Tryd.prog 5 #[.agg #[.string x.f0, .slice A1 x.f1.length c1, .string x.f2.f0, .string x.f2.f1, .int .i64 x.f2.f2, .int .i64 x.f2.f3, .string x.f3.f0, .string x.f3.f1, .int .i64 x.f3.f2, .int .i64 x.f3.f3, .string x.f4, .string x.f5, .string x.f6, .string x.f7]] w fun e w' => e = .returned (.bool true) ∧ Below w.heap.size w w' := by
  obtain ⟨th, ps, ⟨an, ae, aw, az⟩, ⟨cn, ce, cw, cz⟩, mt, pgp, enc, msg⟩ := x
  dsimp only at hc1 hC1
  show Calls Tryd.prog 5 #[.agg #[.string th, .slice A1 ps.length c1, .string an, .string ae, .int .i64 aw, .int .i64 az, .string cn, .string ce, .int .i64 cw, .int .i64 cz, .string mt, .string pgp, .string enc, .string msg]] w _
  have HW0 : Aside0 (Below w.heap.size w (w.alloc (.cells #[.string th, .slice A1 ps.length c1, .string an, .string ae, .int .i64 aw, .int .i64 az, .string cn, .string ce, .int .i64 cw, .int .i64 cz, .string mt, .string pgp, .string enc, .string msg] 38))) := ⟨below_alloc (Below.refl _ _) _⟩
  have HC := Aside0.mk hC1
  have HCC := Aside0.mk hc1
  obtain ⟨b, ⟨KF, hb⟩, hg⟩ := fits_f th ps an ae cn ce mt pgp enc msg aw az cw cz
  have HF : Aside0 (laws_zzFits23.f KF th ps an ae aw az cn ce cw cz mt pgp enc msg = some b) := ⟨hb KF (Nat.le_refl _)⟩
  clear hb hC1 hc1
  cases b with
  | false =>
    clear hg hT hE hE2
    go_enter Tryd.func5, Tryd.ntmps5
    go_wp2_with (first
      | (go_at_call 15
         (with_reducible refine (laws_zzFits23.calls KF th A1 c1 ps an ae aw az cn ce cw cz mt pgp enc msg false _ (Kd.C_below HC.out HW0.out) HCC.out HF.out).mono ?_)
         rintro x w1 ⟨rfl, hd⟩
         have HD := Aside0.mk hd
         clear hd)
      | fail)
    go_ret
    exact ⟨rfl, HW0.out.trans (HD.out.mono HW0.out.size)⟩
  | true =>
  have hfit := hg rfl
  clear hg
  obtain ⟨b, ⟨K, hK⟩, hg⟩ := commit_f th ps an ae cn ce mt pgp enc msg aw az cw cz hfit
  have HI : Aside0 (spec_IsCommit.f K th ps an ae aw az cn ce cw cz mt pgp enc msg = some b) := ⟨hK K (Nat.le_refl _)⟩
  clear hK hfit
  cases b with
  | false =>
    clear hg hT hE hE2
    go_enter Tryd.func5, Tryd.ntmps5
    have hbx := blk_new w (.cells #[.string th, .slice A1 ps.length c1, .string an, .string ae, .int .i64 aw, .int .i64 az, .string cn, .string ce, .int .i64 cw, .int .i64 cz, .string mt, .string pgp, .string enc, .string msg] 38)
    go_wp2_with (first
      | (go_at_call 15
         (with_reducible refine (laws_zzFits23.calls KF th A1 c1 ps an ae aw az cn ce cw cz mt pgp enc msg true _ (Kd.C_below HC.out HW0.out) HCC.out HF.out).mono ?_)
         rintro x w1 ⟨rfl, hd⟩
         have hb1 := (hd.block w.heap.size (blk_lt hbx)).trans hbx
         have z0_ := (blk_cell hb1 0).trans (show _ = some (.string th) from rfl)
         have z1_ := (blk_cell hb1 1).trans (show _ = some (.slice A1 ps.length c1) from rfl)
         have z2_ := (blk_cell hb1 2).trans (show _ = some (.string an) from rfl)
         have z3_ := (blk_cell hb1 3).trans (show _ = some (.string ae) from rfl)
         have z4_ := (blk_cell hb1 4).trans (show _ = some (.int .i64 aw) from rfl)
         have z5_ := (blk_cell hb1 5).trans (show _ = some (.int .i64 az) from rfl)
         have z6_ := (blk_cell hb1 6).trans (show _ = some (.string cn) from rfl)
         have z7_ := (blk_cell hb1 7).trans (show _ = some (.string ce) from rfl)
         have z8_ := (blk_cell hb1 8).trans (show _ = some (.int .i64 cw) from rfl)
         have z9_ := (blk_cell hb1 9).trans (show _ = some (.int .i64 cz) from rfl)
         have z10_ := (blk_cell hb1 10).trans (show _ = some (.string mt) from rfl)
         have z11_ := (blk_cell hb1 11).trans (show _ = some (.string pgp) from rfl)
         have z12_ := (blk_cell hb1 12).trans (show _ = some (.string enc) from rfl)
         have z13_ := (blk_cell hb1 13).trans (show _ = some (.string msg) from rfl)
         have HD := Aside0.mk (HW0.out.trans (hd.mono HW0.out.size))
         clear hd hb1)
      | (go_at_call 16
         (with_reducible refine (spec_IsCommit.calls K th A1 c1 ps an ae aw az cn ce cw cz mt pgp enc msg false _ (Kd.C_below HC.out HD.out) HCC.out HI.out).mono ?_)
         rintro x w2 ⟨rfl, hd⟩
         have HD2 := Aside0.mk hd
         clear hd)
      | fail)
    go_ret
    exact ⟨rfl, HD.out.trans (HD2.out.mono HD.out.size)⟩
  | true =>
  obtain ⟨LS, ht⟩ := hg rfl
  clear hg
  obtain ⟨KT, hKT⟩ := text_f ht
  have HTX0 := hKT KT (Nat.le_refl _)
  dsimp only at HTX0
  have HEN : Aside0 (∀ W, Below w.heap.size w W → Calls Tryd.prog 17 #[.agg #[.string th, .slice A1 ps.length c1, .string an, .string ae, .int .i64 aw, .int .i64 az, .string cn, .string ce, .int .i64 cw, .int .i64 cz, .string mt, .string pgp, .string enc, .string msg]] W fun e w' => ∃ B d, e = .returned (.tuple #[.slice B (comTxt th ps (who an ae (aw + 62135596800) az) (who cn ce (cw + 62135596800) cz) LS msg).size d, .bool true]) ∧ Kd.C (Kd.int .u8) w' B (comTxt th ps (who an ae (aw + 62135596800) az) (who cn ce (cw + 62135596800) cz) LS msg).size (ObjA.nums (comTxt th ps (who an ae (aw + 62135596800) az) (who cn ce (cw + 62135596800) cz) LS msg)) ∧ Below W.heap.size W w') := ⟨fun W hW => by
    have hmt := ht.mt
    subst hmt
    obtain ⟨OUT, e1, e2, h⟩ := encodeIt (A1 := A1) (c1 := c1) (ev := ev) (aE := aE) W ht (Kd.C_below HC.out hW) (fun W1 hb => tab_below hT (hW.trans (hb.mono hW.size))) (pw_cell_below hW hE) (pw_cell_below hW hE2)
    rw [e1, ObjA.nums_len] at h
    refine h.mono ?_
    rintro e w' ⟨B, d, rfl, h1, h2, h3⟩
    exact ⟨B, d, rfl, h2, h3⟩⟩
  generalize comTxt th ps (who an ae (aw + 62135596800) az) (who cn ce (cw + 62135596800) cz) LS msg = T at HTX0 HEN
  have HTX := Aside0.mk HTX0
  obtain ⟨n, hn⟩ : ∃ n, n = T.size := ⟨_, rfl⟩
  rw [← hn] at HEN
  clear HTX0 hKT ht hT hE hE2 hn
  go_enter Tryd.func5, Tryd.ntmps5
  have hbx := blk_new w (.cells #[.string th, .slice A1 ps.length c1, .string an, .string ae, .int .i64 aw, .int .i64 az, .string cn, .string ce, .int .i64 cw, .int .i64 cz, .string mt, .string pgp, .string enc, .string msg] 38)
  go_upto_region 6 with (first
    | (go_at_call 15
       (with_reducible refine (laws_zzFits23.calls KF th A1 c1 ps an ae aw az cn ce cw cz mt pgp enc msg true _ (Kd.C_below HC.out HW0.out) HCC.out HF.out).mono ?_)
       rintro x w1 ⟨rfl, hd⟩
       have hb1 := (hd.block w.heap.size (blk_lt hbx)).trans hbx
       have z0_ := (blk_cell hb1 0).trans (show _ = some (.string th) from rfl)
       have z1_ := (blk_cell hb1 1).trans (show _ = some (.slice A1 ps.length c1) from rfl)
       have z2_ := (blk_cell hb1 2).trans (show _ = some (.string an) from rfl)
       have z3_ := (blk_cell hb1 3).trans (show _ = some (.string ae) from rfl)
       have z4_ := (blk_cell hb1 4).trans (show _ = some (.int .i64 aw) from rfl)
       have z5_ := (blk_cell hb1 5).trans (show _ = some (.int .i64 az) from rfl)
       have z6_ := (blk_cell hb1 6).trans (show _ = some (.string cn) from rfl)
       have z7_ := (blk_cell hb1 7).trans (show _ = some (.string ce) from rfl)
       have z8_ := (blk_cell hb1 8).trans (show _ = some (.int .i64 cw) from rfl)
       have z9_ := (blk_cell hb1 9).trans (show _ = some (.int .i64 cz) from rfl)
       have z10_ := (blk_cell hb1 10).trans (show _ = some (.string mt) from rfl)
       have z11_ := (blk_cell hb1 11).trans (show _ = some (.string pgp) from rfl)
       have z12_ := (blk_cell hb1 12).trans (show _ = some (.string enc) from rfl)
       have z13_ := (blk_cell hb1 13).trans (show _ = some (.string msg) from rfl)
       have HB1 := Aside0.mk hb1
       have HD := Aside0.mk (HW0.out.trans (hd.mono HW0.out.size))
       clear hd hb1)
    | (go_at_call 16
       (with_reducible refine (spec_IsCommit.calls K th A1 c1 ps an ae aw az cn ce cw cz mt pgp enc msg true _ (Kd.C_below HC.out HD.out) HCC.out HI.out).mono ?_)
       rintro x w2 ⟨rfl, hd⟩
       have hb1 := (hd.block w.heap.size (blk_lt HB1.out)).trans HB1.out
       have z0_ := (blk_cell hb1 0).trans (show _ = some (.string th) from rfl)
       have z1_ := (blk_cell hb1 1).trans (show _ = some (.slice A1 ps.length c1) from rfl)
       have z2_ := (blk_cell hb1 2).trans (show _ = some (.string an) from rfl)
       have z3_ := (blk_cell hb1 3).trans (show _ = some (.string ae) from rfl)
       have z4_ := (blk_cell hb1 4).trans (show _ = some (.int .i64 aw) from rfl)
       have z5_ := (blk_cell hb1 5).trans (show _ = some (.int .i64 az) from rfl)
       have z6_ := (blk_cell hb1 6).trans (show _ = some (.string cn) from rfl)
       have z7_ := (blk_cell hb1 7).trans (show _ = some (.string ce) from rfl)
       have z8_ := (blk_cell hb1 8).trans (show _ = some (.int .i64 cw) from rfl)
       have z9_ := (blk_cell hb1 9).trans (show _ = some (.int .i64 cz) from rfl)
       have z10_ := (blk_cell hb1 10).trans (show _ = some (.string mt) from rfl)
       have z11_ := (blk_cell hb1 11).trans (show _ = some (.string pgp) from rfl)
       have z12_ := (blk_cell hb1 12).trans (show _ = some (.string enc) from rfl)
       have z13_ := (blk_cell hb1 13).trans (show _ = some (.string msg) from rfl)
       have HB2 := Aside0.mk hb1
       have HD2 := Aside0.mk (HD.out.trans (hd.mono HD.out.size))
       clear hd hb1)
    | (go_at_call 17
       (with_reducible refine (HEN.out _ HD2.out).mono ?_)
       rintro x w3 ⟨B, d, rfl, hC, hd⟩
       have HB3 := Aside0.mk ((hd.block w.heap.size (blk_lt HB2.out)).trans HB2.out)
       have HD3 := Aside0.mk (HD2.out.trans (hd.mono HD2.out.size))
       have HC3 := Aside0.mk hC
       clear hd hC)
    | fail)
  clear hbx HB1 HB2 HD HD2 HEN HF HI
  obtain ⟨gb, hgb⟩ : ∃ gb, gb = w.heap.size := ⟨_, rfl⟩
  rw [← hgb] at HB3
  simp only [← hgb]
  clear hgb
  have HCV : Aside0 (∀ W, Below w3.heap.size w3 W → (convert 24 9 (.slice B n d)).run Tryd.prog W = .ok (.string T) W) := ⟨fun W hb => (Kd.C_string (P := Tryd.prog) (A := B) (c := d) Tryd.underlying24 Tryd.underlying5 Tryd.underlying9 (Kd.C_below HC3.out hb)).trans (by rw [strOfNums_nums])⟩
  have q0 : Below w3.heap.size w3 w3.drew := below_drew1 (Below.refl _ _)
  have q1 : w3.drew.cell? ⟨gb, 0, none⟩ = some (.string th) := (blk_cell HB3.out 0).trans rfl
  have q2 : w3.drew.cell? ⟨gb, 1, none⟩ = some (.slice A1 ps.length c1) := (blk_cell HB3.out 1).trans rfl
  have q3 : w3.drew.cell? ⟨gb, 2, none⟩ = some (.string an) := (blk_cell HB3.out 2).trans rfl
  have q4 : w3.drew.cell? ⟨gb, 3, none⟩ = some (.string ae) := (blk_cell HB3.out 3).trans rfl
  have q5 : w3.drew.cell? ⟨gb, 4, none⟩ = some (.int .i64 aw) := (blk_cell HB3.out 4).trans rfl
  have q6 : w3.drew.cell? ⟨gb, 5, none⟩ = some (.int .i64 az) := (blk_cell HB3.out 5).trans rfl
  have q7 : w3.drew.cell? ⟨gb, 6, none⟩ = some (.string cn) := (blk_cell HB3.out 6).trans rfl
  have q8 : w3.drew.cell? ⟨gb, 7, none⟩ = some (.string ce) := (blk_cell HB3.out 7).trans rfl
  have q9 : w3.drew.cell? ⟨gb, 8, none⟩ = some (.int .i64 cw) := (blk_cell HB3.out 8).trans rfl
  have q10 : w3.drew.cell? ⟨gb, 9, none⟩ = some (.int .i64 cz) := (blk_cell HB3.out 9).trans rfl
  have q11 : w3.drew.cell? ⟨gb, 10, none⟩ = some (.string mt) := (blk_cell HB3.out 10).trans rfl
  have q12 : w3.drew.cell? ⟨gb, 11, none⟩ = some (.string pgp) := (blk_cell HB3.out 11).trans rfl
  have q13 : w3.drew.cell? ⟨gb, 12, none⟩ = some (.string enc) := (blk_cell HB3.out 12).trans rfl
  have q14 : w3.drew.cell? ⟨gb, 13, none⟩ = some (.string msg) := (blk_cell HB3.out 13).trans rfl
  have q15 : (convert 24 9 (.slice B n d)).run Tryd.prog w3.drew = .ok (.string T) w3.drew := HCV.out _ (below_drew1 (Below.refl _ _))
  clear HB3 HC3
  refine start_ (n := 9) (S := fun w' => Below w3.heap.size w3 w' ∧ w'.cell? ⟨gb, 0, none⟩ = some (.string th) ∧ w'.cell? ⟨gb, 1, none⟩ = some (.slice A1 ps.length c1) ∧ w'.cell? ⟨gb, 2, none⟩ = some (.string an) ∧ w'.cell? ⟨gb, 3, none⟩ = some (.string ae) ∧ w'.cell? ⟨gb, 4, none⟩ = some (.int .i64 aw) ∧ w'.cell? ⟨gb, 5, none⟩ = some (.int .i64 az) ∧ w'.cell? ⟨gb, 6, none⟩ = some (.string cn) ∧ w'.cell? ⟨gb, 7, none⟩ = some (.string ce) ∧ w'.cell? ⟨gb, 8, none⟩ = some (.int .i64 cw) ∧ w'.cell? ⟨gb, 9, none⟩ = some (.int .i64 cz) ∧ w'.cell? ⟨gb, 10, none⟩ = some (.string mt) ∧ w'.cell? ⟨gb, 11, none⟩ = some (.string pgp) ∧ w'.cell? ⟨gb, 12, none⟩ = some (.string enc) ∧ w'.cell? ⟨gb, 13, none⟩ = some (.string msg) ∧ (convert 24 9 (.slice B n d)).run Tryd.prog w' = .ok (.string T) w') (ds := []) #[false, false, false, false, false, false, false, false, false] (by kernel_rfl) rfl rfl ⟨q0, q1, q2, q3, q4, q5, q6, q7, q8, q9, q10, q11, q12, q13, q14, q15⟩ (fun hHeld => ?_)
  refine with_tabW com6.tab6 com6.bits6 (fun HT_ HW_ => ?_)
  generalize World.drew _ = wd at hHeld ⊢
  refine pure_ (i := 0) (N := some 16) (v := ?_) (a' := ?_) #[true, false, false, false, false, false, false, false, false] rfl rfl (any_of HT_.out (by kernel_rfl)) (fun _ _ _ h => h) (Or.inl ⟨by rfl, ?_⟩) ?_ ?_
  rotate_left
  · intro w'
    go_simp
    with_reducible rfl
  rotate_left
  · simp only [Act.put, List.setIfInBounds_toArray, List.set_cons_zero, List.set_cons_succ, i64_w, i32_w]
    rfl
  refine pure_ (i := 1) (N := some 17) (v := ?_) (a' := ?_) #[true, true, false, false, false, false, false, false, false] rfl rfl (any_of HT_.out (by kernel_rfl)) (fun _ _ _ h => h) (Or.inl ⟨by rfl, ?_⟩) ?_ ?_
  rotate_left
  · intro w'
    go_simp
    with_reducible rfl
  rotate_left
  · simp only [Act.put, List.setIfInBounds_toArray, List.set_cons_zero, List.set_cons_succ, i64_w, i32_w]
    rfl
  refine pure_ (i := 2) (N := some 18) (v := ?_) (a' := ?_) #[true, true, true, false, false, false, false, false, false] rfl rfl (any_of HT_.out (by kernel_rfl)) (fun _ _ _ h => h) (Or.inl ⟨by rfl, ?_⟩) ?_ ?_
  rotate_left
  · intro w'
    go_simp
    with_reducible rfl
  rotate_left
  · simp only [Act.put, List.setIfInBounds_toArray, List.set_cons_zero, List.set_cons_succ, i64_w, i32_w]
    rfl
  refine take_ (i := 3) (N := some 19) (v := ?_) (a' := ?_) #[true, true, true, true, false, false, false, false, false] rfl rfl (take_ofW HT_.out HW_.out (by kernel_rfl)) (fun _ _ _ h => h) (Or.inl ⟨by rfl, ?_⟩) hHeld ?_ ?_
  rotate_left
  · rintro w' ⟨s0, s1, s2, s3, s4, s5, s6, s7, s8, s9, s10, s11, s12, s13, s14, s15⟩
    go_simp
    with_reducible rfl
  rotate_left
  · simp only [Act.put, List.setIfInBounds_toArray, List.set_cons_zero, List.set_cons_succ, i64_w, i32_w]
    rfl
  refine take_ (i := 4) (N := some 20) (v := ?_) (a' := ?_) #[true, true, true, true, true, false, false, false, false] rfl rfl (take_ofW HT_.out HW_.out (by kernel_rfl)) (fun _ _ _ h => h) (Or.inl ⟨by rfl, ?_⟩) hHeld ?_ ?_
  rotate_left
  · rintro w' ⟨s0, s1, s2, s3, s4, s5, s6, s7, s8, s9, s10, s11, s12, s13, s14, s15⟩
    go_simp
    with_reducible rfl
  rotate_left
  · simp only [Act.put, List.setIfInBounds_toArray, List.set_cons_zero, List.set_cons_succ, i64_w, i32_w]
    rfl
  refine one_ (i := 5) (N := some 21) #[true, true, true, true, true, true, false, false, false] rfl rfl (one_of HT_.out (by kernel_rfl)) (by decide) (fun K hK => ?_)
  refine goes_ Tryd.func18 (by kernel_rfl) rfl #[.agg #[.string th, .slice A1 ps.length c1, .string an, .string ae, .int .i64 aw, .int .i64 az, .string cn, .string ce, .int .i64 cw, .int .i64 cz, .string mt, .string pgp, .string enc, .string msg]] (by rfl) rfl rfl (by simp only [List.map_toArray, List.map_cons, List.map_nil]; rfl) ?_
  with_reducible refine ((spec_CommitText.calls KT th A1 c1 ps an ae aw az cn ce cw cz mt pgp enc msg T _ (Kd.C_below HC.out (HD3.out.trans (hHeld.1.mono HD3.out.size))) HCC.out HTX.out)).mono ?_
  rintro e w7 ⟨rfl, hb7⟩
  refine ⟨_, rfl, ?_⟩
  refine hK.out _ _ ⟨(hHeld.1.trans (hb7.mono hHeld.1.size)), (pw_cell_below hb7 hHeld.2.1), (pw_cell_below hb7 hHeld.2.2.1), (pw_cell_below hb7 hHeld.2.2.2.1), (pw_cell_below hb7 hHeld.2.2.2.2.1), (pw_cell_below hb7 hHeld.2.2.2.2.2.1), (pw_cell_below hb7 hHeld.2.2.2.2.2.2.1), (pw_cell_below hb7 hHeld.2.2.2.2.2.2.2.1), (pw_cell_below hb7 hHeld.2.2.2.2.2.2.2.2.1), (pw_cell_below hb7 hHeld.2.2.2.2.2.2.2.2.2.1), (pw_cell_below hb7 hHeld.2.2.2.2.2.2.2.2.2.2.1), (pw_cell_below hb7 hHeld.2.2.2.2.2.2.2.2.2.2.2.1), (pw_cell_below hb7 hHeld.2.2.2.2.2.2.2.2.2.2.2.2.1), (pw_cell_below hb7 hHeld.2.2.2.2.2.2.2.2.2.2.2.2.2.1), (pw_cell_below hb7 hHeld.2.2.2.2.2.2.2.2.2.2.2.2.2.2.1), (HCV.out _ (hHeld.1.trans (hb7.mono hHeld.1.size)))⟩ (fun hHeld => ?_)
  clear hK K
  refine norm_ (a' := ?_) ?_ ?_
  rotate_left
  · show Act.put _ (some 21) _ = _
    simp only [Act.put, List.setIfInBounds_toArray, List.set_cons_zero, List.set_cons_succ, i64_w, i32_w]
    rfl
  refine pure_ (i := 6) (N := some 22) (v := ?_) (a' := ?_) #[true, true, true, true, true, true, true, false, false] rfl rfl (any_of HT_.out (by kernel_rfl)) (fun _ _ _ h => h) (Or.inl ⟨by rfl, ?_⟩) ?_ ?_
  rotate_left
  · intro w'
    go_simp
    with_reducible rfl
  rotate_left
  · simp only [Act.put, List.setIfInBounds_toArray, List.set_cons_zero, List.set_cons_succ, i64_w, i32_w]
    rfl
  refine pure_ (i := 7) (N := some 23) (v := ?_) (a' := ?_) #[true, true, true, true, true, true, true, true, false] rfl rfl (any_of HT_.out (by kernel_rfl)) (fun _ _ _ h => h) (Or.inl ⟨by rfl, ?_⟩) ?_ ?_
  rotate_left
  · intro w'
    go_simp
    with_reducible rfl
  rotate_left
  · simp only [Act.put, List.setIfInBounds_toArray, List.set_cons_zero, List.set_cons_succ, i64_w, i32_w]
    rfl
  refine pure_ (i := 8) (N := some 2) (v := ?_) (a' := ?_) #[true, true, true, true, true, true, true, true, true] rfl rfl (any_of HT_.out (by kernel_rfl)) (fun _ _ _ h => h) (Or.inl ⟨by rfl, ?_⟩) ?_ ?_
  rotate_left
  · intro w'
    go_simp
    with_reducible rfl
  rotate_left
  · simp only [Act.put, List.setIfInBounds_toArray, List.set_cons_zero, List.set_cons_succ, i64_w, i32_w]
    rfl
  refine done_ (done_of HT_.out (by kernel_rfl)) ?_
  have HFF := Aside0.mk (HD3.out.trans (hHeld.1.mono HD3.out.size))
  clear hHeld
  go_wp2
  go_ret
  exact ⟨rfl, HFF.out⟩
end Go.Proofs.YtddnepddilbikaaDoor.WalkC
