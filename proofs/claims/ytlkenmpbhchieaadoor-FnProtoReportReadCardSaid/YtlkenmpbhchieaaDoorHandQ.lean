/- ReportStatus.Decode, walked. -/
import Derived.Test.YtlkenmpbhchieaaDoorHandP
import Derived.Test.YtlkenmpbhchieaaDoorHandS
set_option linter.unusedVariables false
set_option linter.unusedSimpArgs false
namespace Go.Proofs.YtlkenmpbhchieaaDoor.HandQ
open Go.RowKit Go.Proofs.YtlkenmpbhchieaaDoorW.PrintWords Go.Proofs.YtlkenmpbhchieaaDoorW.PrintLast Go.Proofs.YtlkenmpbhchieaaDoorW.PrintMore Go.Proofs.YtlkenmpbhchieaaDoor.QAll Txt PureA HandA HandB HandC HandD HandE HandF HandG HandH HandI PureP HandJ HandS PureQ PureR PureS Ptr HandO HandP

set_option maxHeartbeats 4000000 in
theorem firstLine (rs sc : Nat) (w : World) (Q : World → Prop) (h : Calls Tryd.prog 19 #[.pointer (some ⟨sc, 0, none⟩)] w fun e w' => e = .returned (.bool true) ∧ Q w') :
    Calls Tryd.prog 22 #[.pointer (some ⟨rs, 0, none⟩), .pointer (some ⟨sc, 0, none⟩)] w fun e w' => e = .returned .nilIface ∧ Q w' := by
  have HX := Aside0.mk h
  clear h
  go_enter Tryd.func22, Tryd.ntmps22
  go_wp2_with (first | (go_at_call 19; (with_reducible refine HX.out.mono ?_); rintro e w1 ⟨rfl, hq⟩; have HQ := Aside0.mk hq; clear hq))
  go_ret
  exact ⟨rfl, HQ.out⟩
theorem cmd_pos (s : S32) : 0 < (cmd s).size := by
  unfold cmd
  split
  · rw [← size_list, ok_list]; simp
  · rw [← size_list, ng_list]; simp
theorem moved2 {w0 w w3 : World} {sc rb rs : Nat} {X X3 : Option Addr} {v : Value} {dn : List S32} (h : Kd.R kC 48 w w0.heap.size (fun j => ¬ (Own sc rb X j ∨ j = rs)) v dn) (hf : Far w w3 (Own sc rb X)) (hx : ∀ ad, X3 = some ad → X = some ad ∨ w.heap.size ≤ ad.block) : Kd.R kC 48 w3 w0.heap.size (fun j => ¬ (Own sc rb X3 j ∨ j = rs)) v dn := by
  have h2 := Kd.R_bound h
  refine Kd.R_mono (Kd.R_move h2 (fun k hk => hf.blk k hk.2.2.1 (fun ho => hk.1 (Or.inl ho)))) (fun k hk ho => ?_)
  rcases ho with (q | q | ⟨ad, q, e⟩) | q
  · exact hk.1 (Or.inl (Or.inl q))
  · exact hk.1 (Or.inl (Or.inr (Or.inl q)))
  · rcases hx ad q with q2 | q2
    · exact hk.1 (Or.inl (Or.inr (Or.inr ⟨ad, q2, e⟩)))
    · have := hk.2.2.1
      omega
  · exact hk.1 (Or.inr q)
theorem statusAny (rs : Nat) (us : ByteArray) (V : Value) (s : S32) (l : List S32) (base : Nat) (O : Nat → Prop) (A : Option Addr) (c : Nat) (w : World) (hs : w.heap[rs]? = some (.cells #[.string us, V] 47 (0, 0))) (hR : Kd.R kC 48 w base (fun k => ¬ O k) V l) (hb : base ≤ w.heap.size) (hO : ∀ k, O k → k < w.heap.size) (hrs : O rs) (hl : l.length ≤ 1000) (hC : Kd.C (Kd.int .u8) w A (bytesOf (cmd s)).length (bytesOf (cmd s))) (hc : (bytesOf (cmd s)).length ≤ c) (h0 : Word s.f0) (h1 : Word s.f1) :
    Calls Tryd.prog 25 #[.pointer (some ⟨rs, 0, none⟩), .slice A (bytesOf (cmd s)).length c] w fun e w' => e = .returned .nilIface ∧ ∃ V', w'.heap[rs]? = some (.cells #[.string us, V'] 47 (0, 0)) ∧ Kd.R kC 48 w' base (fun k => ¬ O k) V' (l ++ [s]) ∧ Far w w' (fun k => k = rs ∨ some k = V.ownBlock) := by
  by_cases q : s.f1.toList = [111, 107]
  · have e : cmd s = okLine s := by unfold cmd; rw [if_pos q]
    rw [e] at hC hc ⊢
    exact statusOk rs us V s l base O A c w hs hR hb hO hrs hl hC hc h0 h1 q
  · have e : cmd s = ngLine s := by unfold cmd; rw [if_neg q]
    rw [e] at hC hc ⊢
    exact statusNg rs us V s l base O A c w hs hR hb hO hrs hl hC hc h0 h1
noncomputable def lines (l : List S32) : List (List Int) := (l.map fun s => bytesOf (cmd s)) ++ [[]]
set_option maxHeartbeats 8000000 in
set_option maxRecDepth 100000 in
theorem decode (rs rb : Nat) (us u : ByteArray) (l : List S32) (A : Option Addr) (c : Nat) (D : List Int) (pr : Int) (aE aU aI : Addr) (w0 w : World) (hb0 : Below w0.heap.size w0 w) (hs : Sent w0 aE aU aI) (hD : Dat w0 A D c) (hr : w.heap[rb]? = some (.cells (rdC A D c 0 pr) 64 (0, 0))) (hrb : w0.heap.size ≤ rb)
    (hrs : w.heap[rs]? = some (.cells #[.string us, .slice none 0 0] 47 (0, 0))) (hrs0 : w0.heap.size ≤ rs) (hne : rs ≠ rb) (hrep : Report u l) (hDe : D = enc (payloads u l)) :
    Calls Tryd.prog 15 #[.pointer (some ⟨rs, 0, none⟩), .iface 43 (.pointer (some ⟨rb, 0, none⟩))] w fun e w' => e = .returned .nilIface ∧ ∃ V', w'.heap[rs]? = some (.cells #[.string u, V'] 47 (0, 0)) ∧ Kd.R kC 48 w' w0.heap.size (fun k => k ≠ rs) V' l ∧ Below w0.heap.size w0 w' := by
  have hgd := good_all hrep
  have HB0 := Aside0.mk hb0
  have HS := Aside0.mk hs
  have HD := Aside0.mk hD
  have HR := Aside0.mk hr
  have HRB := Aside0.mk hrb
  have HRS := Aside0.mk hrs
  have HRS0 := Aside0.mk hrs0
  have HNE := Aside0.mk hne
  have HREP := Aside0.mk hrep
  have HGD := Aside0.mk hgd
  have HDE : Aside0 (D.drop 0 = enc (bytesOf (first u) :: lines l)) := ⟨by rw [List.drop_zero]; exact hDe⟩
  clear hb0 hs hD hr hrb hrs hrs0 hne hrep hgd hDe
  go_enter Tryd.func15, Tryd.ntmps15
  go_upto_region 2 with (first | (go_at_call 18; (with_reducible refine (newScanner _ _).mono ?_); rintro e w2 ⟨rfl, hr2, hb2⟩; have HSC : Aside0 (Sc w0 w2 w.heap.size rb A D c 0 none 0 0) := ⟨Sc_new HB0.out HR.out HRB.out hr2 hb2⟩; have HRS2 := Aside0.mk (blk_below HRS.out hb2); have HB2 : Aside0 (Below w0.heap.size w0 w2) := ⟨HB0.out.trans (hb2.mono HB0.out.size)⟩; have HZ : Aside0 (rs < w.heap.size ∧ rb < w.heap.size) := ⟨⟨blk_lt HRS.out, blk_lt HR.out⟩⟩; clear hr2 hb2))
  obtain ⟨sc, hsc⟩ : ∃ sc, sc = w.heap.size := ⟨_, rfl⟩
  rw [← hsc] at HSC HZ
  simp only [← hsc]
  clear hsc
  have HNR : Aside0 (rs ≠ sc ∧ rs ≠ rb) := ⟨⟨by have := HZ.out.1; omega, HNE.out⟩⟩
  have HN1 := Aside0.mk (scanNext w0 sc rb A D c 0 none 0 0 aE aU aI w2 HSC.out HS.out HD.out (bytesOf (first u)) (lines l) (HGD.out _ (by unfold payloads; simp)) HDE.out)
  have HF1 := Aside0.mk (firstLine rs sc w2 _ HN1.out.1)
  go_upto_region 5 with (first | (go_at_call 22; (with_reducible refine HF1.out.mono ?_); rintro e w3 ⟨rfl, X3, cb3, hn3⟩; have HX3 := Aside0.mk hn3; clear hn3))
  have hrs3 : w3.heap[rs]? = some (.cells #[.string us, .slice none 0 0] 47 (0, 0)) := HX3.out.f.keep HRS2.out (fun ho => by rcases ho with q | q | ⟨ad, q, _⟩; exact HNR.out.1 q; exact HNR.out.2 q; cases q)
  have HL3 : Aside0 ((bytesOf (first u)).length ≤ cb3) := ⟨HX3.out.s.p.n⟩
  have hb3 : Below w0.heap.size w0 w3 := by obtain ⟨⟨ds, q⟩, _⟩ := HX3.out.s; exact q.b
  have HB3 := Aside0.mk hb3
  have HRP := Aside0.mk (reportStatus rs us u (.slice none 0 0) X3 cb3 w3 hrs3 HX3.out.c HL3.out HREP.out.u)
  have HP2 := (Sc_cells HX3.out.s).1
  have HPC := Aside0.mk HP2
  clear hrs3 hb3 HP2
  go_upto_region 8 with (first
    | (go_at_call 20; (with_reducible refine (bytesOf_ sc _ _ HPC.out).mono ?_); rintro e w4 ⟨rfl, rfl⟩)
    | (go_at_call 23; (with_reducible refine HRP.out.mono ?_); rintro e w5 ⟨rfl, h5, hf5⟩; have HR5 := Aside0.mk h5; have HF5 := Aside0.mk hf5; clear h5 hf5))
  have HN5 : Aside0 (¬ Own sc rb X3 rs) := ⟨fun ho => by
    rcases ho with q | q | ⟨ad, q, e⟩
    · exact HNR.out.1 q
    · exact HNR.out.2 q
    · rcases HX3.out.x ad q with z | z
      · cases z
      · have := blk_lt HRS2.out
        omega⟩
  have HS5 : Aside0 (Sc w0 w5 sc rb A D c (0 + 4 + (bytesOf (first u)).length) X3 (bytesOf (first u)).length cb3) := ⟨HX3.out.s.keep (HB3.out.trans (HF5.out.below HB3.out.size (fun k hk => by rw [hk]; exact HRS0.out))) (fun i hi => HF5.out.blk i (HX3.out.s.lt i hi).1 (fun e => HN5.out (by rw [← e]; exact hi)))⟩
  have HDR5 := Aside0.mk HN1.out.2
  clear HPC HRP HF5 HB3 HL3 HX3 HF1 HN1 HSC HB2 HRS2 HR HRB HRS HB0 HZ
  go_wp2
  go_loopg [8] l.length (fun gk v8 w' => ∃ (k pos n cb : Nat) (X : Option Addr) (V : Value), v8 = .bool false ∧ k + gk = l.length ∧ Aside0 (D.drop pos = enc (lines (l.drop k))) ∧ Aside0 (Sc w0 w' sc rb A D c pos X n cb) ∧ Aside0 (w'.heap[rs]? = some (.cells #[.string u, V] 47 (0, 0))) ∧ Aside0 (Kd.R kC 48 w' w0.heap.size (fun j => ¬ (Own sc rb X j ∨ j = rs)) V (l.take k)) ∧ Aside0 (¬ Own sc rb X rs))
  case atStart => exact ⟨0, _, _, _, _, _, rfl, Nat.zero_add _, HDR5, HS5, HR5, ⟨Kd.R_nil _ _ _ _ _⟩, HN5⟩
  case round =>
    obtain ⟨k, pos, n, cb, X, V, rfl, hk, HDR, HSC, HRS, HRL, HNO⟩ := hrel
    by_cases q : k < l.length
    · obtain ⟨g0, rfl⟩ : ∃ m, gk = m + 1 := ⟨gk - 1, by omega⟩
      obtain ⟨s, hs⟩ : ∃ s, s = l[k] := ⟨_, rfl⟩
      have hmem : s ∈ l := by rw [hs]; exact List.getElem_mem q
      have hdrop : lines (l.drop k) = bytesOf (cmd s) :: lines (l.drop (k + 1)) := by
        unfold lines
        rw [List.drop_eq_getElem_cons q, ← hs]
        rfl
      have HTK : Aside0 (l.take (k + 1) = l.take k ++ [s]) := ⟨by rw [List.take_succ_eq_append_getElem q, hs]⟩
      have HGP := Aside0.mk (HGD.out (bytesOf (cmd s)) (by unfold payloads; simp only [List.mem_append, List.mem_cons, List.mem_map]; exact Or.inl (Or.inr ⟨s, hmem, rfl⟩)))
      have HN1 := Aside0.mk (scanNext w0 sc rb A D c pos X n cb aE aU aI wr HSC.out HS.out HD.out (bytesOf (cmd s)) (lines (l.drop (k + 1))) HGP.out (by rw [HDR.out, hdrop]))
      have HW := Aside0.mk (HREP.out.w s hmem)
      have HPOS : Aside0 (0 < (bytesOf (cmd s)).length) := ⟨by rw [bytesOf_length]; exact cmd_pos s⟩
      have HTL : Aside0 ((l.take k).length ≤ 1000) := ⟨by rw [List.length_take]; have := HREP.out.n; omega⟩
      clear hs hmem hdrop
      go_upto_region 10 with (first | (go_at_call 19; (with_reducible refine HN1.out.1.mono ?_); rintro e w3 ⟨rfl, X3, cb3, hn3⟩; have HX3 := Aside0.mk hn3; clear hn3))
      have hlt : rs < wr.heap.size := blk_lt HRS.out
      have HN3 : Aside0 (¬ Own sc rb X3 rs) := ⟨fun ho => by
        rcases ho with z | z | ⟨ad, z, e⟩
        · exact HNO.out (Or.inl z)
        · exact HNO.out (Or.inr (Or.inl z))
        · rcases HX3.out.x ad z with y | y
          · exact HNO.out (Or.inr (Or.inr ⟨ad, y, e⟩))
          · omega⟩
      have HRS3 := Aside0.mk (HX3.out.f.keep HRS.out HNO.out)
      have HRL3 : Aside0 (Kd.R kC 48 w3 w0.heap.size (fun j => ¬ (Own sc rb X3 j ∨ j = rs)) V (l.take k)) := ⟨moved2 HRL.out HX3.out.f HX3.out.x⟩
      have hb3 : Below w0.heap.size w0 w3 := by obtain ⟨⟨ds, z⟩, _⟩ := HX3.out.s; exact z.b
      have HB3 := Aside0.mk hb3
      have HFL : Aside0 (∀ W, W = w3 → Calls Tryd.prog 24 #[.slice X3 (bytesOf (cmd s)).length cb3] W fun e w' => e = .returned (.bool false) ∧ Drawn0 w3 w') := ⟨fun W e => by subst e; exact packp_isFlush.calls X3 cb3 (bytesOf (cmd s)) false W HX3.out.c HX3.out.s.p.n (by unfold packp_isFlush.f; rw [Option.some.injEq, beq_eq_false_iff_ne]; have := HPOS.out; omega)⟩
      have HST : Aside0 (∀ W, Below w3.heap.size w3 W → Calls Tryd.prog 25 #[.pointer (some ⟨rs, 0, none⟩), .slice X3 (bytesOf (cmd s)).length cb3] W fun e w' => e = .returned .nilIface ∧ ∃ V', w'.heap[rs]? = some (.cells #[.string u, V'] 47 (0, 0)) ∧ Kd.R kC 48 w' w0.heap.size (fun j => ¬ (Own sc rb X3 j ∨ j = rs)) V' (l.take k ++ [s]) ∧ Far W w' (fun j => j = rs ∨ some j = V.ownBlock)) := ⟨fun W hW => statusAny rs u V s (l.take k) w0.heap.size (fun j => Own sc rb X3 j ∨ j = rs) X3 cb3 W (blk_below HRS3.out hW) (Kd.R_below HRL3.out hW) (Nat.le_trans HB3.out.size hW.size) (fun j hj => by rcases hj with z | z; exact Nat.lt_of_lt_of_le (HX3.out.s.lt j z).1 hW.size; (rw [z]; exact Nat.lt_of_lt_of_le (blk_lt HRS3.out) hW.size)) (Or.inr rfl) HTL.out (Kd.C_below HX3.out.c hW) HX3.out.s.p.n HW.out.1 HW.out.2⟩
      have hP2 := (Sc_cells HX3.out.s).1
      have HPC := Aside0.mk hP2
      clear hb3 hP2 hlt
      go_wp2_with (first
        | (go_at_call 20; (with_reducible refine (bytesOf_ sc _ _ HPC.out).mono ?_); rintro e w4 ⟨rfl, hw4⟩; replace hw4 := hw4.symm; subst hw4)
        | (go_at_call 24; (with_reducible refine (HFL.out _ rfl).mono ?_); rintro e w5 ⟨rfl, hd5⟩; have HB5 := Aside0.mk (Drawn0.below hd5); clear hd5)
        | (go_at_call 25; (with_reducible refine (HST.out _ HB5.out).mono ?_); rintro e w6 ⟨rfl, V6, h6, hr6, hf6⟩; have HR6 := Aside0.mk h6; have HL6 := Aside0.mk hr6; have HF6 : Aside0 (Far w3 w6 (fun j => j = rs ∨ some j = V.ownBlock)) := ⟨(Far.of_below HB5.out _).trans hf6⟩; clear h6 hr6 hf6))
      go_roundg g0
      case measure => omega
      case rel => exact ⟨k + 1, _, _, _, X3, V6, rfl, by omega, ⟨HN1.out.2⟩, ⟨HX3.out.s.keep (HB3.out.trans (HF6.out.below HB3.out.size (fun j hj => by rcases hj with z | z; (rw [z]; exact HRS0.out); exact Kd.R_base HRL3.out j z.symm))) (fun i hi => HF6.out.blk i (HX3.out.s.lt i hi).1 (fun e => by rcases e with z | z; (rw [z] at hi; exact HN3.out hi); exact HRL3.out.1 i z.symm (Or.inl hi)))⟩, HR6, ⟨by rw [HTK.out]; exact HL6.out⟩, HN3⟩
    · have hkl : k = l.length := by omega
      have HTK : Aside0 (l.take k = l) := ⟨List.take_of_length_le (by omega)⟩
      have HN1 := Aside0.mk (scanNext w0 sc rb A D c pos X n cb aE aU aI wr HSC.out HS.out HD.out [] [] (HGD.out [] (by unfold payloads; simp)) (by rw [HDR.out, hkl, List.drop_length]; rfl))
      clear hkl
      go_upto_region 10 with (first | (go_at_call 19; (with_reducible refine HN1.out.1.mono ?_); rintro e w3 ⟨rfl, X3, cb3, hn3⟩; have HX3 := Aside0.mk hn3; clear hn3))
      have HRS3 := Aside0.mk (HX3.out.f.keep HRS.out HNO.out)
      have HRL3 : Aside0 (Kd.R kC 48 w3 w0.heap.size (fun j => ¬ (Own sc rb X3 j ∨ j = rs)) V (l.take k)) := ⟨moved2 HRL.out HX3.out.f HX3.out.x⟩
      have hb3 : Below w0.heap.size w0 w3 := by obtain ⟨⟨ds, z⟩, _⟩ := HX3.out.s; exact z.b
      have HB3 := Aside0.mk hb3
      have HFL : Aside0 (∀ W, W = w3 → Calls Tryd.prog 24 #[.slice X3 0 cb3] W fun e w' => e = .returned (.bool true) ∧ Drawn0 w3 w') := ⟨fun W e => by subst e; exact packp_isFlush.calls X3 cb3 [] true W HX3.out.c HX3.out.s.p.n (by unfold packp_isFlush.f; rfl)⟩
      have hP2 : w3.cell? ⟨sc, 2, none⟩ = some (.slice X3 0 cb3) := (Sc_cells HX3.out.s).1
      have hP1 := (Sc_cells HX3.out.s).2
      have HPC := Aside0.mk hP2
      have HEC := Aside0.mk hP1
      clear hb3 hP2 hP1
      go_wp2_with (first
        | (go_at_call 20; (with_reducible refine (bytesOf_ sc _ _ HPC.out).mono ?_); rintro e w4 ⟨rfl, hw4⟩; replace hw4 := hw4.symm; subst hw4)
        | (go_at_call 24; (with_reducible refine (HFL.out _ rfl).mono ?_); rintro e w5 ⟨rfl, hd5⟩; have HB5 := Aside0.mk (Drawn0.below hd5); clear hd5)
        | (go_at_call 21; (with_reducible refine (errOf sc _ _ (pw_cell_below HB5.out HEC.out)).mono ?_); rintro e w6 ⟨rfl, hw6⟩; replace hw6 := hw6.symm; subst hw6))
      go_ret
      exact ⟨rfl, V, blk_below HRS3.out HB5.out, by rw [← HTK.out]; exact Kd.R_mono (Kd.R_below HRL3.out HB5.out) (fun j hj e => hj (Or.inr e)), HB3.out.trans (HB5.out.mono HB3.out.size)⟩
#print axioms decode
end Go.Proofs.YtlkenmpbhchieaaDoor.HandQ
