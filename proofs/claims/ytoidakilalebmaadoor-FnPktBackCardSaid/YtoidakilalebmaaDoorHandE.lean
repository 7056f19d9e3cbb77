/- Scanner.readPayloadLen where a whole number is read, bytes.HasPrefix, pktline.errPrefix, walked. -/
import Derived.Test.YtoidakilalebmaaDoorHandD
set_option linter.unusedVariables false
set_option linter.unusedSimpArgs false
namespace Go.Proofs.YtoidakilalebmaaDoor.HandE
open Go.RowKit Go.Proofs.YtoidakilalebmaaDoorW.PrintWords Go.Proofs.YtoidakilalebmaaDoorW.PrintLast Go.Proofs.YtoidakilalebmaaDoorW.PrintMore Go.Proofs.YtoidakilalebmaaDoor.QAll Txt PureA HandA HandB HandC HandD

theorem St_below {w0 w w' : World} {sc rb : Nat} {A : Option Addr} {D : List Int} {c pos : Nat} {eV PV : Value} {ds : List Value} (h : St w0 w sc rb A D c pos eV PV ds) (hs : Below w.heap.size w w') : St w0 w' sc rb A D c pos eV PV ds := by
  obtain ⟨pr, hr⟩ := h.r
  exact ⟨h.b.trans (hs.mono h.b.size), blk_below h.s hs, ⟨pr, blk_below hr hs⟩, h.ne, h.bs, h.br, h.dl⟩
/-- What is read in the digits' place. -/
theorem St_digits {w0 w : World} {sc rb : Nat} {A : Option Addr} {D : List Int} {c pos : Nat} {eV PV : Value} {ds : List Value} (h : St w0 w sc rb A D c pos eV PV ds) (a b d e : Value) (hd : ds = [a, b, d, e]) : w.cell? ⟨sc, 3, none⟩ = some a ∧ w.cell? ⟨sc, 4, none⟩ = some b ∧ w.cell? ⟨sc, 5, none⟩ = some d ∧ w.cell? ⟨sc, 6, none⟩ = some e := by
  subst hd
  exact ⟨(blk_cell h.s 3).trans rfl, (blk_cell h.s 4).trans rfl, (blk_cell h.s 5).trans rfl, (blk_cell h.s 6).trans rfl⟩
set_option maxHeartbeats 8000000 in
set_option maxRecDepth 100000 in
theorem rplAll (w0 : World) (sc rb : Nat) (A : Option Addr) (D : List Int) (c pos : Nat) (eV PV : Value) (ds : List Value) (aE aU aI : Addr) (w : World) (h : St w0 w sc rb A D c pos eV PV ds) (hs : Sent w0 aE aU aI) (hD : Dat w0 A D c) (d0 d1 d2 d3 : Int) (hpos : pos + 4 ≤ D.length) (hseg : seg D pos 4 = [.int .u8 d0, .int .u8 d1, .int .u8 d2, .int .u8 d3]) (h0 : Dg d0) (h1 : Dg d1) (h2 : Dg d2) (h3 : Dg d3) (m : Nat) (hm : (hexv d0 d1 d2 d3 = 0 ∧ m = 0) ∨ (5 ≤ hexv d0 d1 d2 d3 ∧ hexv d0 d1 d2 d3 ≤ 65520 ∧ (m : Int) = hexv d0 d1 d2 d3 - 4)) :
    Calls Tryd.prog 20 #[.pointer (some ⟨sc, 0, none⟩)] w fun e w' => e = .returned (.tuple #[.int .i64 (m : Int), .nilIface]) ∧ ∃ ds', St w0 w' sc rb A D c (pos + 4) eV PV ds' ∧ Far w w' (fun i => i = sc ∨ i = rb) := by
  have hsw := hs.below h.b
  obtain ⟨pr, hr⟩ := h.r
  have HC0 : Aside0 (w.cell? ⟨sc, 0, none⟩ = some (.iface 45 (.pointer (some ⟨rb, 0, none⟩)))) := ⟨(blk_cell h.s 0).trans rfl⟩
  have HF := Aside0.mk (fun W (hW : Same w W) => fullAll rb sc 3 4 4 A c D pos pr (scC rb eV PV ds) 57 aE W (hW.blk hr) (hW.blk h.s) h.ne (by rw [sc_len _ _ _ _ h.dl]; omega) (Nat.le_refl _) (hD.r W (h.b.trans (hW.below _))) hD.c (hW.cell hsw.e) (by omega) 4 (by omega) hpos)
  have HST := Aside0.mk h
  have HPOS := Aside0.mk hpos
  have HSEG := Aside0.mk hseg
  have HX := Aside0.mk (fun W => HandC.decode d0 d1 d2 d3 W h0 h1 h2 h3)
  have HM := Aside0.mk hm
  obtain ⟨z, hz⟩ : ∃ z, z = hexv d0 d1 d2 d3 := ⟨_, rfl⟩
  rw [← hz] at HX HM
  clear h hs hD hsw hr hpos hseg h0 h1 h2 h3 hm hz
  go_enter Tryd.func20, Tryd.ntmps20
  go_upto_region 1 with fail
  refine start_ (n := 14) (S := fun w' => Same w w' ∧ w'.cell? ⟨sc, 0, none⟩ = some (.iface 45 (.pointer (some ⟨rb, 0, none⟩)))) (ds := [8]) #[false, false, false, false, false, false, false, false, false, false, false, false, false, false] (by kernel_rfl) rfl rfl ⟨(Same.drew w), (Same.cell (Same.drew w) HC0.out)⟩ (fun hHeld => ?_)
  refine with_tabW rpl1.tab1 rpl1.bits1 (fun HT_ HW_ => ?_)
  generalize World.drew _ = wd at hHeld ⊢
  refine pure_ (i := 0) (N := some 9) (v := ?_) (a' := ?_) #[true, false, false, false, false, false, false, false, false, false, false, false, false, false] rfl rfl (any_of HT_.out (by kernel_rfl)) (fun _ _ _ h => h) (Or.inl ⟨by rfl, ?_⟩) ?_ ?_
  rotate_left
  · intro w'
    go_simp
    with_reducible rfl
  rotate_left
  · simp only [Act.put, List.setIfInBounds_toArray, List.set_cons_zero, List.set_cons_succ, i64_w, i32_w]
    rfl
  refine pure_ (i := 1) (N := some 10) (v := ?_) (a' := ?_) #[true, true, false, false, false, false, false, false, false, false, false, false, false, false] rfl rfl (any_of HT_.out (by kernel_rfl)) (fun _ _ _ h => h) (Or.inl ⟨by rfl, ?_⟩) ?_ ?_
  rotate_left
  · intro w'
    go_simp
    with_reducible rfl
  rotate_left
  · simp only [Act.put, List.setIfInBounds_toArray, List.set_cons_zero, List.set_cons_succ, i64_w, i32_w]
    rfl
  refine pure_ (i := 2) (N := some 11) (v := ?_) (a' := ?_) #[true, true, true, false, false, false, false, false, false, false, false, false, false, false] rfl rfl (any_of HT_.out (by kernel_rfl)) (fun _ _ _ h => h) (Or.inl ⟨by rfl, ?_⟩) ?_ ?_
  rotate_left
  · intro w'
    go_simp
    with_reducible rfl
  rotate_left
  · simp only [Act.put, List.setIfInBounds_toArray, List.set_cons_zero, List.set_cons_succ, i64_w, i32_w]
    rfl
  refine pure_ (i := 4) (N := some 13) (v := ?_) (a' := ?_) #[true, true, true, false, true, false, false, false, false, false, false, false, false, false] rfl rfl (any_of HT_.out (by kernel_rfl)) (fun _ _ _ h => h) (Or.inl ⟨by rfl, ?_⟩) ?_ ?_
  rotate_left
  · intro w'
    go_simp
    with_reducible rfl
  rotate_left
  · simp only [Act.put, List.setIfInBounds_toArray, List.set_cons_zero, List.set_cons_succ, i64_w, i32_w]
    rfl
  refine pure_ (i := 5) (N := some 14) (v := ?_) (a' := ?_) #[true, true, true, false, true, true, false, false, false, false, false, false, false, false] rfl rfl (any_of HT_.out (by kernel_rfl)) (fun _ _ _ h => h) (Or.inl ⟨by rfl, ?_⟩) ?_ ?_
  rotate_left
  · intro w'
    go_simp
    with_reducible rfl
  rotate_left
  · simp only [Act.put, List.setIfInBounds_toArray, List.set_cons_zero, List.set_cons_succ, i64_w, i32_w]
    rfl
  refine pure_ (i := 6) (N := some 15) (v := ?_) (a' := ?_) #[true, true, true, false, true, true, true, false, false, false, false, false, false, false] rfl rfl (any_of HT_.out (by kernel_rfl)) (fun _ _ _ h => h) (Or.inl ⟨by rfl, ?_⟩) ?_ ?_
  rotate_left
  · intro w'
    go_simp
    with_reducible rfl
  rotate_left
  · simp only [Act.put, List.setIfInBounds_toArray, List.set_cons_zero, List.set_cons_succ, i64_w, i32_w]
    rfl
  refine pure_ (i := 7) (N := some 16) (v := ?_) (a' := ?_) #[true, true, true, false, true, true, true, true, false, false, false, false, false, false] rfl rfl (any_of HT_.out (by kernel_rfl)) (fun _ _ _ h => h) (Or.inl ⟨by rfl, ?_⟩) ?_ ?_
  rotate_left
  · intro w'
    go_simp
    with_reducible rfl
  rotate_left
  · simp only [Act.put, List.setIfInBounds_toArray, List.set_cons_zero, List.set_cons_succ, i64_w, i32_w]
    rfl
  refine take_ (i := 3) (N := some 12) (v := ?_) (a' := ?_) #[true, true, true, true, true, true, true, true, false, false, false, false, false, false] rfl rfl (take_ofW HT_.out HW_.out (by kernel_rfl)) (fun _ _ _ h => h) (Or.inl ⟨by rfl, ?_⟩) hHeld ?_ ?_
  rotate_left
  · rintro w' ⟨s0, s1⟩
    go_simp
    with_reducible rfl
  rotate_left
  · simp only [Act.put, List.setIfInBounds_toArray, List.set_cons_zero, List.set_cons_succ, i64_w, i32_w]
    rfl
  refine last_ (i := 8) (N := some 17) #[true, true, true, true, true, true, true, true, true, false, false, false, false, false] rfl rfl (one_of HT_.out (by kernel_rfl)) (by decide) (fun K hK => ?_)
  refine goes_ Tryd.func21 (by kernel_rfl) rfl #[.iface 45 (.pointer (some ⟨rb, 0, none⟩)), .slice (some ⟨sc, 3, none⟩) 4 4] (by rfl) rfl rfl (by simp only [List.map_toArray, List.map_cons, List.map_nil]; rfl) ?_
  with_reducible refine (HF.out _ hHeld.1).mono ?_
  rintro e w1 ⟨rfl, hs⟩
  refine ⟨_, rfl, ?_⟩
  have HS1 : Aside0 (Rd w w1 rb sc 3 A D c pos 4 (scC rb eV PV ds) 57) := ⟨⟨(Far.of_same hHeld.1 _).trans hs.f, hs.g, hs.r⟩⟩
  clear hs
  refine hK.out _ _ ?_
  clear hK K
  refine norm_ (a' := ?_) ?_ ?_
  rotate_left
  · show Act.put _ (some 17) _ = _
    simp only [Act.put, List.setIfInBounds_toArray, List.set_cons_zero, List.set_cons_succ, i64_w, i32_w]
    rfl
  refine pure_ (i := 9) (N := some 8) (v := ?_) (a' := ?_) #[true, true, true, true, true, true, true, true, true, true, false, false, false, false] rfl rfl (any_of HT_.out (by kernel_rfl)) (fun _ _ _ h => h) (Or.inl ⟨by rfl, ?_⟩) ?_ ?_
  rotate_left
  · intro w'
    go_simp
    with_reducible rfl
  rotate_left
  · simp only [Act.put, List.setIfInBounds_toArray, List.set_cons_zero, List.set_cons_succ, i64_w, i32_w]
    rfl
  refine pure_ (i := 10) (N := some 18) (v := ?_) (a' := ?_) #[true, true, true, true, true, true, true, true, true, true, true, false, false, false] rfl rfl (any_of HT_.out (by kernel_rfl)) (fun _ _ _ h => h) (Or.inl ⟨by rfl, ?_⟩) ?_ ?_
  rotate_left
  · intro w'
    go_simp
    with_reducible rfl
  rotate_left
  · simp only [Act.put, List.setIfInBounds_toArray, List.set_cons_zero, List.set_cons_succ, i64_w, i32_w]
    rfl
  refine pure_ (i := 11) (N := some 19) (v := ?_) (a' := ?_) #[true, true, true, true, true, true, true, true, true, true, true, true, false, false] rfl rfl (any_of HT_.out (by kernel_rfl)) (fun _ _ _ h => h) (Or.inl ⟨by rfl, ?_⟩) ?_ ?_
  rotate_left
  · intro w'
    go_simp
    with_reducible rfl
  rotate_left
  · simp only [Act.put, List.setIfInBounds_toArray, List.set_cons_zero, List.set_cons_succ, i64_w, i32_w]
    rfl
  refine pure_ (i := 12) (N := some 4) (v := ?_) (a' := ?_) #[true, true, true, true, true, true, true, true, true, true, true, true, true, false] rfl rfl (any_of HT_.out (by kernel_rfl)) (fun _ _ _ h => h) (Or.inl ⟨by rfl, ?_⟩) ?_ ?_
  rotate_left
  · intro w'
    go_simp
    with_reducible rfl
  rotate_left
  · simp only [Act.put, List.setIfInBounds_toArray, List.set_cons_zero, List.set_cons_succ, i64_w, i32_w]
    rfl
  refine pure_ (i := 13) (N := some 5) (v := ?_) (a' := ?_) #[true, true, true, true, true, true, true, true, true, true, true, true, true, true] rfl rfl (any_of HT_.out (by kernel_rfl)) (fun _ _ _ h => h) (Or.inl ⟨by rfl, ?_⟩) ?_ ?_
  rotate_left
  · intro w'
    go_simp
    with_reducible rfl
  rotate_left
  · simp only [Act.put, List.setIfInBounds_toArray, List.set_cons_zero, List.set_cons_succ, i64_w, i32_w]
    rfl
  refine done_ (done_of HT_.out (by kernel_rfl)) ?_
  have hsto := HST.out.read HS1.out (by have := HPOS.out; omega) (Nat.le_refl _)
  rw [HSEG.out] at hsto
  obtain ⟨hg0, hg1, hg2, hg3⟩ := St_digits hsto _ _ _ _ (by rw [List.drop_eq_nil_of_le (Nat.le_of_eq HST.out.dl)]; rfl)
  have HST1 := Aside0.mk hsto
  clear hsto hHeld
  rcases HM.out with ⟨rfl, rfl⟩ | ⟨q1, q2, q3⟩
  · go_wp2_with (first | (go_at_call 27; (with_reducible refine (HX.out _).mono ?_); rintro e w2 ⟨rfl, HQ⟩; have HQ2 := Aside0.mk HQ; clear HQ))
    go_ret2
    exact ⟨rfl, _, St_below HST1.out HQ2.out, HS1.out.f.trans (Far.of_below HQ2.out _)⟩
  · have z0 : (z == 0) = false := by rw [beq_eq_false_iff_ne]; omega
    have z1 : decide (z ≤ 4) = false := decide_eq_false (by omega)
    have z2 : decide (65524 < z) = false := decide_eq_false (by omega)
    have z3 : wrap64 (z - 4) = z - 4 := by unfold wrap64; omega
    go_wp2_with (first | (go_at_call 27; (with_reducible refine (HX.out _).mono ?_); rintro e w2 ⟨rfl, HQ⟩; have HQ2 := Aside0.mk HQ; clear HQ))
    go_ret2
    exact ⟨by rw [q3]; rfl, _, St_below HST1.out HQ2.out, HS1.out.f.trans (Far.of_below HQ2.out _)⟩
#print axioms rplAll
end Go.Proofs.YtoidakilalebmaaDoor.HandE
