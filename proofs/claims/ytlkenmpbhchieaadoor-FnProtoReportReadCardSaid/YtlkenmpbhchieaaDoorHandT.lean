/- packp.NewReportStatus, impl.ReadReport, walked. -/
import Derived.Test.YtlkenmpbhchieaaDoorHandQ
set_option linter.unusedVariables false
set_option linter.unusedSimpArgs false
namespace Go.Proofs.YtlkenmpbhchieaaDoor.HandT
open Go.RowKit Go.Proofs.YtlkenmpbhchieaaDoorW.PrintWords Go.Proofs.YtlkenmpbhchieaaDoorW.PrintLast Go.Proofs.YtlkenmpbhchieaaDoorW.PrintMore Go.Proofs.YtlkenmpbhchieaaDoor.QAll Txt PureA HandA HandB HandC HandD HandE HandF HandG HandH HandI PureP HandJ HandS PureQ PureR PureS Ptr HandO HandP HandQ

def rr8.T8 : Bool × List (List Nat × List Nat) := (true, [([], []), ([], []), ([1], [1]), ([2], [2]), ([3], [3]), ([], []), ([5], [5]), ([6], [6]), ([7], [7]), ([4, 8], [4, 8]), ([9], [9]), ([0, 10], [0, 10]), ([11, 11, 0, 1, 2, 3, 4, 5, 6, 7, 8, 9, 10, 11], [0, 11])])
def rr8.B8 : List Nat := [0, 0, 2, 6, 14, 0, 32, 96, 224, 510, 1022, 2047, 4095]
theorem rr8.tab8 : rtab .any (opsOf Tryd.f7 8) = rr8.T8 := by kernel_rfl
theorem rr8.bits8 : waitsOk rr8.T8.2 rr8.B8 = true := by kernel_rfl

theorem at_ptr {α : Type} {d : Kd α} {w : World} {A : Option Addr} {n : Nat} {xs : List α} (z : α) (hs : d.sz = 1) (h : d.C w A n xs) (k : Nat) (hk : k < n) : ∃ ad v, A = some ad ∧ d.K w (xs.getD k z) [v] ∧ w.cell? (ad.add k) = some v := by
  obtain ⟨ad, cs, e, hl, hK, hr⟩ := Kd.C_get h z (k : Int) (by omega) (by omega)
  rw [Int.toNat_natCast, hs, Nat.mul_one] at hr
  rw [Int.toNat_natCast] at hK
  match cs, hl.trans hs with
  | [v], _ =>
    have := hr 0 v rfl
    exact ⟨ad, v, e, hK, by simpa using this⟩
theorem getD_at {α : Type} (l : List α) (z : α) (k : Nat) (hk : k < l.length) : l[k]? = some (l.getD k z) := by
  rw [List.getD_eq_getElem?_getD, List.getElem?_eq_getElem hk]
  rfl
theorem kC_open {w : World} {x : S32} {cs : List Value} (h : kC.K w x cs) : ∃ g, cs = [.pointer (some ⟨g, 0, none⟩)] ∧ w.heap[g]? = some (.cells #[.string x.f0, .string x.f1] 51 (0, 0)) := by
  obtain ⟨g, cells, rfl, hg, hd⟩ := h
  have e := k32_open hd
  have e2 : cells = #[.string x.f0, .string x.f1] := by rw [← e]
  rw [e2] at hg
  exact ⟨g, rfl, hg⟩
set_option maxHeartbeats 4000000 in
set_option maxRecDepth 100000 in
theorem newReport (w : World) : Calls Tryd.prog 14 #[] w fun e w' => e = .returned (.pointer (some ⟨w.heap.size, 0, none⟩)) ∧ w'.heap[w.heap.size]? = some (.cells #[.string ⟨#[]⟩, .slice none 0 0] 47 (0, 0)) ∧ Below w.heap.size w w' := by
  go_enter Tryd.func14, Tryd.ntmps14
  go_wp2
  go_ret
  exact ⟨rfl, blk_new _ _, below_alloc (Below.refl _ _) _⟩
set_option maxHeartbeats 8000000 in
set_option maxRecDepth 100000 in
theorem readReport (u : ByteArray) (os : List S32) (A : Option Addr) (c : Nat) (D : List Int) (aE aU aI : Addr) (w : World) (hs : Sent w aE aU aI) (hD : Kd.C (Kd.int .u8) w A D.length D) (hDc : D.length ≤ c) (hrep : Report u os) (hDe : D = enc (payloads u os)) :
    Calls Tryd.prog 7 #[.slice A D.length c] w fun e w' => ∃ v, e = .returned (.tuple #[.string u, v, .bool true]) ∧ Kd.R k32 32 w' w.heap.size (fun _ => True) v os ∧ Below w.heap.size w w' := by
  have hu32 := Tryd.underlying32
  have HDT : Aside0 (Dat w A D c) := ⟨⟨fun W hb => Kd.C_below hD hb, hDc⟩⟩
  have HS := Aside0.mk hs
  have HREP := Aside0.mk hrep
  have HDE := Aside0.mk hDe
  clear hs hD hDc hrep hDe
  go_enter Tryd.func7, Tryd.ntmps7
  go_upto_region 4 with (first
    | (go_at_call 14; (with_reducible refine (newReport _).mono ?_); rintro e w1 ⟨rfl, h1, hb1⟩; have HRS1 := Aside0.mk h1; have HB1 := Aside0.mk hb1; clear h1 hb1)
    | (go_at_call 16; (with_reducible refine (newReader _ _ _ _).mono ?_); rintro e w2 ⟨rfl, h2, hb2⟩; have HR2 : Aside0 (w2.heap[w1.heap.size]? = some (.cells (rdC A D c 0 (-1)) 64 (0, 0))) := ⟨h2⟩; have HRS2 := Aside0.mk (blk_below HRS1.out hb2); have HB2 := Aside0.mk (below_step HB1.out hb2); have HZ2 : Aside0 (w.heap.size < w1.heap.size) := ⟨blk_lt HRS1.out⟩; clear h2 hb2)
    | (go_at_call 15; (with_reducible refine (HandQ.decode w.heap.size w1.heap.size ⟨#[]⟩ u os A c D (-1) aE aU aI w w2 HB2.out HS.out HDT.out HR2.out HB1.out.size HRS2.out (Nat.le_refl _) (Nat.ne_of_lt HZ2.out) HREP.out HDE.out).mono ?_); rintro e w3 ⟨rfl, V0, h3, hr3, hb3⟩; have HRS3 := Aside0.mk h3; have HRL := Aside0.mk hr3; have HB3 := Aside0.mk hb3; clear h3 hr3 hb3))
  obtain ⟨rs, hrs⟩ : ∃ rs, rs = w.heap.size := ⟨_, rfl⟩
  have HRZ : Aside0 (rs < w3.heap.size) := ⟨by rw [hrs]; exact blk_lt HRS3.out⟩
  rw [← hrs] at HRS3
  have HRL2 : Aside0 (Kd.R kC 48 w3 w.heap.size (fun k => k ≠ rs) V0 os) := ⟨by rw [hrs]; exact HRL.out⟩
  simp only [← hrs]
  clear hrs HRL HRS1 HRS2 HR2 HB1 HB2 HZ2
  obtain ⟨A0, c0, rfl⟩ := Kd.R_slice HRL2.out
  have HC := Aside0.mk (Kd.R_reads' HRL2.out).2.2
  have hcv : w3.cell? ⟨rs, 1, none⟩ = some (.slice A0 os.length c0) := (blk_cell HRS3.out 1).trans rfl
  have HL : Aside0 (os.length ≤ 30) := ⟨HREP.out.n⟩
  go_wp2
  clear hcv
  go_loopg [6, 21] os.length (fun gk v6 v21 w' => ∃ (k : Nat) (V : Value), v6 = V ∧ v21 = .int .i64 (k : Int) ∧ Aside0 (k + gk = os.length) ∧ Aside0 (Below w.heap.size w w') ∧ Aside0 (Below w3.heap.size w3 w') ∧ Aside0 (k32.R 32 w' w3.heap.size (fun _ => True) V (os.take k)))
  case atStart => exact ⟨0, _, rfl, rfl, ⟨by omega⟩, HB3, ⟨Below.refl _ _⟩, ⟨Kd.R_nil _ _ _ _ _⟩⟩
  case round =>
    obtain ⟨k, V, hV, rfl, HK, HB, HB4, HR0⟩ := hrel
    have HR : Aside0 (k32.R 32 wr w.heap.size (fun _ => True) V (os.take k)) := ⟨Kd.R_lower HR0.out HB3.out.size⟩
    replace hV := hV.symm
    subst hV
    by_cases hlt : k < os.length
    rotate_left
    · obtain rfl : k = os.length := by have := HK.out; omega
      have hR := HR.out
      rw [List.take_length] at hR
      have HR2 := Aside0.mk hR
      have hcu : wr.cell? ⟨rs, 0, none⟩ = some (.string u) := (blk_cell (blk_below HRS3.out HB4.out) 0).trans rfl
      clear hR
      go_wp2
      go_ret3
      exact ⟨_, rfl, HR2.out, HB.out⟩
    obtain ⟨g0, rfl⟩ : ∃ m, gk = m + 1 := ⟨gk - 1, by have := HK.out; omega⟩
    have hk1 : (k : Int) < (os.length : Int) := by omega
    have hk2 : (k : Int) < 1001 := by have := HL.out; omega
    obtain ⟨ad, v, rfl, hK, hcell⟩ := at_ptr z32 rfl (Kd.C_below HC.out HB4.out) k hlt
    obtain ⟨g, hv, hg⟩ := kC_open hK
    obtain rfl : v = .pointer (some ⟨g, 0, none⟩) := by simpa using hv
    have hgt := getD_at os z32 k hlt
    generalize os.getD k z32 = o at hK hg hgt hv
    have HTK : Aside0 (os.take (k + 1) = os.take k ++ [o]) := ⟨by rw [List.take_add_one, hgt]; rfl⟩
    have HN : Aside0 ((os.take k).length ≤ 1001) := ⟨by rw [List.length_take]; have := HL.out; have := Nat.min_le_right k os.length; omega⟩
    have q0 : Below wr.heap.size wr wr.drew := below_drew1 (Below.refl _ _)
    have q1 : wr.drew.cell? ⟨g, 0, none⟩ = some (.string o.f0) := (blk_cell (blk_drew hg) 0).trans rfl
    have q2 : wr.drew.cell? ⟨g, 1, none⟩ = some (.string o.f1) := (blk_cell (blk_drew hg) 1).trans rfl
    clear hK hg hgt hv
    go_upto_region 8 with fail
    refine start_ (n := 13) (S := fun w' => Below wr.heap.size wr w' ∧ w'.cell? ⟨g, 0, none⟩ = some (.string o.f0) ∧ w'.cell? ⟨g, 1, none⟩ = some (.string o.f1)) (ds := [11]) #[false, false, false, false, false, false, false, false, false, false, false, false, false] (by kernel_rfl) rfl rfl ⟨q0, q1, q2⟩ (fun hHeld => ?_)
    refine with_tabW rr8.tab8 rr8.bits8 (fun HT_ HW_ => ?_)
    generalize World.drew _ = wd at hHeld ⊢
    refine pure_ (i := 0) (N := some 25) (v := ?_) (a' := ?_) #[true, false, false, false, false, false, false, false, false, false, false, false, false] rfl rfl (any_of HT_.out (by kernel_rfl)) (fun _ _ _ h => h) (Or.inl ⟨by rfl, ?_⟩) ?_ ?_
    rotate_left
    · intro w'
      go_simp
      with_reducible rfl
    rotate_left
    · simp only [Act.put, List.setIfInBounds_toArray, List.set_cons_zero, List.set_cons_succ, i64_w, i32_w]
      rfl
    refine pure_ (i := 1) (N := some 26) (v := ?_) (a' := ?_) #[true, true, false, false, false, false, false, false, false, false, false, false, false] rfl rfl (any_of HT_.out (by kernel_rfl)) (fun _ _ _ h => h) (Or.inl ⟨by rfl, ?_⟩) ?_ ?_
    rotate_left
    · intro w'
      go_simp
      with_reducible rfl
    rotate_left
    · simp only [Act.put, List.setIfInBounds_toArray, List.set_cons_zero, List.set_cons_succ, i64_w, i32_w]
      rfl
    refine pure_ (i := 2) (N := some 27) (v := ?_) (a' := ?_) #[true, true, true, false, false, false, false, false, false, false, false, false, false] rfl rfl (any_of HT_.out (by kernel_rfl)) (fun _ _ _ h => h) (Or.inl ⟨by rfl, ?_⟩) ?_ ?_
    rotate_left
    · intro w'
      go_simp
      with_reducible rfl
    rotate_left
    · simp only [Act.put, List.setIfInBounds_toArray, List.set_cons_zero, List.set_cons_succ, i64_w, i32_w]
      rfl
    refine pure_ (i := 3) (N := some 28) (v := ?_) (a' := ?_) #[true, true, true, true, false, false, false, false, false, false, false, false, false] rfl rfl (any_of HT_.out (by kernel_rfl)) (fun _ _ _ h => h) (Or.inl ⟨by rfl, ?_⟩) ?_ ?_
    rotate_left
    · intro w'
      go_simp
      with_reducible rfl
    rotate_left
    · simp only [Act.put, List.setIfInBounds_toArray, List.set_cons_zero, List.set_cons_succ, i64_w, i32_w]
      rfl
    refine pure_ (i := 5) (N := some 30) (v := ?_) (a' := ?_) #[true, true, true, true, false, true, false, false, false, false, false, false, false] rfl rfl (any_of HT_.out (by kernel_rfl)) (fun _ _ _ h => h) (Or.inl ⟨by rfl, ?_⟩) ?_ ?_
    rotate_left
    · intro w'
      go_simp
      with_reducible rfl
    rotate_left
    · simp only [Act.put, List.setIfInBounds_toArray, List.set_cons_zero, List.set_cons_succ, i64_w, i32_w]
      rfl
    refine pure_ (i := 6) (N := some 31) (v := ?_) (a' := ?_) #[true, true, true, true, false, true, true, false, false, false, false, false, false] rfl rfl (any_of HT_.out (by kernel_rfl)) (fun _ _ _ h => h) (Or.inl ⟨by rfl, ?_⟩) ?_ ?_
    rotate_left
    · intro w'
      go_simp
      with_reducible rfl
    rotate_left
    · simp only [Act.put, List.setIfInBounds_toArray, List.set_cons_zero, List.set_cons_succ, i64_w, i32_w]
      rfl
    refine pure_ (i := 7) (N := some 32) (v := ?_) (a' := ?_) #[true, true, true, true, false, true, true, true, false, false, false, false, false] rfl rfl (any_of HT_.out (by kernel_rfl)) (fun _ _ _ h => h) (Or.inl ⟨by rfl, ?_⟩) ?_ ?_
    rotate_left
    · intro w'
      go_simp
      with_reducible rfl
    rotate_left
    · simp only [Act.put, List.setIfInBounds_toArray, List.set_cons_zero, List.set_cons_succ, i64_w, i32_w]
      rfl
    refine take_ (i := 4) (N := some 29) (v := ?_) (a' := ?_) #[true, true, true, true, true, true, true, true, false, false, false, false, false] rfl rfl (take_ofW HT_.out HW_.out (by kernel_rfl)) (fun _ _ _ h => h) (Or.inl ⟨by rfl, ?_⟩) hHeld ?_ ?_
    rotate_left
    · rintro w' ⟨s0, s1, s2⟩
      go_simp
      with_reducible rfl
    rotate_left
    · simp only [Act.put, List.setIfInBounds_toArray, List.set_cons_zero, List.set_cons_succ, i64_w, i32_w]
      rfl
    refine take_ (i := 8) (N := some 33) (v := ?_) (a' := ?_) #[true, true, true, true, true, true, true, true, true, false, false, false, false] rfl rfl (take_ofW HT_.out HW_.out (by kernel_rfl)) (fun _ _ _ h => h) (Or.inl ⟨by rfl, ?_⟩) hHeld ?_ ?_
    rotate_left
    · rintro w' ⟨s0, s1, s2⟩
      go_simp
      with_reducible rfl
    rotate_left
    · simp only [Act.put, List.setIfInBounds_toArray, List.set_cons_zero, List.set_cons_succ, i64_w, i32_w]
      rfl
    refine pure_ (i := 9) (N := some 34) (v := ?_) (a' := ?_) #[true, true, true, true, true, true, true, true, true, true, false, false, false] rfl rfl (any_of HT_.out (by kernel_rfl)) (fun _ _ _ h => h) (Or.inl ⟨by rfl, ?_⟩) ?_ ?_
    rotate_left
    · intro w'
      go_simp
      with_reducible rfl
    rotate_left
    · simp only [Act.put, List.setIfInBounds_toArray, List.set_cons_zero, List.set_cons_succ, i64_w, i32_w]
      rfl
    refine one_ (i := 10) (N := some 35) #[true, true, true, true, true, true, true, true, true, true, true, false, false] rfl rfl (one_of HT_.out (by kernel_rfl)) (by decide) (fun K hK => ?_)
    have HB5 := Aside0.mk hHeld.1
    refine value_ (w1 := ?_) (v := ?_) (by rfl) rfl ?_ ?_
    rotate_left 2
    · go_simp
      constructor
      · rfl
      · rfl
    refine hK.out _ _ ⟨(below_alloc hHeld.1 _), (pw_cell_below (below_alloc (Below.refl _ _) _) hHeld.2.1), (pw_cell_below (below_alloc (Below.refl _ _) _) hHeld.2.2)⟩ (fun hHeld => ?_)
    clear hK K
    refine norm_ (a' := ?_) ?_ ?_
    rotate_left
    · show Act.put _ (some 35) _ = _
      simp only [Act.put, List.setIfInBounds_toArray, List.set_cons_zero, List.set_cons_succ, i64_w, i32_w]
      rfl
    refine last_ (i := 11) (N := some 36) #[true, true, true, true, true, true, true, true, true, true, true, true, false] rfl rfl (one_of HT_.out (by kernel_rfl)) (by decide) (fun K hK => ?_)
    refine Kd.R_append_step k32 (w0 := w3) w3.heap.size (by rfl) (.tmp 25) (.tmp 35) 22 32 (.agg #[.string ⟨#[]⟩, .string ⟨#[]⟩]) 32 rfl Tryd.underlying22 info32 rfl (by decide) (by decide) V (os.take k) o [.string o.f0, .string o.f1] (fun _ => True) (fun _ => False) rfl ?hx (k32_mkM _ _ _ o) (fun _ h => h.elim) (fun _ _ => trivial) (Kd.R_below HR0.out HB5.out) (HB4.out.trans (HB5.out.mono HB4.out.size)) ?hbase ?hlen ?_
    case hx => first | (go_simp; done) | (simp [Act.eval]; done)
    case hbase => exact Nat.le_trans HB4.out.size HB5.out.size
    case hlen => have := HN.out; omega
    intro v7 w7 ho7 hb7 hg7 hat7
    have HR7 := Aside0.mk ho7
    have HB7 := Aside0.mk hb7
    clear ho7 hb7 hg7 hat7
    refine hK.out _ _ ?_
    clear hK K
    refine norm_ (a' := ?_) ?_ ?_
    rotate_left
    · show Act.put _ (some 36) _ = _
      simp only [Act.put, List.setIfInBounds_toArray, List.set_cons_zero, List.set_cons_succ, i64_w, i32_w]
      rfl
    refine pure_ (i := 12) (N := some 6) (v := ?_) (a' := ?_) #[true, true, true, true, true, true, true, true, true, true, true, true, true] rfl rfl (any_of HT_.out (by kernel_rfl)) (fun _ _ _ h => h) (Or.inl ⟨by rfl, ?_⟩) ?_ ?_
    rotate_left
    · intro w'
      go_simp
      with_reducible rfl
    rotate_left
    · simp only [Act.put, List.setIfInBounds_toArray, List.set_cons_zero, List.set_cons_succ, i64_w, i32_w]
      rfl
    refine done_ (done_of HT_.out (by kernel_rfl)) ?_
    go_wp2
    go_roundg g0
    case measure => omega
    case rel => exact ⟨k + 1, v7, rfl, by push_cast; rfl, ⟨by have := HK.out; omega⟩, ⟨HB3.out.trans (HB7.out.mono HB3.out.size)⟩, HB7, ⟨by rw [HTK.out]; exact HR7.out⟩⟩
#print axioms readReport
end Go.Proofs.YtlkenmpbhchieaaDoor.HandT
