/- impl.entriesOf, walked. -/
import Derived.Test.YtddnepddilbikaaDoorSrtL
set_option linter.unusedVariables false
set_option linter.unusedSimpArgs false
namespace Go.Proofs.YtddnepddilbikaaDoor.ObjL
open Go.RowKit Go.Proofs.YtddnepddilbikaaDoorW.PrintWords Go.Proofs.YtddnepddilbikaaDoorW.PrintLast Go.Proofs.YtddnepddilbikaaDoorW.PrintMore Go.Proofs.YtddnepddilbikaaDoor.QAll Ptr SrtL

/-- The cells of an entry. -/
def cellsE (x : S44) : List Value := .string x.f0 :: .int .u32 x.f1 :: hcells (hb x.f2)
/-- Entries of trees as they lie in a row. -/
def kT : Kd S44 where
  sz := 22
  E := []
  K := fun _ x cs => cs = cellsE x
  M := fun _ _ _ x cs => cs = cellsE x
  K_len := by
    rintro w x cs rfl
    rfl
  K_one := by
    rintro w x cs rfl v hv
    unfold cellsE at hv
    rcases List.mem_cons.1 hv with rfl | hv
    · rfl
    · rcases List.mem_cons.1 hv with rfl | hv
      · rfl
      · exact hcells_one _ v hv
  K_below := fun _ h => h
  K_of_M := fun h => h
  M_mono := fun _ h => h
  M_bound := fun h => h
  M_move := fun _ h => h
  M_lower := fun _ h => h
theorem kT_mk {w : World} {b : Nat} {ok : Nat → Prop} (s : S44) : kT.M w b ok s [.string s.f0, .int .u32 s.f1, .int .u8 (hb s.f2 0), .int .u8 (hb s.f2 1), .int .u8 (hb s.f2 2), .int .u8 (hb s.f2 3), .int .u8 (hb s.f2 4), .int .u8 (hb s.f2 5), .int .u8 (hb s.f2 6), .int .u8 (hb s.f2 7), .int .u8 (hb s.f2 8), .int .u8 (hb s.f2 9), .int .u8 (hb s.f2 10), .int .u8 (hb s.f2 11), .int .u8 (hb s.f2 12), .int .u8 (hb s.f2 13), .int .u8 (hb s.f2 14), .int .u8 (hb s.f2 15), .int .u8 (hb s.f2 16), .int .u8 (hb s.f2 17), .int .u8 (hb s.f2 18), .int .u8 (hb s.f2 19)] := rfl
theorem info95 : (Tryd.prog.info? 95).map (fun i => (i.zero, i.size, i.bytes)) = some (some (.agg #[.string ⟨#[]⟩, .int .u32 0, .int .u8 0, .int .u8 0, .int .u8 0, .int .u8 0, .int .u8 0, .int .u8 0, .int .u8 0, .int .u8 0, .int .u8 0, .int .u8 0, .int .u8 0, .int .u8 0, .int .u8 0, .int .u8 0, .int .u8 0, .int .u8 0, .int .u8 0, .int .u8 0, .int .u8 0, .int .u8 0]), 22, 40) := by kernel_rfl
theorem rdT44 (l : List S44) (i : Nat) (hi : i < l.length) : rd_T44 l (i : Int) = l[i] := by
  unfold rd_T44
  rw [Int.toNat_natCast, List.getD_eq_getElem?_getD, List.getElem?_eq_getElem hi]
  rfl
def ent5.T5 : Bool × List (List Nat × List Nat) := (true, [([], []), ([], []), ([1], [1]), ([], []), ([3], [3]), ([], []), ([5], [5]), ([6], [6]), ([2, 4, 7], [2, 4, 7]), ([8], [8]), ([0, 9, 7], [0, 9]), ([10, 10, 0, 1, 2, 3, 4, 5, 6, 7, 8, 9, 10], [0, 10])])
def ent5.B5 : List Nat := [0, 0, 2, 0, 8, 0, 32, 96, 254, 510, 1023, 2047]
theorem ent5.tab5 : rtab .any (opsOf Tryd.f22 5) = ent5.T5 := by kernel_rfl
theorem ent5.bits5 : waitsOk ent5.T5.2 ent5.B5 = true := by kernel_rfl

set_option maxHeartbeats 16000000 in
set_option maxRecDepth 100000 in
theorem entriesOf (A0 : Option Addr) (c : Nat) (l : List S44) (ev : Value) (w : World) (hC : Kd.C k44 w A0 l.length l) (hn : l.length ≤ 1000) (hE : w.cell? ⟨2, 0, none⟩ = some ev) (hg : ∀ s ∈ l, s.f2.size = 40 ∧ (dec s.f2).length = 20) :
    Calls Tryd.prog 22 #[.slice A0 l.length c] w fun e w' => ∃ v, e = .returned v ∧ kT.R 95 w' w.heap.size (fun _ => True) v l ∧ Below w.heap.size w w' := by
  have HC := Aside0.mk hC
  have HN := Aside0.mk hn
  have HE := Aside0.mk hE
  have HGA := Aside0.mk hg
  have hu44 := Tryd.underlying44
  clear hC hn hE hg
  go_enter Tryd.func22, Tryd.ntmps22
  go_wp2
  go_loopg [3, 8] l.length (fun gk v3 v8 w' => ∃ (k : Nat) (V : Value), v3 = V ∧ v8 = .int .i64 (k : Int) ∧ Aside0 (k + gk = l.length) ∧ Aside0 (Below w.heap.size w w') ∧ Aside0 (kT.R 95 w' w.heap.size (fun _ => True) V (l.take k)))
  case atStart => exact ⟨0, .slice none 0 0, rfl, rfl, ⟨by omega⟩, ⟨Below.refl _ _⟩, ⟨Kd.R_nil _ _ _ _ _⟩⟩
  case round =>
    obtain ⟨k, V, hV, rfl, HK, HB, HR⟩ := hrel
    replace hV := hV.symm
    subst hV
    by_cases hlt : k < l.length
    rotate_left
    · obtain rfl : k = l.length := by have := HK.out; omega
      have hR := HR.out
      rw [List.take_length] at hR
      have HR2 := Aside0.mk hR
      clear hR
      go_wp2
      go_ret
      exact ⟨V, rfl, HR2.out, HB.out⟩
    obtain ⟨g0, rfl⟩ : ∃ m, gk = m + 1 := ⟨gk - 1, by have := HK.out; omega⟩
    have hk1 : (k : Int) < (l.length : Int) := by omega
    have hk2 : (k : Int) < 1001 := by have := HN.out; omega
    obtain ⟨ad, rfl, hx0, hx1, hx2⟩ := at_T44 (Kd.C_below HC.out HB.out) (k : Int) (by omega) hk1
    rw [rdT44 l k hlt, Int.toNat_natCast] at hx0 hx1 hx2
    have HTK : Aside0 (l.take (k + 1) = l.take k ++ [l[k]]) := ⟨by rw [List.take_succ_eq_append_getElem hlt]⟩
    have HG := Aside0.mk (HGA.out l[k] (List.getElem_mem hlt))
    generalize l[k] = s at hx0 hx1 hx2 HTK HG
    have HWK : Aside0 (wrap64 ((k : Int) + 1) = ((k + 1 : Nat) : Int)) := ⟨by unfold wrap64; omega⟩
    go_upto_region 5 with fail
    have hg0 : (wr.alloc (.cells #[.string s.f0, .int .u32 s.f1, .string s.f2] 44)).heap[wr.heap.size]? = some (.cells #[.string s.f0, .int .u32 s.f1, .string s.f2] 44 (0, 0)) := blk_new _ _
    have HBA : Aside0 (Below w.heap.size w (wr.alloc (.cells #[.string s.f0, .int .u32 s.f1, .string s.f2] 44))) := ⟨below_alloc HB.out _⟩
    have HRA : Aside0 (kT.R 95 (wr.alloc (.cells #[.string s.f0, .int .u32 s.f1, .string s.f2] 44)) w.heap.size (fun _ => True) V (l.take k)) := ⟨Kd.R_below HR.out (below_alloc (Below.refl _ _) _)⟩
    generalize wr.alloc (.cells #[.string s.f0, .int .u32 s.f1, .string s.f2] 44) = wa at hg0 HBA HRA ⊢
    obtain ⟨gc, hgc⟩ : ∃ gc, gc = wr.heap.size := ⟨_, rfl⟩
    rw [← hgc] at hg0
    simp only [← hgc]
    clear hgc hx0 hx1 hx2
    have q0 : Below w.heap.size w wa.drew ∧ kT.R 95 wa.drew w.heap.size (fun _ => True) V (l.take k) ∧ wa.drew.cell? ⟨2, 0, none⟩ = some ev := ⟨HBA.out.trans ((below_drew1 (Below.refl _ _)).mono HBA.out.size), Kd.R_below HRA.out (below_drew1 (Below.refl _ _)), pw_cell_below (HBA.out.trans ((below_drew1 (Below.refl _ _)).mono HBA.out.size)) HE.out⟩
    have q1 : wa.drew.cell? ⟨gc, 0, none⟩ = some (.string s.f0) := (blk_cell hg0 0).trans rfl
    have q2 : wa.drew.cell? ⟨gc, 1, none⟩ = some (.int .u32 s.f1) := (blk_cell hg0 1).trans rfl
    have q3 : wa.drew.cell? ⟨gc, 2, none⟩ = some (.string s.f2) := (blk_cell hg0 2).trans rfl
    clear hg0
    refine start_ (n := 12) (S := fun w' => (Below w.heap.size w w' ∧ kT.R 95 w' w.heap.size (fun _ => True) V (l.take k) ∧ w'.cell? ⟨2, 0, none⟩ = some ev) ∧ w'.cell? ⟨gc, 0, none⟩ = some (.string s.f0) ∧ w'.cell? ⟨gc, 1, none⟩ = some (.int .u32 s.f1) ∧ w'.cell? ⟨gc, 2, none⟩ = some (.string s.f2)) (ds := [10]) #[false, false, false, false, false, false, false, false, false, false, false, false] (by kernel_rfl) rfl rfl ⟨q0, q1, q2, q3⟩ (fun hHeld => ?_)
    refine with_tabW ent5.tab5 ent5.bits5 (fun HT_ HW_ => ?_)
    generalize World.drew _ = wd at hHeld ⊢
    refine pure_ (i := 0) (N := some 12) (v := ?_) (a' := ?_) #[true, false, false, false, false, false, false, false, false, false, false, false] rfl rfl (any_of HT_.out (by kernel_rfl)) (fun _ _ _ h => h) (Or.inl ⟨by rfl, ?_⟩) ?_ ?_
    rotate_left
    · intro w'
      go_simp
      with_reducible rfl
    rotate_left
    · simp only [Act.put, List.setIfInBounds_toArray, List.set_cons_zero, List.set_cons_succ, i64_w, i32_w]
      rfl
    refine pure_ (i := 1) (N := some 13) (v := ?_) (a' := ?_) #[true, true, false, false, false, false, false, false, false, false, false, false] rfl rfl (any_of HT_.out (by kernel_rfl)) (fun _ _ _ h => h) (Or.inl ⟨by rfl, ?_⟩) ?_ ?_
    rotate_left
    · intro w'
      go_simp
      with_reducible rfl
    rotate_left
    · simp only [Act.put, List.setIfInBounds_toArray, List.set_cons_zero, List.set_cons_succ, i64_w, i32_w]
      rfl
    refine pure_ (i := 3) (N := some 15) (v := ?_) (a' := ?_) #[true, true, false, true, false, false, false, false, false, false, false, false] rfl rfl (any_of HT_.out (by kernel_rfl)) (fun _ _ _ h => h) (Or.inl ⟨by rfl, ?_⟩) ?_ ?_
    rotate_left
    · intro w'
      go_simp
      with_reducible rfl
    rotate_left
    · simp only [Act.put, List.setIfInBounds_toArray, List.set_cons_zero, List.set_cons_succ, i64_w, i32_w]
      rfl
    refine pure_ (i := 5) (N := some 17) (v := ?_) (a' := ?_) #[true, true, false, true, false, true, false, false, false, false, false, false] rfl rfl (any_of HT_.out (by kernel_rfl)) (fun _ _ _ h => h) (Or.inl ⟨by rfl, ?_⟩) ?_ ?_
    rotate_left
    · intro w'
      go_simp
      with_reducible rfl
    rotate_left
    · simp only [Act.put, List.setIfInBounds_toArray, List.set_cons_zero, List.set_cons_succ, i64_w, i32_w]
      rfl
    refine take_ (i := 2) (N := some 14) (v := ?_) (a' := ?_) #[true, true, true, true, false, true, false, false, false, false, false, false] rfl rfl (take_ofW HT_.out HW_.out (by kernel_rfl)) (fun _ _ _ h => h) (Or.inl ⟨by rfl, ?_⟩) hHeld ?_ ?_
    rotate_left
    · rintro w' ⟨s0, s1, s2, s3⟩
      go_simp
      with_reducible rfl
    rotate_left
    · simp only [Act.put, List.setIfInBounds_toArray, List.set_cons_zero, List.set_cons_succ, i64_w, i32_w]
      rfl
    refine take_ (i := 4) (N := some 16) (v := ?_) (a' := ?_) #[true, true, true, true, true, true, false, false, false, false, false, false] rfl rfl (take_ofW HT_.out HW_.out (by kernel_rfl)) (fun _ _ _ h => h) (Or.inl ⟨by rfl, ?_⟩) hHeld ?_ ?_
    rotate_left
    · rintro w' ⟨s0, s1, s2, s3⟩
      go_simp
      with_reducible rfl
    rotate_left
    · simp only [Act.put, List.setIfInBounds_toArray, List.set_cons_zero, List.set_cons_succ, i64_w, i32_w]
      rfl
    refine take_ (i := 6) (N := some 18) (v := ?_) (a' := ?_) #[true, true, true, true, true, true, true, false, false, false, false, false] rfl rfl (take_ofW HT_.out HW_.out (by kernel_rfl)) (fun _ _ _ h => h) (Or.inl ⟨by rfl, ?_⟩) hHeld ?_ ?_
    rotate_left
    · rintro w' ⟨s0, s1, s2, s3⟩
      go_simp
      with_reducible rfl
    rotate_left
    · simp only [Act.put, List.setIfInBounds_toArray, List.set_cons_zero, List.set_cons_succ, i64_w, i32_w]
      rfl
    refine one_ (i := 7) (N := some 19) #[true, true, true, true, true, true, true, true, false, false, false, false] rfl rfl (one_of HT_.out (by kernel_rfl)) (by decide) (fun K hK => ?_)
    refine goes_ Tryd.func32 (by kernel_rfl) rfl #[.string s.f2] (by rfl) rfl rfl (by simp only [List.map_toArray, List.map_cons, List.map_nil]; rfl) ?_
    with_reducible refine ((newHash s.f2 (hb s.f2) (fun _ _ => rfl) ev _ hHeld.1.2.2 HG.out.1 HG.out.2)).mono ?_
    rintro e w7 ⟨rfl, hb7⟩
    refine ⟨_, rfl, ?_⟩
    refine hK.out _ _ ⟨⟨hHeld.1.1.trans (hb7.mono hHeld.1.1.size), Kd.R_below hHeld.1.2.1 hb7, pw_cell_below hb7 hHeld.1.2.2⟩, (pw_cell_below hb7 hHeld.2.1), (pw_cell_below hb7 hHeld.2.2.1), (pw_cell_below hb7 hHeld.2.2.2)⟩ (fun hHeld => ?_)
    clear hK K
    refine norm_ (a' := ?_) ?_ ?_
    rotate_left
    · show Act.put _ (some 19) _ = _
      simp only [Act.put, List.setIfInBounds_toArray, List.set_cons_zero, List.set_cons_succ, i64_w, i32_w]
      rfl
    refine pure_ (i := 8) (N := some 20) (v := ?_) (a' := ?_) #[true, true, true, true, true, true, true, true, true, false, false, false] rfl rfl (any_of HT_.out (by kernel_rfl)) (fun _ _ _ h => h) (Or.inl ⟨by rfl, ?_⟩) ?_ ?_
    rotate_left
    · intro w'
      go_simp
      with_reducible rfl
    rotate_left
    · simp only [Act.put, List.setIfInBounds_toArray, List.set_cons_zero, List.set_cons_succ, i64_w, i32_w]
      rfl
    refine one_ (i := 9) (N := some 21) #[true, true, true, true, true, true, true, true, true, true, false, false] rfl rfl (one_of HT_.out (by kernel_rfl)) (by decide) (fun K hK => ?_)
    have HS9 := Aside0.mk hHeld.1
    refine value_ (w1 := ?_) (v := ?_) (by rfl) rfl ?_ ?_
    rotate_left 2
    · go_simp
      constructor
      · rfl
      · rfl
    refine hK.out _ _ ⟨⟨hHeld.1.1.trans ((below_alloc (Below.refl _ _) _).mono hHeld.1.1.size), Kd.R_below hHeld.1.2.1 (below_alloc (Below.refl _ _) _), pw_cell_below (below_alloc (Below.refl _ _) _) hHeld.1.2.2⟩, (pw_cell_below (below_alloc (Below.refl _ _) _) hHeld.2.1), (pw_cell_below (below_alloc (Below.refl _ _) _) hHeld.2.2.1), (pw_cell_below (below_alloc (Below.refl _ _) _) hHeld.2.2.2)⟩ (fun hHeld => ?_)
    clear hK K
    refine norm_ (a' := ?_) ?_ ?_
    rotate_left
    · show Act.put _ (some 21) _ = _
      simp only [Act.put, List.setIfInBounds_toArray, List.set_cons_zero, List.set_cons_succ, i64_w, i32_w]
      rfl
    refine last_ (i := 10) (N := some 22) #[true, true, true, true, true, true, true, true, true, true, true, false] rfl rfl (one_of HT_.out (by kernel_rfl)) (by decide) (fun K hK => ?_)
    refine Kd.R_append_step kT (w0 := w) w.heap.size (by rfl) (.tmp 12) (.tmp 21) 48 95 (.agg #[.string ⟨#[]⟩, .int .u32 0, .int .u8 0, .int .u8 0, .int .u8 0, .int .u8 0, .int .u8 0, .int .u8 0, .int .u8 0, .int .u8 0, .int .u8 0, .int .u8 0, .int .u8 0, .int .u8 0, .int .u8 0, .int .u8 0, .int .u8 0, .int .u8 0, .int .u8 0, .int .u8 0, .int .u8 0, .int .u8 0]) 40 rfl Tryd.underlying48 info95 rfl (by decide) (by decide) V (l.take k) s [.string s.f0, .int .u32 s.f1, .int .u8 (hb s.f2 0), .int .u8 (hb s.f2 1), .int .u8 (hb s.f2 2), .int .u8 (hb s.f2 3), .int .u8 (hb s.f2 4), .int .u8 (hb s.f2 5), .int .u8 (hb s.f2 6), .int .u8 (hb s.f2 7), .int .u8 (hb s.f2 8), .int .u8 (hb s.f2 9), .int .u8 (hb s.f2 10), .int .u8 (hb s.f2 11), .int .u8 (hb s.f2 12), .int .u8 (hb s.f2 13), .int .u8 (hb s.f2 14), .int .u8 (hb s.f2 15), .int .u8 (hb s.f2 16), .int .u8 (hb s.f2 17), .int .u8 (hb s.f2 18), .int .u8 (hb s.f2 19)] (fun _ => True) (fun _ => False) rfl ?hx (kT_mk s) (fun _ h => h.elim) (fun _ _ => trivial) HS9.out.2.1 HS9.out.1 HS9.out.1.size ?hlen ?_
    case hx => first | (go_simp; done) | (simp [Act.eval]; done)
    case hlen => rw [List.length_take]; have := HN.out; omega
    intro v9 w9 ho9 hb9 hg9 hat9
    have HR9 := Aside0.mk ho9
    have HB9 := Aside0.mk hb9
    clear ho9 hb9 hg9 hat9
    refine hK.out _ _ ?_
    clear hK K
    refine norm_ (a' := ?_) ?_ ?_
    rotate_left
    · show Act.put _ (some 22) _ = _
      simp only [Act.put, List.setIfInBounds_toArray, List.set_cons_zero, List.set_cons_succ, i64_w, i32_w]
      rfl
    refine pure_ (i := 11) (N := some 3) (v := ?_) (a' := ?_) #[true, true, true, true, true, true, true, true, true, true, true, true] rfl rfl (any_of HT_.out (by kernel_rfl)) (fun _ _ _ h => h) (Or.inl ⟨by rfl, ?_⟩) ?_ ?_
    rotate_left
    · intro w'
      go_simp
      with_reducible rfl
    rotate_left
    · simp only [Act.put, List.setIfInBounds_toArray, List.set_cons_zero, List.set_cons_succ, i64_w, i32_w]
      rfl
    refine done_ (done_of HT_.out (by kernel_rfl)) ?_
    go_wp2
    go_roundg g0
    case measure => omega
    case rel => exact ⟨k + 1, v9, rfl, by first | rfl | rw [HWK.out] | (push_cast; rfl), ⟨by have := HK.out; omega⟩, HB9, ⟨by rw [HTK.out]; exact HR9.out⟩⟩
#print axioms entriesOf
end Go.Proofs.YtddnepddilbikaaDoor.ObjL
