/- impl.plainOptions, walked. impl.sectionsOf, walked. impl.SetOption, impl.AddOption, walked. -/
import Derived.Test.YtacndeejapfkiaaDoorHandR
import Derived.Test.YtacndeejapfkiaaDoorPureU
set_option linter.unusedVariables false
set_option linter.unusedSimpArgs false
namespace Go.Proofs.YtacndeejapfkiaaDoor.HandS
open Go.RowKit Go.Proofs.YtacndeejapfkiaaDoorW.PrintWords Go.Proofs.YtacndeejapfkiaaDoorW.PrintLast Go.Proofs.YtacndeejapfkiaaDoorW.PrintMore Go.Proofs.YtacndeejapfkiaaDoor.QAll Txt Ptr SepK HandA HandB HandC HandD HandE HandF HandM PureS HandN HandO HandP HandQ HandR

theorem info42 : (Tryd.prog.info? 42).map (fun i => (i.zero, i.size, i.bytes)) = some (some (.agg #[.string ⟨#[]⟩, .string ⟨#[]⟩]), 2, 32) := by kernel_rfl
def plainOpts.T5 : Bool × List (List Nat × List Nat) := (true, [([], []), ([], []), ([1], [1]), ([2], [2]), ([3], [3]), ([], []), ([5], [5]), ([6], [6]), ([7], [7]), ([4, 8], [4, 8]), ([9], [9]), ([0, 10], [0, 10]), ([11, 11, 0, 1, 2, 3, 4, 5, 6, 7, 8, 9, 10, 11], [0, 11])])
def plainOpts.B5 : List Nat := [0, 0, 2, 6, 14, 0, 32, 96, 224, 510, 1022, 2047, 4095]
theorem plainOpts.tab5 : rtab .any (opsOf Tryd.f33 5) = plainOpts.T5 := by kernel_rfl
theorem plainOpts.bits5 : waitsOk plainOpts.T5.2 plainOpts.B5 = true := by kernel_rfl

set_option maxHeartbeats 8000000 in
set_option maxRecDepth 100000 in
theorem plainOptions (A : Option Addr) (c : Nat) (os : List S42) (w : World) (hC : kO.C w A os.length os) (hl : os.length ≤ 1001) :
    Calls Tryd.prog 33 #[.slice A os.length c] w fun e w' => ∃ v, e = .returned v ∧ k42.R 42 w' w.heap.size (fun _ => True) v os ∧ Below w.heap.size w w' := by
  have hu42 := Tryd.underlying42
  have HC := Aside0.mk hC
  have HL := Aside0.mk hl
  clear hC hl
  go_enter Tryd.func33, Tryd.ntmps33
  go_wp2
  go_loopg [3, 8] os.length (fun gk v3 v8 w' => ∃ (k : Nat) (V : Value), v3 = V ∧ v8 = .int .i64 (k : Int) ∧ Aside0 (k + gk = os.length) ∧ Aside0 (Below w.heap.size w w') ∧ Aside0 (k42.R 42 w' w.heap.size (fun _ => True) V (os.take k)))
  case atStart => exact ⟨0, _, rfl, rfl, ⟨by omega⟩, ⟨Below.refl _ _⟩, ⟨Kd.R_nil _ _ _ _ _⟩⟩
  case round =>
    obtain ⟨k, V, hV, rfl, HK, HB, HR⟩ := hrel
    replace hV := hV.symm
    subst hV
    by_cases hlt : k < os.length
    rotate_left
    · obtain rfl : k = os.length := by have := HK.out; omega
      have hR := HR.out
      rw [List.take_length] at hR
      have HR2 := Aside0.mk hR
      clear hR
      go_wp2
      go_ret
      exact ⟨_, rfl, HR2.out, HB.out⟩
    obtain ⟨g0, rfl⟩ : ∃ m, gk = m + 1 := ⟨gk - 1, by have := HK.out; omega⟩
    have hk1 : (k : Int) < (os.length : Int) := by omega
    have hk2 : (k : Int) < 1001 := by have := HL.out; omega
    obtain ⟨ad, v, rfl, hK, hcell⟩ := at_ptr z42 rfl (Kd.C_below HC.out HB.out) k hlt
    obtain ⟨g, hv, hg⟩ := kO_open hK
    obtain rfl : v = .pointer (some ⟨g, 0, none⟩) := by simpa using hv
    have hgt := getD_at os z42 k hlt
    generalize os.getD k z42 = o at hK hg hgt hv
    have HTK : Aside0 (os.take (k + 1) = os.take k ++ [o]) := ⟨by rw [List.take_add_one, hgt]; rfl⟩
    have HN : Aside0 ((os.take k).length ≤ 1001) := ⟨by rw [List.length_take]; have := HL.out; have := Nat.min_le_right k os.length; omega⟩
    have q0 : Below wr.heap.size wr wr.drew := below_drew1 (Below.refl _ _)
    have q1 : wr.drew.cell? ⟨g, 0, none⟩ = some (.string o.f0) := (blk_cell (blk_drew hg) 0).trans rfl
    have q2 : wr.drew.cell? ⟨g, 1, none⟩ = some (.string o.f1) := (blk_cell (blk_drew hg) 1).trans rfl
    clear hK hg hgt hv
    go_upto_region 5 with fail
    refine start_ (n := 13) (S := fun w' => Below wr.heap.size wr w' ∧ w'.cell? ⟨g, 0, none⟩ = some (.string o.f0) ∧ w'.cell? ⟨g, 1, none⟩ = some (.string o.f1)) (ds := [11]) #[false, false, false, false, false, false, false, false, false, false, false, false, false] (by kernel_rfl) rfl rfl ⟨q0, q1, q2⟩ (fun hHeld => ?_)
    refine with_tabW plainOpts.tab5 plainOpts.bits5 (fun HT_ HW_ => ?_)
    generalize World.drew _ = wd at hHeld ⊢
    refine pure_ (i := 0) (N := some 12) (v := ?_) (a' := ?_) #[true, false, false, false, false, false, false, false, false, false, false, false, false] rfl rfl (any_of HT_.out (by kernel_rfl)) (fun _ _ _ h => h) (Or.inl ⟨by rfl, ?_⟩) ?_ ?_
    rotate_left
    · intro w'
      go_simp
      with_reducible rfl
    rotate_left
    · simp only [Act.put, List.setIfInBounds_toArray, List.set_cons_zero, List.set_cons_succ, i64_w, i32_w]
      rfl
    refine pure_ (i := 1) (N := some 13) (v := ?_) (a' := ?_) #[true, true, false, false, false, false, false, false, false, false, false, false, false] rfl rfl (any_of HT_.out (by kernel_rfl)) (fun _ _ _ h => h) (Or.inl ⟨by rfl, ?_⟩) ?_ ?_
    rotate_left
    · intro w'
      go_simp
      with_reducible rfl
    rotate_left
    · simp only [Act.put, List.setIfInBounds_toArray, List.set_cons_zero, List.set_cons_succ, i64_w, i32_w]
      rfl
    refine pure_ (i := 2) (N := some 14) (v := ?_) (a' := ?_) #[true, true, true, false, false, false, false, false, false, false, false, false, false] rfl rfl (any_of HT_.out (by kernel_rfl)) (fun _ _ _ h => h) (Or.inl ⟨by rfl, ?_⟩) ?_ ?_
    rotate_left
    · intro w'
      go_simp
      with_reducible rfl
    rotate_left
    · simp only [Act.put, List.setIfInBounds_toArray, List.set_cons_zero, List.set_cons_succ, i64_w, i32_w]
      rfl
    refine pure_ (i := 3) (N := some 15) (v := ?_) (a' := ?_) #[true, true, true, true, false, false, false, false, false, false, false, false, false] rfl rfl (any_of HT_.out (by kernel_rfl)) (fun _ _ _ h => h) (Or.inl ⟨by rfl, ?_⟩) ?_ ?_
    rotate_left
    · intro w'
      go_simp
      with_reducible rfl
    rotate_left
    · simp only [Act.put, List.setIfInBounds_toArray, List.set_cons_zero, List.set_cons_succ, i64_w, i32_w]
      rfl
    refine pure_ (i := 5) (N := some 17) (v := ?_) (a' := ?_) #[true, true, true, true, false, true, false, false, false, false, false, false, false] rfl rfl (any_of HT_.out (by kernel_rfl)) (fun _ _ _ h => h) (Or.inl ⟨by rfl, ?_⟩) ?_ ?_
    rotate_left
    · intro w'
      go_simp
      with_reducible rfl
    rotate_left
    · simp only [Act.put, List.setIfInBounds_toArray, List.set_cons_zero, List.set_cons_succ, i64_w, i32_w]
      rfl
    refine pure_ (i := 6) (N := some 18) (v := ?_) (a' := ?_) #[true, true, true, true, false, true, true, false, false, false, false, false, false] rfl rfl (any_of HT_.out (by kernel_rfl)) (fun _ _ _ h => h) (Or.inl ⟨by rfl, ?_⟩) ?_ ?_
    rotate_left
    · intro w'
      go_simp
      with_reducible rfl
    rotate_left
    · simp only [Act.put, List.setIfInBounds_toArray, List.set_cons_zero, List.set_cons_succ, i64_w, i32_w]
      rfl
    refine pure_ (i := 7) (N := some 19) (v := ?_) (a' := ?_) #[true, true, true, true, false, true, true, true, false, false, false, false, false] rfl rfl (any_of HT_.out (by kernel_rfl)) (fun _ _ _ h => h) (Or.inl ⟨by rfl, ?_⟩) ?_ ?_
    rotate_left
    · intro w'
      go_simp
      with_reducible rfl
    rotate_left
    · simp only [Act.put, List.setIfInBounds_toArray, List.set_cons_zero, List.set_cons_succ, i64_w, i32_w]
      rfl
    refine take_ (i := 4) (N := some 16) (v := ?_) (a' := ?_) #[true, true, true, true, true, true, true, true, false, false, false, false, false] rfl rfl (take_ofW HT_.out HW_.out (by kernel_rfl)) (fun _ _ _ h => h) (Or.inl ⟨by rfl, ?_⟩) hHeld ?_ ?_
    rotate_left
    · rintro w' ⟨s0, s1, s2⟩
      go_simp
      with_reducible rfl
    rotate_left
    · simp only [Act.put, List.setIfInBounds_toArray, List.set_cons_zero, List.set_cons_succ, i64_w, i32_w]
      rfl
    refine take_ (i := 8) (N := some 20) (v := ?_) (a' := ?_) #[true, true, true, true, true, true, true, true, true, false, false, false, false] rfl rfl (take_ofW HT_.out HW_.out (by kernel_rfl)) (fun _ _ _ h => h) (Or.inl ⟨by rfl, ?_⟩) hHeld ?_ ?_
    rotate_left
    · rintro w' ⟨s0, s1, s2⟩
      go_simp
      with_reducible rfl
    rotate_left
    · simp only [Act.put, List.setIfInBounds_toArray, List.set_cons_zero, List.set_cons_succ, i64_w, i32_w]
      rfl
    refine pure_ (i := 9) (N := some 21) (v := ?_) (a' := ?_) #[true, true, true, true, true, true, true, true, true, true, false, false, false] rfl rfl (any_of HT_.out (by kernel_rfl)) (fun _ _ _ h => h) (Or.inl ⟨by rfl, ?_⟩) ?_ ?_
    rotate_left
    · intro w'
      go_simp
      with_reducible rfl
    rotate_left
    · simp only [Act.put, List.setIfInBounds_toArray, List.set_cons_zero, List.set_cons_succ, i64_w, i32_w]
      rfl
    refine one_ (i := 10) (N := some 22) #[true, true, true, true, true, true, true, true, true, true, true, false, false] rfl rfl (one_of HT_.out (by kernel_rfl)) (by decide) (fun K hK => ?_)
    have HB5 := Aside0.mk hHeld.1
    refine value_ (w1 := ?_) (v := ?_) (by rfl) rfl ?_ ?_
    rotate_left 2
    · go_simp
      constructor
      · rfl
      · rfl
    refine hK.out _ _ ⟨(below_alloc hHeld.1 _), (pw_cell_below (below_alloc (Below.refl _ _) _) hHeld.2.1), (pw_cell_below (below_alloc (Below.refl _ _) _) hHeld.2.2)⟩ (fun hHeld => ?_)
    clear hK K
    refine norm_ (a' := ?_) ?_ ?_
    rotate_left
    · show Act.put _ (some 22) _ = _
      simp only [Act.put, List.setIfInBounds_toArray, List.set_cons_zero, List.set_cons_succ, i64_w, i32_w]
      rfl
    refine last_ (i := 11) (N := some 23) #[true, true, true, true, true, true, true, true, true, true, true, true, false] rfl rfl (one_of HT_.out (by kernel_rfl)) (by decide) (fun K hK => ?_)
    refine Kd.R_append_step k42 (w0 := w) w.heap.size (by rfl) (.tmp 12) (.tmp 22) 29 42 (.agg #[.string ⟨#[]⟩, .string ⟨#[]⟩]) 32 rfl Tryd.underlying29 info42 rfl (by decide) (by decide) V (os.take k) o [.string o.f0, .string o.f1] (fun _ => True) (fun _ => False) rfl ?hx (k42_mkM _ _ _ o) (fun _ h => h.elim) (fun _ _ => trivial) (Kd.R_below HR.out HB5.out) (HB.out.trans (HB5.out.mono HB.out.size)) ?hbase ?hlen ?_
    case hx => first | (go_simp; done) | (simp [Act.eval]; done)
    case hbase => exact Nat.le_trans HB.out.size HB5.out.size
    case hlen => have := HN.out; omega
    intro v7 w7 ho7 hb7 hg7 hat7
    have HR7 := Aside0.mk ho7
    have HB7 := Aside0.mk hb7
    clear ho7 hb7 hg7 hat7
    refine hK.out _ _ ?_
    clear hK K
    refine norm_ (a' := ?_) ?_ ?_
    rotate_left
    · show Act.put _ (some 23) _ = _
      simp only [Act.put, List.setIfInBounds_toArray, List.set_cons_zero, List.set_cons_succ, i64_w, i32_w]
      rfl
    refine pure_ (i := 12) (N := some 3) (v := ?_) (a' := ?_) #[true, true, true, true, true, true, true, true, true, true, true, true, true] rfl rfl (any_of HT_.out (by kernel_rfl)) (fun _ _ _ h => h) (Or.inl ⟨by rfl, ?_⟩) ?_ ?_
    rotate_left
    · intro w'
      go_simp
      with_reducible rfl
    rotate_left
    · simp only [Act.put, List.setIfInBounds_toArray, List.set_cons_zero, List.set_cons_succ, i64_w, i32_w]
      rfl
    refine done_ (done_of HT_.out (by kernel_rfl)) ?_
    go_wp2
    go_roundg g0
    case measure => omega
    case rel => exact ⟨k + 1, v7, rfl, by push_cast; rfl, ⟨by have := HK.out; omega⟩, HB7, ⟨by rw [HTK.out]; exact HR7.out⟩⟩
#print axioms plainOptions
end Go.Proofs.YtacndeejapfkiaaDoor.HandS

set_option linter.unusedVariables false
set_option linter.unusedSimpArgs false
namespace Go.Proofs.YtacndeejapfkiaaDoor.HandT
open Go.RowKit Go.Proofs.YtacndeejapfkiaaDoorW.PrintWords Go.Proofs.YtacndeejapfkiaaDoorW.PrintLast Go.Proofs.YtacndeejapfkiaaDoorW.PrintMore Go.Proofs.YtacndeejapfkiaaDoor.QAll Txt Ptr SepK HandA HandB HandC HandD HandE HandF HandM PureS HandN HandO HandP HandQ HandR HandS

theorem info46 : (Tryd.prog.info? 46).map (fun i => (i.zero, i.size, i.bytes)) = some (some (.agg #[.string ⟨#[]⟩, .slice none 0 0]), 2, 40) := by kernel_rfl
theorem info36 : (Tryd.prog.info? 36).map (fun i => (i.zero, i.size, i.bytes)) = some (some (.agg #[.string ⟨#[]⟩, .slice none 0 0, .slice none 0 0]), 3, 64) := by kernel_rfl
/-- What is held while a section is put together: V: those that are done; VO: its options; VP: its parts. -/
structure In2 (w w' : World) (gx N0 N2 : Nat) (V VO VP : Value) (dn : List S36) (nm : ByteArray) (os : List S42) (ps : List S46) : Prop where
  hb : Below w.heap.size w w'
  n0 : w.heap.size ≤ N0
  gx0 : N0 ≤ gx
  gx2 : gx < N2
  n2 : N2 ≤ w'.heap.size
  sec : w'.heap[gx]? = some (.cells #[.string nm, VO, VP] 36 (0, 0))
  rows : k36.R 36 w' w.heap.size (fun k => k < N0) V dn
  opts : k42.R 42 w' w.heap.size (fun k => (N0 ≤ k ∧ k < N2) ∧ k ≠ gx) VO os
  parts : k46.R 46 w' w.heap.size (fun k => N2 ≤ k) VP ps
theorem In2.below {w w' w1 : World} {gx N0 N2 : Nat} {V VO VP : Value} {dn : List S36} {nm : ByteArray} {os : List S42} {ps : List S46} (h : In2 w w' gx N0 N2 V VO VP dn nm os ps) (hb : Below w'.heap.size w' w1) : In2 w w1 gx N0 N2 V VO VP dn nm os ps :=
  ⟨h.hb.trans (hb.mono h.hb.size), h.n0, h.gx0, h.gx2, Nat.le_trans h.n2 hb.size, blk_below h.sec hb, Kd.R_below h.rows hb, Kd.R_below h.opts hb, Kd.R_below h.parts hb⟩
theorem In2.far {w w' : World} {gx N0 N2 : Nat} {V VO VP : Value} {dn : List S36} {nm : ByteArray} {os : List S42} {ps : List S46} (h : In2 w w' gx N0 N2 V VO VP dn nm os ps) {k : Nat} (hk : k < N2) : some k ≠ VP.ownBlock := fun e => by
  have := h.parts.1 k e.symm
  omega
theorem In2.kept {w w' w1 : World} {gx N0 N2 : Nat} {V VO VP : Value} {dn : List S36} {nm : ByteArray} {os : List S42} {ps : List S46} (h : In2 w w' gx N0 N2 V VO VP dn nm os ps) (hg : w'.grownBy w1 VP.ownBlock) : w1.heap[gx]? = some (.cells #[.string nm, VO, VP] 36 (0, 0)) :=
  (hg.block gx (blk_lt h.sec) (h.far h.gx2)).trans h.sec
theorem In2.put {w w' w1 : World} {gx N0 N2 : Nat} {V VO VP v : Value} {dn : List S36} {nm : ByteArray} {os : List S42} {ps : List S46} {p : S46} (h : In2 w w' gx N0 N2 V VO VP dn nm os ps) (ho : k46.R 46 w1 w.heap.size (fun k => N2 ≤ k) v (ps ++ [p])) (hb : Below w.heap.size w w1) (hg : w'.grownBy w1 VP.ownBlock) :
    In2 w (w1.setCell ⟨gx, 2, none⟩ v) gx N0 N2 V VO v dn nm os (ps ++ [p]) := by
  have hs := h.kept hg
  have hgx := h.gx2
  have hgx0 := h.gx0
  refine ⟨below_set hb (Nat.le_trans h.n0 h.gx0), h.n0, h.gx0, h.gx2, ?_, blk_put hs 2 v rfl, ?_, ?_, ?_⟩
  · have := hg.size; have := h.n2; simp [World.setCell]; omega
  · refine Kd.R_step (Kd.R_step h.rows (fun k hk hlt => hg.block k hlt (h.far (by omega)))) (fun k hk _ => Below.heap_setCell w1 _ v k (by show k ≠ gx; omega))
  · refine Kd.R_step (Kd.R_step h.opts (fun k hk hlt => hg.block k hlt (h.far hk.1.2))) (fun k hk _ => Below.heap_setCell w1 _ v k hk.2)
  · exact Kd.R_step ho (fun k hk _ => Below.heap_setCell w1 _ v k (by show k ≠ gx; omega))
def sectionsOf5.T5 : Bool × List (List Nat × List Nat) := (true, [([], []), ([0], [0]), ([1], [1]), ([2], [2]), ([], []), ([4], [4]), ([5], [5]), ([6], [6]), ([7], [7]), ([3, 8], [3, 8]), ([], []), ([10, 9, 8, 0, 1, 2, 3, 4, 5, 6, 7, 8, 9, 10], [9, 10])])
def sectionsOf5.B5 : List Nat := [0, 1, 3, 7, 0, 16, 48, 112, 240, 511, 0, 2047]
theorem sectionsOf5.tab5 : rtab .any (opsOf Tryd.f19 5) = sectionsOf5.T5 := by kernel_rfl
theorem sectionsOf5.bits5 : waitsOk sectionsOf5.T5.2 sectionsOf5.B5 = true := by kernel_rfl

def sectionsOf9.T9 : Bool × List (List Nat × List Nat) := (true, [([], []), ([0], [0]), ([], []), ([2], [2]), ([3], [3]), ([4], [4]), ([], []), ([6], [6]), ([7], [7]), ([8], [8]), ([9], [9]), ([5, 10], [5, 10]), ([11], [11]), ([1, 12, 10], [1, 12]), ([0, 1, 2, 3, 4, 5, 6, 7, 8, 9, 10, 11, 12, 13], []), ([14, 13, 13, 0, 1, 2, 3, 4, 5, 6, 7, 8, 9, 10, 11, 12, 13], [13, 14])])
def sectionsOf9.B9 : List Nat := [0, 1, 0, 4, 12, 28, 0, 64, 192, 448, 960, 2044, 4092, 8191, 16383, 32767]
theorem sectionsOf9.tab9 : rtab .any (opsOf Tryd.f19 9) = sectionsOf9.T9 := by kernel_rfl
theorem sectionsOf9.bits9 : waitsOk sectionsOf9.T9.2 sectionsOf9.B9 = true := by kernel_rfl

set_option maxHeartbeats 16000000 in
set_option maxRecDepth 100000 in
theorem sectionsOf (g : Nat) (A : Option Addr) (c : Nat) (l : List S36) (w : World) (hg : w.heap[g]? = some (.cells (cfgC (.slice A l.length c)) 64 (0, 0))) (hC : kS.C w A l.length l) (hl : Sized l) :
    Calls Tryd.prog 19 #[.pointer (some ⟨g, 0, none⟩)] w fun e w' => ∃ v, e = .returned v ∧ k36.R 36 w' w.heap.size (fun _ => True) v l ∧ Below w.heap.size w w' := by
  have hu36 := Tryd.underlying36
  have hu46 := Tryd.underlying46
  have HC := Aside0.mk hC
  have HL := Aside0.mk hl
  have hgc : w.cell? ⟨g, 1, none⟩ = some (.slice A l.length c) := (blk_cell hg 1).trans rfl
  clear hC hl hg
  go_enter Tryd.func19, Tryd.ntmps19
  go_wp2
  go_loopg [3, 14] l.length (fun gk v3 v14 w' => ∃ (k : Nat) (V : Value), v3 = V ∧ v14 = .int .i64 (k : Int) ∧ Aside0 (k + gk = l.length) ∧ Aside0 (Below w.heap.size w w') ∧ Aside0 (k36.R 36 w' w.heap.size (fun _ => True) V (l.take k)))
  case atStart => exact ⟨0, _, rfl, rfl, ⟨by omega⟩, ⟨Below.refl _ _⟩, ⟨Kd.R_nil _ _ _ _ _⟩⟩
  case round =>
    obtain ⟨k, V, hV, rfl, HK, HB, HR⟩ := hrel
    replace hV := hV.symm
    subst hV
    by_cases hlt : k < l.length
    rotate_left
    · obtain rfl : k = l.length := by have := HK.out; omega
      have hR := HR.out
      rw [List.take_length] at hR
      have HR2 := Aside0.mk hR
      clear hR
      go_wp2
      go_ret
      exact ⟨_, rfl, HR2.out, HB.out⟩
    obtain ⟨g0, rfl⟩ : ∃ m, gk = m + 1 := ⟨gk - 1, by have := HK.out; omega⟩
    have hk1 : (k : Int) < (l.length : Int) := by omega
    have hk2 : (k : Int) < 101 := by have := HL.out.n; omega
    obtain ⟨ad, v, rfl, hK, hcell⟩ := at_ptr z36 rfl HC.out k hlt
    replace hcell := pw_cell_below HB.out hcell
    obtain ⟨gs, A1, c1, A2, c2, hv, hgs, hc1, hC1, hc2, hC2⟩ := kS_open hK
    replace hgs := blk_below hgs HB.out
    obtain rfl : v = .pointer (some ⟨gs, 0, none⟩) := by simpa using hv
    have hgt := getD_at l z36 k hlt
    generalize l.getD k z36 = x at hK hgs hgt hv hc1 hC1 hc2 hC2
    have hmem := List.mem_of_getElem? hgt
    have HTK : Aside0 (l.take (k + 1) = l.take k ++ [x]) := ⟨by rw [List.take_add_one, hgt]; rfl⟩
    have HL1 := Aside0.mk (HL.out.o x hmem)
    have HL2 := Aside0.mk (HL.out.b x hmem)
    have HL3 := Aside0.mk (HL.out.p x hmem)
    have HKN : Aside0 ((l.take k).length ≤ 101) := ⟨by rw [List.length_take]; have := HL.out.n; have := Nat.min_le_right k l.length; omega⟩
    have HO5 : Aside0 (∀ W, Below wr.heap.size wr W → kO.C W A1 x.f1.length x.f1) := ⟨fun W hb => Kd.C_below hC1 (HB.out.trans (hb.mono HB.out.size))⟩
    have HP5 : Aside0 (∀ W, Below w.heap.size w W → kB.C W A2 x.f2.length x.f2) := ⟨fun W hb => Kd.C_below hC2 hb⟩
    have HG0 : Aside0 (wr.cell? ⟨gs, 0, none⟩ = some (.string x.f0)) := ⟨(blk_cell hgs 0).trans rfl⟩
    have HG1 : Aside0 (wr.cell? ⟨gs, 1, none⟩ = some (.slice A1 x.f1.length c1)) := ⟨(blk_cell hgs 1).trans rfl⟩
    have HG2 : Aside0 (wr.cell? ⟨gs, 2, none⟩ = some (.slice A2 x.f2.length c2)) := ⟨(blk_cell hgs 2).trans rfl⟩
    have q0 : Below wr.heap.size wr wr.drew := below_drew1 (Below.refl _ _)
    have q1 : wr.drew.cell? ⟨gs, 0, none⟩ = some (.string x.f0) := HG0.out
    have q2 : wr.drew.cell? ⟨gs, 1, none⟩ = some (.slice A1 x.f1.length c1) := HG1.out
    clear hK hgs hgt hv hC1 hC2 hmem hc1 hc2
    go_upto_region 5 with fail
    refine start_ (n := 12) (S := fun w' => Below wr.heap.size wr w' ∧ w'.cell? ⟨gs, 0, none⟩ = some (.string x.f0) ∧ w'.cell? ⟨gs, 1, none⟩ = some (.slice A1 x.f1.length c1)) (ds := [11]) #[false, false, false, false, false, false, false, false, false, false, false, false] (by kernel_rfl) rfl rfl ⟨q0, q1, q2⟩ (fun hHeld => ?_)
    refine with_tabW sectionsOf5.tab5 sectionsOf5.bits5 (fun HT_ HW_ => ?_)
    generalize World.drew _ = wd at hHeld ⊢
    refine pure_ (i := 0) (N := some 18) (v := ?_) (a' := ?_) #[true, false, false, false, false, false, false, false, false, false, false, false] rfl rfl (any_of HT_.out (by kernel_rfl)) (fun _ _ _ h => h) (Or.inl ⟨by rfl, ?_⟩) ?_ ?_
    rotate_left
    · intro w'
      go_simp
      with_reducible rfl
    rotate_left
    · simp only [Act.put, List.setIfInBounds_toArray, List.set_cons_zero, List.set_cons_succ, i64_w, i32_w]
      rfl
    refine pure_ (i := 1) (N := some 19) (v := ?_) (a' := ?_) #[true, true, false, false, false, false, false, false, false, false, false, false] rfl rfl (any_of HT_.out (by kernel_rfl)) (fun _ _ _ h => h) (Or.inl ⟨by rfl, ?_⟩) ?_ ?_
    rotate_left
    · intro w'
      go_simp
      with_reducible rfl
    rotate_left
    · simp only [Act.put, List.setIfInBounds_toArray, List.set_cons_zero, List.set_cons_succ, i64_w, i32_w]
      rfl
    refine pure_ (i := 2) (N := some 20) (v := ?_) (a' := ?_) #[true, true, true, false, false, false, false, false, false, false, false, false] rfl rfl (any_of HT_.out (by kernel_rfl)) (fun _ _ _ h => h) (Or.inl ⟨by rfl, ?_⟩) ?_ ?_
    rotate_left
    · intro w'
      go_simp
      with_reducible rfl
    rotate_left
    · simp only [Act.put, List.setIfInBounds_toArray, List.set_cons_zero, List.set_cons_succ, i64_w, i32_w]
      rfl
    refine pure_ (i := 4) (N := some 22) (v := ?_) (a' := ?_) #[true, true, true, false, true, false, false, false, false, false, false, false] rfl rfl (any_of HT_.out (by kernel_rfl)) (fun _ _ _ h => h) (Or.inl ⟨by rfl, ?_⟩) ?_ ?_
    rotate_left
    · intro w'
      go_simp
      with_reducible rfl
    rotate_left
    · simp only [Act.put, List.setIfInBounds_toArray, List.set_cons_zero, List.set_cons_succ, i64_w, i32_w]
      rfl
    refine pure_ (i := 5) (N := some 23) (v := ?_) (a' := ?_) #[true, true, true, false, true, true, false, false, false, false, false, false] rfl rfl (any_of HT_.out (by kernel_rfl)) (fun _ _ _ h => h) (Or.inl ⟨by rfl, ?_⟩) ?_ ?_
    rotate_left
    · intro w'
      go_simp
      with_reducible rfl
    rotate_left
    · simp only [Act.put, List.setIfInBounds_toArray, List.set_cons_zero, List.set_cons_succ, i64_w, i32_w]
      rfl
    refine pure_ (i := 6) (N := some 24) (v := ?_) (a' := ?_) #[true, true, true, false, true, true, true, false, false, false, false, false] rfl rfl (any_of HT_.out (by kernel_rfl)) (fun _ _ _ h => h) (Or.inl ⟨by rfl, ?_⟩) ?_ ?_
    rotate_left
    · intro w'
      go_simp
      with_reducible rfl
    rotate_left
    · simp only [Act.put, List.setIfInBounds_toArray, List.set_cons_zero, List.set_cons_succ, i64_w, i32_w]
      rfl
    refine take_ (i := 3) (N := some 21) (v := ?_) (a' := ?_) #[true, true, true, true, true, true, true, false, false, false, false, false] rfl rfl (take_ofW HT_.out HW_.out (by kernel_rfl)) (fun _ _ _ h => h) (Or.inl ⟨by rfl, ?_⟩) hHeld ?_ ?_
    rotate_left
    · rintro w' ⟨s0, s1, s2⟩
      go_simp
      with_reducible rfl
    rotate_left
    · simp only [Act.put, List.setIfInBounds_toArray, List.set_cons_zero, List.set_cons_succ, i64_w, i32_w]
      rfl
    refine take_ (i := 7) (N := some 25) (v := ?_) (a' := ?_) #[true, true, true, true, true, true, true, true, false, false, false, false] rfl rfl (take_ofW HT_.out HW_.out (by kernel_rfl)) (fun _ _ _ h => h) (Or.inl ⟨by rfl, ?_⟩) hHeld ?_ ?_
    rotate_left
    · rintro w' ⟨s0, s1, s2⟩
      go_simp
      with_reducible rfl
    rotate_left
    · simp only [Act.put, List.setIfInBounds_toArray, List.set_cons_zero, List.set_cons_succ, i64_w, i32_w]
      rfl
    refine join_ (σ := Value × Nat) 1 #[true, true, true, true, true, true, true, true, true, true, true, false] (fun s => [(26, s.1), (27, .agg #[.string x.f0, s.1, .slice none 0 0]), (6, .pointer (some ⟨s.2, 0, none⟩))]) (fun s w' => Below wr.heap.size wr w' ∧ k42.R 42 w' wr.heap.size (fun k => k ≠ s.2) s.1 x.f1 ∧ w'.heap[s.2]? = some (.cells #[.string ⟨#[]⟩, .slice none 0 0, .slice none 0 0] 36 (0, 0)) ∧ wr.heap.size ≤ s.2 ∧ ∃ A n c, s.1 = .slice A n c) ?_ ?_
    rotate_left
    · intro hCont
      refine two_ (i := 8) (j := 10) (Ni := some 26) (Nj := some 6) #[true, true, true, true, true, true, true, true, true, false, false, false] #[true, true, true, true, true, true, true, true, false, false, true, false] rfl rfl rfl rfl (two_of HT_.out (by kernel_rfl)) (by decide) (by decide) (fun K hK => ?_) (fun K hK => ?_)
      · skip
        refine goes_ Tryd.func33 (by kernel_rfl) rfl #[.slice A1 x.f1.length c1] (by rfl) rfl rfl (by simp only [List.map_toArray, List.map_cons, List.map_nil]; rfl) ?_
        with_reducible refine (plainOptions A1 c1 x.f1 _ (HO5.out _ hHeld.1) HL1.out).mono ?_
        rintro e w6 ⟨v, rfl, hr, hb⟩
        obtain ⟨A3, n3, c3, rfl⟩ : ∃ A n c, v = .slice A n c := by obtain ⟨A, c, h⟩ := Kd.R_slice hr; exact ⟨A, _, c, h⟩
        refine ⟨_, rfl, ?_⟩
        have HS6 := Aside0.mk hHeld.1.size
        have HB6 := Aside0.mk hb
        have HR6 := Aside0.mk hr
        refine hK.out _ _ ⟨(hHeld.1.trans (hb.mono hHeld.1.size)), (pw_cell_below hb hHeld.2.1), (pw_cell_below hb hHeld.2.2)⟩ (fun hHeld => ?_)
        clear hK K
        refine norm_ (a' := ?_) ?_ ?_
        rotate_left
        · show Act.put _ (some 26) _ = _
          simp only [Act.put, List.setIfInBounds_toArray, List.set_cons_zero, List.set_cons_succ, i64_w, i32_w]
          rfl
        refine pure_ (i := 9) (N := some 27) (v := ?_) (a' := ?_) #[true, true, true, true, true, true, true, true, true, true, false, false] rfl rfl (any_of HT_.out (by kernel_rfl)) (fun _ _ _ h => h) (Or.inl ⟨by rfl, ?_⟩) ?_ ?_
        rotate_left
        · intro w'
          go_simp
          with_reducible rfl
        rotate_left
        · simp only [Act.put, List.setIfInBounds_toArray, List.set_cons_zero, List.set_cons_succ, i64_w, i32_w]
          rfl
        refine one_ (i := 10) (N := some 6) #[true, true, true, true, true, true, true, true, true, true, true, false] rfl rfl (one_of HT_.out (by kernel_rfl)) (by decide) (fun K hK => ?_)
        refine value_ (w1 := ?_) (v := ?_) (by rfl) rfl ?_ ?_
        rotate_left 2
        · go_simp
          constructor
          · rfl
          · rfl
        have HB7 := Aside0.mk hHeld.1
        have HS7 := Aside0.mk hHeld.1.size
        refine hK.out _ _ ⟨(below_alloc hHeld.1 _), (pw_cell_below (below_alloc (Below.refl _ _) _) hHeld.2.1), (pw_cell_below (below_alloc (Below.refl _ _) _) hHeld.2.2)⟩ (fun hHeld => ?_)
        clear hK K
        refine norm_ (a' := ?_) ?_ ?_
        rotate_left
        · show Act.put _ (some 6) _ = _
          simp only [Act.put, List.setIfInBounds_toArray, List.set_cons_zero, List.set_cons_succ, i64_w, i32_w]
          rfl
        exact norm_ (by simp only [putAll, Act.put, List.setIfInBounds_toArray, List.set_cons_zero, List.set_cons_succ]) (hCont (.slice A3 n3 c3, w6.heap.size) _ ⟨hHeld.1, Kd.R_below (Kd.R_lower (Kd.R_mono (Kd.R_bound HR6.out) (fun k hk => Nat.ne_of_lt hk.2.2.1)) HS6.out) (below_alloc (Below.refl _ _) _), blk_new _ _, HS7.out, ⟨_, _, _, rfl⟩⟩)
      · skip
        refine value_ (w1 := ?_) (v := ?_) (by rfl) rfl ?_ ?_
        rotate_left 2
        · go_simp
          constructor
          · rfl
          · rfl
        have HB7 := Aside0.mk hHeld.1
        have HS7 := Aside0.mk hHeld.1.size
        refine hK.out _ _ ⟨(below_alloc hHeld.1 _), (pw_cell_below (below_alloc (Below.refl _ _) _) hHeld.2.1), (pw_cell_below (below_alloc (Below.refl _ _) _) hHeld.2.2)⟩ (fun hHeld => ?_)
        clear hK K
        refine norm_ (a' := ?_) ?_ ?_
        rotate_left
        · show Act.put _ (some 6) _ = _
          simp only [Act.put, List.setIfInBounds_toArray, List.set_cons_zero, List.set_cons_succ, i64_w, i32_w]
          rfl
        refine one_ (i := 8) (N := some 26) #[true, true, true, true, true, true, true, true, true, false, true, false] rfl rfl (one_of HT_.out (by kernel_rfl)) (by decide) (fun K hK => ?_)
        refine goes_ Tryd.func33 (by kernel_rfl) rfl #[.slice A1 x.f1.length c1] (by rfl) rfl rfl (by simp only [List.map_toArray, List.map_cons, List.map_nil]; rfl) ?_
        with_reducible refine (plainOptions A1 c1 x.f1 _ (HO5.out _ hHeld.1) HL1.out).mono ?_
        rintro e w6 ⟨v, rfl, hr, hb⟩
        obtain ⟨A3, n3, c3, rfl⟩ : ∃ A n c, v = .slice A n c := by obtain ⟨A, c, h⟩ := Kd.R_slice hr; exact ⟨A, _, c, h⟩
        refine ⟨_, rfl, ?_⟩
        have HS6 := Aside0.mk hHeld.1.size
        have HB6 := Aside0.mk hb
        have HR6 := Aside0.mk hr
        refine hK.out _ _ ⟨(hHeld.1.trans (hb.mono hHeld.1.size)), (pw_cell_below hb hHeld.2.1), (pw_cell_below hb hHeld.2.2)⟩ (fun hHeld => ?_)
        clear hK K
        refine norm_ (a' := ?_) ?_ ?_
        rotate_left
        · show Act.put _ (some 26) _ = _
          simp only [Act.put, List.setIfInBounds_toArray, List.set_cons_zero, List.set_cons_succ, i64_w, i32_w]
          rfl
        refine pure_ (i := 9) (N := some 27) (v := ?_) (a' := ?_) #[true, true, true, true, true, true, true, true, true, true, true, false] rfl rfl (any_of HT_.out (by kernel_rfl)) (fun _ _ _ h => h) (Or.inl ⟨by rfl, ?_⟩) ?_ ?_
        rotate_left
        · intro w'
          go_simp
          with_reducible rfl
        rotate_left
        · simp only [Act.put, List.setIfInBounds_toArray, List.set_cons_zero, List.set_cons_succ, i64_w, i32_w]
          rfl
        exact norm_ (by simp only [putAll, Act.put, List.setIfInBounds_toArray, List.set_cons_zero, List.set_cons_succ]) (hCont (.slice A3 n3 c3, wd.heap.size) _ ⟨hHeld.1, Kd.R_lower (Kd.R_mono (Kd.R_bound HR6.out) (fun k hk => Nat.ne_of_gt (Nat.lt_of_lt_of_le (Nat.lt_succ_self _) (Nat.le_trans (Nat.le_of_eq (Array.size_push _).symm) hk.2.1)))) HS6.out, blk_below (blk_new _ _) HB6.out, HS7.out, ⟨_, _, _, rfl⟩⟩)
    rintro ⟨v6, gx⟩ w7 ⟨f0, f1, f2, f3, A3, n3, c3, f4⟩
    replace f4 : v6 = .slice A3 n3 c3 := f4
    subst f4
    have hHeld : Below wr.heap.size wr w7 ∧ w7.cell? ⟨gs, 0, none⟩ = some (.string x.f0) ∧ w7.cell? ⟨gs, 1, none⟩ = some (.slice A1 x.f1.length c1) := ⟨f0, pw_cell_below f0 HG0.out, pw_cell_below f0 HG1.out⟩
    refine norm_ (a' := ?_) ?_ ?_
    rotate_left
    · simp only [putAll, Act.put, List.setIfInBounds_toArray, List.set_cons_zero, List.set_cons_succ]
      rfl
    refine last_ (i := 11) (N := none) #[true, true, true, true, true, true, true, true, true, true, true, true] rfl rfl (one_of HT_.out (by kernel_rfl)) (by decide) (fun K hK => ?_)
    refine skip_ (w1 := w7.setRow gx #[.string x.f0, .slice A3 n3 c3, .slice none 0 0]) (by rfl) rfl (exec_store_row 36 _ _ rfl gx 36 #[.string ⟨#[]⟩, .slice none 0 0, .slice none 0 0] #[.string x.f0, .slice A3 n3 c3, .slice none 0 0] rfl rfl f2 rfl (by kernel_rfl) (by simp [Value.oneCell'])) ?_
    refine hK.out _ _ ?_
    clear hK K
    refine done_ (done_of HT_.out (by kernel_rfl)) ?_
    have HIN0 : Aside0 (In2 w (w7.setRow gx #[.string x.f0, .slice A3 n3 c3, .slice none 0 0]) gx wr.heap.size w7.heap.size V (.slice A3 n3 c3) (.slice none 0 0) (l.take k) x.f0 x.f1 []) := ⟨by
      have hbs := HB.out.size
      have hgl := blk_lt f2
      have hb7 : Below w.heap.size w w7 := HB.out.trans (f0.mono hbs)
      refine ⟨below_setRow hb7 (by omega) _, hbs, f3, hgl, by simp, setRow_heap w7 gx _ _ 36 (0, 0) f2, ?_, ?_, Kd.R_nil _ _ _ _ _⟩
      · refine Kd.R_move (Kd.R_mono (Kd.R_bound (Kd.R_mono HR.out (ok' := fun _ => True) (fun _ _ => trivial))) (fun k hk => hk.2.2.1)) (fun k hk => ?_)
        exact (setRow_other w7 gx k _ (by omega)).trans (f0.block k hk)
      · refine Kd.R_lower (Kd.R_mono (Kd.R_move (Kd.R_bound f1) (fun k hk => setRow_other w7 gx k _ hk.1)) (fun k hk => ⟨⟨hk.2.1, hk.2.2.1⟩, hk.1⟩)) hbs⟩
    have hgc2 : (w7.setRow gx #[.string x.f0, .slice A3 n3 c3, .slice none 0 0]).cell? ⟨gs, 2, none⟩ = some (.slice A2 x.f2.length c2) := (cell_setRow_other w7 gx _ ⟨gs, 2, none⟩ (by
      show gs ≠ gx
      have := World.block_lt_of_cell? wr _ HG2.out
      have : gs < wr.heap.size := this
      omega)).trans (pw_cell_below f0 HG2.out)
    have HN0 : Aside0 (∃ N0, N0 = wr.heap.size) := ⟨_, rfl⟩
    clear f0 f1 f2 hHeld
    clear HG0 HG1 HG2 HO5
    generalize w7.setRow gx #[.string x.f0, .slice A3 n3 c3, .slice none 0 0] = w8 at HIN0 hgc2 ⊢
    generalize w7.heap.size = N2 at HIN0
    obtain ⟨N0, hN0⟩ := HN0.out
    rw [← hN0] at HIN0 f3
    clear HN0
    go_wp2
    go_loopg [33] x.f2.length (fun gj v33 w' => ∃ (j : Nat) (VP : Value), v33 = .int .i64 (j : Int) ∧ Aside0 (j + gj = x.f2.length) ∧ Aside0 (In2 w w' gx N0 N2 V (.slice A3 n3 c3) VP (l.take k) x.f0 x.f1 (x.f2.take j)))
    case atStart => exact ⟨0, .slice none 0 0, rfl, ⟨by omega⟩, HIN0⟩
    case round =>
      obtain ⟨j, VP, rfl, HJ, HINJ⟩ := hrel
      obtain ⟨A5, hVP⟩ := Kd.R_slice HINJ.out.parts
      obtain ⟨n5, hn5⟩ : ∃ n, n = (x.f2.take j).length := ⟨_, rfl⟩
      obtain ⟨c5, hVP⟩ := hVP
      rw [← hn5] at hVP
      subst hVP
      clear hn5
      by_cases hjt : j < x.f2.length
      rotate_left
      · obtain rfl : j = x.f2.length := by have := HJ.out; omega
        have hIn := HINJ.out
        rw [List.take_length] at hIn
        have HIE := Aside0.mk hIn
        have hz0 : wr.cell? ⟨gx, 0, none⟩ = some (.string x.f0) := (blk_cell hIn.sec 0).trans rfl
        have hz1 : wr.cell? ⟨gx, 1, none⟩ = some (.slice A3 n3 c3) := (blk_cell hIn.sec 1).trans rfl
        have hz2 : wr.cell? ⟨gx, 2, none⟩ = some (.slice A5 n5 c5) := (blk_cell hIn.sec 2).trans rfl
        clear hIn
        go_wp2_with (first
          | ((with_reducible refine gate_builtin (b := .append) (xs := #[.tmp 53, .tmp 55]) rfl ?_); at_builtin; refine Kd.R_append k36 (w0 := w) w.heap.size rfl (.tmp 53) (.tmp 55) 22 36 (.agg #[.string ⟨#[]⟩, .slice none 0 0, .slice none 0 0]) 64 rfl Tryd.underlying22 info36 rfl (by decide) (by decide) V (l.take k) x [.string x.f0, .slice A3 n3 c3, .slice A5 n5 c5] (fun _ => True) (fun k => N0 ≤ k) rfl ?hx (k36_mkM _ _ _ x (Kd.R_mono HIE.out.opts (fun k hk => hk.1.1)) (Kd.R_mono HIE.out.parts (fun k hk => ?hord))) (fun k hk => ⟨trivial, fun e => ?hne⟩) (fun _ _ => trivial) (Kd.R_mono HIE.out.rows (fun _ _ => trivial)) HIE.out.hb HIE.out.hb.size ?hlen ?_
             case hx => first | (go_simp; done) | (simp [Act.eval]; done)
             case hord => have := HIE.out.gx0; have := HIE.out.gx2; omega
             case hne => have := HIE.out.rows.1 k e.symm; omega
             case hlen => have := HKN.out; omega
             intro v8 w9 ho8 hb8 hg8 hat8
             have HR8 := Aside0.mk ho8
             have HB8 := Aside0.mk hb8
             clear ho8 hb8 hg8 hat8))
        go_roundg g0
        case measure => omega
        case rel => exact ⟨k + 1, v8, rfl, by push_cast; rfl, ⟨by have := HK.out; omega⟩, HB8, ⟨by rw [HTK.out]; exact HR8.out⟩⟩
      obtain ⟨gj0, rfl⟩ : ∃ m, gk = m + 1 := ⟨gk - 1, by have := HJ.out; omega⟩
      have hj1 : (j : Int) < (x.f2.length : Int) := by omega
      have hj2 : (j : Int) < 3518437208883 := by have := HL2.out; omega
      have HJT := Aside0.mk hjt
      obtain ⟨adj, v, e, hK, hcell⟩ := at_ptr z46 rfl (HP5.out _ HINJ.out.hb) j hjt
      cases e
      obtain ⟨gb, B1, b1, hv, hgb, hb1, hC8⟩ := kB_open hK
      obtain rfl : v = .pointer (some ⟨gb, 0, none⟩) := by simpa using hv
      have hgt := getD_at x.f2 z46 j hjt
      generalize x.f2.getD j z46 = y at hK hgb hb1 hC8 hgt hv
      have HL8 := Aside0.mk (HL3.out y (List.mem_of_getElem? hgt))
      have HTJ : Aside0 (x.f2.take (j + 1) = x.f2.take j ++ [y]) := ⟨by rw [List.take_add_one, hgt]; rfl⟩
      have HO8 : Aside0 (∀ W, Below wr.heap.size wr W → kO.C W B1 y.f1.length y.f1) := ⟨fun W hb => Kd.C_below hC8 hb⟩
      have HIN8 := HINJ
      have q0 : Below wr.heap.size wr wr.drew := below_drew1 (Below.refl _ _)
      have q1 : wr.drew.cell? ⟨gb, 0, none⟩ = some (.string y.f0) := (blk_cell (blk_drew hgb) 0).trans rfl
      have q2 : wr.drew.cell? ⟨gb, 1, none⟩ = some (.slice B1 y.f1.length b1) := (blk_cell (blk_drew hgb) 1).trans rfl
      have q3 : wr.drew.cell? ⟨gx, 2, none⟩ = some (.slice A5 n5 c5) := (blk_cell (blk_drew HIN8.out.sec) 2).trans rfl
      clear hK hgb hb1 hC8 hgt hv
      go_upto_region 9 with fail
      refine start_ (n := 16) (S := fun w' => Below wr.heap.size wr w' ∧ w'.cell? ⟨gb, 0, none⟩ = some (.string y.f0) ∧ w'.cell? ⟨gb, 1, none⟩ = some (.slice B1 y.f1.length b1) ∧ w'.cell? ⟨gx, 2, none⟩ = some (.slice A5 n5 c5)) (ds := [13, 15]) #[false, false, false, false, false, false, false, false, false, false, false, false, false, false, false, false] (by kernel_rfl) rfl rfl ⟨q0, q1, q2, q3⟩ (fun hHeld => ?_)
      refine with_tabW sectionsOf9.tab9 sectionsOf9.bits9 (fun HT_ HW_ => ?_)
      generalize World.drew _ = wd at hHeld ⊢
      refine pure_ (i := 0) (N := some 37) (v := ?_) (a' := ?_) #[true, false, false, false, false, false, false, false, false, false, false, false, false, false, false, false] rfl rfl (any_of HT_.out (by kernel_rfl)) (fun _ _ _ h => h) (Or.inl ⟨by rfl, ?_⟩) ?_ ?_
      rotate_left
      · intro w'
        go_simp
        with_reducible rfl
      rotate_left
      · simp only [Act.put, List.setIfInBounds_toArray, List.set_cons_zero, List.set_cons_succ, i64_w, i32_w]
        rfl
      refine pure_ (i := 2) (N := some 39) (v := ?_) (a' := ?_) #[true, false, true, false, false, false, false, false, false, false, false, false, false, false, false, false] rfl rfl (any_of HT_.out (by kernel_rfl)) (fun _ _ _ h => h) (Or.inl ⟨by rfl, ?_⟩) ?_ ?_
      rotate_left
      · intro w'
        go_simp
        with_reducible rfl
      rotate_left
      · simp only [Act.put, List.setIfInBounds_toArray, List.set_cons_zero, List.set_cons_succ, i64_w, i32_w]
        rfl
      refine pure_ (i := 3) (N := some 40) (v := ?_) (a' := ?_) #[true, false, true, true, false, false, false, false, false, false, false, false, false, false, false, false] rfl rfl (any_of HT_.out (by kernel_rfl)) (fun _ _ _ h => h) (Or.inl ⟨by rfl, ?_⟩) ?_ ?_
      rotate_left
      · intro w'
        go_simp
        with_reducible rfl
      rotate_left
      · simp only [Act.put, List.setIfInBounds_toArray, List.set_cons_zero, List.set_cons_succ, i64_w, i32_w]
        rfl
      refine pure_ (i := 4) (N := some 41) (v := ?_) (a' := ?_) #[true, false, true, true, true, false, false, false, false, false, false, false, false, false, false, false] rfl rfl (any_of HT_.out (by kernel_rfl)) (fun _ _ _ h => h) (Or.inl ⟨by rfl, ?_⟩) ?_ ?_
      rotate_left
      · intro w'
        go_simp
        with_reducible rfl
      rotate_left
      · simp only [Act.put, List.setIfInBounds_toArray, List.set_cons_zero, List.set_cons_succ, i64_w, i32_w]
        rfl
      refine pure_ (i := 6) (N := some 43) (v := ?_) (a' := ?_) #[true, false, true, true, true, false, true, false, false, false, false, false, false, false, false, false] rfl rfl (any_of HT_.out (by kernel_rfl)) (fun _ _ _ h => h) (Or.inl ⟨by rfl, ?_⟩) ?_ ?_
      rotate_left
      · intro w'
        go_simp
        with_reducible rfl
      rotate_left
      · simp only [Act.put, List.setIfInBounds_toArray, List.set_cons_zero, List.set_cons_succ, i64_w, i32_w]
        rfl
      refine pure_ (i := 7) (N := some 44) (v := ?_) (a' := ?_) #[true, false, true, true, true, false, true, true, false, false, false, false, false, false, false, false] rfl rfl (any_of HT_.out (by kernel_rfl)) (fun _ _ _ h => h) (Or.inl ⟨by rfl, ?_⟩) ?_ ?_
      rotate_left
      · intro w'
        go_simp
        with_reducible rfl
      rotate_left
      · simp only [Act.put, List.setIfInBounds_toArray, List.set_cons_zero, List.set_cons_succ, i64_w, i32_w]
        rfl
      refine pure_ (i := 8) (N := some 45) (v := ?_) (a' := ?_) #[true, false, true, true, true, false, true, true, true, false, false, false, false, false, false, false] rfl rfl (any_of HT_.out (by kernel_rfl)) (fun _ _ _ h => h) (Or.inl ⟨by rfl, ?_⟩) ?_ ?_
      rotate_left
      · intro w'
        go_simp
        with_reducible rfl
      rotate_left
      · simp only [Act.put, List.setIfInBounds_toArray, List.set_cons_zero, List.set_cons_succ, i64_w, i32_w]
        rfl
      refine take_ (i := 1) (N := some 38) (v := ?_) (a' := ?_) #[true, true, true, true, true, false, true, true, true, false, false, false, false, false, false, false] rfl rfl (take_ofW HT_.out HW_.out (by kernel_rfl)) (fun _ _ _ h => h) (Or.inl ⟨by rfl, ?_⟩) hHeld ?_ ?_
      rotate_left
      · rintro w' ⟨s0, s1, s2, s3⟩
        go_simp
        with_reducible rfl
      rotate_left
      · simp only [Act.put, List.setIfInBounds_toArray, List.set_cons_zero, List.set_cons_succ, i64_w, i32_w]
        rfl
      refine take_ (i := 5) (N := some 42) (v := ?_) (a' := ?_) #[true, true, true, true, true, true, true, true, true, false, false, false, false, false, false, false] rfl rfl (take_ofW HT_.out HW_.out (by kernel_rfl)) (fun _ _ _ h => h) (Or.inl ⟨by rfl, ?_⟩) hHeld ?_ ?_
      rotate_left
      · rintro w' ⟨s0, s1, s2, s3⟩
        go_simp
        with_reducible rfl
      rotate_left
      · simp only [Act.put, List.setIfInBounds_toArray, List.set_cons_zero, List.set_cons_succ, i64_w, i32_w]
        rfl
      refine take_ (i := 9) (N := some 46) (v := ?_) (a' := ?_) #[true, true, true, true, true, true, true, true, true, true, false, false, false, false, false, false] rfl rfl (take_ofW HT_.out HW_.out (by kernel_rfl)) (fun _ _ _ h => h) (Or.inl ⟨by rfl, ?_⟩) hHeld ?_ ?_
      rotate_left
      · rintro w' ⟨s0, s1, s2, s3⟩
        go_simp
        with_reducible rfl
      rotate_left
      · simp only [Act.put, List.setIfInBounds_toArray, List.set_cons_zero, List.set_cons_succ, i64_w, i32_w]
        rfl
      refine one_ (i := 10) (N := some 47) #[true, true, true, true, true, true, true, true, true, true, true, false, false, false, false, false] rfl rfl (one_of HT_.out (by kernel_rfl)) (by decide) (fun K hK => ?_)
      refine goes_ Tryd.func33 (by kernel_rfl) rfl #[.slice B1 y.f1.length b1] (by rfl) rfl rfl (by simp only [List.map_toArray, List.map_cons, List.map_nil]; rfl) ?_
      with_reducible refine (plainOptions B1 b1 y.f1 _ (HO8.out _ hHeld.1) HL8.out).mono ?_
      rintro e w9 ⟨v, rfl, hr, hb⟩
      obtain ⟨A4, n4, c4, rfl⟩ : ∃ A n c, v = .slice A n c := by obtain ⟨A, c, h⟩ := Kd.R_slice hr; exact ⟨A, _, c, h⟩
      refine ⟨_, rfl, ?_⟩
      have HR9 : Aside0 (k42.R 42 w9 w.heap.size (fun k => wr.heap.size ≤ k) (.slice A4 n4 c4) y.f1) := ⟨Kd.R_lower (Kd.R_mono (Kd.R_bound hr) (fun k hk => Nat.le_trans hHeld.1.size hk.2.1)) (Nat.le_trans HIN8.out.hb.size hHeld.1.size)⟩
      have HB9 : Aside0 (Below wr.heap.size wr w9) := ⟨hHeld.1.trans (hb.mono hHeld.1.size)⟩
      refine hK.out _ _ ⟨(hHeld.1.trans (hb.mono hHeld.1.size)), (pw_cell_below hb hHeld.2.1), (pw_cell_below hb hHeld.2.2.1), (pw_cell_below hb hHeld.2.2.2)⟩ (fun hHeld => ?_)
      clear hK K
      refine norm_ (a' := ?_) ?_ ?_
      rotate_left
      · show Act.put _ (some 47) _ = _
        simp only [Act.put, List.setIfInBounds_toArray, List.set_cons_zero, List.set_cons_succ, i64_w, i32_w]
        rfl
      refine pure_ (i := 11) (N := some 48) (v := ?_) (a' := ?_) #[true, true, true, true, true, true, true, true, true, true, true, true, false, false, false, false] rfl rfl (any_of HT_.out (by kernel_rfl)) (fun _ _ _ h => h) (Or.inl ⟨by rfl, ?_⟩) ?_ ?_
      rotate_left
      · intro w'
        go_simp
        with_reducible rfl
      rotate_left
      · simp only [Act.put, List.setIfInBounds_toArray, List.set_cons_zero, List.set_cons_succ, i64_w, i32_w]
        rfl
      refine one_ (i := 12) (N := some 49) #[true, true, true, true, true, true, true, true, true, true, true, true, true, false, false, false] rfl rfl (one_of HT_.out (by kernel_rfl)) (by decide) (fun K hK => ?_)
      refine value_ (w1 := ?_) (v := ?_) (by rfl) rfl ?_ ?_
      rotate_left 2
      · go_simp
        constructor
        · rfl
        · rfl
      refine hK.out _ _ ⟨(below_alloc hHeld.1 _), (pw_cell_below (below_alloc (Below.refl _ _) _) hHeld.2.1), (pw_cell_below (below_alloc (Below.refl _ _) _) hHeld.2.2.1), (pw_cell_below (below_alloc (Below.refl _ _) _) hHeld.2.2.2)⟩ (fun hHeld => ?_)
      clear hK K
      refine norm_ (a' := ?_) ?_ ?_
      rotate_left
      · show Act.put _ (some 49) _ = _
        simp only [Act.put, List.setIfInBounds_toArray, List.set_cons_zero, List.set_cons_succ, i64_w, i32_w]
        rfl
      refine last_ (i := 13) (N := some 50) #[true, true, true, true, true, true, true, true, true, true, true, true, true, true, false, false] rfl rfl (one_of HT_.out (by kernel_rfl)) (by decide) (fun K hK => ?_)
      refine Kd.R_append_step k46 (w0 := w) w.heap.size (by rfl) (.tmp 38) (.tmp 49) 34 46 (.agg #[.string ⟨#[]⟩, .slice none 0 0]) 40 rfl Tryd.underlying34 info46 rfl (by decide) (by decide) (.slice A5 n5 c5) (x.f2.take j) y [.string y.f0, .slice A4 n4 c4] (fun k => N2 ≤ k) (fun k => wr.heap.size ≤ k) rfl ?hx (k46_mkM _ _ _ y HR9.out) (fun k hk => ⟨Nat.le_trans HIN8.out.n2 hk, fun e => ?hne⟩) (fun k hk => ?hfr) (Kd.R_below HIN8.out.parts HB9.out) (HIN8.out.hb.trans (HB9.out.mono HIN8.out.hb.size)) ?hbase ?hlen ?_
      case hx => first | (go_simp; done) | (simp [Act.eval]; done)
      case hne => have := own_lt_R HIN8.out.parts k e.symm; omega
      case hfr => exact Nat.le_trans HIN8.out.n2 (Nat.le_trans HB9.out.size hk)
      case hbase => exact Nat.le_trans HIN8.out.hb.size HB9.out.size
      case hlen => rw [List.length_take]; have := HL2.out; have := HJ.out; have := Nat.min_le_left j x.f2.length; have := HJT.out; omega
      intro v7 w7 ho7 hb7 hg7 hat7
      obtain ⟨A7, n7, c7, rfl⟩ : ∃ A n c, v7 = .slice A n c := by obtain ⟨A, c, h⟩ := Kd.R_slice ho7; exact ⟨A, _, c, h⟩
      have HIN : Aside0 (In2 w (w7.setCell ⟨gx, 2, none⟩ (.slice A7 n7 c7)) gx N0 N2 V (.slice A3 n3 c3) (.slice A7 n7 c7) (l.take k) x.f0 x.f1 (x.f2.take j ++ [y])) := ⟨In2.put (In2.below HIN8.out HB9.out) ho7 hb7 hg7⟩
      have hc7 : w7.cell? ⟨gx, 2, none⟩ = some (.slice A5 n5 c5) := (blk_cell ((In2.below HIN8.out HB9.out).kept hg7) 2).trans rfl
      have hz7 := blk_frozen ((In2.below HIN8.out HB9.out).kept hg7) 2
      clear ho7 hb7 hg7 hat7
      refine hK.out _ _ ?_
      clear hK K
      refine norm_ (a' := ?_) ?_ ?_
      rotate_left
      · show Act.put _ (some 50) _ = _
        simp only [Act.put, List.setIfInBounds_toArray, List.set_cons_zero, List.set_cons_succ, i64_w, i32_w]
        rfl
      refine pure_ (i := 14) (N := some 51) (v := ?_) (a' := ?_) #[true, true, true, true, true, true, true, true, true, true, true, true, true, true, true, false] rfl rfl (any_of HT_.out (by kernel_rfl)) (fun _ _ _ h => h) (Or.inl ⟨by rfl, ?_⟩) ?_ ?_
      rotate_left
      · intro w'
        go_simp
        with_reducible rfl
      rotate_left
      · simp only [Act.put, List.setIfInBounds_toArray, List.set_cons_zero, List.set_cons_succ, i64_w, i32_w]
        rfl
      refine last_ (i := 15) (N := none) #[true, true, true, true, true, true, true, true, true, true, true, true, true, true, true, true] rfl rfl (one_of HT_.out (by kernel_rfl)) (by decide) (fun K hK => ?_)
      refine skip_ (w1 := ?_) (by rfl) rfl ?_ ?_
      rotate_left
      · go_simp
        rfl
      refine hK.out _ _ ?_
      clear hK K
      refine done_ (done_of HT_.out (by kernel_rfl)) ?_
      go_wp2
      go_roundg gj0
      case measure => omega
      case rel => exact ⟨j + 1, .slice A7 n7 c7, by push_cast; rfl, ⟨by have := HJ.out; omega⟩, ⟨by rw [HTJ.out]; exact HIN.out⟩⟩
#print axioms sectionsOf
end Go.Proofs.YtacndeejapfkiaaDoor.HandT

set_option linter.unusedVariables false
set_option linter.unusedSimpArgs false
namespace Go.Proofs.YtacndeejapfkiaaDoor.HandU
open Go.RowKit Go.Proofs.YtacndeejapfkiaaDoorW.PrintWords Go.Proofs.YtacndeejapfkiaaDoorW.PrintLast Go.Proofs.YtacndeejapfkiaaDoorW.PrintMore Go.Proofs.YtacndeejapfkiaaDoor.QAll Txt Ptr SepK HandA HandB HandC HandD HandE HandF HandM PureS HandN HandO HandP HandQ HandR HandS HandT PureU

set_option maxHeartbeats 4000000 in
set_option maxRecDepth 100000 in
theorem implSet (A : Option Addr) (c : Nat) (l : List S36) (sec sub key val : ByteArray) (w : World) (hC : Kd.C k36 w A l.length l) (hc : l.length ≤ c) (hz : Tight l) (hn : Named l) (hs : Word sec) (hk : Word key) :
    Calls Tryd.prog 11 #[.slice A l.length c, .string sec, .string sub, .string key, .string val] w fun e w' => ∃ v l2, e = .returned v ∧ k36.R 36 w' w.heap.size (fun _ => True) v l2 ∧ Upd l sec sub (fun os => setOpts os key val) l2 ∧ Below w.heap.size w w' := by
  have HCF := Aside0.mk (configOf A c l w hC hc hz.sized)
  have HZ := Aside0.mk hz
  have HN := Aside0.mk hn
  have HSW := Aside0.mk hs
  have HKW := Aside0.mk hk
  clear hC hc hz hn hs hk
  go_enter Tryd.func11, Tryd.ntmps11
  go_wp2_with (first
    | (go_at_call 20; (with_reducible refine HCF.out.mono ?_); rintro e w1 ⟨g, V, rfl, hgw, hcfg, hS, hb⟩
       have HSO := Aside0.mk (setOption g V l sec sub key val w w1 hgw hcfg hS hb HZ.out HN.out HSW.out HKW.out)
       clear hgw hcfg hS hb)
    | (go_at_call 21; (with_reducible refine HSO.out.mono ?_); rintro e w2 ⟨V1, l2, rfl, hcfg, hS, hu, hb⟩
       obtain ⟨A1, c1, rfl, hl1, hC1⟩ := Kd.R_reads (SR_toR hS)
       have HST := Aside0.mk (sectionsOf g A1 c1 l2 w2 hcfg hC1 (upd_sized hu (mild_set key val) HZ.out))
       have HU := Aside0.mk hu
       have HB2 := Aside0.mk hb
       clear hcfg hS hu hb hC1 hl1)
    | (go_at_call 19; (with_reducible refine HST.out.mono ?_); rintro e w3 ⟨v, rfl, hr, hb⟩
       have HR3 : Aside0 (k36.R 36 w3 w.heap.size (fun _ => True) v l2) := ⟨Kd.R_lower hr HB2.out.size⟩
       have HB3 : Aside0 (Below w.heap.size w w3) := ⟨HB2.out.trans (hb.mono HB2.out.size)⟩
       clear hr hb))
  go_ret
  exact ⟨v, l2, rfl, HR3.out, HU.out, HB3.out⟩
#print axioms implSet

set_option maxHeartbeats 4000000 in
set_option maxRecDepth 100000 in
theorem implAdd (A : Option Addr) (c : Nat) (l : List S36) (sec sub key val : ByteArray) (w : World) (hC : Kd.C k36 w A l.length l) (hc : l.length ≤ c) (hz : Tight l) (hn : Named l) (hs : Word sec) (hk : Word key) :
    Calls Tryd.prog 12 #[.slice A l.length c, .string sec, .string sub, .string key, .string val] w fun e w' => ∃ v l2, e = .returned v ∧ k36.R 36 w' w.heap.size (fun _ => True) v l2 ∧ Upd l sec sub (fun os => addOpts os key val) l2 ∧ Below w.heap.size w w' := by
  have HCF := Aside0.mk (configOf A c l w hC hc hz.sized)
  have HZ := Aside0.mk hz
  have HN := Aside0.mk hn
  have HSW := Aside0.mk hs
  have HKW := Aside0.mk hk
  clear hC hc hz hn hs hk
  go_enter Tryd.func12, Tryd.ntmps12
  go_wp2_with (first
    | (go_at_call 20; (with_reducible refine HCF.out.mono ?_); rintro e w1 ⟨g, V, rfl, hgw, hcfg, hS, hb⟩
       have HSO := Aside0.mk (addOption g V l sec sub key val w w1 hgw hcfg hS hb HZ.out HN.out HSW.out HKW.out)
       clear hgw hcfg hS hb)
    | (go_at_call 22; (with_reducible refine HSO.out.mono ?_); rintro e w2 ⟨V1, l2, rfl, hcfg, hS, hu, hb⟩
       obtain ⟨A1, c1, rfl, hl1, hC1⟩ := Kd.R_reads (SR_toR hS)
       have HST := Aside0.mk (sectionsOf g A1 c1 l2 w2 hcfg hC1 (upd_sized hu (mild_add key val) HZ.out))
       have HU := Aside0.mk hu
       have HB2 := Aside0.mk hb
       clear hcfg hS hu hb hC1 hl1)
    | (go_at_call 19; (with_reducible refine HST.out.mono ?_); rintro e w3 ⟨v, rfl, hr, hb⟩
       have HR3 : Aside0 (k36.R 36 w3 w.heap.size (fun _ => True) v l2) := ⟨Kd.R_lower hr HB2.out.size⟩
       have HB3 : Aside0 (Below w.heap.size w w3) := ⟨HB2.out.trans (hb.mono HB2.out.size)⟩
       clear hr hb))
  go_ret
  exact ⟨v, l2, rfl, HR3.out, HU.out, HB3.out⟩
#print axioms implAdd
end Go.Proofs.YtacndeejapfkiaaDoor.HandU
