/- bytes.Reader.Read, walked. -/
import Derived.Test.YtddnepddilbikaaDoorPureA
import Derived.Test.YtddnepddilbikaaDoorQAllx0
set_option linter.unusedVariables false
set_option linter.unusedSimpArgs false
namespace Go.Proofs.YtddnepddilbikaaDoor.HandA
open Go.RowKit Go.Proofs.YtddnepddilbikaaDoorW.PrintWords Go.Proofs.YtddnepddilbikaaDoorW.PrintLast Go.Proofs.YtddnepddilbikaaDoorW.PrintMore Go.Proofs.YtddnepddilbikaaDoor.QAll Txt PureA

def read1.T1 : Bool × List (List Nat × List Nat) := (true, [([], []), ([0], [0]), ([1], [1]), ([2], [2]), ([], []), ([4], [4]), ([5], [5]), ([6], [6]), ([7], [7]), ([3, 8], [3, 8])])
def read1.B1 : List Nat := [0, 1, 3, 7, 0, 16, 48, 112, 240, 511]
theorem read1.tab1 : rtab .any (opsOf Tryd.f157 1) = read1.T1 := by kernel_rfl
theorem read1.bits1 : waitsOk read1.T1.2 read1.B1 = true := by kernel_rfl

def read2.T2 : Bool × List (List Nat × List Nat) := (true, [([], []), ([], []), ([0, 1, 0, 1], [0])])
def read2.B2 : List Nat := [0, 0, 3]
theorem read2.tab2 : rtab .any (opsOf Tryd.f157 2) = read2.T2 := by kernel_rfl
theorem read2.bits2 : waitsOk read2.T2.2 read2.B2 = true := by kernel_rfl

def read4.T4 : Bool × List (List Nat × List Nat) := (true, [([], []), ([], []), ([1], [1]), ([2], [2]), ([3], [3]), ([], []), ([5], [5]), ([6], [6]), ([7], [7]), ([4, 8], [4, 8]), ([0, 9], [0, 9]), ([10, 10, 0, 1, 2, 3, 4, 5, 6, 7, 8, 9, 10], [10])])
def read4.B4 : List Nat := [0, 0, 2, 6, 14, 0, 32, 96, 224, 510, 1023, 2047]
theorem read4.tab4 : rtab .any (opsOf Tryd.f157 4) = read4.T4 := by kernel_rfl
theorem read4.bits4 : waitsOk read4.T4.2 read4.B4 = true := by kernel_rfl

/-- What a Read leaves. -/
structure Rd (w w' : World) (rb g off : Nat) (A : Option Addr) (D : List Int) (c pos k : Nat) (cur : List Value) (t : Nat) : Prop where
  f : Far w w' (fun i => i = g ∨ i = rb)
  g : w'.heap[g]? = some (.cells (splice cur off (seg D pos k)).toArray t (0, 0))
  r : ∃ pr, w'.heap[rb]? = some (.cells (rdC A D c (pos + k) pr) 212 (0, 0))
set_option maxHeartbeats 8000000 in
set_option maxRecDepth 100000 in
theorem readEnd (rb n cb : Nat) (X : Option Addr) (A : Option Addr) (c : Nat) (D : List Int) (pr : Int) (eE : Value) (w : World) (hr : w.heap[rb]? = some (.cells (rdC A D c D.length pr) 212 (0, 0))) (hE : w.cell? ⟨1/-GE-/, 0, none⟩ = some eE) (hm : D.length ≤ 9223372036854775807) :
    Calls Tryd.prog 157 #[.pointer (some ⟨rb, 0, none⟩), .slice X n cb] w fun e w' => e = .returned (.tuple #[.int .i64 0, eE]) ∧ Same w w' := by
  obtain ⟨pos, hpos⟩ : ∃ pos, pos = D.length := ⟨_, rfl⟩
  have HC0 : Aside0 (w.cell? ⟨rb, 0, none⟩ = some (.slice A D.length c)) := ⟨(blk_cell hr 0).trans rfl⟩
  have HC1 : Aside0 (w.cell? ⟨rb, 1, none⟩ = some (.int .i64 (pos : Int))) := ⟨by rw [hpos]; exact (blk_cell hr 1).trans rfl⟩
  have HE := Aside0.mk hE
  have d0 : decide ((D.length : Int) ≤ (pos : Int)) = true := decide_eq_true (by omega)
  have d1 : decide (D.length ≤ pos) = true := decide_eq_true (by omega)
  clear hr hE
  go_enter Tryd.func157, Tryd.ntmps157
  go_upto_region 1 with fail
  refine start_ (n := 10) (S := fun w' => Same w w' ∧ w'.cell? ⟨rb, 0, none⟩ = some (.slice A D.length c) ∧ w'.cell? ⟨rb, 1, none⟩ = some (.int .i64 (pos : Int))) (ds := []) #[false, false, false, false, false, false, false, false, false, false] (by kernel_rfl) rfl rfl ⟨(Same.drew w), (Same.cell (Same.drew w) HC0.out), (Same.cell (Same.drew w) HC1.out)⟩ (fun hHeld => ?_)
  refine with_tabW read1.tab1 read1.bits1 (fun HT_ HW_ => ?_)
  generalize World.drew _ = wd at hHeld ⊢
  refine pure_ (i := 0) (N := some 6) (v := ?_) (a' := ?_) #[true, false, false, false, false, false, false, false, false, false] rfl rfl (any_of HT_.out (by kernel_rfl)) (fun _ _ _ h => h) (Or.inl ⟨by rfl, ?_⟩) ?_ ?_
  rotate_left
  · intro w'
    go_simp
    with_reducible rfl
  rotate_left
  · simp only [Act.put, List.setIfInBounds_toArray, List.set_cons_zero, List.set_cons_succ, i64_w, i32_w]
    rfl
  refine pure_ (i := 1) (N := some 7) (v := ?_) (a' := ?_) #[true, true, false, false, false, false, false, false, false, false] rfl rfl (any_of HT_.out (by kernel_rfl)) (fun _ _ _ h => h) (Or.inl ⟨by rfl, ?_⟩) ?_ ?_
  rotate_left
  · intro w'
    go_simp
    with_reducible rfl
  rotate_left
  · simp only [Act.put, List.setIfInBounds_toArray, List.set_cons_zero, List.set_cons_succ, i64_w, i32_w]
    rfl
  refine pure_ (i := 2) (N := some 8) (v := ?_) (a' := ?_) #[true, true, true, false, false, false, false, false, false, false] rfl rfl (any_of HT_.out (by kernel_rfl)) (fun _ _ _ h => h) (Or.inl ⟨by rfl, ?_⟩) ?_ ?_
  rotate_left
  · intro w'
    go_simp
    with_reducible rfl
  rotate_left
  · simp only [Act.put, List.setIfInBounds_toArray, List.set_cons_zero, List.set_cons_succ, i64_w, i32_w]
    rfl
  refine pure_ (i := 4) (N := some 10) (v := ?_) (a' := ?_) #[true, true, true, false, true, false, false, false, false, false] rfl rfl (any_of HT_.out (by kernel_rfl)) (fun _ _ _ h => h) (Or.inl ⟨by rfl, ?_⟩) ?_ ?_
  rotate_left
  · intro w'
    go_simp
    with_reducible rfl
  rotate_left
  · simp only [Act.put, List.setIfInBounds_toArray, List.set_cons_zero, List.set_cons_succ, i64_w, i32_w]
    rfl
  refine pure_ (i := 5) (N := some 11) (v := ?_) (a' := ?_) #[true, true, true, false, true, true, false, false, false, false] rfl rfl (any_of HT_.out (by kernel_rfl)) (fun _ _ _ h => h) (Or.inl ⟨by rfl, ?_⟩) ?_ ?_
  rotate_left
  · intro w'
    go_simp
    with_reducible rfl
  rotate_left
  · simp only [Act.put, List.setIfInBounds_toArray, List.set_cons_zero, List.set_cons_succ, i64_w, i32_w]
    rfl
  refine pure_ (i := 6) (N := some 12) (v := ?_) (a' := ?_) #[true, true, true, false, true, true, true, false, false, false] rfl rfl (any_of HT_.out (by kernel_rfl)) (fun _ _ _ h => h) (Or.inl ⟨by rfl, ?_⟩) ?_ ?_
  rotate_left
  · intro w'
    go_simp
    with_reducible rfl
  rotate_left
  · simp only [Act.put, List.setIfInBounds_toArray, List.set_cons_zero, List.set_cons_succ, i64_w, i32_w]
    rfl
  refine take_ (i := 3) (N := some 9) (v := ?_) (a' := ?_) #[true, true, true, true, true, true, true, false, false, false] rfl rfl (take_ofW HT_.out HW_.out (by kernel_rfl)) (fun _ _ _ h => h) (Or.inl ⟨by rfl, ?_⟩) hHeld ?_ ?_
  rotate_left
  · rintro w' ⟨s0, s1, s2⟩
    go_simp
    with_reducible rfl
  rotate_left
  · simp only [Act.put, List.setIfInBounds_toArray, List.set_cons_zero, List.set_cons_succ, i64_w, i32_w]
    rfl
  refine take_ (i := 7) (N := some 13) (v := ?_) (a' := ?_) #[true, true, true, true, true, true, true, true, false, false] rfl rfl (take_ofW HT_.out HW_.out (by kernel_rfl)) (fun _ _ _ h => h) (Or.inl ⟨by rfl, ?_⟩) hHeld ?_ ?_
  rotate_left
  · rintro w' ⟨s0, s1, s2⟩
    go_simp
    with_reducible rfl
  rotate_left
  · simp only [Act.put, List.setIfInBounds_toArray, List.set_cons_zero, List.set_cons_succ, i64_w, i32_w]
    rfl
  refine pure_ (i := 8) (N := some 14) (v := ?_) (a' := ?_) #[true, true, true, true, true, true, true, true, true, false] rfl rfl (any_of HT_.out (by kernel_rfl)) (fun _ _ _ h => h) (Or.inl ⟨by rfl, ?_⟩) ?_ ?_
  rotate_left
  · intro w'
    go_simp
    with_reducible rfl
  rotate_left
  · simp only [Act.put, List.setIfInBounds_toArray, List.set_cons_zero, List.set_cons_succ, i64_w, i32_w]
    rfl
  refine pure_ (i := 9) (N := some 15) (v := ?_) (a' := ?_) #[true, true, true, true, true, true, true, true, true, true] rfl rfl (any_of HT_.out (by kernel_rfl)) (fun _ _ _ h => h) (Or.inl ⟨by rfl, ?_⟩) ?_ ?_
  rotate_left
  · intro w'
    go_simp
    with_reducible rfl
  rotate_left
  · simp only [Act.put, List.setIfInBounds_toArray, List.set_cons_zero, List.set_cons_succ, i64_w, i32_w]
    rfl
  refine done_ (done_of HT_.out (by kernel_rfl)) ?_
  have HS1 := Aside0.mk hHeld.1
  clear hHeld
  go_upto_region 2 with fail
  refine start_ (n := 3) (S := fun w' => Same w w' ∧ w'.cell? ⟨1/-GE-/, 0, none⟩ = some eE) (ds := []) #[false, false, false] (by kernel_rfl) rfl rfl ⟨(HS1.out.trans (Same.drew wd)), (Same.cell (HS1.out.trans (Same.drew wd)) HE.out)⟩ (fun hHeld => ?_)
  refine with_tabW read2.tab2 read2.bits2 (fun HT_ HW_ => ?_)
  generalize World.drew _ = we at hHeld ⊢
  refine pure_ (i := 1) (N := some 4) (v := ?_) (a' := ?_) #[false, true, false] rfl rfl (any_of HT_.out (by kernel_rfl)) (fun _ _ _ h => h) (Or.inl ⟨by rfl, ?_⟩) ?_ ?_
  rotate_left
  · intro w'
    go_simp
    with_reducible rfl
  rotate_left
  · simp only [Act.put, List.setIfInBounds_toArray, List.set_cons_zero, List.set_cons_succ, i64_w, i32_w]
    rfl
  refine take_ (i := 0) (N := some 16) (v := ?_) (a' := ?_) #[true, true, false] rfl rfl (take_ofW HT_.out HW_.out (by kernel_rfl)) (fun _ _ _ h => h) (Or.inl ⟨by rfl, ?_⟩) hHeld ?_ ?_
  rotate_left
  · rintro w' ⟨s0, s1⟩
    go_simp
    with_reducible rfl
  rotate_left
  · simp only [Act.put, List.setIfInBounds_toArray, List.set_cons_zero, List.set_cons_succ, i64_w, i32_w]
    rfl
  refine pure_ (i := 2) (N := some 5) (v := ?_) (a' := ?_) #[true, true, true] rfl rfl (any_of HT_.out (by kernel_rfl)) (fun _ _ _ h => h) (Or.inl ⟨by rfl, ?_⟩) ?_ ?_
  rotate_left
  · intro w'
    go_simp
    with_reducible rfl
  rotate_left
  · simp only [Act.put, List.setIfInBounds_toArray, List.set_cons_zero, List.set_cons_succ, i64_w, i32_w]
    rfl
  refine done_ (done_of HT_.out (by kernel_rfl)) ?_
  have HS2 := Aside0.mk hHeld.1
  clear hHeld
  go_wp2
  go_ret2
  exact ⟨rfl, HS2.out⟩
set_option maxHeartbeats 8000000 in
set_option maxRecDepth 100000 in
theorem readSome (rb g off n cb k : Nat) (A : Option Addr) (c : Nat) (D : List Int) (pos : Nat) (pr : Int) (cur : List Value) (t : Nat) (w : World) (hr : w.heap[rb]? = some (.cells (rdC A D c pos pr) 212 (0, 0))) (hg : w.heap[g]? = some (.cells cur.toArray t (0, 0))) (hne : rb ≠ g) (hfit : off + n ≤ cur.length)
    (hD : Kd.C (Kd.int .u8) w A D.length D) (hDc : D.length ≤ c) (hpos : pos < D.length) (hk : k = min n (D.length - pos)) :
    Calls Tryd.prog 157 #[.pointer (some ⟨rb, 0, none⟩), .slice (some ⟨g, off, none⟩) n cb] w fun e w' => e = .returned (.tuple #[.int .i64 (k : Int), .nilIface]) ∧ Rd w w' rb g off A D c pos k cur t := by
  have hm : D.length ≤ 9223372036854775807 := hD.2.1
  have HC0 : Aside0 (w.cell? ⟨rb, 0, none⟩ = some (.slice A D.length c)) := ⟨(blk_cell hr 0).trans rfl⟩
  have HC1 : Aside0 (w.cell? ⟨rb, 1, none⟩ = some (.int .i64 (pos : Int))) := ⟨(blk_cell hr 1).trans rfl⟩
  have HRB := Aside0.mk hr
  have HGB := Aside0.mk hg
  have HNE := Aside0.mk hne
  have HFIT := Aside0.mk hfit
  have HPOS := Aside0.mk hpos
  have HM := Aside0.mk hm
  have HK := Aside0.mk hk
  have HK1 : Aside0 (k ≤ n) := ⟨by omega⟩
  have HK2 : Aside0 (k ≤ D.length - pos) := ⟨by omega⟩
  have hwk : wrap64 ((pos : Int) + (k : Int)) = ((pos + k : Nat) : Int) := by unfold wrap64; omega
  have d0 : decide ((D.length : Int) ≤ (pos : Int)) = false := decide_eq_false (by omega)
  have d1 : decide (D.length ≤ pos) = false := decide_eq_false (by omega)
  obtain ⟨AS, hcut, hcr⟩ := cutD A c D pos (by omega) hDc
  have HAS0 : Aside0 (∃ ad, AS = some ad ∧ ∀ j v, (seg D pos k)[j]? = some v → w.cell? (ad.add j) = some v) := ⟨by
    have h1 := hcr w hD
    rw [← List.length_drop] at h1
    obtain ⟨ad, e, hc⟩ := C_cells h1 (by rw [List.length_drop]; omega)
    refine ⟨ad, e, fun j v hv => ?_⟩
    obtain ⟨x, hx, rfl, _⟩ := seg_get D pos _ j v hv
    exact hc j x (by rw [List.getElem?_drop]; exact hx)⟩
  clear hr hg hne hfit hpos hm hD hcr hk
  go_enter Tryd.func157, Tryd.ntmps157
  go_upto_region 1 with fail
  refine start_ (n := 10) (S := fun w' => Same w w' ∧ w'.cell? ⟨rb, 0, none⟩ = some (.slice A D.length c) ∧ w'.cell? ⟨rb, 1, none⟩ = some (.int .i64 (pos : Int))) (ds := []) #[false, false, false, false, false, false, false, false, false, false] (by kernel_rfl) rfl rfl ⟨(Same.drew w), (Same.cell (Same.drew w) HC0.out), (Same.cell (Same.drew w) HC1.out)⟩ (fun hHeld => ?_)
  refine with_tabW read1.tab1 read1.bits1 (fun HT_ HW_ => ?_)
  generalize World.drew _ = wd at hHeld ⊢
  refine pure_ (i := 0) (N := some 6) (v := ?_) (a' := ?_) #[true, false, false, false, false, false, false, false, false, false] rfl rfl (any_of HT_.out (by kernel_rfl)) (fun _ _ _ h => h) (Or.inl ⟨by rfl, ?_⟩) ?_ ?_
  rotate_left
  · intro w'
    go_simp
    with_reducible rfl
  rotate_left
  · simp only [Act.put, List.setIfInBounds_toArray, List.set_cons_zero, List.set_cons_succ, i64_w, i32_w]
    rfl
  refine pure_ (i := 1) (N := some 7) (v := ?_) (a' := ?_) #[true, true, false, false, false, false, false, false, false, false] rfl rfl (any_of HT_.out (by kernel_rfl)) (fun _ _ _ h => h) (Or.inl ⟨by rfl, ?_⟩) ?_ ?_
  rotate_left
  · intro w'
    go_simp
    with_reducible rfl
  rotate_left
  · simp only [Act.put, List.setIfInBounds_toArray, List.set_cons_zero, List.set_cons_succ, i64_w, i32_w]
    rfl
  refine pure_ (i := 2) (N := some 8) (v := ?_) (a' := ?_) #[true, true, true, false, false, false, false, false, false, false] rfl rfl (any_of HT_.out (by kernel_rfl)) (fun _ _ _ h => h) (Or.inl ⟨by rfl, ?_⟩) ?_ ?_
  rotate_left
  · intro w'
    go_simp
    with_reducible rfl
  rotate_left
  · simp only [Act.put, List.setIfInBounds_toArray, List.set_cons_zero, List.set_cons_succ, i64_w, i32_w]
    rfl
  refine pure_ (i := 4) (N := some 10) (v := ?_) (a' := ?_) #[true, true, true, false, true, false, false, false, false, false] rfl rfl (any_of HT_.out (by kernel_rfl)) (fun _ _ _ h => h) (Or.inl ⟨by rfl, ?_⟩) ?_ ?_
  rotate_left
  · intro w'
    go_simp
    with_reducible rfl
  rotate_left
  · simp only [Act.put, List.setIfInBounds_toArray, List.set_cons_zero, List.set_cons_succ, i64_w, i32_w]
    rfl
  refine pure_ (i := 5) (N := some 11) (v := ?_) (a' := ?_) #[true, true, true, false, true, true, false, false, false, false] rfl rfl (any_of HT_.out (by kernel_rfl)) (fun _ _ _ h => h) (Or.inl ⟨by rfl, ?_⟩) ?_ ?_
  rotate_left
  · intro w'
    go_simp
    with_reducible rfl
  rotate_left
  · simp only [Act.put, List.setIfInBounds_toArray, List.set_cons_zero, List.set_cons_succ, i64_w, i32_w]
    rfl
  refine pure_ (i := 6) (N := some 12) (v := ?_) (a' := ?_) #[true, true, true, false, true, true, true, false, false, false] rfl rfl (any_of HT_.out (by kernel_rfl)) (fun _ _ _ h => h) (Or.inl ⟨by rfl, ?_⟩) ?_ ?_
  rotate_left
  · intro w'
    go_simp
    with_reducible rfl
  rotate_left
  · simp only [Act.put, List.setIfInBounds_toArray, List.set_cons_zero, List.set_cons_succ, i64_w, i32_w]
    rfl
  refine take_ (i := 3) (N := some 9) (v := ?_) (a' := ?_) #[true, true, true, true, true, true, true, false, false, false] rfl rfl (take_ofW HT_.out HW_.out (by kernel_rfl)) (fun _ _ _ h => h) (Or.inl ⟨by rfl, ?_⟩) hHeld ?_ ?_
  rotate_left
  · rintro w' ⟨s0, s1, s2⟩
    go_simp
    with_reducible rfl
  rotate_left
  · simp only [Act.put, List.setIfInBounds_toArray, List.set_cons_zero, List.set_cons_succ, i64_w, i32_w]
    rfl
  refine take_ (i := 7) (N := some 13) (v := ?_) (a' := ?_) #[true, true, true, true, true, true, true, true, false, false] rfl rfl (take_ofW HT_.out HW_.out (by kernel_rfl)) (fun _ _ _ h => h) (Or.inl ⟨by rfl, ?_⟩) hHeld ?_ ?_
  rotate_left
  · rintro w' ⟨s0, s1, s2⟩
    go_simp
    with_reducible rfl
  rotate_left
  · simp only [Act.put, List.setIfInBounds_toArray, List.set_cons_zero, List.set_cons_succ, i64_w, i32_w]
    rfl
  refine pure_ (i := 8) (N := some 14) (v := ?_) (a' := ?_) #[true, true, true, true, true, true, true, true, true, false] rfl rfl (any_of HT_.out (by kernel_rfl)) (fun _ _ _ h => h) (Or.inl ⟨by rfl, ?_⟩) ?_ ?_
  rotate_left
  · intro w'
    go_simp
    with_reducible rfl
  rotate_left
  · simp only [Act.put, List.setIfInBounds_toArray, List.set_cons_zero, List.set_cons_succ, i64_w, i32_w]
    rfl
  refine pure_ (i := 9) (N := some 15) (v := ?_) (a' := ?_) #[true, true, true, true, true, true, true, true, true, true] rfl rfl (any_of HT_.out (by kernel_rfl)) (fun _ _ _ h => h) (Or.inl ⟨by rfl, ?_⟩) ?_ ?_
  rotate_left
  · intro w'
    go_simp
    with_reducible rfl
  rotate_left
  · simp only [Act.put, List.setIfInBounds_toArray, List.set_cons_zero, List.set_cons_succ, i64_w, i32_w]
    rfl
  refine done_ (done_of HT_.out (by kernel_rfl)) ?_
  have HS1 := Aside0.mk hHeld.1
  have hc2 : wd.cell? ⟨rb, 2, none⟩ = some (.int .i64 pr) := (blk_cell (HS1.out.blk HRB.out) 2).trans rfl
  have hz2 := blk_frozen (HS1.out.blk HRB.out) 2
  clear hHeld
  go_upto_region 4 with fail
  have HRF : Aside0 ((wd.setCell ⟨rb, 2, none⟩ (.int .i64 (-1))).heap[rb]? = some (.cells (rdC A D c pos (-1)) 212 (0, 0))) := ⟨blk_put (HS1.out.blk HRB.out) 2 _ rfl⟩
  have HGF : Aside0 ((wd.setCell ⟨rb, 2, none⟩ (.int .i64 (-1))).heap[g]? = some (.cells cur.toArray t (0, 0))) := ⟨blk_far (HS1.out.blk HGB.out) (by show g ≠ rb; exact fun e => HNE.out e.symm) _⟩
  have HFF : Aside0 (Far w (wd.setCell ⟨rb, 2, none⟩ (.int .i64 (-1))) (fun i => i = g ∨ i = rb)) := ⟨(Far.of_same HS1.out _).set (Or.inr rfl) _⟩
  have HAS : Aside0 (∀ W, Same (wd.setCell ⟨rb, 2, none⟩ (.int .i64 (-1))) W → ∃ ad, AS = some ad ∧ ∀ j v, (seg D pos k)[j]? = some v → W.cell? (ad.add j) = some v) := ⟨fun W hW => by
    obtain ⟨ad, e, hc⟩ := HAS0.out
    refine ⟨ad, e, fun j v hv => hW.cell ?_⟩
    have h1 := HS1.out.cell (hc j v hv)
    obtain ⟨x, hx, rfl, _⟩ := seg_get D pos _ j v hv
    have hne2 : (ad.add j) ≠ ⟨rb, 2, none⟩ := fun e2 => by
      rw [e2, hc2] at h1
      injection h1 with h1
      injection h1 with h1 _
      cases h1
    rw [World.cell?_setCell_other _ _ _ _ hne2.symm]
    exact h1⟩
  clear hc2 hz2 HAS0
  generalize wd.setCell ⟨rb, 2, none⟩ (.int .i64 (-1)) = wf at HRF HGF HFF HAS ⊢
  have HF0 : Aside0 (wf.cell? ⟨rb, 0, none⟩ = some (.slice A D.length c)) := ⟨(blk_cell HRF.out 0).trans rfl⟩
  have HF1 : Aside0 (wf.cell? ⟨rb, 1, none⟩ = some (.int .i64 (pos : Int))) := ⟨(blk_cell HRF.out 1).trans rfl⟩
  refine start_ (n := 12) (S := fun w' => Same wf w' ∧ w'.cell? ⟨rb, 0, none⟩ = some (.slice A D.length c) ∧ w'.cell? ⟨rb, 1, none⟩ = some (.int .i64 (pos : Int))) (ds := [10]) #[false, false, false, false, false, false, false, false, false, false, false, false] (by kernel_rfl) rfl rfl ⟨(Same.drew wf), (Same.cell (Same.drew wf) HF0.out), (Same.cell (Same.drew wf) HF1.out)⟩ (fun hHeld => ?_)
  refine with_tabW read4.tab4 read4.bits4 (fun HT_ HW_ => ?_)
  generalize World.drew _ = wg at hHeld ⊢
  refine pure_ (i := 0) (N := some 20) (v := ?_) (a' := ?_) #[true, false, false, false, false, false, false, false, false, false, false, false] rfl rfl (any_of HT_.out (by kernel_rfl)) (fun _ _ _ h => h) (Or.inl ⟨by rfl, ?_⟩) ?_ ?_
  rotate_left
  · intro w'
    go_simp
    with_reducible rfl
  rotate_left
  · simp only [Act.put, List.setIfInBounds_toArray, List.set_cons_zero, List.set_cons_succ, i64_w, i32_w]
    rfl
  refine pure_ (i := 1) (N := some 21) (v := ?_) (a' := ?_) #[true, true, false, false, false, false, false, false, false, false, false, false] rfl rfl (any_of HT_.out (by kernel_rfl)) (fun _ _ _ h => h) (Or.inl ⟨by rfl, ?_⟩) ?_ ?_
  rotate_left
  · intro w'
    go_simp
    with_reducible rfl
  rotate_left
  · simp only [Act.put, List.setIfInBounds_toArray, List.set_cons_zero, List.set_cons_succ, i64_w, i32_w]
    rfl
  refine pure_ (i := 2) (N := some 22) (v := ?_) (a' := ?_) #[true, true, true, false, false, false, false, false, false, false, false, false] rfl rfl (any_of HT_.out (by kernel_rfl)) (fun _ _ _ h => h) (Or.inl ⟨by rfl, ?_⟩) ?_ ?_
  rotate_left
  · intro w'
    go_simp
    with_reducible rfl
  rotate_left
  · simp only [Act.put, List.setIfInBounds_toArray, List.set_cons_zero, List.set_cons_succ, i64_w, i32_w]
    rfl
  refine pure_ (i := 3) (N := some 23) (v := ?_) (a' := ?_) #[true, true, true, true, false, false, false, false, false, false, false, false] rfl rfl (any_of HT_.out (by kernel_rfl)) (fun _ _ _ h => h) (Or.inl ⟨by rfl, ?_⟩) ?_ ?_
  rotate_left
  · intro w'
    go_simp
    with_reducible rfl
  rotate_left
  · simp only [Act.put, List.setIfInBounds_toArray, List.set_cons_zero, List.set_cons_succ, i64_w, i32_w]
    rfl
  refine pure_ (i := 5) (N := some 25) (v := ?_) (a' := ?_) #[true, true, true, true, false, true, false, false, false, false, false, false] rfl rfl (any_of HT_.out (by kernel_rfl)) (fun _ _ _ h => h) (Or.inl ⟨by rfl, ?_⟩) ?_ ?_
  rotate_left
  · intro w'
    go_simp
    with_reducible rfl
  rotate_left
  · simp only [Act.put, List.setIfInBounds_toArray, List.set_cons_zero, List.set_cons_succ, i64_w, i32_w]
    rfl
  refine pure_ (i := 6) (N := some 26) (v := ?_) (a' := ?_) #[true, true, true, true, false, true, true, false, false, false, false, false] rfl rfl (any_of HT_.out (by kernel_rfl)) (fun _ _ _ h => h) (Or.inl ⟨by rfl, ?_⟩) ?_ ?_
  rotate_left
  · intro w'
    go_simp
    with_reducible rfl
  rotate_left
  · simp only [Act.put, List.setIfInBounds_toArray, List.set_cons_zero, List.set_cons_succ, i64_w, i32_w]
    rfl
  refine pure_ (i := 7) (N := some 27) (v := ?_) (a' := ?_) #[true, true, true, true, false, true, true, true, false, false, false, false] rfl rfl (any_of HT_.out (by kernel_rfl)) (fun _ _ _ h => h) (Or.inl ⟨by rfl, ?_⟩) ?_ ?_
  rotate_left
  · intro w'
    go_simp
    with_reducible rfl
  rotate_left
  · simp only [Act.put, List.setIfInBounds_toArray, List.set_cons_zero, List.set_cons_succ, i64_w, i32_w]
    rfl
  refine take_ (i := 4) (N := some 24) (v := ?_) (a' := ?_) #[true, true, true, true, true, true, true, true, false, false, false, false] rfl rfl (take_ofW HT_.out HW_.out (by kernel_rfl)) (fun _ _ _ h => h) (Or.inl ⟨by rfl, ?_⟩) hHeld ?_ ?_
  rotate_left
  · rintro w' ⟨s0, s1, s2⟩
    go_simp
    with_reducible rfl
  rotate_left
  · simp only [Act.put, List.setIfInBounds_toArray, List.set_cons_zero, List.set_cons_succ, i64_w, i32_w]
    rfl
  refine take_ (i := 8) (N := some 28) (v := ?_) (a' := ?_) #[true, true, true, true, true, true, true, true, true, false, false, false] rfl rfl (take_ofW HT_.out HW_.out (by kernel_rfl)) (fun _ _ _ h => h) (Or.inl ⟨by rfl, ?_⟩) hHeld ?_ ?_
  rotate_left
  · rintro w' ⟨s0, s1, s2⟩
    go_simp
    with_reducible rfl
  rotate_left
  · simp only [Act.put, List.setIfInBounds_toArray, List.set_cons_zero, List.set_cons_succ, i64_w, i32_w]
    rfl
  refine pure_ (i := 9) (N := some 29) (v := ?_) (a' := ?_) #[true, true, true, true, true, true, true, true, true, true, false, false] rfl rfl (any_of HT_.out (by kernel_rfl)) (fun _ _ _ h => h) (Or.inl ⟨by rfl, ?_⟩) ?_ ?_
  rotate_left
  · intro w'
    go_simp
    with_reducible rfl
  rotate_left
  · simp only [Act.put, List.setIfInBounds_toArray, List.set_cons_zero, List.set_cons_succ, i64_w, i32_w]
    rfl
  refine last_ (i := 10) (N := some 30) #[true, true, true, true, true, true, true, true, true, true, true, false] rfl rfl (one_of HT_.out (by kernel_rfl)) (by decide) (fun K hK => ?_)
  have HS4 := Aside0.mk hHeld.1
  obtain ⟨ad, hAS, hcells⟩ := HAS.out _ hHeld.1
  subst hAS
  refine step_copy_set (by rfl) (.tmp 20) (.tmp 29) 24 24 rfl 5 Tryd.underlying24 info5sz ad n cb (D.length - pos) (c - pos) g off rfl rfl cur t (HS4.out.blk HGF.out) (seg D pos k) (by rw [seg_len _ _ _ HK2.out, HK.out]; exact Nat.min_comm _ _) hcells ?hfit (seg_one _ _ _) ?_
  case hfit => rw [seg_len _ _ _ HK2.out]; have := HFIT.out; have := HK1.out; omega
  refine hK.out _ _ ?_
  clear hK K
  refine norm_ (a' := ?_) ?_ ?_
  rotate_left
  · show Act.put _ (some 30) _ = _
    simp only [Act.put, List.setIfInBounds_toArray, List.set_cons_zero, List.set_cons_succ, i64_w, i32_w]
    rfl
  refine pure_ (i := 11) (N := some 4) (v := ?_) (a' := ?_) #[true, true, true, true, true, true, true, true, true, true, true, true] rfl rfl (any_of HT_.out (by kernel_rfl)) (fun _ _ _ h => h) (Or.inl ⟨by rfl, ?_⟩) ?_ ?_
  rotate_left
  · intro w'
    go_simp
    with_reducible rfl
  rotate_left
  · simp only [Act.put, List.setIfInBounds_toArray, List.set_cons_zero, List.set_cons_succ, i64_w, i32_w]
    rfl
  refine done_ (done_of HT_.out (by kernel_rfl)) ?_
  clear hHeld HAS hcut
  rw [seg_len D pos k HK2.out]
  have HRG : Aside0 ((wg.setRow g (splice cur off (seg D pos k)).toArray).heap[rb]? = some (.cells (rdC A D c pos (-1)) 212 (0, 0))) := ⟨(setRow_other wg g rb _ HNE.out).trans (HS4.out.blk HRF.out)⟩
  have HGG : Aside0 ((wg.setRow g (splice cur off (seg D pos k)).toArray).heap[g]? = some (.cells (splice cur off (seg D pos k)).toArray t (0, 0))) := ⟨setRow_heap wg g _ _ t (0, 0) (HS4.out.blk HGF.out)⟩
  have HFG : Aside0 (Far w (wg.setRow g (splice cur off (seg D pos k)).toArray) (fun i => i = g ∨ i = rb)) := ⟨(HFF.out.trans (Far.of_same HS4.out _)).row (Or.inl rfl) _⟩
  generalize wg.setRow g (splice cur off (seg D pos k)).toArray = wh at HRG HGG HFG ⊢
  have hc1 : wh.cell? ⟨rb, 1, none⟩ = some (.int .i64 (pos : Int)) := (blk_cell HRG.out 1).trans rfl
  have hz1 := blk_frozen HRG.out 1
  go_wp2
  go_ret2
  exact ⟨rfl, HFG.out.set (Or.inr rfl) _, blk_far HGG.out (by show g ≠ rb; exact fun e => HNE.out e.symm) _, -1, blk_put HRG.out 1 _ (by unfold rdC; rw [Int.natCast_add]; rfl)⟩
#print axioms readEnd
#print axioms readSome
end Go.Proofs.YtddnepddilbikaaDoor.HandA
