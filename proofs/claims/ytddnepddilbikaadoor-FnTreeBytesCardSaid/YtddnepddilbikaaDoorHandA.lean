/- What is held of memory while a stream of bytes is read. bytes.Reader.Read, walked. -/
import Derived.Test.YtddnepddilbikaaDoorTxt
import Derived.Test.YtddnepddilbikaaDoorQAllx0
import Derived.Laws.CopyOwn
set_option linter.unusedVariables false
set_option linter.unusedSimpArgs false
namespace Go.Proofs.YtddnepddilbikaaDoor.PureA
open Go.RowKit Go.Proofs.YtddnepddilbikaaDoorW.PrintWords Txt

/-- Nothing but the order's draws. -/
structure Same (w w' : World) : Prop where
  heap : w'.heap = w.heap
  os : w'.os = w.os
  tape : w'.tape = w.tape
  output : w'.output = w.output
theorem Same.refl (w : World) : Same w w := ⟨rfl, rfl, rfl, rfl⟩
theorem Same.drew (w : World) : Same w w.drew := ⟨rfl, rfl, rfl, rfl⟩
theorem Same.trans {w w1 w2 : World} (h : Same w w1) (k : Same w1 w2) : Same w w2 := ⟨k.heap.trans h.heap, k.os.trans h.os, k.tape.trans h.tape, k.output.trans h.output⟩
theorem Same.cell {w w' : World} (h : Same w w') {a : Addr} {v : Value} (hc : w.cell? a = some v) : w'.cell? a = some v := by
  rw [← hc]; exact World.cell?_of_block (by rw [h.heap])
theorem Same.blk {w w' : World} (h : Same w w') {g : Nat} {o : Obj} (hg : w.heap[g]? = some o) : w'.heap[g]? = some o := by rw [h.heap]; exact hg
theorem Same.below {w w' : World} (h : Same w w') (B : Nat) : Below B w w' := ⟨h.os, h.tape, h.output, by rw [h.heap]; exact Nat.le_refl _, fun k _ => by rw [h.heap]⟩
/-- Blocks that were there and are not O's are as they were. -/
structure Far (w w1 : World) (O : Nat → Prop) : Prop where
  os : w1.os = w.os
  tape : w1.tape = w.tape
  output : w1.output = w.output
  size : w.heap.size ≤ w1.heap.size
  blk : ∀ k, k < w.heap.size → ¬ O k → w1.heap[k]? = w.heap[k]?
theorem Far.of_same {w w1 : World} (h : Same w w1) (O : Nat → Prop) : Far w w1 O := ⟨h.os, h.tape, h.output, by rw [h.heap]; exact Nat.le_refl _, fun k _ _ => by rw [h.heap]⟩
theorem Far.refl (w : World) (O : Nat → Prop) : Far w w O := Far.of_same (Same.refl w) O
theorem Far.of_below {w w1 : World} (h : Below w.heap.size w w1) (O : Nat → Prop) : Far w w1 O := ⟨h.os, h.tape, h.output, h.size, fun k hk _ => h.block k hk⟩
theorem Far.mono {w w1 : World} {O O' : Nat → Prop} (h : Far w w1 O) (hO : ∀ k, O k → O' k) : Far w w1 O' := ⟨h.os, h.tape, h.output, h.size, fun k hk hn => h.blk k hk (fun h => hn (hO k h))⟩
theorem Far.trans {w w1 w2 : World} {O : Nat → Prop} (h : Far w w1 O) (k : Far w1 w2 O) : Far w w2 O :=
  ⟨k.os.trans h.os, k.tape.trans h.tape, k.output.trans h.output, Nat.le_trans h.size k.size, fun i hi hn => (k.blk i (Nat.lt_of_lt_of_le hi h.size) hn).trans (h.blk i hi hn)⟩
/-- Behind what has been made anew, O may be as it is there. -/
theorem Far.trans2 {w w1 w2 : World} {O O1 : Nat → Prop} (h : Far w w1 O) (k : Far w1 w2 O1) (hO : ∀ i, O1 i → O i ∨ w.heap.size ≤ i) : Far w w2 O :=
  ⟨k.os.trans h.os, k.tape.trans h.tape, k.output.trans h.output, Nat.le_trans h.size k.size, fun i hi hn => (k.blk i (Nat.lt_of_lt_of_le hi h.size) (fun h1 => by rcases hO i h1 with h2 | h2; exact hn h2; omega)).trans (h.blk i hi hn)⟩
theorem Far.set {w w1 : World} {O : Nat → Prop} (h : Far w w1 O) {g j : Nat} (hg : O g) (v : Value) : Far w (w1.setCell ⟨g, j, none⟩ v) O :=
  ⟨h.os, h.tape, h.output, by simpa [World.setCell] using h.size, fun k hk hn => (Below.heap_setCell w1 ⟨g, j, none⟩ v k (by rintro rfl; exact hn hg)).trans (h.blk k hk hn)⟩
theorem Far.row {w w1 : World} {O : Nat → Prop} (h : Far w w1 O) {g : Nat} (hg : O g) (cs : Array Value) : Far w (w1.setRow g cs) O :=
  ⟨h.os, h.tape, h.output, by simpa using h.size, fun k hk hn => (setRow_other w1 g k cs (by rintro rfl; exact hn hg)).trans (h.blk k hk hn)⟩
theorem Far.below {w w1 : World} {O : Nat → Prop} (h : Far w w1 O) {B : Nat} (hB : B ≤ w.heap.size) (hO : ∀ k, O k → B ≤ k) : Below B w w1 :=
  ⟨h.os, h.tape, h.output, h.size, fun k hk => h.blk k (by omega) (fun h1 => by have := hO k h1; omega)⟩
theorem Far.keep {w w1 : World} {O : Nat → Prop} (h : Far w w1 O) {g : Nat} {o : Obj} (hg : w.heap[g]? = some o) (hn : ¬ O g) : w1.heap[g]? = some o := (h.blk g (blk_lt hg) hn).trans hg
theorem Far.cell {w w1 : World} {O : Nat → Prop} (h : Far w w1 O) {a : Addr} {v : Value} (hc : w.cell? a = some v) (hn : ¬ O a.block) : w1.cell? a = some v := by
  rw [← hc]; exact World.cell?_of_block (h.blk a.block (World.block_lt_of_cell? w _ hc) hn)

/-! ### bytes of a stream -/
def seg (D : List Int) (pos k : Nat) : List Value := ((D.drop pos).take k).map (Value.int .u8)
theorem seg_len (D : List Int) (pos k : Nat) (h : k ≤ D.length - pos) : (seg D pos k).length = k := by
  unfold seg
  rw [List.length_map, List.length_take, List.length_drop]
  omega
theorem seg_one (D : List Int) (pos k : Nat) : ∀ v ∈ seg D pos k, v.oneCell' = true := by
  intro v hv
  obtain ⟨x, _, rfl⟩ := List.mem_map.1 hv
  rfl
theorem seg_get (D : List Int) (pos k j : Nat) (v : Value) (h : (seg D pos k)[j]? = some v) : ∃ x, D[pos + j]? = some x ∧ v = .int .u8 x ∧ j < k := by
  unfold seg at h
  rw [List.getElem?_map, List.getElem?_take] at h
  by_cases hj : j < k
  · rw [if_pos hj, List.getElem?_drop] at h
    obtain ⟨x, hx, e⟩ := Option.map_eq_some_iff.1 h
    exact ⟨x, hx, e.symm, hj⟩
  · rw [if_neg hj] at h
    cases h
/-- The cells of a reader over D at the place pos. -/
def rdC (A : Option Addr) (D : List Int) (c pos : Nat) (pr : Int) : Array Value := #[.slice A D.length c, .int .i64 (pos : Int), .int .i64 pr]
theorem info5sz : (Tryd.prog.info? 5).map (·.size) = some 1 := by kernel_rfl
/-- D read from the place m on. -/
theorem cutD (A : Option Addr) (c : Nat) (D : List Int) (m : Nat) (hm : m ≤ D.length) (hc : D.length ≤ c) :
    ∃ A' : Option Addr, (∀ W : World, (Instr.slice 24 (.slice A D.length c) (some (.int .i64 (m : Int))) none none).run Tryd.prog W = .ok (.slice A' (D.length - m) (c - m)) W) ∧
      ∀ W, Kd.C (Kd.int .u8) W A D.length D → Kd.C (Kd.int .u8) W A' (D.length - m) (D.drop m) := by
  obtain ⟨i, hi, _, hsz, _⟩ := info_parts (show (Tryd.prog.info? 5).map (fun i => (i.zero, i.size, i.bytes)) = some (some (.int .u8 0), 1, 1) by kernel_rfl)
  obtain ⟨A', h1, h2⟩ := print_cut_of (P := Tryd.prog) (Value.int .u8) 0 24 5 .i64 Tryd.underlying24 hi hsz A D.length c m hm
  exact ⟨A', h1, fun W hC => by
    have := Kd.C_of_reads (h1 := fun _ => rfl) (h2 W D hc (Kd.reads_of_C hC))
    exact this⟩
theorem C_cells {W : World} {A : Option Addr} {D : List Int} (h : Kd.C (Kd.int .u8) W A D.length D) (hn : 0 < D.length) : ∃ ad, A = some ad ∧ ∀ (j : Nat) (x : Int), D[j]? = some x → W.cell? (ad.add j) = some (.int .u8 x) := by
  obtain ⟨ad, _, e, _, _, _⟩ := Kd.C_get h (0 : Int) 0 (by omega) (by omega)
  refine ⟨ad, e, fun j x hx => ?_⟩
  have hj := (List.getElem?_eq_some_iff.1 hx).1
  obtain ⟨ad', cs, e', _, hK, hr⟩ := Kd.C_get h (0 : Int) (j : Int) (by omega) (by omega)
  rw [e] at e'
  cases e'
  rw [Int.toNat_natCast, List.getD_eq_getElem?_getD, hx] at hK
  obtain rfl : cs = [.int .u8 x] := hK
  have := hr 0 _ rfl
  rw [Int.toNat_natCast] at this
  simpa [Kd.int, Kd.scalar] using this
/-- A row of rows of bytes, at a place. -/
theorem atR {w : World} {A : Option Addr} {n : Nat} {xs : List (List Int)} (h : Kd.C (Kd.slice 5 (Kd.int .u8)) w A n xs) (i : Int) (h0 : 0 ≤ i) (h1 : i < n) : ∃ ad A0 c0, A = some ad ∧ w.cell? (ad.add i.toNat) = some (.slice A0 (xs.getD i.toNat []).length c0) ∧ (xs.getD i.toNat []).length ≤ c0 ∧ (Kd.int .u8).C w A0 (xs.getD i.toNat []).length (xs.getD i.toNat []) := by
  obtain ⟨ad, c, e, _, hK, hc0⟩ := Kd.C_get h ([] : List Int) i h0 h1
  have hc : ∀ j u, c[j]? = some u → w.cell? (ad.add (i.toNat * 1 + j)) = some u := hc0
  obtain ⟨A0, c0, rfl, l0, g0⟩ := hK
  exact ⟨ad, A0, c0, e, by have hq := hc 0 _ rfl; rwa [Nat.mul_one, Nat.add_zero] at hq, l0, g0⟩
/-- A copy into a block that is known whole, as one step of a region that draws its order. -/
theorem step_copy_set {P : Program} {ops : Array Oper} {o : Oper} {a : Act} {w : World} {K : Act → World → Prop} {Q : Exit → Act → World → Prop} {E : Prop} (hgd : o.guard = none) (d s : Operand) (dT sT : TypeId)
    (ho : o.op = .call { callee := .builtin .copy, args := #[d, s], argTypes := #[dT, sT] }) (elem : TypeId) (hu : P.underlying dT = some (.slice elem)) (hsz : (P.info? elem).map (·.size) = some 1)
    (ad : Addr) (dLen dCap sLen sCap : Nat) (g off : Nat) (hd : a.eval d = .slice (some ⟨g, off, none⟩) dLen dCap) (hs : a.eval s = .slice (some ad) sLen sCap)
    (cur : List Value) (t : TypeId) (hg : w.heap[g]? = some (.cells cur.toArray t (0, 0))) (cs : List Value) (hn : cs.length = Nat.min sLen dLen)
    (hsrc : ∀ j v, cs[j]? = some v → w.cell? (ad.add j) = some v) (hfit : off + cs.length ≤ cur.length) (h1 : ∀ v ∈ cs, v.oneCell' = true)
    (h : K (a.put o.dst (goInt cs.length)) (w.setRow g (splice cur off cs).toArray)) :
    if Region.wanted o (yielded ops a.tmps) = true then Oper.wp P o a w K Q else E := by
  have hw : Region.wanted o (yielded ops a.tmps) = true := by simp [Region.wanted, hgd]
  rw [if_pos hw]
  have hrun := run_copy_row (P := P) w dT sT o.type elem g off dLen dCap ad sLen sCap cur.toArray t cs hu hsz hg hn hsrc (by simpa using hfit) h1
  unfold Oper.wp
  simp [execOp, ho, resolve, invoke, builtin, hd, hs, hrun, Result.andThen]
  exact (show K _ (w.setRow g (splice cur off cs).toArray) from h)
#print axioms step_copy_set
#print axioms cutD
#print axioms C_cells
end Go.Proofs.YtddnepddilbikaaDoor.PureA

set_option linter.unusedVariables false
set_option linter.unusedSimpArgs false
namespace Go.Proofs.YtddnepddilbikaaDoor.HandA
open Go.RowKit Go.Proofs.YtddnepddilbikaaDoorW.PrintWords Go.Proofs.YtddnepddilbikaaDoorW.PrintLast Go.Proofs.YtddnepddilbikaaDoorW.PrintMore Go.Proofs.YtddnepddilbikaaDoor.QAll Txt PureA

def read1.T1 : Bool × List (List Nat × List Nat) := (true, [([], []), ([0], [0]), ([1], [1]), ([2], [2]), ([], []), ([4], [4]), ([5], [5]), ([6], [6]), ([7], [7]), ([3, 8], [3, 8])])
def read1.B1 : List Nat := [0, 1, 3, 7, 0, 16, 48, 112, 240, 511]
theorem read1.tab1 : rtab .any (opsOf Tryd.f157 1) = read1.T1 := by kernel_rfl
theorem read1.bits1 : waitsOk read1.T1.2 read1.B1 = true := by kernel_rfl

def read2.T2 : Bool × List (List Nat × List Nat) := (true, [([], []), ([], []), ([0, 1, 0, 1], [0])])
def read2.B2 : List Nat := [0, 0, 3]
theorem read2.tab2 : rtab .any (opsOf Tryd.f157 2) = read2.T2 := by kernel_rfl
theorem read2.bits2 : waitsOk read2.T2.2 read2.B2 = true := by kernel_rfl

def read4.T4 : Bool × List (List Nat × List Nat) := (true, [([], []), ([], []), ([1], [1]), ([2], [2]), ([3], [3]), ([], []), ([5], [5]), ([6], [6]), ([7], [7]), ([4, 8], [4, 8]), ([0, 9], [0, 9]), ([10, 10, 0, 1, 2, 3, 4, 5, 6, 7, 8, 9, 10], [10])])
def read4.B4 : List Nat := [0, 0, 2, 6, 14, 0, 32, 96, 224, 510, 1023, 2047]
theorem read4.tab4 : rtab .any (opsOf Tryd.f157 4) = read4.T4 := by kernel_rfl
theorem read4.bits4 : waitsOk read4.T4.2 read4.B4 = true := by kernel_rfl

/-- What a Read leaves. -/
structure Rd (w w' : World) (rb g off : Nat) (A : Option Addr) (D : List Int) (c pos k : Nat) (cur : List Value) (t : Nat) : Prop where
  f : Far w w' (fun i => i = g ∨ i = rb)
  g : w'.heap[g]? = some (.cells (splice cur off (seg D pos k)).toArray t (0, 0))
  r : ∃ pr, w'.heap[rb]? = some (.cells (rdC A D c (pos + k) pr) 212 (0, 0))
set_option maxHeartbeats 8000000 in
set_option maxRecDepth 100000 in
theorem readEnd (rb n cb : Nat) (X : Option Addr) (A : Option Addr) (c : Nat) (D : List Int) (pr : Int) (eE : Value) (w : World) (hr : w.heap[rb]? = some (.cells (rdC A D c D.length pr) 212 (0, 0))) (hE : w.cell? ⟨1/-GE-/, 0, none⟩ = some eE) (hm : D.length ≤ 9223372036854775807) :
    Calls Tryd.prog 157 #[.pointer (some ⟨rb, 0, none⟩), .slice X n cb] w fun e w' => e = .returned (.tuple #[.int .i64 0, eE]) ∧ Same w w' := by
  obtain ⟨pos, hpos⟩ : ∃ pos, pos = D.length := ⟨_, rfl⟩
  have HC0 : Aside0 (w.cell? ⟨rb, 0, none⟩ = some (.slice A D.length c)) := ⟨(blk_cell hr 0).trans rfl⟩
  have HC1 : Aside0 (w.cell? ⟨rb, 1, none⟩ = some (.int .i64 (pos : Int))) := ⟨by rw [hpos]; exact (blk_cell hr 1).trans rfl⟩
  have HE := Aside0.mk hE
  have d0 : decide ((D.length : Int) ≤ (pos : Int)) = true := decide_eq_true (by omega)
  have d1 : decide (D.length ≤ pos) = true := decide_eq_true (by omega)
  clear hr hE
  go_enter Tryd.func157, Tryd.ntmps157
  go_upto_region 1 with fail
  refine start_ (n := 10) (S := fun w' => Same w w' ∧ w'.cell? ⟨rb, 0, none⟩ = some (.slice A D.length c) ∧ w'.cell? ⟨rb, 1, none⟩ = some (.int .i64 (pos : Int))) (ds := []) #[false, false, false, false, false, false, false, false, false, false] (by kernel_rfl) rfl rfl ⟨(Same.drew w), (Same.cell (Same.drew w) HC0.out), (Same.cell (Same.drew w) HC1.out)⟩ (fun hHeld => ?_)
  refine with_tabW read1.tab1 read1.bits1 (fun HT_ HW_ => ?_)
  generalize World.drew _ = wd at hHeld ⊢
  refine pure_ (i := 0) (N := some 6) (v := ?_) (a' := ?_) #[true, false, false, false, false, false, false, false, false, false] rfl rfl (any_of HT_.out (by kernel_rfl)) (fun _ _ _ h => h) (Or.inl ⟨by rfl, ?_⟩) ?_ ?_
  rotate_left
  · intro w'
    go_simp
    with_reducible rfl
  rotate_left
  · simp only [Act.put, List.setIfInBounds_toArray, List.set_cons_zero, List.set_cons_succ, i64_w, i32_w]
    rfl
  refine pure_ (i := 1) (N := some 7) (v := ?_) (a' := ?_) #[true, true, false, false, false, false, false, false, false, false] rfl rfl (any_of HT_.out (by kernel_rfl)) (fun _ _ _ h => h) (Or.inl ⟨by rfl, ?_⟩) ?_ ?_
  rotate_left
  · intro w'
    go_simp
    with_reducible rfl
  rotate_left
  · simp only [Act.put, List.setIfInBounds_toArray, List.set_cons_zero, List.set_cons_succ, i64_w, i32_w]
    rfl
  refine pure_ (i := 2) (N := some 8) (v := ?_) (a' := ?_) #[true, true, true, false, false, false, false, false, false, false] rfl rfl (any_of HT_.out (by kernel_rfl)) (fun _ _ _ h => h) (Or.inl ⟨by rfl, ?_⟩) ?_ ?_
  rotate_left
  · intro w'
    go_simp
    with_reducible rfl
  rotate_left
  · simp only [Act.put, List.setIfInBounds_toArray, List.set_cons_zero, List.set_cons_succ, i64_w, i32_w]
    rfl
  refine pure_ (i := 4) (N := some 10) (v := ?_) (a' := ?_) #[true, true, true, false, true, false, false, false, false, false] rfl rfl (any_of HT_.out (by kernel_rfl)) (fun _ _ _ h => h) (Or.inl ⟨by rfl, ?_⟩) ?_ ?_
  rotate_left
  · intro w'
    go_simp
    with_reducible rfl
  rotate_left
  · simp only [Act.put, List.setIfInBounds_toArray, List.set_cons_zero, List.set_cons_succ, i64_w, i32_w]
    rfl
  refine pure_ (i := 5) (N := some 11) (v := ?_) (a' := ?_) #[true, true, true, false, true, true, false, false, false, false] rfl rfl (any_of HT_.out (by kernel_rfl)) (fun _ _ _ h => h) (Or.inl ⟨by rfl, ?_⟩) ?_ ?_
  rotate_left
  · intro w'
    go_simp
    with_reducible rfl
  rotate_left
  · simp only [Act.put, List.setIfInBounds_toArray, List.set_cons_zero, List.set_cons_succ, i64_w, i32_w]
    rfl
  refine pure_ (i := 6) (N := some 12) (v := ?_) (a' := ?_) #[true, true, true, false, true, true, true, false, false, false] rfl rfl (any_of HT_.out (by kernel_rfl)) (fun _ _ _ h => h) (Or.inl ⟨by rfl, ?_⟩) ?_ ?_
  rotate_left
  · intro w'
    go_simp
    with_reducible rfl
  rotate_left
  · simp only [Act.put, List.setIfInBounds_toArray, List.set_cons_zero, List.set_cons_succ, i64_w, i32_w]
    rfl
  refine take_ (i := 3) (N := some 9) (v := ?_) (a' := ?_) #[true, true, true, true, true, true, true, false, false, false] rfl rfl (take_ofW HT_.out HW_.out (by kernel_rfl)) (fun _ _ _ h => h) (Or.inl ⟨by rfl, ?_⟩) hHeld ?_ ?_
  rotate_left
  · rintro w' ⟨s0, s1, s2⟩
    go_simp
    with_reducible rfl
  rotate_left
  · simp only [Act.put, List.setIfInBounds_toArray, List.set_cons_zero, List.set_cons_succ, i64_w, i32_w]
    rfl
  refine take_ (i := 7) (N := some 13) (v := ?_) (a' := ?_) #[true, true, true, true, true, true, true, true, false, false] rfl rfl (take_ofW HT_.out HW_.out (by kernel_rfl)) (fun _ _ _ h => h) (Or.inl ⟨by rfl, ?_⟩) hHeld ?_ ?_
  rotate_left
  · rintro w' ⟨s0, s1, s2⟩
    go_simp
    with_reducible rfl
  rotate_left
  · simp only [Act.put, List.setIfInBounds_toArray, List.set_cons_zero, List.set_cons_succ, i64_w, i32_w]
    rfl
  refine pure_ (i := 8) (N := some 14) (v := ?_) (a' := ?_) #[true, true, true, true, true, true, true, true, true, false] rfl rfl (any_of HT_.out (by kernel_rfl)) (fun _ _ _ h => h) (Or.inl ⟨by rfl, ?_⟩) ?_ ?_
  rotate_left
  · intro w'
    go_simp
    with_reducible rfl
  rotate_left
  · simp only [Act.put, List.setIfInBounds_toArray, List.set_cons_zero, List.set_cons_succ, i64_w, i32_w]
    rfl
  refine pure_ (i := 9) (N := some 15) (v := ?_) (a' := ?_) #[true, true, true, true, true, true, true, true, true, true] rfl rfl (any_of HT_.out (by kernel_rfl)) (fun _ _ _ h => h) (Or.inl ⟨by rfl, ?_⟩) ?_ ?_
  rotate_left
  · intro w'
    go_simp
    with_reducible rfl
  rotate_left
  · simp only [Act.put, List.setIfInBounds_toArray, List.set_cons_zero, List.set_cons_succ, i64_w, i32_w]
    rfl
  refine done_ (done_of HT_.out (by kernel_rfl)) ?_
  have HS1 := Aside0.mk hHeld.1
  clear hHeld
  go_upto_region 2 with fail
  refine start_ (n := 3) (S := fun w' => Same w w' ∧ w'.cell? ⟨1/-GE-/, 0, none⟩ = some eE) (ds := []) #[false, false, false] (by kernel_rfl) rfl rfl ⟨(HS1.out.trans (Same.drew wd)), (Same.cell (HS1.out.trans (Same.drew wd)) HE.out)⟩ (fun hHeld => ?_)
  refine with_tabW read2.tab2 read2.bits2 (fun HT_ HW_ => ?_)
  generalize World.drew _ = we at hHeld ⊢
  refine pure_ (i := 1) (N := some 4) (v := ?_) (a' := ?_) #[false, true, false] rfl rfl (any_of HT_.out (by kernel_rfl)) (fun _ _ _ h => h) (Or.inl ⟨by rfl, ?_⟩) ?_ ?_
  rotate_left
  · intro w'
    go_simp
    with_reducible rfl
  rotate_left
  · simp only [Act.put, List.setIfInBounds_toArray, List.set_cons_zero, List.set_cons_succ, i64_w, i32_w]
    rfl
  refine take_ (i := 0) (N := some 16) (v := ?_) (a' := ?_) #[true, true, false] rfl rfl (take_ofW HT_.out HW_.out (by kernel_rfl)) (fun _ _ _ h => h) (Or.inl ⟨by rfl, ?_⟩) hHeld ?_ ?_
  rotate_left
  · rintro w' ⟨s0, s1⟩
    go_simp
    with_reducible rfl
  rotate_left
  · simp only [Act.put, List.setIfInBounds_toArray, List.set_cons_zero, List.set_cons_succ, i64_w, i32_w]
    rfl
  refine pure_ (i := 2) (N := some 5) (v := ?_) (a' := ?_) #[true, true, true] rfl rfl (any_of HT_.out (by kernel_rfl)) (fun _ _ _ h => h) (Or.inl ⟨by rfl, ?_⟩) ?_ ?_
  rotate_left
  · intro w'
    go_simp
    with_reducible rfl
  rotate_left
  · simp only [Act.put, List.setIfInBounds_toArray, List.set_cons_zero, List.set_cons_succ, i64_w, i32_w]
    rfl
  refine done_ (done_of HT_.out (by kernel_rfl)) ?_
  have HS2 := Aside0.mk hHeld.1
  clear hHeld
  go_wp2
  go_ret2
  exact ⟨rfl, HS2.out⟩
set_option maxHeartbeats 8000000 in
set_option maxRecDepth 100000 in
theorem readSome (rb g off n cb k : Nat) (A : Option Addr) (c : Nat) (D : List Int) (pos : Nat) (pr : Int) (cur : List Value) (t : Nat) (w : World) (hr : w.heap[rb]? = some (.cells (rdC A D c pos pr) 212 (0, 0))) (hg : w.heap[g]? = some (.cells cur.toArray t (0, 0))) (hne : rb ≠ g) (hfit : off + n ≤ cur.length)
    (hD : Kd.C (Kd.int .u8) w A D.length D) (hDc : D.length ≤ c) (hpos : pos < D.length) (hk : k = min n (D.length - pos)) :
    Calls Tryd.prog 157 #[.pointer (some ⟨rb, 0, none⟩), .slice (some ⟨g, off, none⟩) n cb] w fun e w' => e = .returned (.tuple #[.int .i64 (k : Int), .nilIface]) ∧ Rd w w' rb g off A D c pos k cur t := by
  have hm : D.length ≤ 9223372036854775807 := hD.2.1
  have HC0 : Aside0 (w.cell? ⟨rb, 0, none⟩ = some (.slice A D.length c)) := ⟨(blk_cell hr 0).trans rfl⟩
  have HC1 : Aside0 (w.cell? ⟨rb, 1, none⟩ = some (.int .i64 (pos : Int))) := ⟨(blk_cell hr 1).trans rfl⟩
  have HRB := Aside0.mk hr
  have HGB := Aside0.mk hg
  have HNE := Aside0.mk hne
  have HFIT := Aside0.mk hfit
  have HPOS := Aside0.mk hpos
  have HM := Aside0.mk hm
  have HK := Aside0.mk hk
  have HK1 : Aside0 (k ≤ n) := ⟨by omega⟩
  have HK2 : Aside0 (k ≤ D.length - pos) := ⟨by omega⟩
  have hwk : wrap64 ((pos : Int) + (k : Int)) = ((pos + k : Nat) : Int) := by unfold wrap64; omega
  have d0 : decide ((D.length : Int) ≤ (pos : Int)) = false := decide_eq_false (by omega)
  have d1 : decide (D.length ≤ pos) = false := decide_eq_false (by omega)
  obtain ⟨AS, hcut, hcr⟩ := cutD A c D pos (by omega) hDc
  have HAS0 : Aside0 (∃ ad, AS = some ad ∧ ∀ j v, (seg D pos k)[j]? = some v → w.cell? (ad.add j) = some v) := ⟨by
    have h1 := hcr w hD
    rw [← List.length_drop] at h1
    obtain ⟨ad, e, hc⟩ := C_cells h1 (by rw [List.length_drop]; omega)
    refine ⟨ad, e, fun j v hv => ?_⟩
    obtain ⟨x, hx, rfl, _⟩ := seg_get D pos _ j v hv
    exact hc j x (by rw [List.getElem?_drop]; exact hx)⟩
  clear hr hg hne hfit hpos hm hD hcr hk
  go_enter Tryd.func157, Tryd.ntmps157
  go_upto_region 1 with fail
  refine start_ (n := 10) (S := fun w' => Same w w' ∧ w'.cell? ⟨rb, 0, none⟩ = some (.slice A D.length c) ∧ w'.cell? ⟨rb, 1, none⟩ = some (.int .i64 (pos : Int))) (ds := []) #[false, false, false, false, false, false, false, false, false, false] (by kernel_rfl) rfl rfl ⟨(Same.drew w), (Same.cell (Same.drew w) HC0.out), (Same.cell (Same.drew w) HC1.out)⟩ (fun hHeld => ?_)
  refine with_tabW read1.tab1 read1.bits1 (fun HT_ HW_ => ?_)
  generalize World.drew _ = wd at hHeld ⊢
  refine pure_ (i := 0) (N := some 6) (v := ?_) (a' := ?_) #[true, false, false, false, false, false, false, false, false, false] rfl rfl (any_of HT_.out (by kernel_rfl)) (fun _ _ _ h => h) (Or.inl ⟨by rfl, ?_⟩) ?_ ?_
  rotate_left
  · intro w'
    go_simp
    with_reducible rfl
  rotate_left
  · simp only [Act.put, List.setIfInBounds_toArray, List.set_cons_zero, List.set_cons_succ, i64_w, i32_w]
    rfl
  refine pure_ (i := 1) (N := some 7) (v := ?_) (a' := ?_) #[true, true, false, false, false, false, false, false, false, false] rfl rfl (any_of HT_.out (by kernel_rfl)) (fun _ _ _ h => h) (Or.inl ⟨by rfl, ?_⟩) ?_ ?_
  rotate_left
  · intro w'
    go_simp
    with_reducible rfl
  rotate_left
  · simp only [Act.put, List.setIfInBounds_toArray, List.set_cons_zero, List.set_cons_succ, i64_w, i32_w]
    rfl
  refine pure_ (i := 2) (N := some 8) (v := ?_) (a' := ?_) #[true, true, true, false, false, false, false, false, false, false] rfl rfl (any_of HT_.out (by kernel_rfl)) (fun _ _ _ h => h) (Or.inl ⟨by rfl, ?_⟩) ?_ ?_
  rotate_left
  · intro w'
    go_simp
    with_reducible rfl
  rotate_left
  · simp only [Act.put, List.setIfInBounds_toArray, List.set_cons_zero, List.set_cons_succ, i64_w, i32_w]
    rfl
  refine pure_ (i := 4) (N := some 10) (v := ?_) (a' := ?_) #[true, true, true, false, true, false, false, false, false, false] rfl rfl (any_of HT_.out (by kernel_rfl)) (fun _ _ _ h => h) (Or.inl ⟨by rfl, ?_⟩) ?_ ?_
  rotate_left
  · intro w'
    go_simp
    with_reducible rfl
  rotate_left
  · simp only [Act.put, List.setIfInBounds_toArray, List.set_cons_zero, List.set_cons_succ, i64_w, i32_w]
    rfl
  refine pure_ (i := 5) (N := some 11) (v := ?_) (a' := ?_) #[true, true, true, false, true, true, false, false, false, false] rfl rfl (any_of HT_.out (by kernel_rfl)) (fun _ _ _ h => h) (Or.inl ⟨by rfl, ?_⟩) ?_ ?_
  rotate_left
  · intro w'
    go_simp
    with_reducible rfl
  rotate_left
  · simp only [Act.put, List.setIfInBounds_toArray, List.set_cons_zero, List.set_cons_succ, i64_w, i32_w]
    rfl
  refine pure_ (i := 6) (N := some 12) (v := ?_) (a' := ?_) #[true, true, true, false, true, true, true, false, false, false] rfl rfl (any_of HT_.out (by kernel_rfl)) (fun _ _ _ h => h) (Or.inl ⟨by rfl, ?_⟩) ?_ ?_
  rotate_left
  · intro w'
    go_simp
    with_reducible rfl
  rotate_left
  · simp only [Act.put, List.setIfInBounds_toArray, List.set_cons_zero, List.set_cons_succ, i64_w, i32_w]
    rfl
  refine take_ (i := 3) (N := some 9) (v := ?_) (a' := ?_) #[true, true, true, true, true, true, true, false, false, false] rfl rfl (take_ofW HT_.out HW_.out (by kernel_rfl)) (fun _ _ _ h => h) (Or.inl ⟨by rfl, ?_⟩) hHeld ?_ ?_
  rotate_left
  · rintro w' ⟨s0, s1, s2⟩
    go_simp
    with_reducible rfl
  rotate_left
  · simp only [Act.put, List.setIfInBounds_toArray, List.set_cons_zero, List.set_cons_succ, i64_w, i32_w]
    rfl
  refine take_ (i := 7) (N := some 13) (v := ?_) (a' := ?_) #[true, true, true, true, true, true, true, true, false, false] rfl rfl (take_ofW HT_.out HW_.out (by kernel_rfl)) (fun _ _ _ h => h) (Or.inl ⟨by rfl, ?_⟩) hHeld ?_ ?_
  rotate_left
  · rintro w' ⟨s0, s1, s2⟩
    go_simp
    with_reducible rfl
  rotate_left
  · simp only [Act.put, List.setIfInBounds_toArray, List.set_cons_zero, List.set_cons_succ, i64_w, i32_w]
    rfl
  refine pure_ (i := 8) (N := some 14) (v := ?_) (a' := ?_) #[true, true, true, true, true, true, true, true, true, false] rfl rfl (any_of HT_.out (by kernel_rfl)) (fun _ _ _ h => h) (Or.inl ⟨by rfl, ?_⟩) ?_ ?_
  rotate_left
  · intro w'
    go_simp
    with_reducible rfl
  rotate_left
  · simp only [Act.put, List.setIfInBounds_toArray, List.set_cons_zero, List.set_cons_succ, i64_w, i32_w]
    rfl
  refine pure_ (i := 9) (N := some 15) (v := ?_) (a' := ?_) #[true, true, true, true, true, true, true, true, true, true] rfl rfl (any_of HT_.out (by kernel_rfl)) (fun _ _ _ h => h) (Or.inl ⟨by rfl, ?_⟩) ?_ ?_
  rotate_left
  · intro w'
    go_simp
    with_reducible rfl
  rotate_left
  · simp only [Act.put, List.setIfInBounds_toArray, List.set_cons_zero, List.set_cons_succ, i64_w, i32_w]
    rfl
  refine done_ (done_of HT_.out (by kernel_rfl)) ?_
  have HS1 := Aside0.mk hHeld.1
  have hc2 : wd.cell? ⟨rb, 2, none⟩ = some (.int .i64 pr) := (blk_cell (HS1.out.blk HRB.out) 2).trans rfl
  have hz2 := blk_frozen (HS1.out.blk HRB.out) 2
  clear hHeld
  go_upto_region 4 with fail
  have HRF : Aside0 ((wd.setCell ⟨rb, 2, none⟩ (.int .i64 (-1))).heap[rb]? = some (.cells (rdC A D c pos (-1)) 212 (0, 0))) := ⟨blk_put (HS1.out.blk HRB.out) 2 _ rfl⟩
  have HGF : Aside0 ((wd.setCell ⟨rb, 2, none⟩ (.int .i64 (-1))).heap[g]? = some (.cells cur.toArray t (0, 0))) := ⟨blk_far (HS1.out.blk HGB.out) (by show g ≠ rb; exact fun e => HNE.out e.symm) _⟩
  have HFF : Aside0 (Far w (wd.setCell ⟨rb, 2, none⟩ (.int .i64 (-1))) (fun i => i = g ∨ i = rb)) := ⟨(Far.of_same HS1.out _).set (Or.inr rfl) _⟩
  have HAS : Aside0 (∀ W, Same (wd.setCell ⟨rb, 2, none⟩ (.int .i64 (-1))) W → ∃ ad, AS = some ad ∧ ∀ j v, (seg D pos k)[j]? = some v → W.cell? (ad.add j) = some v) := ⟨fun W hW => by
    obtain ⟨ad, e, hc⟩ := HAS0.out
    refine ⟨ad, e, fun j v hv => hW.cell ?_⟩
    have h1 := HS1.out.cell (hc j v hv)
    obtain ⟨x, hx, rfl, _⟩ := seg_get D pos _ j v hv
    have hne2 : (ad.add j) ≠ ⟨rb, 2, none⟩ := fun e2 => by
      rw [e2, hc2] at h1
      injection h1 with h1
      injection h1 with h1 _
      cases h1
    rw [World.cell?_setCell_other _ _ _ _ hne2.symm]
    exact h1⟩
  clear hc2 hz2 HAS0
  generalize wd.setCell ⟨rb, 2, none⟩ (.int .i64 (-1)) = wf at HRF HGF HFF HAS ⊢
  have HF0 : Aside0 (wf.cell? ⟨rb, 0, none⟩ = some (.slice A D.length c)) := ⟨(blk_cell HRF.out 0).trans rfl⟩
  have HF1 : Aside0 (wf.cell? ⟨rb, 1, none⟩ = some (.int .i64 (pos : Int))) := ⟨(blk_cell HRF.out 1).trans rfl⟩
  refine start_ (n := 12) (S := fun w' => Same wf w' ∧ w'.cell? ⟨rb, 0, none⟩ = some (.slice A D.length c) ∧ w'.cell? ⟨rb, 1, none⟩ = some (.int .i64 (pos : Int))) (ds := [10]) #[false, false, false, false, false, false, false, false, false, false, false, false] (by kernel_rfl) rfl rfl ⟨(Same.drew wf), (Same.cell (Same.drew wf) HF0.out), (Same.cell (Same.drew wf) HF1.out)⟩ (fun hHeld => ?_)
  refine with_tabW read4.tab4 read4.bits4 (fun HT_ HW_ => ?_)
  generalize World.drew _ = wg at hHeld ⊢
  refine pure_ (i := 0) (N := some 20) (v := ?_) (a' := ?_) #[true, false, false, false, false, false, false, false, false, false, false, false] rfl rfl (any_of HT_.out (by kernel_rfl)) (fun _ _ _ h => h) (Or.inl ⟨by rfl, ?_⟩) ?_ ?_
  rotate_left
  · intro w'
    go_simp
    with_reducible rfl
  rotate_left
  · simp only [Act.put, List.setIfInBounds_toArray, List.set_cons_zero, List.set_cons_succ, i64_w, i32_w]
    rfl
  refine pure_ (i := 1) (N := some 21) (v := ?_) (a' := ?_) #[true, true, false, false, false, false, false, false, false, false, false, false] rfl rfl (any_of HT_.out (by kernel_rfl)) (fun _ _ _ h => h) (Or.inl ⟨by rfl, ?_⟩) ?_ ?_
  rotate_left
  · intro w'
    go_simp
    with_reducible rfl
  rotate_left
  · simp only [Act.put, List.setIfInBounds_toArray, List.set_cons_zero, List.set_cons_succ, i64_w, i32_w]
    rfl
  refine pure_ (i := 2) (N := some 22) (v := ?_) (a' := ?_) #[true, true, true, false, false, false, false, false, false, false, false, false] rfl rfl (any_of HT_.out (by kernel_rfl)) (fun _ _ _ h => h) (Or.inl ⟨by rfl, ?_⟩) ?_ ?_
  rotate_left
  · intro w'
    go_simp
    with_reducible rfl
  rotate_left
  · simp only [Act.put, List.setIfInBounds_toArray, List.set_cons_zero, List.set_cons_succ, i64_w, i32_w]
    rfl
  refine pure_ (i := 3) (N := some 23) (v := ?_) (a' := ?_) #[true, true, true, true, false, false, false, false, false, false, false, false] rfl rfl (any_of HT_.out (by kernel_rfl)) (fun _ _ _ h => h) (Or.inl ⟨by rfl, ?_⟩) ?_ ?_
  rotate_left
  · intro w'
    go_simp
    with_reducible rfl
  rotate_left
  · simp only [Act.put, List.setIfInBounds_toArray, List.set_cons_zero, List.set_cons_succ, i64_w, i32_w]
    rfl
  refine pure_ (i := 5) (N := some 25) (v := ?_) (a' := ?_) #[true, true, true, true, false, true, false, false, false, false, false, false] rfl rfl (any_of HT_.out (by kernel_rfl)) (fun _ _ _ h => h) (Or.inl ⟨by rfl, ?_⟩) ?_ ?_
  rotate_left
  · intro w'
    go_simp
    with_reducible rfl
  rotate_left
  · simp only [Act.put, List.setIfInBounds_toArray, List.set_cons_zero, List.set_cons_succ, i64_w, i32_w]
    rfl
  refine pure_ (i := 6) (N := some 26) (v := ?_) (a' := ?_) #[true, true, true, true, false, true, true, false, false, false, false, false] rfl rfl (any_of HT_.out (by kernel_rfl)) (fun _ _ _ h => h) (Or.inl ⟨by rfl, ?_⟩) ?_ ?_
  rotate_left
  · intro w'
    go_simp
    with_reducible rfl
  rotate_left
  · simp only [Act.put, List.setIfInBounds_toArray, List.set_cons_zero, List.set_cons_succ, i64_w, i32_w]
    rfl
  refine pure_ (i := 7) (N := some 27) (v := ?_) (a' := ?_) #[true, true, true, true, false, true, true, true, false, false, false, false] rfl rfl (any_of HT_.out (by kernel_rfl)) (fun _ _ _ h => h) (Or.inl ⟨by rfl, ?_⟩) ?_ ?_
  rotate_left
  · intro w'
    go_simp
    with_reducible rfl
  rotate_left
  · simp only [Act.put, List.setIfInBounds_toArray, List.set_cons_zero, List.set_cons_succ, i64_w, i32_w]
    rfl
  refine take_ (i := 4) (N := some 24) (v := ?_) (a' := ?_) #[true, true, true, true, true, true, true, true, false, false, false, false] rfl rfl (take_ofW HT_.out HW_.out (by kernel_rfl)) (fun _ _ _ h => h) (Or.inl ⟨by rfl, ?_⟩) hHeld ?_ ?_
  rotate_left
  · rintro w' ⟨s0, s1, s2⟩
    go_simp
    with_reducible rfl
  rotate_left
  · simp only [Act.put, List.setIfInBounds_toArray, List.set_cons_zero, List.set_cons_succ, i64_w, i32_w]
    rfl
  refine take_ (i := 8) (N := some 28) (v := ?_) (a' := ?_) #[true, true, true, true, true, true, true, true, true, false, false, false] rfl rfl (take_ofW HT_.out HW_.out (by kernel_rfl)) (fun _ _ _ h => h) (Or.inl ⟨by rfl, ?_⟩) hHeld ?_ ?_
  rotate_left
  · rintro w' ⟨s0, s1, s2⟩
    go_simp
    with_reducible rfl
  rotate_left
  · simp only [Act.put, List.setIfInBounds_toArray, List.set_cons_zero, List.set_cons_succ, i64_w, i32_w]
    rfl
  refine pure_ (i := 9) (N := some 29) (v := ?_) (a' := ?_) #[true, true, true, true, true, true, true, true, true, true, false, false] rfl rfl (any_of HT_.out (by kernel_rfl)) (fun _ _ _ h => h) (Or.inl ⟨by rfl, ?_⟩) ?_ ?_
  rotate_left
  · intro w'
    go_simp
    with_reducible rfl
  rotate_left
  · simp only [Act.put, List.setIfInBounds_toArray, List.set_cons_zero, List.set_cons_succ, i64_w, i32_w]
    rfl
  refine last_ (i := 10) (N := some 30) #[true, true, true, true, true, true, true, true, true, true, true, false] rfl rfl (one_of HT_.out (by kernel_rfl)) (by decide) (fun K hK => ?_)
  have HS4 := Aside0.mk hHeld.1
  obtain ⟨ad, hAS, hcells⟩ := HAS.out _ hHeld.1
  subst hAS
  refine step_copy_set (by rfl) (.tmp 20) (.tmp 29) 24 24 rfl 5 Tryd.underlying24 info5sz ad n cb (D.length - pos) (c - pos) g off rfl rfl cur t (HS4.out.blk HGF.out) (seg D pos k) (by rw [seg_len _ _ _ HK2.out, HK.out]; exact Nat.min_comm _ _) hcells ?hfit (seg_one _ _ _) ?_
  case hfit => rw [seg_len _ _ _ HK2.out]; have := HFIT.out; have := HK1.out; omega
  refine hK.out _ _ ?_
  clear hK K
  refine norm_ (a' := ?_) ?_ ?_
  rotate_left
  · show Act.put _ (some 30) _ = _
    simp only [Act.put, List.setIfInBounds_toArray, List.set_cons_zero, List.set_cons_succ, i64_w, i32_w]
    rfl
  refine pure_ (i := 11) (N := some 4) (v := ?_) (a' := ?_) #[true, true, true, true, true, true, true, true, true, true, true, true] rfl rfl (any_of HT_.out (by kernel_rfl)) (fun _ _ _ h => h) (Or.inl ⟨by rfl, ?_⟩) ?_ ?_
  rotate_left
  · intro w'
    go_simp
    with_reducible rfl
  rotate_left
  · simp only [Act.put, List.setIfInBounds_toArray, List.set_cons_zero, List.set_cons_succ, i64_w, i32_w]
    rfl
  refine done_ (done_of HT_.out (by kernel_rfl)) ?_
  clear hHeld HAS hcut
  rw [seg_len D pos k HK2.out]
  have HRG : Aside0 ((wg.setRow g (splice cur off (seg D pos k)).toArray).heap[rb]? = some (.cells (rdC A D c pos (-1)) 212 (0, 0))) := ⟨(setRow_other wg g rb _ HNE.out).trans (HS4.out.blk HRF.out)⟩
  have HGG : Aside0 ((wg.setRow g (splice cur off (seg D pos k)).toArray).heap[g]? = some (.cells (splice cur off (seg D pos k)).toArray t (0, 0))) := ⟨setRow_heap wg g _ _ t (0, 0) (HS4.out.blk HGF.out)⟩
  have HFG : Aside0 (Far w (wg.setRow g (splice cur off (seg D pos k)).toArray) (fun i => i = g ∨ i = rb)) := ⟨(HFF.out.trans (Far.of_same HS4.out _)).row (Or.inl rfl) _⟩
  generalize wg.setRow g (splice cur off (seg D pos k)).toArray = wh at HRG HGG HFG ⊢
  have hc1 : wh.cell? ⟨rb, 1, none⟩ = some (.int .i64 (pos : Int)) := (blk_cell HRG.out 1).trans rfl
  have hz1 := blk_frozen HRG.out 1
  go_wp2
  go_ret2
  exact ⟨rfl, HFG.out.set (Or.inr rfl) _, blk_far HGG.out (by show g ≠ rb; exact fun e => HNE.out e.symm) _, -1, blk_put HRG.out 1 _ (by unfold rdC; rw [Int.natCast_add]; rfl)⟩
#print axioms readEnd
#print axioms readSome
end Go.Proofs.YtddnepddilbikaaDoor.HandA
