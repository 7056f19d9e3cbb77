/- What is held of memory while a stream of bytes is read. -/
import Derived.Test.YtddnepddilbikaaDoorTxt
import Derived.Test.YtddnepddilbikaaDoorQAllx0
import Derived.Laws.CopyOwn
set_option linter.unusedVariables false
set_option linter.unusedSimpArgs false
namespace Go.Proofs.YtddnepddilbikaaDoor.PureA
open Go.RowKit Go.Proofs.YtddnepddilbikaaDoorW.PrintWords Txt

/-- Nothing but the order's draws. -/
structure Same (w w' : World) : Prop where
  heap : w'.heap = w.heap
  os : w'.os = w.os
  tape : w'.tape = w.tape
  output : w'.output = w.output
theorem Same.refl (w : World) : Same w w := ⟨rfl, rfl, rfl, rfl⟩
theorem Same.drew (w : World) : Same w w.drew := ⟨rfl, rfl, rfl, rfl⟩
theorem Same.trans {w w1 w2 : World} (h : Same w w1) (k : Same w1 w2) : Same w w2 := ⟨k.heap.trans h.heap, k.os.trans h.os, k.tape.trans h.tape, k.output.trans h.output⟩
theorem Same.cell {w w' : World} (h : Same w w') {a : Addr} {v : Value} (hc : w.cell? a = some v) : w'.cell? a = some v := by
  rw [← hc]; exact World.cell?_of_block (by rw [h.heap])
theorem Same.blk {w w' : World} (h : Same w w') {g : Nat} {o : Obj} (hg : w.heap[g]? = some o) : w'.heap[g]? = some o := by rw [h.heap]; exact hg
theorem Same.below {w w' : World} (h : Same w w') (B : Nat) : Below B w w' := ⟨h.os, h.tape, h.output, by rw [h.heap]; exact Nat.le_refl _, fun k _ => by rw [h.heap]⟩
/-- Blocks that were there and are not O's are as they were. -/
structure Far (w w1 : World) (O : Nat → Prop) : Prop where
  os : w1.os = w.os
  tape : w1.tape = w.tape
  output : w1.output = w.output
  size : w.heap.size ≤ w1.heap.size
  blk : ∀ k, k < w.heap.size → ¬ O k → w1.heap[k]? = w.heap[k]?
theorem Far.of_same {w w1 : World} (h : Same w w1) (O : Nat → Prop) : Far w w1 O := ⟨h.os, h.tape, h.output, by rw [h.heap]; exact Nat.le_refl _, fun k _ _ => by rw [h.heap]⟩
theorem Far.refl (w : World) (O : Nat → Prop) : Far w w O := Far.of_same (Same.refl w) O
theorem Far.of_below {w w1 : World} (h : Below w.heap.size w w1) (O : Nat → Prop) : Far w w1 O := ⟨h.os, h.tape, h.output, h.size, fun k hk _ => h.block k hk⟩
theorem Far.mono {w w1 : World} {O O' : Nat → Prop} (h : Far w w1 O) (hO : ∀ k, O k → O' k) : Far w w1 O' := ⟨h.os, h.tape, h.output, h.size, fun k hk hn => h.blk k hk (fun h => hn (hO k h))⟩
theorem Far.trans {w w1 w2 : World} {O : Nat → Prop} (h : Far w w1 O) (k : Far w1 w2 O) : Far w w2 O :=
  ⟨k.os.trans h.os, k.tape.trans h.tape, k.output.trans h.output, Nat.le_trans h.size k.size, fun i hi hn => (k.blk i (Nat.lt_of_lt_of_le hi h.size) hn).trans (h.blk i hi hn)⟩
/-- Behind what has been made anew, O may be as it is there. -/
theorem Far.trans2 {w w1 w2 : World} {O O1 : Nat → Prop} (h : Far w w1 O) (k : Far w1 w2 O1) (hO : ∀ i, O1 i → O i ∨ w.heap.size ≤ i) : Far w w2 O :=
  ⟨k.os.trans h.os, k.tape.trans h.tape, k.output.trans h.output, Nat.le_trans h.size k.size, fun i hi hn => (k.blk i (Nat.lt_of_lt_of_le hi h.size) (fun h1 => by rcases hO i h1 with h2 | h2; exact hn h2; omega)).trans (h.blk i hi hn)⟩
theorem Far.set {w w1 : World} {O : Nat → Prop} (h : Far w w1 O) {g j : Nat} (hg : O g) (v : Value) : Far w (w1.setCell ⟨g, j, none⟩ v) O :=
  ⟨h.os, h.tape, h.output, by simpa [World.setCell] using h.size, fun k hk hn => (Below.heap_setCell w1 ⟨g, j, none⟩ v k (by rintro rfl; exact hn hg)).trans (h.blk k hk hn)⟩
theorem Far.row {w w1 : World} {O : Nat → Prop} (h : Far w w1 O) {g : Nat} (hg : O g) (cs : Array Value) : Far w (w1.setRow g cs) O :=
  ⟨h.os, h.tape, h.output, by simpa using h.size, fun k hk hn => (setRow_other w1 g k cs (by rintro rfl; exact hn hg)).trans (h.blk k hk hn)⟩
theorem Far.below {w w1 : World} {O : Nat → Prop} (h : Far w w1 O) {B : Nat} (hB : B ≤ w.heap.size) (hO : ∀ k, O k → B ≤ k) : Below B w w1 :=
  ⟨h.os, h.tape, h.output, h.size, fun k hk => h.blk k (by omega) (fun h1 => by have := hO k h1; omega)⟩
theorem Far.keep {w w1 : World} {O : Nat → Prop} (h : Far w w1 O) {g : Nat} {o : Obj} (hg : w.heap[g]? = some o) (hn : ¬ O g) : w1.heap[g]? = some o := (h.blk g (blk_lt hg) hn).trans hg
theorem Far.cell {w w1 : World} {O : Nat → Prop} (h : Far w w1 O) {a : Addr} {v : Value} (hc : w.cell? a = some v) (hn : ¬ O a.block) : w1.cell? a = some v := by
  rw [← hc]; exact World.cell?_of_block (h.blk a.block (World.block_lt_of_cell? w _ hc) hn)

/-! ### bytes of a stream -/
def seg (D : List Int) (pos k : Nat) : List Value := ((D.drop pos).take k).map (Value.int .u8)
theorem seg_len (D : List Int) (pos k : Nat) (h : k ≤ D.length - pos) : (seg D pos k).length = k := by
  unfold seg
  rw [List.length_map, List.length_take, List.length_drop]
  omega
theorem seg_one (D : List Int) (pos k : Nat) : ∀ v ∈ seg D pos k, v.oneCell' = true := by
  intro v hv
  obtain ⟨x, _, rfl⟩ := List.mem_map.1 hv
  rfl
theorem seg_get (D : List Int) (pos k j : Nat) (v : Value) (h : (seg D pos k)[j]? = some v) : ∃ x, D[pos + j]? = some x ∧ v = .int .u8 x ∧ j < k := by
  unfold seg at h
  rw [List.getElem?_map, List.getElem?_take] at h
  by_cases hj : j < k
  · rw [if_pos hj, List.getElem?_drop] at h
    obtain ⟨x, hx, e⟩ := Option.map_eq_some_iff.1 h
    exact ⟨x, hx, e.symm, hj⟩
  · rw [if_neg hj] at h
    cases h
/-- The cells of a reader over D at the place pos. -/
def rdC (A : Option Addr) (D : List Int) (c pos : Nat) (pr : Int) : Array Value := #[.slice A D.length c, .int .i64 (pos : Int), .int .i64 pr]
theorem info5sz : (Tryd.prog.info? 5).map (·.size) = some 1 := by kernel_rfl
/-- D read from the place m on. -/
theorem cutD (A : Option Addr) (c : Nat) (D : List Int) (m : Nat) (hm : m ≤ D.length) (hc : D.length ≤ c) :
    ∃ A' : Option Addr, (∀ W : World, (Instr.slice 24 (.slice A D.length c) (some (.int .i64 (m : Int))) none none).run Tryd.prog W = .ok (.slice A' (D.length - m) (c - m)) W) ∧
      ∀ W, Kd.C (Kd.int .u8) W A D.length D → Kd.C (Kd.int .u8) W A' (D.length - m) (D.drop m) := by
  obtain ⟨i, hi, _, hsz, _⟩ := info_parts (show (Tryd.prog.info? 5).map (fun i => (i.zero, i.size, i.bytes)) = some (some (.int .u8 0), 1, 1) by kernel_rfl)
  obtain ⟨A', h1, h2⟩ := print_cut_of (P := Tryd.prog) (Value.int .u8) 0 24 5 .i64 Tryd.underlying24 hi hsz A D.length c m hm
  exact ⟨A', h1, fun W hC => by
    have := Kd.C_of_reads (h1 := fun _ => rfl) (h2 W D hc (Kd.reads_of_C hC))
    exact this⟩
theorem C_cells {W : World} {A : Option Addr} {D : List Int} (h : Kd.C (Kd.int .u8) W A D.length D) (hn : 0 < D.length) : ∃ ad, A = some ad ∧ ∀ (j : Nat) (x : Int), D[j]? = some x → W.cell? (ad.add j) = some (.int .u8 x) := by
  obtain ⟨ad, _, e, _, _, _⟩ := Kd.C_get h (0 : Int) 0 (by omega) (by omega)
  refine ⟨ad, e, fun j x hx => ?_⟩
  have hj := (List.getElem?_eq_some_iff.1 hx).1
  obtain ⟨ad', cs, e', _, hK, hr⟩ := Kd.C_get h (0 : Int) (j : Int) (by omega) (by omega)
  rw [e] at e'
  cases e'
  rw [Int.toNat_natCast, List.getD_eq_getElem?_getD, hx] at hK
  obtain rfl : cs = [.int .u8 x] := hK
  have := hr 0 _ rfl
  rw [Int.toNat_natCast] at this
  simpa [Kd.int, Kd.scalar] using this
/-- A row of rows of bytes, at a place. -/
theorem atR {w : World} {A : Option Addr} {n : Nat} {xs : List (List Int)} (h : Kd.C (Kd.slice 5 (Kd.int .u8)) w A n xs) (i : Int) (h0 : 0 ≤ i) (h1 : i < n) : ∃ ad A0 c0, A = some ad ∧ w.cell? (ad.add i.toNat) = some (.slice A0 (xs.getD i.toNat []).length c0) ∧ (xs.getD i.toNat []).length ≤ c0 ∧ (Kd.int .u8).C w A0 (xs.getD i.toNat []).length (xs.getD i.toNat []) := by
  obtain ⟨ad, c, e, _, hK, hc0⟩ := Kd.C_get h ([] : List Int) i h0 h1
  have hc : ∀ j u, c[j]? = some u → w.cell? (ad.add (i.toNat * 1 + j)) = some u := hc0
  obtain ⟨A0, c0, rfl, l0, g0⟩ := hK
  exact ⟨ad, A0, c0, e, by have hq := hc 0 _ rfl; rwa [Nat.mul_one, Nat.add_zero] at hq, l0, g0⟩
/-- A copy into a block that is known whole, as one step of a region that draws its order. -/
theorem step_copy_set {P : Program} {ops : Array Oper} {o : Oper} {a : Act} {w : World} {K : Act → World → Prop} {Q : Exit → Act → World → Prop} {E : Prop} (hgd : o.guard = none) (d s : Operand) (dT sT : TypeId)
    (ho : o.op = .call { callee := .builtin .copy, args := #[d, s], argTypes := #[dT, sT] }) (elem : TypeId) (hu : P.underlying dT = some (.slice elem)) (hsz : (P.info? elem).map (·.size) = some 1)
    (ad : Addr) (dLen dCap sLen sCap : Nat) (g off : Nat) (hd : a.eval d = .slice (some ⟨g, off, none⟩) dLen dCap) (hs : a.eval s = .slice (some ad) sLen sCap)
    (cur : List Value) (t : TypeId) (hg : w.heap[g]? = some (.cells cur.toArray t (0, 0))) (cs : List Value) (hn : cs.length = Nat.min sLen dLen)
    (hsrc : ∀ j v, cs[j]? = some v → w.cell? (ad.add j) = some v) (hfit : off + cs.length ≤ cur.length) (h1 : ∀ v ∈ cs, v.oneCell' = true)
    (h : K (a.put o.dst (goInt cs.length)) (w.setRow g (splice cur off cs).toArray)) :
    if Region.wanted o (yielded ops a.tmps) = true then Oper.wp P o a w K Q else E := by
  have hw : Region.wanted o (yielded ops a.tmps) = true := by simp [Region.wanted, hgd]
  rw [if_pos hw]
  have hrun := run_copy_row (P := P) w dT sT o.type elem g off dLen dCap ad sLen sCap cur.toArray t cs hu hsz hg hn hsrc (by simpa using hfit) h1
  unfold Oper.wp
  simp [execOp, ho, resolve, invoke, builtin, hd, hs, hrun, Result.andThen]
  exact (show K _ (w.setRow g (splice cur off cs).toArray) from h)
#print axioms step_copy_set
#print axioms cutD
#print axioms C_cells
end Go.Proofs.YtddnepddilbikaaDoor.PureA
