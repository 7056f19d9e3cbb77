/- impl.indexOf, walked, for plain files. -/
import Derived.Test.YtcokggnbgakonaaDoorHandF
set_option linter.unusedVariables false
set_option linter.unusedSimpArgs false
namespace Go.Proofs.YtcokggnbgakonaaDoor.HandI
open Go.RowKit Go.Proofs.YtcokggnbgakonaaDoorW.PrintWords Go.Proofs.YtcokggnbgakonaaDoorW.PrintLast Go.Proofs.YtcokggnbgakonaaDoorW.PrintMore Go.Proofs.YtcokggnbgakonaaDoor.QAll Go.Lib Ptr HandH HandF

/-- The cells of an entry of a plain file. -/
def entC (hv : Nat → Int) (x : S31) : List Value := [.int .u8 (hv 0), .int .u8 (hv 1), .int .u8 (hv 2), .int .u8 (hv 3), .int .u8 (hv 4), .int .u8 (hv 5), .int .u8 (hv 6), .int .u8 (hv 7), .int .u8 (hv 8), .int .u8 (hv 9), .int .u8 (hv 10), .int .u8 (hv 11), .int .u8 (hv 12), .int .u8 (hv 13), .int .u8 (hv 14), .int .u8 (hv 15), .int .u8 (hv 16), .int .u8 (hv 17), .int .u8 (hv 18), .int .u8 (hv 19), .string x.f9, .int .i64 (x.f0.f0 + 62135596800), .int .i64 x.f0.f1, .int .i64 0, .int .i64 (x.f1.f0 + 62135596800), .int .i64 x.f1.f1, .int .i64 0, .int .u32 x.f2, .int .u32 x.f3, .int .u32 x.f4, .int .u32 x.f5, .int .u32 x.f6, .int .u32 x.f7, .int .i64 x.f10, .bool x.f11, .bool x.f12]
def ent (x : S31) : List Value := entC (hb x.f8) x
/-- The cells of an index. -/
def idxC (V : Value) : Array Value := #[.int .u32 2, V, .pointer none, .pointer none, .pointer none, .int .i64 0, .int .i64 0, .int .i64 0]
theorem info36 : (Tryd.prog.info? 36).map (fun i => (i.zero, i.size, i.bytes)) = some (some (.pointer none), 1, 8) := by kernel_rfl
/-- What is asked of a file. -/
structure Fit (x : S31) : Prop where
  size : x.f8.size = 40
  dec : (dec x.f8).length = 20
  t1 : impl_timeOf.f x.f0.f0 x.f0.f1 = some (x.f0.f0 + 62135596800, x.f0.f1, 0)
  t2 : impl_timeOf.f x.f1.f0 x.f1.f1 = some (x.f1.f0 + 62135596800, x.f1.f1, 0)
theorem entC_len (hv : Nat → Int) (x : S31) : (entC hv x).length = 36 := rfl
theorem entC_one (hv : Nat → Int) (x : S31) : ∀ u ∈ entC hv x, u.oneCell' = true := by
  intro u hu
  unfold entC at hu
  simp only [List.mem_cons, List.not_mem_nil, or_false] at hu
  rcases hu with rfl | rfl | rfl | rfl | rfl | rfl | rfl | rfl | rfl | rfl | rfl | rfl | rfl | rfl | rfl | rfl | rfl | rfl | rfl | rfl | rfl | rfl | rfl | rfl | rfl | rfl | rfl | rfl | rfl | rfl | rfl | rfl | rfl | rfl | rfl | rfl <;> rfl
theorem new36 {w w5 W : World} (hv : Nat → Int) (x : S31) (h5 : Below w5.heap.size w5 W) (hB : Below w.heap.size w w5) : (ptr 54 (raw 36)).M (W.alloc (.cells (entC hv x).toArray 54)) w.heap.size (fun j => W.heap.size ≤ j) (entC hv x) [.pointer (some ⟨W.heap.size, 0, none⟩)] :=
  ptr_new (d := raw 36) (cells := (entC hv x).toArray) ⟨rfl, entC_len hv x, entC_one hv x⟩ (Nat.le_trans hB.size h5.size) (Nat.le_refl _)
theorem ne36 {w5 W : World} {V : Value} {base : Nat} {xs : List (List Value)} (h : (ptr 54 (raw 36)).R 36 w5 base (fun _ => True) V xs) (h5 : Below w5.heap.size w5 W) : ∀ j, W.heap.size ≤ j → True ∧ some j ≠ V.ownBlock := by
  intro j hj
  refine ⟨trivial, fun e => ?_⟩
  obtain ⟨inner, ho⟩ := Kd.R_own h
  have := own_lt ho j e.symm
  have := h5.size
  omega
theorem R_put {W : World} {V : Value} {base g : Nat} {cells : Array Value} {xs : List (List Value)} (h : (ptr 54 (raw 36)).R 36 W base (fun _ => True) V xs) (hb : W.heap[g]? = some (.cells cells 46 (0, 0))) (ht : ∀ q, q ∈ 36 :: (ptr 54 (raw 36)).E → q ≠ 46) (j : Nat) (u : Value) :
    (ptr 54 (raw 36)).R 36 (W.setCell ⟨g, j, none⟩ u) base (fun _ => True) V xs := Kd.R_mono (Kd.R_set h hb ht j u) (fun _ _ => trivial)
theorem hl8 {l : List S31} {k : Nat} (h : l.length ≤ 1000) : (((l.take k).map ent).length + 1) * 8 ≤ 140737488355328 := by
  rw [List.length_map, List.length_take]
  have := Nat.min_le_right k l.length
  omega
/-- What is held of the world while an entry is made. -/
def SI (w5 : World) (gf gi : Nat) (x : S31) (V : Value) (w' : World) : Prop := Below w5.heap.size w5 w' ∧ w'.cell? ⟨gf, 0, none⟩ = some (.int .i64 x.f0.f0) ∧ w'.cell? ⟨gf, 1, none⟩ = some (.int .i64 x.f0.f1) ∧ w'.cell? ⟨gf, 2, none⟩ = some (.int .i64 x.f1.f0) ∧ w'.cell? ⟨gf, 3, none⟩ = some (.int .i64 x.f1.f1) ∧ w'.cell? ⟨gf, 4, none⟩ = some (.int .u32 x.f2) ∧ w'.cell? ⟨gf, 5, none⟩ = some (.int .u32 x.f3) ∧ w'.cell? ⟨gf, 6, none⟩ = some (.int .u32 x.f4) ∧ w'.cell? ⟨gf, 7, none⟩ = some (.int .u32 x.f5) ∧ w'.cell? ⟨gf, 8, none⟩ = some (.int .u32 x.f6) ∧ w'.cell? ⟨gf, 9, none⟩ = some (.int .u32 x.f7) ∧ w'.cell? ⟨gf, 10, none⟩ = some (.string x.f8) ∧ w'.cell? ⟨gf, 11, none⟩ = some (.string x.f9) ∧ w'.cell? ⟨gf, 12, none⟩ = some (.int .i64 x.f10) ∧ w'.cell? ⟨gf, 13, none⟩ = some (.bool x.f11) ∧ w'.cell? ⟨gf, 14, none⟩ = some (.bool x.f12) ∧ w'.cell? ⟨gi, 1, none⟩ = some V
theorem SI_go {w5 : World} {gf gi : Nat} {x : S31} {V : Value} {w w' : World} (h : SI w5 gf gi x V w) (hb : Below w.heap.size w w') : SI w5 gf gi x V w' := by
  obtain ⟨f0, f1, f2, f3, f4, f5, f6, f7, f8, f9, f10, f11, f12, f13, f14, f15, f16⟩ := h
  exact ⟨f0.trans (hb.mono f0.size), pw_cell_below hb f1, pw_cell_below hb f2, pw_cell_below hb f3, pw_cell_below hb f4, pw_cell_below hb f5, pw_cell_below hb f6, pw_cell_below hb f7, pw_cell_below hb f8, pw_cell_below hb f9, pw_cell_below hb f10, pw_cell_below hb f11, pw_cell_below hb f12, pw_cell_below hb f13, pw_cell_below hb f14, pw_cell_below hb f15, pw_cell_below hb f16⟩
theorem SI_mk {w5 : World} {gf gi : Nat} {x : S31} {V : Value} {w : World} (hb : Below w5.heap.size w5 w) (h : w.heap[gf]? = some (.cells #[.int .i64 x.f0.f0, .int .i64 x.f0.f1, .int .i64 x.f1.f0, .int .i64 x.f1.f1, .int .u32 x.f2, .int .u32 x.f3, .int .u32 x.f4, .int .u32 x.f5, .int .u32 x.f6, .int .u32 x.f7, .string x.f8, .string x.f9, .int .i64 x.f10, .bool x.f11, .bool x.f12] 31 (0, 0))) (h2 : w.heap[gi]? = some (.cells (idxC V) 46 (0, 0))) : SI w5 gf gi x V w :=
  ⟨hb, (blk_cell h 0).trans rfl, (blk_cell h 1).trans rfl, (blk_cell h 2).trans rfl, (blk_cell h 3).trans rfl, (blk_cell h 4).trans rfl, (blk_cell h 5).trans rfl, (blk_cell h 6).trans rfl, (blk_cell h 7).trans rfl, (blk_cell h 8).trans rfl, (blk_cell h 9).trans rfl, (blk_cell h 10).trans rfl, (blk_cell h 11).trans rfl, (blk_cell h 12).trans rfl, (blk_cell h 13).trans rfl, (blk_cell h 14).trans rfl, (blk_cell h2 1).trans rfl⟩

def indexOf12.T5 : Bool × List (List Nat × List Nat) := (true, [([], []), ([], []), ([1], [1]), ([2], [2]), ([3], [3]), ([], []), ([5], [5]), ([6], [6]), ([], []), ([8], [8]), ([9, 7], [9]), ([], []), ([11], [11]), ([], []), ([13], [13]), ([], []), ([15], [15]), ([], []), ([17], [17]), ([], []), ([19], [19]), ([], []), ([21], [21]), ([], []), ([23], [23]), ([24, 10], [24]), ([], []), ([26], [26]), ([], []), ([28], [28]), ([], []), ([30], [30]), ([], []), ([32], [32]), ([7, 10, 12, 14, 16, 18, 20, 22, 25, 27, 29, 31, 33], [7, 10, 12, 14, 16, 18, 20, 22, 25, 27, 29, 31, 33]), ([34], [34]), ([35], [35]), ([4, 36, 25], [4, 36]), ([0, 0, 1, 2, 3, 4, 5, 6, 7, 8, 9, 10, 11, 12, 13, 14, 15, 16, 17, 18, 19, 20, 21, 22, 23, 24, 25, 26, 27, 28, 29, 30, 31, 32, 33, 34, 35, 36, 37], [0]), ([38, 0, 1, 2, 3, 4, 5, 6, 7, 8, 9, 10, 11, 12, 13, 14, 15, 16, 17, 18, 19, 20, 21, 22, 23, 24, 25, 26, 27, 28, 29, 30, 31, 32, 33, 34, 35, 36, 37], [38]), ([39, 37, 37, 0, 1, 2, 3, 4, 5, 6, 7, 8, 9, 10, 11, 12, 13, 14, 15, 16, 17, 18, 19, 20, 21, 22, 23, 24, 25, 26, 27, 28, 29, 30, 31, 32, 33, 34, 35, 36, 37], [37, 39])])
def indexOf12.B5 : List Nat := [0, 0, 2, 6, 14, 0, 32, 96, 0, 256, 992, 0, 2048, 0, 8192, 0, 32768, 0, 131072, 0, 524288, 0, 2097152, 0, 8388608, 25167840, 0, 67108864, 0, 268435456, 0, 1073741824, 0, 4294967296, 17179869152, 34359738336, 68719476704, 137438953470, 274877906943, 549755813887, 1099511627775]
theorem indexOf12.tab5 : rtab .any (opsOf Tryd.f12 5) = indexOf12.T5 := by kernel_rfl
theorem indexOf12.bits5 : waitsOk indexOf12.T5.2 indexOf12.B5 = true := by kernel_rfl

set_option maxHeartbeats 16000000 in
set_option maxRecDepth 100000 in
theorem indexOf (A : Option Addr) (c : Nat) (l : List S31) (ev : Value) (w : World) (hC : Kd.C k31 w A l.length l) (hc : l.length ≤ c) (hl : l.length ≤ 1000) (hf : ∀ x ∈ l, Fit x) (hE : w.cell? ⟨0, 0, none⟩ = some ev) :
    Calls Tryd.prog 12 #[.int .u32 2, .slice A l.length c] w fun e w' => ∃ g V, e = .returned (.pointer (some ⟨g, 0, none⟩)) ∧ w.heap.size ≤ g ∧ w'.heap[g]? = some (.cells (idxC V) 46 (0, 0)) ∧ (ptr 54 (raw 36)).R 36 w' w.heap.size (fun _ => True) V (l.map ent) ∧ Below w.heap.size w w' := by
  have hu31 := Tryd.underlying31
  have HC := Aside0.mk hC
  have HL := Aside0.mk hl
  have HF := Aside0.mk hf
  have HE : Aside0 (∀ W, Below w.heap.size w W → W.cell? ⟨0, 0, none⟩ = some ev) := ⟨fun W hb => pw_cell_below hb hE⟩
  clear hC hl hf hE
  go_enter Tryd.func12, Tryd.ntmps12
  go_wp2
  obtain ⟨gi, hgi⟩ : ∃ gi, gi = w.heap.size := ⟨_, rfl⟩
  have HGI : Aside0 (w.heap.size ≤ gi) := ⟨by rw [hgi]; exact Nat.le_refl _⟩
  have HI0 : Aside0 ((w.alloc (.cells (idxC (.slice none 0 0)) 46)).heap[gi]? = some (.cells (idxC (.slice none 0 0)) 46 (0, 0))) := ⟨by rw [hgi]; exact blk_new _ _⟩
  simp only [← hgi]
  go_loopg [13] l.length (fun gk v13 w' => ∃ (k : Nat) (V : Value), v13 = .int .i64 (k : Int) ∧ Aside0 (k + gk = l.length) ∧ Aside0 (Below w.heap.size w w') ∧ Aside0 (w'.heap[gi]? = some (.cells (idxC V) 46 (0, 0))) ∧ Aside0 ((ptr 54 (raw 36)).R 36 w' w.heap.size (fun _ => True) V ((l.take k).map ent)))
  case atStart => exact ⟨0, .slice none 0 0, rfl, ⟨by omega⟩, ⟨below_alloc (Below.refl _ _) _⟩, HI0, ⟨Kd.R_nil _ _ _ _ _⟩⟩
  case round =>
    clear HI0 hgi
    obtain ⟨k, V, rfl, HK, HB, HI, HR⟩ := hrel
    by_cases hlt : k < l.length
    · obtain ⟨g0, rfl⟩ : ∃ m, gk = m + 1 := ⟨gk - 1, by have := HK.out; omega⟩
      obtain ⟨ad, e, hx0, hx1, hx2, hx3, hx4, hx5, hx6, hx7, hx8, hx9, hx10, hx11, hx12, hx13, hx14⟩ := at_T31 (Kd.C_below HC.out HB.out) (k : Int) (by omega) (by omega)
      cases e
      rw [Int.toNat_natCast] at hx0 hx1 hx2 hx3 hx4 hx5 hx6 hx7 hx8 hx9 hx10 hx11 hx12 hx13 hx14
      have hgt : l[k]? = some (rd_T31 l (k : Int)) := by
        unfold rd_T31
        rw [Int.toNat_natCast, List.getD_eq_getElem?_getD, List.getElem?_eq_getElem hlt]
        rfl
      generalize rd_T31 l (k : Int) = x at hx0 hx1 hx2 hx3 hx4 hx5 hx6 hx7 hx8 hx9 hx10 hx11 hx12 hx13 hx14 hgt
      have hfit := HF.out x (List.mem_of_getElem? hgt)
      have HT1 := Aside0.mk hfit.t1
      have HT2 := Aside0.mk hfit.t2
      have HX1 := Aside0.mk hfit.size
      have HX2 := Aside0.mk hfit.dec
      have HTK : Aside0 ((l.take (k + 1)).map ent = (l.take k).map ent ++ [ent x]) := ⟨by rw [List.take_add_one, hgt, List.map_append]; rfl⟩
      clear hgt hfit
      obtain ⟨hv, hhv⟩ : ∃ hv, hv = hb x.f8 := ⟨_, rfl⟩
      have HV : Aside0 (∀ i, i < 20 → hv i = hb x.f8 i) := ⟨fun i _ => by rw [hhv]⟩
      have HHV := Aside0.mk hhv
      clear hhv
      have hk1 : (k : Int) < 1000 := by have := HL.out; omega
      go_upto_region 5 with fail
      have hgf : (wr.alloc (.cells #[.int .i64 x.f0.f0, .int .i64 x.f0.f1, .int .i64 x.f1.f0, .int .i64 x.f1.f1, .int .u32 x.f2, .int .u32 x.f3, .int .u32 x.f4, .int .u32 x.f5, .int .u32 x.f6, .int .u32 x.f7, .string x.f8, .string x.f9, .int .i64 x.f10, .bool x.f11, .bool x.f12] 31)).heap[wr.heap.size]? = some (.cells #[.int .i64 x.f0.f0, .int .i64 x.f0.f1, .int .i64 x.f1.f0, .int .i64 x.f1.f1, .int .u32 x.f2, .int .u32 x.f3, .int .u32 x.f4, .int .u32 x.f5, .int .u32 x.f6, .int .u32 x.f7, .string x.f8, .string x.f9, .int .i64 x.f10, .bool x.f11, .bool x.f12] 31 (0, 0)) := blk_new _ _
      have HB5 : Aside0 (Below w.heap.size w (wr.alloc (.cells #[.int .i64 x.f0.f0, .int .i64 x.f0.f1, .int .i64 x.f1.f0, .int .i64 x.f1.f1, .int .u32 x.f2, .int .u32 x.f3, .int .u32 x.f4, .int .u32 x.f5, .int .u32 x.f6, .int .u32 x.f7, .string x.f8, .string x.f9, .int .i64 x.f10, .bool x.f11, .bool x.f12] 31))) := ⟨below_alloc HB.out _⟩
      have HI5 : Aside0 ((wr.alloc (.cells #[.int .i64 x.f0.f0, .int .i64 x.f0.f1, .int .i64 x.f1.f0, .int .i64 x.f1.f1, .int .u32 x.f2, .int .u32 x.f3, .int .u32 x.f4, .int .u32 x.f5, .int .u32 x.f6, .int .u32 x.f7, .string x.f8, .string x.f9, .int .i64 x.f10, .bool x.f11, .bool x.f12] 31)).heap[gi]? = some (.cells (idxC V) 46 (0, 0))) := ⟨blk_alloc HI.out _⟩
      have HR5 : Aside0 ((ptr 54 (raw 36)).R 36 (wr.alloc (.cells #[.int .i64 x.f0.f0, .int .i64 x.f0.f1, .int .i64 x.f1.f0, .int .i64 x.f1.f1, .int .u32 x.f2, .int .u32 x.f3, .int .u32 x.f4, .int .u32 x.f5, .int .u32 x.f6, .int .u32 x.f7, .string x.f8, .string x.f9, .int .i64 x.f10, .bool x.f11, .bool x.f12] 31)) w.heap.size (fun _ => True) V ((l.take k).map ent)) := ⟨Kd.R_below HR.out (below_alloc (Below.refl _ _) _)⟩
      have HGF := Aside0.mk hgf
      clear hgf hx0 hx1 hx2 hx3 hx4 hx5 hx6 hx7 hx8 hx9 hx10 hx11 hx12 hx13 hx14
      generalize wr.alloc (.cells #[.int .i64 x.f0.f0, .int .i64 x.f0.f1, .int .i64 x.f1.f0, .int .i64 x.f1.f1, .int .u32 x.f2, .int .u32 x.f3, .int .u32 x.f4, .int .u32 x.f5, .int .u32 x.f6, .int .u32 x.f7, .string x.f8, .string x.f9, .int .i64 x.f10, .bool x.f11, .bool x.f12] 31) = w5 at HB5 HI5 HR5 HGF ⊢
      generalize wr.heap.size = gf at HGF ⊢
      obtain ⟨q0, q1, q2, q3, q4, q5, q6, q7, q8, q9, q10, q11, q12, q13, q14, q15, q16⟩ : SI w5 gf gi x V w5.drew := SI_mk (below_drew1 (Below.refl _ _)) (blk_drew HGF.out) (blk_drew HI5.out)
      refine start_ (n := 41) (S := fun w' => Below w5.heap.size w5 w' ∧ w'.cell? ⟨gf, 0, none⟩ = some (.int .i64 x.f0.f0) ∧ w'.cell? ⟨gf, 1, none⟩ = some (.int .i64 x.f0.f1) ∧ w'.cell? ⟨gf, 2, none⟩ = some (.int .i64 x.f1.f0) ∧ w'.cell? ⟨gf, 3, none⟩ = some (.int .i64 x.f1.f1) ∧ w'.cell? ⟨gf, 4, none⟩ = some (.int .u32 x.f2) ∧ w'.cell? ⟨gf, 5, none⟩ = some (.int .u32 x.f3) ∧ w'.cell? ⟨gf, 6, none⟩ = some (.int .u32 x.f4) ∧ w'.cell? ⟨gf, 7, none⟩ = some (.int .u32 x.f5) ∧ w'.cell? ⟨gf, 8, none⟩ = some (.int .u32 x.f6) ∧ w'.cell? ⟨gf, 9, none⟩ = some (.int .u32 x.f7) ∧ w'.cell? ⟨gf, 10, none⟩ = some (.string x.f8) ∧ w'.cell? ⟨gf, 11, none⟩ = some (.string x.f9) ∧ w'.cell? ⟨gf, 12, none⟩ = some (.int .i64 x.f10) ∧ w'.cell? ⟨gf, 13, none⟩ = some (.bool x.f11) ∧ w'.cell? ⟨gf, 14, none⟩ = some (.bool x.f12) ∧ w'.cell? ⟨gi, 1, none⟩ = some V) (ds := [37, 40]) #[false, false, false, false, false, false, false, false, false, false, false, false, false, false, false, false, false, false, false, false, false, false, false, false, false, false, false, false, false, false, false, false, false, false, false, false, false, false, false, false, false] (by kernel_rfl) rfl rfl ⟨q0, q1, q2, q3, q4, q5, q6, q7, q8, q9, q10, q11, q12, q13, q14, q15, q16⟩ (fun hHeld => ?_)
      refine with_tabW indexOf12.tab5 indexOf12.bits5 (fun HT_ HW_ => ?_)
      generalize World.drew _ = wd at hHeld ⊢
      refine pure_ (i := 0) (N := some 17) (v := ?_) (a' := ?_) #[true, false, false, false, false, false, false, false, false, false, false, false, false, false, false, false, false, false, false, false, false, false, false, false, false, false, false, false, false, false, false, false, false, false, false, false, false, false, false, false, false] rfl rfl (any_of HT_.out (by kernel_rfl)) (fun _ _ _ h => h) (Or.inl ⟨by rfl, ?_⟩) ?_ ?_
      rotate_left
      · intro w'
        go_simp
        with_reducible rfl
      rotate_left
      · simp only [Act.put, List.setIfInBounds_toArray, List.set_cons_zero, List.set_cons_succ, i64_w, i32_w]
        rfl
      refine pure_ (i := 1) (N := some 18) (v := ?_) (a' := ?_) #[true, true, false, false, false, false, false, false, false, false, false, false, false, false, false, false, false, false, false, false, false, false, false, false, false, false, false, false, false, false, false, false, false, false, false, false, false, false, false, false, false] rfl rfl (any_of HT_.out (by kernel_rfl)) (fun _ _ _ h => h) (Or.inl ⟨by rfl, ?_⟩) ?_ ?_
      rotate_left
      · intro w'
        go_simp
        with_reducible rfl
      rotate_left
      · simp only [Act.put, List.setIfInBounds_toArray, List.set_cons_zero, List.set_cons_succ, i64_w, i32_w]
        rfl
      refine pure_ (i := 2) (N := some 19) (v := ?_) (a' := ?_) #[true, true, true, false, false, false, false, false, false, false, false, false, false, false, false, false, false, false, false, false, false, false, false, false, false, false, false, false, false, false, false, false, false, false, false, false, false, false, false, false, false] rfl rfl (any_of HT_.out (by kernel_rfl)) (fun _ _ _ h => h) (Or.inl ⟨by rfl, ?_⟩) ?_ ?_
      rotate_left
      · intro w'
        go_simp
        with_reducible rfl
      rotate_left
      · simp only [Act.put, List.setIfInBounds_toArray, List.set_cons_zero, List.set_cons_succ, i64_w, i32_w]
        rfl
      refine pure_ (i := 3) (N := some 20) (v := ?_) (a' := ?_) #[true, true, true, true, false, false, false, false, false, false, false, false, false, false, false, false, false, false, false, false, false, false, false, false, false, false, false, false, false, false, false, false, false, false, false, false, false, false, false, false, false] rfl rfl (any_of HT_.out (by kernel_rfl)) (fun _ _ _ h => h) (Or.inl ⟨by rfl, ?_⟩) ?_ ?_
      rotate_left
      · intro w'
        go_simp
        with_reducible rfl
      rotate_left
      · simp only [Act.put, List.setIfInBounds_toArray, List.set_cons_zero, List.set_cons_succ, i64_w, i32_w]
        rfl
      refine pure_ (i := 5) (N := some 22) (v := ?_) (a' := ?_) #[true, true, true, true, false, true, false, false, false, false, false, false, false, false, false, false, false, false, false, false, false, false, false, false, false, false, false, false, false, false, false, false, false, false, false, false, false, false, false, false, false] rfl rfl (any_of HT_.out (by kernel_rfl)) (fun _ _ _ h => h) (Or.inl ⟨by rfl, ?_⟩) ?_ ?_
      rotate_left
      · intro w'
        go_simp
        with_reducible rfl
      rotate_left
      · simp only [Act.put, List.setIfInBounds_toArray, List.set_cons_zero, List.set_cons_succ, i64_w, i32_w]
        rfl
      refine pure_ (i := 8) (N := some 25) (v := ?_) (a' := ?_) #[true, true, true, true, false, true, false, false, true, false, false, false, false, false, false, false, false, false, false, false, false, false, false, false, false, false, false, false, false, false, false, false, false, false, false, false, false, false, false, false, false] rfl rfl (any_of HT_.out (by kernel_rfl)) (fun _ _ _ h => h) (Or.inl ⟨by rfl, ?_⟩) ?_ ?_
      rotate_left
      · intro w'
        go_simp
        with_reducible rfl
      rotate_left
      · simp only [Act.put, List.setIfInBounds_toArray, List.set_cons_zero, List.set_cons_succ, i64_w, i32_w]
        rfl
      refine pure_ (i := 11) (N := some 28) (v := ?_) (a' := ?_) #[true, true, true, true, false, true, false, false, true, false, false, true, false, false, false, false, false, false, false, false, false, false, false, false, false, false, false, false, false, false, false, false, false, false, false, false, false, false, false, false, false] rfl rfl (any_of HT_.out (by kernel_rfl)) (fun _ _ _ h => h) (Or.inl ⟨by rfl, ?_⟩) ?_ ?_
      rotate_left
      · intro w'
        go_simp
        with_reducible rfl
      rotate_left
      · simp only [Act.put, List.setIfInBounds_toArray, List.set_cons_zero, List.set_cons_succ, i64_w, i32_w]
        rfl
      refine pure_ (i := 13) (N := some 30) (v := ?_) (a' := ?_) #[true, true, true, true, false, true, false, false, true, false, false, true, false, true, false, false, false, false, false, false, false, false, false, false, false, false, false, false, false, false, false, false, false, false, false, false, false, false, false, false, false] rfl rfl (any_of HT_.out (by kernel_rfl)) (fun _ _ _ h => h) (Or.inl ⟨by rfl, ?_⟩) ?_ ?_
      rotate_left
      · intro w'
        go_simp
        with_reducible rfl
      rotate_left
      · simp only [Act.put, List.setIfInBounds_toArray, List.set_cons_zero, List.set_cons_succ, i64_w, i32_w]
        rfl
      refine pure_ (i := 15) (N := some 32) (v := ?_) (a' := ?_) #[true, true, true, true, false, true, false, false, true, false, false, true, false, true, false, true, false, false, false, false, false, false, false, false, false, false, false, false, false, false, false, false, false, false, false, false, false, false, false, false, false] rfl rfl (any_of HT_.out (by kernel_rfl)) (fun _ _ _ h => h) (Or.inl ⟨by rfl, ?_⟩) ?_ ?_
      rotate_left
      · intro w'
        go_simp
        with_reducible rfl
      rotate_left
      · simp only [Act.put, List.setIfInBounds_toArray, List.set_cons_zero, List.set_cons_succ, i64_w, i32_w]
        rfl
      refine pure_ (i := 17) (N := some 34) (v := ?_) (a' := ?_) #[true, true, true, true, false, true, false, false, true, false, false, true, false, true, false, true, false, true, false, false, false, false, false, false, false, false, false, false, false, false, false, false, false, false, false, false, false, false, false, false, false] rfl rfl (any_of HT_.out (by kernel_rfl)) (fun _ _ _ h => h) (Or.inl ⟨by rfl, ?_⟩) ?_ ?_
      rotate_left
      · intro w'
        go_simp
        with_reducible rfl
      rotate_left
      · simp only [Act.put, List.setIfInBounds_toArray, List.set_cons_zero, List.set_cons_succ, i64_w, i32_w]
        rfl
      refine pure_ (i := 19) (N := some 36) (v := ?_) (a' := ?_) #[true, true, true, true, false, true, false, false, true, false, false, true, false, true, false, true, false, true, false, true, false, false, false, false, false, false, false, false, false, false, false, false, false, false, false, false, false, false, false, false, false] rfl rfl (any_of HT_.out (by kernel_rfl)) (fun _ _ _ h => h) (Or.inl ⟨by rfl, ?_⟩) ?_ ?_
      rotate_left
      · intro w'
        go_simp
        with_reducible rfl
      rotate_left
      · simp only [Act.put, List.setIfInBounds_toArray, List.set_cons_zero, List.set_cons_succ, i64_w, i32_w]
        rfl
      refine pure_ (i := 21) (N := some 38) (v := ?_) (a' := ?_) #[true, true, true, true, false, true, false, false, true, false, false, true, false, true, false, true, false, true, false, true, false, true, false, false, false, false, false, false, false, false, false, false, false, false, false, false, false, false, false, false, false] rfl rfl (any_of HT_.out (by kernel_rfl)) (fun _ _ _ h => h) (Or.inl ⟨by rfl, ?_⟩) ?_ ?_
      rotate_left
      · intro w'
        go_simp
        with_reducible rfl
      rotate_left
      · simp only [Act.put, List.setIfInBounds_toArray, List.set_cons_zero, List.set_cons_succ, i64_w, i32_w]
        rfl
      refine pure_ (i := 23) (N := some 40) (v := ?_) (a' := ?_) #[true, true, true, true, false, true, false, false, true, false, false, true, false, true, false, true, false, true, false, true, false, true, false, true, false, false, false, false, false, false, false, false, false, false, false, false, false, false, false, false, false] rfl rfl (any_of HT_.out (by kernel_rfl)) (fun _ _ _ h => h) (Or.inl ⟨by rfl, ?_⟩) ?_ ?_
      rotate_left
      · intro w'
        go_simp
        with_reducible rfl
      rotate_left
      · simp only [Act.put, List.setIfInBounds_toArray, List.set_cons_zero, List.set_cons_succ, i64_w, i32_w]
        rfl
      refine pure_ (i := 26) (N := some 43) (v := ?_) (a' := ?_) #[true, true, true, true, false, true, false, false, true, false, false, true, false, true, false, true, false, true, false, true, false, true, false, true, false, false, true, false, false, false, false, false, false, false, false, false, false, false, false, false, false] rfl rfl (any_of HT_.out (by kernel_rfl)) (fun _ _ _ h => h) (Or.inl ⟨by rfl, ?_⟩) ?_ ?_
      rotate_left
      · intro w'
        go_simp
        with_reducible rfl
      rotate_left
      · simp only [Act.put, List.setIfInBounds_toArray, List.set_cons_zero, List.set_cons_succ, i64_w, i32_w]
        rfl
      refine pure_ (i := 28) (N := some 45) (v := ?_) (a' := ?_) #[true, true, true, true, false, true, false, false, true, false, false, true, false, true, false, true, false, true, false, true, false, true, false, true, false, false, true, false, true, false, false, false, false, false, false, false, false, false, false, false, false] rfl rfl (any_of HT_.out (by kernel_rfl)) (fun _ _ _ h => h) (Or.inl ⟨by rfl, ?_⟩) ?_ ?_
      rotate_left
      · intro w'
        go_simp
        with_reducible rfl
      rotate_left
      · simp only [Act.put, List.setIfInBounds_toArray, List.set_cons_zero, List.set_cons_succ, i64_w, i32_w]
        rfl
      refine pure_ (i := 30) (N := some 47) (v := ?_) (a' := ?_) #[true, true, true, true, false, true, false, false, true, false, false, true, false, true, false, true, false, true, false, true, false, true, false, true, false, false, true, false, true, false, true, false, false, false, false, false, false, false, false, false, false] rfl rfl (any_of HT_.out (by kernel_rfl)) (fun _ _ _ h => h) (Or.inl ⟨by rfl, ?_⟩) ?_ ?_
      rotate_left
      · intro w'
        go_simp
        with_reducible rfl
      rotate_left
      · simp only [Act.put, List.setIfInBounds_toArray, List.set_cons_zero, List.set_cons_succ, i64_w, i32_w]
        rfl
      refine pure_ (i := 32) (N := some 49) (v := ?_) (a' := ?_) #[true, true, true, true, false, true, false, false, true, false, false, true, false, true, false, true, false, true, false, true, false, true, false, true, false, false, true, false, true, false, true, false, true, false, false, false, false, false, false, false, false] rfl rfl (any_of HT_.out (by kernel_rfl)) (fun _ _ _ h => h) (Or.inl ⟨by rfl, ?_⟩) ?_ ?_
      rotate_left
      · intro w'
        go_simp
        with_reducible rfl
      rotate_left
      · simp only [Act.put, List.setIfInBounds_toArray, List.set_cons_zero, List.set_cons_succ, i64_w, i32_w]
        rfl
      refine take_ (i := 4) (N := some 21) (v := ?_) (a' := ?_) #[true, true, true, true, true, true, false, false, true, false, false, true, false, true, false, true, false, true, false, true, false, true, false, true, false, false, true, false, true, false, true, false, true, false, false, false, false, false, false, false, false] rfl rfl (take_ofW HT_.out HW_.out (by kernel_rfl)) (fun _ _ _ h => h) (Or.inl ⟨by rfl, ?_⟩) hHeld ?_ ?_
      rotate_left
      · rintro w' ⟨s0, s1, s2, s3, s4, s5, s6, s7, s8, s9, s10, s11, s12, s13, s14, s15, s16⟩
        go_simp
        with_reducible rfl
      rotate_left
      · simp only [Act.put, List.setIfInBounds_toArray, List.set_cons_zero, List.set_cons_succ, i64_w, i32_w]
        rfl
      refine take_ (i := 6) (N := some 23) (v := ?_) (a' := ?_) #[true, true, true, true, true, true, true, false, true, false, false, true, false, true, false, true, false, true, false, true, false, true, false, true, false, false, true, false, true, false, true, false, true, false, false, false, false, false, false, false, false] rfl rfl (take_ofW HT_.out HW_.out (by kernel_rfl)) (fun _ _ _ h => h) (Or.inl ⟨by rfl, ?_⟩) hHeld ?_ ?_
      rotate_left
      · rintro w' ⟨s0, s1, s2, s3, s4, s5, s6, s7, s8, s9, s10, s11, s12, s13, s14, s15, s16⟩
        go_simp
        with_reducible rfl
      rotate_left
      · simp only [Act.put, List.setIfInBounds_toArray, List.set_cons_zero, List.set_cons_succ, i64_w, i32_w]
        rfl
      refine take_ (i := 9) (N := some 26) (v := ?_) (a' := ?_) #[true, true, true, true, true, true, true, false, true, true, false, true, false, true, false, true, false, true, false, true, false, true, false, true, false, false, true, false, true, false, true, false, true, false, false, false, false, false, false, false, false] rfl rfl (take_ofW HT_.out HW_.out (by kernel_rfl)) (fun _ _ _ h => h) (Or.inl ⟨by rfl, ?_⟩) hHeld ?_ ?_
      rotate_left
      · rintro w' ⟨s0, s1, s2, s3, s4, s5, s6, s7, s8, s9, s10, s11, s12, s13, s14, s15, s16⟩
        go_simp
        with_reducible rfl
      rotate_left
      · simp only [Act.put, List.setIfInBounds_toArray, List.set_cons_zero, List.set_cons_succ, i64_w, i32_w]
        rfl
      refine take_ (i := 12) (N := some 29) (v := ?_) (a' := ?_) #[true, true, true, true, true, true, true, false, true, true, false, true, true, true, false, true, false, true, false, true, false, true, false, true, false, false, true, false, true, false, true, false, true, false, false, false, false, false, false, false, false] rfl rfl (take_ofW HT_.out HW_.out (by kernel_rfl)) (fun _ _ _ h => h) (Or.inl ⟨by rfl, ?_⟩) hHeld ?_ ?_
      rotate_left
      · rintro w' ⟨s0, s1, s2, s3, s4, s5, s6, s7, s8, s9, s10, s11, s12, s13, s14, s15, s16⟩
        go_simp
        with_reducible rfl
      rotate_left
      · simp only [Act.put, List.setIfInBounds_toArray, List.set_cons_zero, List.set_cons_succ, i64_w, i32_w]
        rfl
      refine take_ (i := 14) (N := some 31) (v := ?_) (a' := ?_) #[true, true, true, true, true, true, true, false, true, true, false, true, true, true, true, true, false, true, false, true, false, true, false, true, false, false, true, false, true, false, true, false, true, false, false, false, false, false, false, false, false] rfl rfl (take_ofW HT_.out HW_.out (by kernel_rfl)) (fun _ _ _ h => h) (Or.inl ⟨by rfl, ?_⟩) hHeld ?_ ?_
      rotate_left
      · rintro w' ⟨s0, s1, s2, s3, s4, s5, s6, s7, s8, s9, s10, s11, s12, s13, s14, s15, s16⟩
        go_simp
        with_reducible rfl
      rotate_left
      · simp only [Act.put, List.setIfInBounds_toArray, List.set_cons_zero, List.set_cons_succ, i64_w, i32_w]
        rfl
      refine take_ (i := 16) (N := some 33) (v := ?_) (a' := ?_) #[true, true, true, true, true, true, true, false, true, true, false, true, true, true, true, true, true, true, false, true, false, true, false, true, false, false, true, false, true, false, true, false, true, false, false, false, false, false, false, false, false] rfl rfl (take_ofW HT_.out HW_.out (by kernel_rfl)) (fun _ _ _ h => h) (Or.inl ⟨by rfl, ?_⟩) hHeld ?_ ?_
      rotate_left
      · rintro w' ⟨s0, s1, s2, s3, s4, s5, s6, s7, s8, s9, s10, s11, s12, s13, s14, s15, s16⟩
        go_simp
        with_reducible rfl
      rotate_left
      · simp only [Act.put, List.setIfInBounds_toArray, List.set_cons_zero, List.set_cons_succ, i64_w, i32_w]
        rfl
      refine take_ (i := 18) (N := some 35) (v := ?_) (a' := ?_) #[true, true, true, true, true, true, true, false, true, true, false, true, true, true, true, true, true, true, true, true, false, true, false, true, false, false, true, false, true, false, true, false, true, false, false, false, false, false, false, false, false] rfl rfl (take_ofW HT_.out HW_.out (by kernel_rfl)) (fun _ _ _ h => h) (Or.inl ⟨by rfl, ?_⟩) hHeld ?_ ?_
      rotate_left
      · rintro w' ⟨s0, s1, s2, s3, s4, s5, s6, s7, s8, s9, s10, s11, s12, s13, s14, s15, s16⟩
        go_simp
        with_reducible rfl
      rotate_left
      · simp only [Act.put, List.setIfInBounds_toArray, List.set_cons_zero, List.set_cons_succ, i64_w, i32_w]
        rfl
      refine take_ (i := 20) (N := some 37) (v := ?_) (a' := ?_) #[true, true, true, true, true, true, true, false, true, true, false, true, true, true, true, true, true, true, true, true, true, true, false, true, false, false, true, false, true, false, true, false, true, false, false, false, false, false, false, false, false] rfl rfl (take_ofW HT_.out HW_.out (by kernel_rfl)) (fun _ _ _ h => h) (Or.inl ⟨by rfl, ?_⟩) hHeld ?_ ?_
      rotate_left
      · rintro w' ⟨s0, s1, s2, s3, s4, s5, s6, s7, s8, s9, s10, s11, s12, s13, s14, s15, s16⟩
        go_simp
        with_reducible rfl
      rotate_left
      · simp only [Act.put, List.setIfInBounds_toArray, List.set_cons_zero, List.set_cons_succ, i64_w, i32_w]
        rfl
      refine take_ (i := 22) (N := some 39) (v := ?_) (a' := ?_) #[true, true, true, true, true, true, true, false, true, true, false, true, true, true, true, true, true, true, true, true, true, true, true, true, false, false, true, false, true, false, true, false, true, false, false, false, false, false, false, false, false] rfl rfl (take_ofW HT_.out HW_.out (by kernel_rfl)) (fun _ _ _ h => h) (Or.inl ⟨by rfl, ?_⟩) hHeld ?_ ?_
      rotate_left
      · rintro w' ⟨s0, s1, s2, s3, s4, s5, s6, s7, s8, s9, s10, s11, s12, s13, s14, s15, s16⟩
        go_simp
        with_reducible rfl
      rotate_left
      · simp only [Act.put, List.setIfInBounds_toArray, List.set_cons_zero, List.set_cons_succ, i64_w, i32_w]
        rfl
      refine take_ (i := 24) (N := some 41) (v := ?_) (a' := ?_) #[true, true, true, true, true, true, true, false, true, true, false, true, true, true, true, true, true, true, true, true, true, true, true, true, true, false, true, false, true, false, true, false, true, false, false, false, false, false, false, false, false] rfl rfl (take_ofW HT_.out HW_.out (by kernel_rfl)) (fun _ _ _ h => h) (Or.inl ⟨by rfl, ?_⟩) hHeld ?_ ?_
      rotate_left
      · rintro w' ⟨s0, s1, s2, s3, s4, s5, s6, s7, s8, s9, s10, s11, s12, s13, s14, s15, s16⟩
        go_simp
        with_reducible rfl
      rotate_left
      · simp only [Act.put, List.setIfInBounds_toArray, List.set_cons_zero, List.set_cons_succ, i64_w, i32_w]
        rfl
      refine take_ (i := 27) (N := some 44) (v := ?_) (a' := ?_) #[true, true, true, true, true, true, true, false, true, true, false, true, true, true, true, true, true, true, true, true, true, true, true, true, true, false, true, true, true, false, true, false, true, false, false, false, false, false, false, false, false] rfl rfl (take_ofW HT_.out HW_.out (by kernel_rfl)) (fun _ _ _ h => h) (Or.inl ⟨by rfl, ?_⟩) hHeld ?_ ?_
      rotate_left
      · rintro w' ⟨s0, s1, s2, s3, s4, s5, s6, s7, s8, s9, s10, s11, s12, s13, s14, s15, s16⟩
        go_simp
        with_reducible rfl
      rotate_left
      · simp only [Act.put, List.setIfInBounds_toArray, List.set_cons_zero, List.set_cons_succ, i64_w, i32_w]
        rfl
      refine take_ (i := 29) (N := some 46) (v := ?_) (a' := ?_) #[true, true, true, true, true, true, true, false, true, true, false, true, true, true, true, true, true, true, true, true, true, true, true, true, true, false, true, true, true, true, true, false, true, false, false, false, false, false, false, false, false] rfl rfl (take_ofW HT_.out HW_.out (by kernel_rfl)) (fun _ _ _ h => h) (Or.inl ⟨by rfl, ?_⟩) hHeld ?_ ?_
      rotate_left
      · rintro w' ⟨s0, s1, s2, s3, s4, s5, s6, s7, s8, s9, s10, s11, s12, s13, s14, s15, s16⟩
        go_simp
        with_reducible rfl
      rotate_left
      · simp only [Act.put, List.setIfInBounds_toArray, List.set_cons_zero, List.set_cons_succ, i64_w, i32_w]
        rfl
      refine take_ (i := 31) (N := some 48) (v := ?_) (a' := ?_) #[true, true, true, true, true, true, true, false, true, true, false, true, true, true, true, true, true, true, true, true, true, true, true, true, true, false, true, true, true, true, true, true, true, false, false, false, false, false, false, false, false] rfl rfl (take_ofW HT_.out HW_.out (by kernel_rfl)) (fun _ _ _ h => h) (Or.inl ⟨by rfl, ?_⟩) hHeld ?_ ?_
      rotate_left
      · rintro w' ⟨s0, s1, s2, s3, s4, s5, s6, s7, s8, s9, s10, s11, s12, s13, s14, s15, s16⟩
        go_simp
        with_reducible rfl
      rotate_left
      · simp only [Act.put, List.setIfInBounds_toArray, List.set_cons_zero, List.set_cons_succ, i64_w, i32_w]
        rfl
      refine take_ (i := 33) (N := some 50) (v := ?_) (a' := ?_) #[true, true, true, true, true, true, true, false, true, true, false, true, true, true, true, true, true, true, true, true, true, true, true, true, true, false, true, true, true, true, true, true, true, true, false, false, false, false, false, false, false] rfl rfl (take_ofW HT_.out HW_.out (by kernel_rfl)) (fun _ _ _ h => h) (Or.inl ⟨by rfl, ?_⟩) hHeld ?_ ?_
      rotate_left
      · rintro w' ⟨s0, s1, s2, s3, s4, s5, s6, s7, s8, s9, s10, s11, s12, s13, s14, s15, s16⟩
        go_simp
        with_reducible rfl
      rotate_left
      · simp only [Act.put, List.setIfInBounds_toArray, List.set_cons_zero, List.set_cons_succ, i64_w, i32_w]
        rfl
      refine one_ (i := 7) (N := some 24) #[true, true, true, true, true, true, true, true, true, true, false, true, true, true, true, true, true, true, true, true, true, true, true, true, true, false, true, true, true, true, true, true, true, true, false, false, false, false, false, false, false] rfl rfl (one_of HT_.out (by kernel_rfl)) (by decide) (fun K hK => ?_)
      refine goes_ Tryd.func16 (by kernel_rfl) rfl #[.agg #[.int .i64 x.f0.f0, .int .i64 x.f0.f1]] (by rfl) rfl rfl (by simp only [List.map_toArray, List.map_cons, List.map_nil]; rfl) ?_
      with_reducible refine (impl_timeOf.calls x.f0.f0 x.f0.f1 (x.f0.f0 + 62135596800) x.f0.f1 0 _ HT1.out).mono ?_
      rintro e w61 ⟨rfl, hb⟩
      refine ⟨_, rfl, ?_⟩
      obtain ⟨f0_1, f1_1, f2_1, f3_1, f4_1, f5_1, f6_1, f7_1, f8_1, f9_1, f10_1, f11_1, f12_1, f13_1, f14_1, f15_1, f16_1⟩ := SI_go hHeld hb
      clear hb
      refine hK.out _ _ ⟨f0_1, f1_1, f2_1, f3_1, f4_1, f5_1, f6_1, f7_1, f8_1, f9_1, f10_1, f11_1, f12_1, f13_1, f14_1, f15_1, f16_1⟩ (fun hHeld => ?_)
      clear hK K
      refine norm_ (a' := ?_) ?_ ?_
      rotate_left
      · show Act.put _ (some 24) _ = _
        simp only [Act.put, List.setIfInBounds_toArray, List.set_cons_zero, List.set_cons_succ, i64_w, i32_w]
        rfl
      refine one_ (i := 10) (N := some 27) #[true, true, true, true, true, true, true, true, true, true, true, true, true, true, true, true, true, true, true, true, true, true, true, true, true, false, true, true, true, true, true, true, true, true, false, false, false, false, false, false, false] rfl rfl (one_of HT_.out (by kernel_rfl)) (by decide) (fun K hK => ?_)
      refine goes_ Tryd.func16 (by kernel_rfl) rfl #[.agg #[.int .i64 x.f1.f0, .int .i64 x.f1.f1]] (by rfl) rfl rfl (by simp only [List.map_toArray, List.map_cons, List.map_nil]; rfl) ?_
      with_reducible refine (impl_timeOf.calls x.f1.f0 x.f1.f1 (x.f1.f0 + 62135596800) x.f1.f1 0 _ HT2.out).mono ?_
      rintro e w62 ⟨rfl, hb⟩
      refine ⟨_, rfl, ?_⟩
      obtain ⟨f0_2, f1_2, f2_2, f3_2, f4_2, f5_2, f6_2, f7_2, f8_2, f9_2, f10_2, f11_2, f12_2, f13_2, f14_2, f15_2, f16_2⟩ := SI_go hHeld hb
      clear hb
      refine hK.out _ _ ⟨f0_2, f1_2, f2_2, f3_2, f4_2, f5_2, f6_2, f7_2, f8_2, f9_2, f10_2, f11_2, f12_2, f13_2, f14_2, f15_2, f16_2⟩ (fun hHeld => ?_)
      clear hK K
      refine norm_ (a' := ?_) ?_ ?_
      rotate_left
      · show Act.put _ (some 27) _ = _
        simp only [Act.put, List.setIfInBounds_toArray, List.set_cons_zero, List.set_cons_succ, i64_w, i32_w]
        rfl
      refine one_ (i := 25) (N := some 42) #[true, true, true, true, true, true, true, true, true, true, true, true, true, true, true, true, true, true, true, true, true, true, true, true, true, true, true, true, true, true, true, true, true, true, false, false, false, false, false, false, false] rfl rfl (one_of HT_.out (by kernel_rfl)) (by decide) (fun K hK => ?_)
      refine goes_ Tryd.func17 (by kernel_rfl) rfl #[.string x.f8] (by rfl) rfl rfl (by simp only [List.map_toArray, List.map_cons, List.map_nil]; rfl) ?_
      with_reducible refine (newHash x.f8 hv HV.out ev _ (HE.out _ (HB5.out.trans (hHeld.1.mono HB5.out.size))) HX1.out HX2.out).mono ?_
      rintro e w63 ⟨rfl, hb⟩
      refine ⟨_, rfl, ?_⟩
      obtain ⟨f0_3, f1_3, f2_3, f3_3, f4_3, f5_3, f6_3, f7_3, f8_3, f9_3, f10_3, f11_3, f12_3, f13_3, f14_3, f15_3, f16_3⟩ := SI_go hHeld hb
      clear hb
      refine hK.out _ _ ⟨f0_3, f1_3, f2_3, f3_3, f4_3, f5_3, f6_3, f7_3, f8_3, f9_3, f10_3, f11_3, f12_3, f13_3, f14_3, f15_3, f16_3⟩ (fun hHeld => ?_)
      clear hK K
      refine norm_ (a' := ?_) ?_ ?_
      rotate_left
      · show Act.put _ (some 42) _ = _
        simp only [Act.put, List.setIfInBounds_toArray, List.set_cons_zero, List.set_cons_succ, i64_w, i32_w]
        rfl
      refine pure_ (i := 34) (N := some 51) (v := ?_) (a' := ?_) #[true, true, true, true, true, true, true, true, true, true, true, true, true, true, true, true, true, true, true, true, true, true, true, true, true, true, true, true, true, true, true, true, true, true, true, false, false, false, false, false, false] rfl rfl (any_of HT_.out (by kernel_rfl)) (fun _ _ _ h => h) (Or.inl ⟨by rfl, ?_⟩) ?_ ?_
      rotate_left
      · intro w'
        go_simp
        with_reducible rfl
      rotate_left
      · simp only [Act.put, List.setIfInBounds_toArray, List.set_cons_zero, List.set_cons_succ, i64_w, i32_w]
        rfl
      refine one_ (i := 35) (N := some 52) #[true, true, true, true, true, true, true, true, true, true, true, true, true, true, true, true, true, true, true, true, true, true, true, true, true, true, true, true, true, true, true, true, true, true, true, true, false, false, false, false, false] rfl rfl (one_of HT_.out (by kernel_rfl)) (by decide) (fun K hK => ?_)
      have HB35 := Aside0.mk (HB5.out.trans (hHeld.1.mono HB5.out.size))
      have HC35 := Aside0.mk hHeld.1
      refine value_ (w1 := ?_) (v := ?_) (by rfl) rfl ?_ ?_
      rotate_left 2
      · go_simp
        constructor
        · rfl
        · rfl
      obtain ⟨f0_4, f1_4, f2_4, f3_4, f4_4, f5_4, f6_4, f7_4, f8_4, f9_4, f10_4, f11_4, f12_4, f13_4, f14_4, f15_4, f16_4⟩ := SI_go hHeld (below_alloc (Below.refl _ _) _)
      refine hK.out _ _ ⟨f0_4, f1_4, f2_4, f3_4, f4_4, f5_4, f6_4, f7_4, f8_4, f9_4, f10_4, f11_4, f12_4, f13_4, f14_4, f15_4, f16_4⟩ (fun hHeld => ?_)
      clear hK K
      refine norm_ (a' := ?_) ?_ ?_
      rotate_left
      · show Act.put _ (some 52) _ = _
        simp only [Act.put, List.setIfInBounds_toArray, List.set_cons_zero, List.set_cons_succ, i64_w, i32_w]
        rfl
      refine one_ (i := 36) (N := some 53) #[true, true, true, true, true, true, true, true, true, true, true, true, true, true, true, true, true, true, true, true, true, true, true, true, true, true, true, true, true, true, true, true, true, true, true, true, true, false, false, false, false] rfl rfl (one_of HT_.out (by kernel_rfl)) (by decide) (fun K hK => ?_)
      refine value_ (w1 := ?_) (v := ?_) (by rfl) rfl ?_ ?_
      rotate_left 2
      · go_simp
        constructor
        · rfl
        · rfl
      obtain ⟨f0_5, f1_5, f2_5, f3_5, f4_5, f5_5, f6_5, f7_5, f8_5, f9_5, f10_5, f11_5, f12_5, f13_5, f14_5, f15_5, f16_5⟩ := SI_go hHeld (below_alloc (Below.refl _ _) _)
      refine hK.out _ _ ⟨f0_5, f1_5, f2_5, f3_5, f4_5, f5_5, f6_5, f7_5, f8_5, f9_5, f10_5, f11_5, f12_5, f13_5, f14_5, f15_5, f16_5⟩ (fun hHeld => ?_)
      clear hK K
      refine norm_ (a' := ?_) ?_ ?_
      rotate_left
      · show Act.put _ (some 53) _ = _
        simp only [Act.put, List.setIfInBounds_toArray, List.set_cons_zero, List.set_cons_succ, i64_w, i32_w]
        rfl
      refine last_ (i := 37) (N := some 54) #[true, true, true, true, true, true, true, true, true, true, true, true, true, true, true, true, true, true, true, true, true, true, true, true, true, true, true, true, true, true, true, true, true, true, true, true, true, true, false, false, false] rfl rfl (one_of HT_.out (by kernel_rfl)) (by decide) (fun K hK => ?_)
      refine Kd.R_append_step (ptr 54 (raw 36)) (w0 := w) w.heap.size (by rfl) (.tmp 21) (.tmp 53) 39 36 (.pointer none) 8 rfl Tryd.underlying39 info36 rfl (by decide) (by decide) V ((l.take k).map ent) (entC hv x) [.pointer (some ⟨_, 0, none⟩)] (fun _ => True) (fun j => _ ≤ j) rfl ?hx (new36 hv x HC35.out HB5.out) (ne36 HR5.out HC35.out) (fun _ _ => trivial) (Kd.R_below HR5.out (below_alloc HC35.out _)) (below_alloc HB35.out _) ?hbase ?hlen ?_
      case hx => first | (go_simp; done) | (simp [Act.eval]; done)
      case hbase => exact Nat.le_trans HB35.out.size (by simp)
      case hlen => exact hl8 HL.out
      intro v7 w7 ho7 hb7 hg7 hat7
      obtain ⟨A7, n7, c7, rfl⟩ : ∃ A n c, v7 = .slice A n c := by obtain ⟨A, c, h⟩ := Kd.R_slice ho7; exact ⟨A, _, c, h⟩
      have HR7 := Aside0.mk ho7
      have HB7 := Aside0.mk hb7
      have HI7 : Aside0 (w7.heap[gi]? = some (.cells (idxC V) 46 (0, 0))) := ⟨blk_grown (blk_below HI5.out (below_alloc HC35.out _)) hg7 (Kd.R_ne HR5.out HI5.out (by decide))⟩
      clear ho7 hb7 hg7 hat7
      have hc7 : w7.cell? ⟨gi, 1, none⟩ = some V := (blk_cell HI7.out 1).trans rfl
      have hz7 := blk_frozen HI7.out 1
      refine hK.out _ _ ?_
      clear hK K
      refine norm_ (a' := ?_) ?_ ?_
      rotate_left
      · show Act.put _ (some 54) _ = _
        simp only [Act.put, List.setIfInBounds_toArray, List.set_cons_zero, List.set_cons_succ, i64_w, i32_w]
        rfl
      refine pure_ (i := 38) (N := some 55) (v := ?_) (a' := ?_) #[true, true, true, true, true, true, true, true, true, true, true, true, true, true, true, true, true, true, true, true, true, true, true, true, true, true, true, true, true, true, true, true, true, true, true, true, true, true, true, false, false] rfl rfl (any_of HT_.out (by kernel_rfl)) (fun _ _ _ h => h) (Or.inl ⟨by rfl, ?_⟩) ?_ ?_
      rotate_left
      · intro w'
        go_simp
        with_reducible rfl
      rotate_left
      · simp only [Act.put, List.setIfInBounds_toArray, List.set_cons_zero, List.set_cons_succ, i64_w, i32_w]
        rfl
      refine pure_ (i := 39) (N := some 56) (v := ?_) (a' := ?_) #[true, true, true, true, true, true, true, true, true, true, true, true, true, true, true, true, true, true, true, true, true, true, true, true, true, true, true, true, true, true, true, true, true, true, true, true, true, true, true, true, false] rfl rfl (any_of HT_.out (by kernel_rfl)) (fun _ _ _ h => h) (Or.inl ⟨by rfl, ?_⟩) ?_ ?_
      rotate_left
      · intro w'
        go_simp
        with_reducible rfl
      rotate_left
      · simp only [Act.put, List.setIfInBounds_toArray, List.set_cons_zero, List.set_cons_succ, i64_w, i32_w]
        rfl
      refine last_ (i := 40) (N := none) #[true, true, true, true, true, true, true, true, true, true, true, true, true, true, true, true, true, true, true, true, true, true, true, true, true, true, true, true, true, true, true, true, true, true, true, true, true, true, true, true, true] rfl rfl (one_of HT_.out (by kernel_rfl)) (by decide) (fun K hK => ?_)
      refine skip_ (w1 := ?_) (by rfl) rfl ?_ ?_
      rotate_left
      · go_simp
        rfl
      have HI8 : Aside0 ((w7.setCell ⟨gi, 1, none⟩ (.slice A7 n7 c7)).heap[gi]? = some (.cells (idxC (.slice A7 n7 c7)) 46 (0, 0))) := ⟨blk_put HI7.out 1 (.slice A7 n7 c7) rfl⟩
      have HB8 : Aside0 (Below w.heap.size w (w7.setCell ⟨gi, 1, none⟩ (.slice A7 n7 c7))) := ⟨below_set HB7.out HGI.out⟩
      have HR8 : Aside0 ((ptr 54 (raw 36)).R 36 (w7.setCell ⟨gi, 1, none⟩ (.slice A7 n7 c7)) w.heap.size (fun _ => True) (.slice A7 n7 c7) ((l.take k).map ent ++ [entC hv x])) := ⟨R_put HR7.out HI7.out (by decide) 1 (.slice A7 n7 c7)⟩
      refine hK.out _ _ ?_
      clear hK K
      refine done_ (done_of HT_.out (by kernel_rfl)) ?_

      go_wp2
      go_roundg g0
      case measure => omega
      case rel => exact ⟨k + 1, .slice A7 n7 c7, by push_cast; rfl, ⟨by have := HK.out; omega⟩, HB8, HI8, ⟨by rw [HTK.out]; have := HR8.out; rw [HHV.out] at this; exact this⟩⟩
    · have hkn : k = l.length := by have := HK.out; omega
      have hR := HR.out
      rw [hkn, List.take_length] at hR
      have HR2 := Aside0.mk hR
      clear hR
      go_wp2
      go_ret
      exact ⟨gi, V, rfl, HGI.out, HI.out, HR2.out, HB.out⟩
#print axioms indexOf
end Go.Proofs.YtcokggnbgakonaaDoor.HandI
