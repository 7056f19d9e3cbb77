/- Hash.String and impl.fileOf, walked. -/
import Derived.Test.YtcokggnbgakonaaDoorHandH
import Derived.Deep.MidRow
set_option linter.unusedVariables false
set_option linter.unusedSimpArgs false
namespace Go.Proofs.YtcokggnbgakonaaDoor.HandF
open Go.RowKit Go.Proofs.YtcokggnbgakonaaDoorW.PrintWords Go.Proofs.YtcokggnbgakonaaDoorW.PrintLast Go.Proofs.YtcokggnbgakonaaDoorW.PrintMore Go.Proofs.YtcokggnbgakonaaDoor.QAll Go.Lib Ptr HandH

/-- The text of 20 bytes. -/
def hexOf (hv : Nat → Int) : ByteArray := ⟨(Hx.encode (Lib.bytesOf ((List.range 20).map hv))).toArray⟩
theorem getD20 (hv : Nat → Int) (i : Nat) (hi : i < 20) : ((List.range 20).map hv).getD i 0 = hv i := by
  rw [List.getD_eq_getElem?_getD, List.getElem?_map, List.getElem?_range hi]
  rfl

set_option maxHeartbeats 4000000 in
set_option maxRecDepth 100000 in
theorem hashString (hv : Nat → Int) (hs : ByteArray) (hh : hs = hexOf hv) (hr : ∀ i, i < 20 → 0 ≤ hv i ∧ hv i < 256) (w : World) :
    Calls Tryd.prog 23 #[.agg #[.int .u8 (hv 0), .int .u8 (hv 1), .int .u8 (hv 2), .int .u8 (hv 3), .int .u8 (hv 4), .int .u8 (hv 5), .int .u8 (hv 6), .int .u8 (hv 7), .int .u8 (hv 8), .int .u8 (hv 9), .int .u8 (hv 10), .int .u8 (hv 11), .int .u8 (hv 12), .int .u8 (hv 13), .int .u8 (hv 14), .int .u8 (hv 15), .int .u8 (hv 16), .int .u8 (hv 17), .int .u8 (hv 18), .int .u8 (hv 19)]] w fun e w' => e = .returned (.string hs) ∧ Below w.heap.size w w' := by
  have hcell : ∀ i, i < 20 → (w.alloc (.cells #[.int .u8 (hv 0), .int .u8 (hv 1), .int .u8 (hv 2), .int .u8 (hv 3), .int .u8 (hv 4), .int .u8 (hv 5), .int .u8 (hv 6), .int .u8 (hv 7), .int .u8 (hv 8), .int .u8 (hv 9), .int .u8 (hv 10), .int .u8 (hv 11), .int .u8 (hv 12), .int .u8 (hv 13), .int .u8 (hv 14), .int .u8 (hv 15), .int .u8 (hv 16), .int .u8 (hv 17), .int .u8 (hv 18), .int .u8 (hv 19)] 50)).cell? ⟨w.heap.size, 0 + i, none⟩ = some (.int .u8 (((List.range 20).map hv).getD i 0)) := by
    intro i hi
    rw [Nat.zero_add, getD20 hv i hi, blk_cell (blk_new w _)]
    have hl : i < (hcells hv).length := hi
    have := (hcells_at hv i _ (List.getElem?_eq_getElem hl)).2
    have h2 : (hcells hv)[i]? = some (.int .u8 (hv i)) := by rw [List.getElem?_eq_getElem hl, this]
    show (hcells hv).toArray[i]? = _
    rw [List.getElem?_toArray]
    exact h2
  have HC := Aside0.mk (Tryd.hex_EncodeToString w.heap.size 0 20 20 ((List.range 20).map hv) (w.alloc (.cells #[.int .u8 (hv 0), .int .u8 (hv 1), .int .u8 (hv 2), .int .u8 (hv 3), .int .u8 (hv 4), .int .u8 (hv 5), .int .u8 (hv 6), .int .u8 (hv 7), .int .u8 (hv 8), .int .u8 (hv 9), .int .u8 (hv 10), .int .u8 (hv 11), .int .u8 (hv 12), .int .u8 (hv 13), .int .u8 (hv 14), .int .u8 (hv 15), .int .u8 (hv 16), .int .u8 (hv 17), .int .u8 (hv 18), .int .u8 (hv 19)] 50)) (by simp) (fun i hi => by rw [getD20 hv i hi]; exact hr i hi) hcell (by simp) (by decide))
  have HH := Aside0.mk hh
  clear hcell hr hh
  go_enter Tryd.func23, Tryd.ntmps23
  go_wp2_with (first
    | (go_at_call 29; (with_reducible refine HC.out.mono ?_); rintro e w1 ⟨rfl, hb1⟩; have HB1 : Aside0 (Below w.heap.size w w1) := ⟨(below_alloc (Below.refl _ _) _).trans (hb1.mono (by simp))⟩; clear hb1))
  go_ret
  exact ⟨by rw [HH.out]; rfl, HB1.out⟩

theorem info31 : (Tryd.prog.info? 31).map (·.size) = some 15 := by kernel_rfl
theorem one15 (a1 a2 b1 b2 dv no md ui gi sz : Int) (hs nm : ByteArray) (st : Int) (sk it : Bool) : ∀ v ∈ (#[.int .i64 a1, .int .i64 a2, .int .i64 b1, .int .i64 b2, .int .u32 dv, .int .u32 no, .int .u32 md, .int .u32 ui, .int .u32 gi, .int .u32 sz, .string hs, .string nm, .int .i64 st, .bool sk, .bool it] : Array Value).toList, v.oneCell' = true := by
  intro v hv
  simp only [List.mem_cons, List.not_mem_nil, or_false] at hv
  rcases hv with rfl | rfl | rfl | rfl | rfl | rfl | rfl | rfl | rfl | rfl | rfl | rfl | rfl | rfl | rfl <;> rfl
theorem range20 (hv : Nat → Int) (g : Nat) (w : World) (h0 : w.cell? ⟨g, 0, none⟩ = some (.int .u8 (hv 0))) (h1 : w.cell? ⟨g, 1, none⟩ = some (.int .u8 (hv 1))) (h2 : w.cell? ⟨g, 2, none⟩ = some (.int .u8 (hv 2))) (h3 : w.cell? ⟨g, 3, none⟩ = some (.int .u8 (hv 3))) (h4 : w.cell? ⟨g, 4, none⟩ = some (.int .u8 (hv 4))) (h5 : w.cell? ⟨g, 5, none⟩ = some (.int .u8 (hv 5))) (h6 : w.cell? ⟨g, 6, none⟩ = some (.int .u8 (hv 6))) (h7 : w.cell? ⟨g, 7, none⟩ = some (.int .u8 (hv 7))) (h8 : w.cell? ⟨g, 8, none⟩ = some (.int .u8 (hv 8))) (h9 : w.cell? ⟨g, 9, none⟩ = some (.int .u8 (hv 9))) (h10 : w.cell? ⟨g, 10, none⟩ = some (.int .u8 (hv 10))) (h11 : w.cell? ⟨g, 11, none⟩ = some (.int .u8 (hv 11))) (h12 : w.cell? ⟨g, 12, none⟩ = some (.int .u8 (hv 12))) (h13 : w.cell? ⟨g, 13, none⟩ = some (.int .u8 (hv 13))) (h14 : w.cell? ⟨g, 14, none⟩ = some (.int .u8 (hv 14))) (h15 : w.cell? ⟨g, 15, none⟩ = some (.int .u8 (hv 15))) (h16 : w.cell? ⟨g, 16, none⟩ = some (.int .u8 (hv 16))) (h17 : w.cell? ⟨g, 17, none⟩ = some (.int .u8 (hv 17))) (h18 : w.cell? ⟨g, 18, none⟩ = some (.int .u8 (hv 18))) (h19 : w.cell? ⟨g, 19, none⟩ = some (.int .u8 (hv 19))) : w.rangeAt g 0 [.int .u8 (hv 0), .int .u8 (hv 1), .int .u8 (hv 2), .int .u8 (hv 3), .int .u8 (hv 4), .int .u8 (hv 5), .int .u8 (hv 6), .int .u8 (hv 7), .int .u8 (hv 8), .int .u8 (hv 9), .int .u8 (hv 10), .int .u8 (hv 11), .int .u8 (hv 12), .int .u8 (hv 13), .int .u8 (hv 14), .int .u8 (hv 15), .int .u8 (hv 16), .int .u8 (hv 17), .int .u8 (hv 18), .int .u8 (hv 19)] := by
  intro j v hj
  obtain ⟨hj20, rfl⟩ := hcells_at hv j v hj
  rw [Nat.zero_add]
  match j, hj20 with
  | 0, _ => exact h0
  | 1, _ => exact h1
  | 2, _ => exact h2
  | 3, _ => exact h3
  | 4, _ => exact h4
  | 5, _ => exact h5
  | 6, _ => exact h6
  | 7, _ => exact h7
  | 8, _ => exact h8
  | 9, _ => exact h9
  | 10, _ => exact h10
  | 11, _ => exact h11
  | 12, _ => exact h12
  | 13, _ => exact h13
  | 14, _ => exact h14
  | 15, _ => exact h15
  | 16, _ => exact h16
  | 17, _ => exact h17
  | 18, _ => exact h18
  | 19, _ => exact h19
  | n + 20, h => exact absurd h (by omega)
/-- What is held of the world while the entry at g is read. -/
def SF (w1 : World) (g : Nat) (hv : Nat → Int) (nm : ByteArray) (c1 c2 c3 m1 m2 m3 dv no md ui gi sz st : Int) (sk it : Bool) (w' : World) : Prop := Below w1.heap.size w1 w' ∧ w'.cell? ⟨g, 0, none⟩ = some (.int .u8 (hv 0)) ∧ w'.cell? ⟨g, 1, none⟩ = some (.int .u8 (hv 1)) ∧ w'.cell? ⟨g, 2, none⟩ = some (.int .u8 (hv 2)) ∧ w'.cell? ⟨g, 3, none⟩ = some (.int .u8 (hv 3)) ∧ w'.cell? ⟨g, 4, none⟩ = some (.int .u8 (hv 4)) ∧ w'.cell? ⟨g, 5, none⟩ = some (.int .u8 (hv 5)) ∧ w'.cell? ⟨g, 6, none⟩ = some (.int .u8 (hv 6)) ∧ w'.cell? ⟨g, 7, none⟩ = some (.int .u8 (hv 7)) ∧ w'.cell? ⟨g, 8, none⟩ = some (.int .u8 (hv 8)) ∧ w'.cell? ⟨g, 9, none⟩ = some (.int .u8 (hv 9)) ∧ w'.cell? ⟨g, 10, none⟩ = some (.int .u8 (hv 10)) ∧ w'.cell? ⟨g, 11, none⟩ = some (.int .u8 (hv 11)) ∧ w'.cell? ⟨g, 12, none⟩ = some (.int .u8 (hv 12)) ∧ w'.cell? ⟨g, 13, none⟩ = some (.int .u8 (hv 13)) ∧ w'.cell? ⟨g, 14, none⟩ = some (.int .u8 (hv 14)) ∧ w'.cell? ⟨g, 15, none⟩ = some (.int .u8 (hv 15)) ∧ w'.cell? ⟨g, 16, none⟩ = some (.int .u8 (hv 16)) ∧ w'.cell? ⟨g, 17, none⟩ = some (.int .u8 (hv 17)) ∧ w'.cell? ⟨g, 18, none⟩ = some (.int .u8 (hv 18)) ∧ w'.cell? ⟨g, 19, none⟩ = some (.int .u8 (hv 19)) ∧ w'.cell? ⟨g, 20, none⟩ = some (.string nm) ∧ w'.cell? ⟨g, 21, none⟩ = some (.int .i64 c1) ∧ w'.cell? ⟨g, 22, none⟩ = some (.int .i64 c2) ∧ w'.cell? ⟨g, 23, none⟩ = some (.int .i64 c3) ∧ w'.cell? ⟨g, 24, none⟩ = some (.int .i64 m1) ∧ w'.cell? ⟨g, 25, none⟩ = some (.int .i64 m2) ∧ w'.cell? ⟨g, 26, none⟩ = some (.int .i64 m3) ∧ w'.cell? ⟨g, 27, none⟩ = some (.int .u32 dv) ∧ w'.cell? ⟨g, 28, none⟩ = some (.int .u32 no) ∧ w'.cell? ⟨g, 29, none⟩ = some (.int .u32 md) ∧ w'.cell? ⟨g, 30, none⟩ = some (.int .u32 ui) ∧ w'.cell? ⟨g, 31, none⟩ = some (.int .u32 gi) ∧ w'.cell? ⟨g, 32, none⟩ = some (.int .u32 sz) ∧ w'.cell? ⟨g, 33, none⟩ = some (.int .i64 st) ∧ w'.cell? ⟨g, 34, none⟩ = some (.bool sk) ∧ w'.cell? ⟨g, 35, none⟩ = some (.bool it)
theorem SF_go {w1 : World} {g : Nat} {hv : Nat → Int} {nm : ByteArray} {c1 c2 c3 m1 m2 m3 dv no md ui gi sz st : Int} {sk it : Bool} {w w' : World} (h : SF w1 g hv nm c1 c2 c3 m1 m2 m3 dv no md ui gi sz st sk it w) (hb : Below w.heap.size w w') : SF w1 g hv nm c1 c2 c3 m1 m2 m3 dv no md ui gi sz st sk it w' := by
  obtain ⟨f0, f1, f2, f3, f4, f5, f6, f7, f8, f9, f10, f11, f12, f13, f14, f15, f16, f17, f18, f19, f20, f21, f22, f23, f24, f25, f26, f27, f28, f29, f30, f31, f32, f33, f34, f35, f36⟩ := h
  exact ⟨f0.trans (hb.mono f0.size), pw_cell_below hb f1, pw_cell_below hb f2, pw_cell_below hb f3, pw_cell_below hb f4, pw_cell_below hb f5, pw_cell_below hb f6, pw_cell_below hb f7, pw_cell_below hb f8, pw_cell_below hb f9, pw_cell_below hb f10, pw_cell_below hb f11, pw_cell_below hb f12, pw_cell_below hb f13, pw_cell_below hb f14, pw_cell_below hb f15, pw_cell_below hb f16, pw_cell_below hb f17, pw_cell_below hb f18, pw_cell_below hb f19, pw_cell_below hb f20, pw_cell_below hb f21, pw_cell_below hb f22, pw_cell_below hb f23, pw_cell_below hb f24, pw_cell_below hb f25, pw_cell_below hb f26, pw_cell_below hb f27, pw_cell_below hb f28, pw_cell_below hb f29, pw_cell_below hb f30, pw_cell_below hb f31, pw_cell_below hb f32, pw_cell_below hb f33, pw_cell_below hb f34, pw_cell_below hb f35, pw_cell_below hb f36⟩
theorem SF_mk {w1 : World} {g : Nat} {hv : Nat → Int} {nm : ByteArray} {c1 c2 c3 m1 m2 m3 dv no md ui gi sz st : Int} {sk it : Bool} {w : World} (hb : Below w1.heap.size w1 w) (h : w.heap[g]? = some (.cells #[.int .u8 (hv 0), .int .u8 (hv 1), .int .u8 (hv 2), .int .u8 (hv 3), .int .u8 (hv 4), .int .u8 (hv 5), .int .u8 (hv 6), .int .u8 (hv 7), .int .u8 (hv 8), .int .u8 (hv 9), .int .u8 (hv 10), .int .u8 (hv 11), .int .u8 (hv 12), .int .u8 (hv 13), .int .u8 (hv 14), .int .u8 (hv 15), .int .u8 (hv 16), .int .u8 (hv 17), .int .u8 (hv 18), .int .u8 (hv 19), .string nm, .int .i64 c1, .int .i64 c2, .int .i64 c3, .int .i64 m1, .int .i64 m2, .int .i64 m3, .int .u32 dv, .int .u32 no, .int .u32 md, .int .u32 ui, .int .u32 gi, .int .u32 sz, .int .i64 st, .bool sk, .bool it] 54 (0, 0))) : SF w1 g hv nm c1 c2 c3 m1 m2 m3 dv no md ui gi sz st sk it w :=
  ⟨hb, (blk_cell h 0).trans rfl, (blk_cell h 1).trans rfl, (blk_cell h 2).trans rfl, (blk_cell h 3).trans rfl, (blk_cell h 4).trans rfl, (blk_cell h 5).trans rfl, (blk_cell h 6).trans rfl, (blk_cell h 7).trans rfl, (blk_cell h 8).trans rfl, (blk_cell h 9).trans rfl, (blk_cell h 10).trans rfl, (blk_cell h 11).trans rfl, (blk_cell h 12).trans rfl, (blk_cell h 13).trans rfl, (blk_cell h 14).trans rfl, (blk_cell h 15).trans rfl, (blk_cell h 16).trans rfl, (blk_cell h 17).trans rfl, (blk_cell h 18).trans rfl, (blk_cell h 19).trans rfl, (blk_cell h 20).trans rfl, (blk_cell h 21).trans rfl, (blk_cell h 22).trans rfl, (blk_cell h 23).trans rfl, (blk_cell h 24).trans rfl, (blk_cell h 25).trans rfl, (blk_cell h 26).trans rfl, (blk_cell h 27).trans rfl, (blk_cell h 28).trans rfl, (blk_cell h 29).trans rfl, (blk_cell h 30).trans rfl, (blk_cell h 31).trans rfl, (blk_cell h 32).trans rfl, (blk_cell h 33).trans rfl, (blk_cell h 34).trans rfl, (blk_cell h 35).trans rfl⟩

def fileOf18.T1 : Bool × List (List Nat × List Nat) := (true, [([], []), ([0], [0]), ([1], [1]), ([2], [2]), ([3], [3]), ([], []), ([5], [5]), ([6], [6]), ([7], [7]), ([8, 4], [8]), ([], []), ([10], [10]), ([11], [11]), ([12], [12]), ([], []), ([14], [14]), ([15], [15]), ([16], [16]), ([], []), ([18], [18]), ([19], [19]), ([20], [20]), ([], []), ([22], [22]), ([23], [23]), ([24], [24]), ([], []), ([26], [26]), ([27], [27]), ([28], [28]), ([], []), ([30], [30]), ([31], [31]), ([32], [32]), ([], []), ([34], [34]), ([35], [35]), ([36], [36]), ([37, 9], [37]), ([], []), ([39], [39]), ([40], [40]), ([41], [41]), ([], []), ([43], [43]), ([44], [44]), ([45], [45]), ([], []), ([47], [47]), ([48], [48]), ([49], [49]), ([], []), ([51], [51]), ([52], [52]), ([53], [53]), ([4, 9, 13, 17, 21, 25, 29, 33, 38, 42, 46, 50, 54], [4, 9, 13, 17, 21, 25, 29, 33, 38, 42, 46, 50, 54]), ([55, 38, 0, 1, 2, 3, 4, 5, 6, 7, 8, 9, 10, 11, 12, 13, 14, 15, 16, 17, 18, 19, 20, 21, 22, 23, 24, 25, 26, 27, 28, 29, 30, 31, 32, 33, 34, 35, 36, 37, 38, 39, 40, 41, 42, 43, 44, 45, 46, 47, 48, 49, 50, 51, 52, 53, 54, 55], [55])])
def fileOf18.B1 : List Nat := [0, 1, 3, 7, 15, 0, 32, 96, 224, 511, 0, 1024, 3072, 7168, 0, 16384, 49152, 114688, 0, 262144, 786432, 1835008, 0, 4194304, 12582912, 29360128, 0, 67108864, 201326592, 469762048, 0, 1073741824, 3221225472, 7516192768, 0, 17179869184, 51539607552, 120259084288, 257698038783, 0, 549755813888, 1649267441664, 3848290697216, 0, 8796093022208, 26388279066624, 61572651155456, 0, 140737488355328, 422212465065984, 985162418487296, 0, 2251799813685248, 6755399441055744, 15762598695796736, 36028797018963967, 72057594037927935]
theorem fileOf18.tab1 : rtab .any (opsOf Tryd.f18 1) = fileOf18.T1 := by kernel_rfl
theorem fileOf18.bits1 : waitsOk fileOf18.T1.2 fileOf18.B1 = true := by kernel_rfl

set_option maxHeartbeats 16000000 in
set_option maxRecDepth 100000 in
theorem fileOf (g : Nat) (hv : Nat → Int) (nm : ByteArray) (c1 c2 c3 m1 m2 m3 dv no md ui gi sz st : Int) (sk it : Bool) (a1 a2 b1 b2 : Int) (hs : ByteArray) (w : World) (hs1 : impl_stampOf.f c1 c2 c3 = some (a1, a2)) (hs2 : impl_stampOf.f m1 m2 m3 = some (b1, b2)) (hs3 : hs = hexOf hv) (hr : ∀ i, i < 20 → 0 ≤ hv i ∧ hv i < 256)
    (hg : w.heap[g]? = some (.cells #[.int .u8 (hv 0), .int .u8 (hv 1), .int .u8 (hv 2), .int .u8 (hv 3), .int .u8 (hv 4), .int .u8 (hv 5), .int .u8 (hv 6), .int .u8 (hv 7), .int .u8 (hv 8), .int .u8 (hv 9), .int .u8 (hv 10), .int .u8 (hv 11), .int .u8 (hv 12), .int .u8 (hv 13), .int .u8 (hv 14), .int .u8 (hv 15), .int .u8 (hv 16), .int .u8 (hv 17), .int .u8 (hv 18), .int .u8 (hv 19), .string nm, .int .i64 c1, .int .i64 c2, .int .i64 c3, .int .i64 m1, .int .i64 m2, .int .i64 m3, .int .u32 dv, .int .u32 no, .int .u32 md, .int .u32 ui, .int .u32 gi, .int .u32 sz, .int .i64 st, .bool sk, .bool it] 54 (0, 0))) :
    Calls Tryd.prog 18 #[.pointer (some ⟨g, 0, none⟩)] w fun e w' => e = .returned (.agg #[.int .i64 a1, .int .i64 a2, .int .i64 b1, .int .i64 b2, .int .u32 dv, .int .u32 no, .int .u32 md, .int .u32 ui, .int .u32 gi, .int .u32 sz, .string hs, .string nm, .int .i64 st, .bool sk, .bool it]) ∧ Below w.heap.size w w' := by
  have HS1 := Aside0.mk hs1
  have HS2 := Aside0.mk hs2
  have HS3 := Aside0.mk hs3
  have HR := Aside0.mk hr
  have HG0 := Aside0.mk hg
  clear hs1 hs2 hs3 hr hg
  go_enter Tryd.func18, Tryd.ntmps18
  go_upto_region 1 with fail
  have hgr : (w.alloc (.cells #[.int .i64 0, .int .i64 0, .int .i64 0, .int .i64 0, .int .u32 0, .int .u32 0, .int .u32 0, .int .u32 0, .int .u32 0, .int .u32 0, .string ⟨#[]⟩, .string ⟨#[]⟩, .int .i64 0, .bool false, .bool false] 31)).heap[w.heap.size]? = some (.cells #[.int .i64 0, .int .i64 0, .int .i64 0, .int .i64 0, .int .u32 0, .int .u32 0, .int .u32 0, .int .u32 0, .int .u32 0, .int .u32 0, .string ⟨#[]⟩, .string ⟨#[]⟩, .int .i64 0, .bool false, .bool false] 31 (0, 0)) := blk_new _ _
  have HB1 : Aside0 (Below w.heap.size w (w.alloc (.cells #[.int .i64 0, .int .i64 0, .int .i64 0, .int .i64 0, .int .u32 0, .int .u32 0, .int .u32 0, .int .u32 0, .int .u32 0, .int .u32 0, .string ⟨#[]⟩, .string ⟨#[]⟩, .int .i64 0, .bool false, .bool false] 31))) := ⟨below_alloc (Below.refl _ _) _⟩
  have HG : Aside0 ((w.alloc (.cells #[.int .i64 0, .int .i64 0, .int .i64 0, .int .i64 0, .int .u32 0, .int .u32 0, .int .u32 0, .int .u32 0, .int .u32 0, .int .u32 0, .string ⟨#[]⟩, .string ⟨#[]⟩, .int .i64 0, .bool false, .bool false] 31)).heap[g]? = some (.cells #[.int .u8 (hv 0), .int .u8 (hv 1), .int .u8 (hv 2), .int .u8 (hv 3), .int .u8 (hv 4), .int .u8 (hv 5), .int .u8 (hv 6), .int .u8 (hv 7), .int .u8 (hv 8), .int .u8 (hv 9), .int .u8 (hv 10), .int .u8 (hv 11), .int .u8 (hv 12), .int .u8 (hv 13), .int .u8 (hv 14), .int .u8 (hv 15), .int .u8 (hv 16), .int .u8 (hv 17), .int .u8 (hv 18), .int .u8 (hv 19), .string nm, .int .i64 c1, .int .i64 c2, .int .i64 c3, .int .i64 m1, .int .i64 m2, .int .i64 m3, .int .u32 dv, .int .u32 no, .int .u32 md, .int .u32 ui, .int .u32 gi, .int .u32 sz, .int .i64 st, .bool sk, .bool it] 54 (0, 0))) := ⟨blk_alloc HG0.out _⟩
  clear HG0
  have HGR := Aside0.mk hgr
  clear hgr
  generalize w.alloc (.cells #[.int .i64 0, .int .i64 0, .int .i64 0, .int .i64 0, .int .u32 0, .int .u32 0, .int .u32 0, .int .u32 0, .int .u32 0, .int .u32 0, .string ⟨#[]⟩, .string ⟨#[]⟩, .int .i64 0, .bool false, .bool false] 31) = w1 at HB1 HG HGR ⊢
  generalize hgr : (⟨w.heap.size, 0, none⟩ : Addr) = ar
  obtain ⟨gr, har⟩ : ∃ gr, gr = w.heap.size := ⟨_, rfl⟩
  have HGE : Aside0 (w.heap.size ≤ gr) := ⟨by rw [har]; exact Nat.le_refl _⟩
  rw [← har] at HGR hgr
  subst hgr
  obtain ⟨g0, g1, g2, g3, g4, g5, g6, g7, g8, g9, g10, g11, g12, g13, g14, g15, g16, g17, g18, g19, g20, g21, g22, g23, g24, g25, g26, g27, g28, g29, g30, g31, g32, g33, g34, g35, g36⟩ : SF w1 g hv nm c1 c2 c3 m1 m2 m3 dv no md ui gi sz st sk it w1.drew := SF_mk (below_drew1 (Below.refl _ _)) (blk_drew HG.out)
  clear har
  refine start_ (n := 57) (S := fun w' => Below w1.heap.size w1 w' ∧ w'.cell? ⟨g, 0, none⟩ = some (.int .u8 (hv 0)) ∧ w'.cell? ⟨g, 1, none⟩ = some (.int .u8 (hv 1)) ∧ w'.cell? ⟨g, 2, none⟩ = some (.int .u8 (hv 2)) ∧ w'.cell? ⟨g, 3, none⟩ = some (.int .u8 (hv 3)) ∧ w'.cell? ⟨g, 4, none⟩ = some (.int .u8 (hv 4)) ∧ w'.cell? ⟨g, 5, none⟩ = some (.int .u8 (hv 5)) ∧ w'.cell? ⟨g, 6, none⟩ = some (.int .u8 (hv 6)) ∧ w'.cell? ⟨g, 7, none⟩ = some (.int .u8 (hv 7)) ∧ w'.cell? ⟨g, 8, none⟩ = some (.int .u8 (hv 8)) ∧ w'.cell? ⟨g, 9, none⟩ = some (.int .u8 (hv 9)) ∧ w'.cell? ⟨g, 10, none⟩ = some (.int .u8 (hv 10)) ∧ w'.cell? ⟨g, 11, none⟩ = some (.int .u8 (hv 11)) ∧ w'.cell? ⟨g, 12, none⟩ = some (.int .u8 (hv 12)) ∧ w'.cell? ⟨g, 13, none⟩ = some (.int .u8 (hv 13)) ∧ w'.cell? ⟨g, 14, none⟩ = some (.int .u8 (hv 14)) ∧ w'.cell? ⟨g, 15, none⟩ = some (.int .u8 (hv 15)) ∧ w'.cell? ⟨g, 16, none⟩ = some (.int .u8 (hv 16)) ∧ w'.cell? ⟨g, 17, none⟩ = some (.int .u8 (hv 17)) ∧ w'.cell? ⟨g, 18, none⟩ = some (.int .u8 (hv 18)) ∧ w'.cell? ⟨g, 19, none⟩ = some (.int .u8 (hv 19)) ∧ w'.cell? ⟨g, 20, none⟩ = some (.string nm) ∧ w'.cell? ⟨g, 21, none⟩ = some (.int .i64 c1) ∧ w'.cell? ⟨g, 22, none⟩ = some (.int .i64 c2) ∧ w'.cell? ⟨g, 23, none⟩ = some (.int .i64 c3) ∧ w'.cell? ⟨g, 24, none⟩ = some (.int .i64 m1) ∧ w'.cell? ⟨g, 25, none⟩ = some (.int .i64 m2) ∧ w'.cell? ⟨g, 26, none⟩ = some (.int .i64 m3) ∧ w'.cell? ⟨g, 27, none⟩ = some (.int .u32 dv) ∧ w'.cell? ⟨g, 28, none⟩ = some (.int .u32 no) ∧ w'.cell? ⟨g, 29, none⟩ = some (.int .u32 md) ∧ w'.cell? ⟨g, 30, none⟩ = some (.int .u32 ui) ∧ w'.cell? ⟨g, 31, none⟩ = some (.int .u32 gi) ∧ w'.cell? ⟨g, 32, none⟩ = some (.int .u32 sz) ∧ w'.cell? ⟨g, 33, none⟩ = some (.int .i64 st) ∧ w'.cell? ⟨g, 34, none⟩ = some (.bool sk) ∧ w'.cell? ⟨g, 35, none⟩ = some (.bool it)) (ds := [56]) #[false, false, false, false, false, false, false, false, false, false, false, false, false, false, false, false, false, false, false, false, false, false, false, false, false, false, false, false, false, false, false, false, false, false, false, false, false, false, false, false, false, false, false, false, false, false, false, false, false, false, false, false, false, false, false, false, false] (by kernel_rfl) rfl rfl ⟨g0, g1, g2, g3, g4, g5, g6, g7, g8, g9, g10, g11, g12, g13, g14, g15, g16, g17, g18, g19, g20, g21, g22, g23, g24, g25, g26, g27, g28, g29, g30, g31, g32, g33, g34, g35, g36⟩ (fun hHeld => ?_)
  refine with_tabW fileOf18.tab1 fileOf18.bits1 (fun HT_ HW_ => ?_)
  generalize World.drew _ = wd at hHeld ⊢
  refine pure_ (i := 0) (N := some 3) (v := ?_) (a' := ?_) #[true, false, false, false, false, false, false, false, false, false, false, false, false, false, false, false, false, false, false, false, false, false, false, false, false, false, false, false, false, false, false, false, false, false, false, false, false, false, false, false, false, false, false, false, false, false, false, false, false, false, false, false, false, false, false, false, false] rfl rfl (any_of HT_.out (by kernel_rfl)) (fun _ _ _ h => h) (Or.inl ⟨by rfl, ?_⟩) ?_ ?_
  rotate_left
  · intro w'
    go_simp
    with_reducible rfl
  rotate_left
  · simp only [Act.put, List.setIfInBounds_toArray, List.set_cons_zero, List.set_cons_succ, i64_w, i32_w]
    rfl
  refine pure_ (i := 1) (N := some 4) (v := ?_) (a' := ?_) #[true, true, false, false, false, false, false, false, false, false, false, false, false, false, false, false, false, false, false, false, false, false, false, false, false, false, false, false, false, false, false, false, false, false, false, false, false, false, false, false, false, false, false, false, false, false, false, false, false, false, false, false, false, false, false, false, false] rfl rfl (any_of HT_.out (by kernel_rfl)) (fun _ _ _ h => h) (Or.inl ⟨by rfl, ?_⟩) ?_ ?_
  rotate_left
  · intro w'
    go_simp
    with_reducible rfl
  rotate_left
  · simp only [Act.put, List.setIfInBounds_toArray, List.set_cons_zero, List.set_cons_succ, i64_w, i32_w]
    rfl
  refine pure_ (i := 2) (N := some 5) (v := ?_) (a' := ?_) #[true, true, true, false, false, false, false, false, false, false, false, false, false, false, false, false, false, false, false, false, false, false, false, false, false, false, false, false, false, false, false, false, false, false, false, false, false, false, false, false, false, false, false, false, false, false, false, false, false, false, false, false, false, false, false, false, false] rfl rfl (any_of HT_.out (by kernel_rfl)) (fun _ _ _ h => h) (Or.inl ⟨by rfl, ?_⟩) ?_ ?_
  rotate_left
  · intro w'
    go_simp
    with_reducible rfl
  rotate_left
  · simp only [Act.put, List.setIfInBounds_toArray, List.set_cons_zero, List.set_cons_succ, i64_w, i32_w]
    rfl
  refine pure_ (i := 5) (N := some 8) (v := ?_) (a' := ?_) #[true, true, true, false, false, true, false, false, false, false, false, false, false, false, false, false, false, false, false, false, false, false, false, false, false, false, false, false, false, false, false, false, false, false, false, false, false, false, false, false, false, false, false, false, false, false, false, false, false, false, false, false, false, false, false, false, false] rfl rfl (any_of HT_.out (by kernel_rfl)) (fun _ _ _ h => h) (Or.inl ⟨by rfl, ?_⟩) ?_ ?_
  rotate_left
  · intro w'
    go_simp
    with_reducible rfl
  rotate_left
  · simp only [Act.put, List.setIfInBounds_toArray, List.set_cons_zero, List.set_cons_succ, i64_w, i32_w]
    rfl
  refine pure_ (i := 6) (N := some 9) (v := ?_) (a' := ?_) #[true, true, true, false, false, true, true, false, false, false, false, false, false, false, false, false, false, false, false, false, false, false, false, false, false, false, false, false, false, false, false, false, false, false, false, false, false, false, false, false, false, false, false, false, false, false, false, false, false, false, false, false, false, false, false, false, false] rfl rfl (any_of HT_.out (by kernel_rfl)) (fun _ _ _ h => h) (Or.inl ⟨by rfl, ?_⟩) ?_ ?_
  rotate_left
  · intro w'
    go_simp
    with_reducible rfl
  rotate_left
  · simp only [Act.put, List.setIfInBounds_toArray, List.set_cons_zero, List.set_cons_succ, i64_w, i32_w]
    rfl
  refine pure_ (i := 7) (N := some 10) (v := ?_) (a' := ?_) #[true, true, true, false, false, true, true, true, false, false, false, false, false, false, false, false, false, false, false, false, false, false, false, false, false, false, false, false, false, false, false, false, false, false, false, false, false, false, false, false, false, false, false, false, false, false, false, false, false, false, false, false, false, false, false, false, false] rfl rfl (any_of HT_.out (by kernel_rfl)) (fun _ _ _ h => h) (Or.inl ⟨by rfl, ?_⟩) ?_ ?_
  rotate_left
  · intro w'
    go_simp
    with_reducible rfl
  rotate_left
  · simp only [Act.put, List.setIfInBounds_toArray, List.set_cons_zero, List.set_cons_succ, i64_w, i32_w]
    rfl
  refine pure_ (i := 10) (N := some 13) (v := ?_) (a' := ?_) #[true, true, true, false, false, true, true, true, false, false, true, false, false, false, false, false, false, false, false, false, false, false, false, false, false, false, false, false, false, false, false, false, false, false, false, false, false, false, false, false, false, false, false, false, false, false, false, false, false, false, false, false, false, false, false, false, false] rfl rfl (any_of HT_.out (by kernel_rfl)) (fun _ _ _ h => h) (Or.inl ⟨by rfl, ?_⟩) ?_ ?_
  rotate_left
  · intro w'
    go_simp
    with_reducible rfl
  rotate_left
  · simp only [Act.put, List.setIfInBounds_toArray, List.set_cons_zero, List.set_cons_succ, i64_w, i32_w]
    rfl
  refine pure_ (i := 11) (N := some 14) (v := ?_) (a' := ?_) #[true, true, true, false, false, true, true, true, false, false, true, true, false, false, false, false, false, false, false, false, false, false, false, false, false, false, false, false, false, false, false, false, false, false, false, false, false, false, false, false, false, false, false, false, false, false, false, false, false, false, false, false, false, false, false, false, false] rfl rfl (any_of HT_.out (by kernel_rfl)) (fun _ _ _ h => h) (Or.inl ⟨by rfl, ?_⟩) ?_ ?_
  rotate_left
  · intro w'
    go_simp
    with_reducible rfl
  rotate_left
  · simp only [Act.put, List.setIfInBounds_toArray, List.set_cons_zero, List.set_cons_succ, i64_w, i32_w]
    rfl
  refine pure_ (i := 12) (N := some 15) (v := ?_) (a' := ?_) #[true, true, true, false, false, true, true, true, false, false, true, true, true, false, false, false, false, false, false, false, false, false, false, false, false, false, false, false, false, false, false, false, false, false, false, false, false, false, false, false, false, false, false, false, false, false, false, false, false, false, false, false, false, false, false, false, false] rfl rfl (any_of HT_.out (by kernel_rfl)) (fun _ _ _ h => h) (Or.inl ⟨by rfl, ?_⟩) ?_ ?_
  rotate_left
  · intro w'
    go_simp
    with_reducible rfl
  rotate_left
  · simp only [Act.put, List.setIfInBounds_toArray, List.set_cons_zero, List.set_cons_succ, i64_w, i32_w]
    rfl
  refine pure_ (i := 14) (N := some 17) (v := ?_) (a' := ?_) #[true, true, true, false, false, true, true, true, false, false, true, true, true, false, true, false, false, false, false, false, false, false, false, false, false, false, false, false, false, false, false, false, false, false, false, false, false, false, false, false, false, false, false, false, false, false, false, false, false, false, false, false, false, false, false, false, false] rfl rfl (any_of HT_.out (by kernel_rfl)) (fun _ _ _ h => h) (Or.inl ⟨by rfl, ?_⟩) ?_ ?_
  rotate_left
  · intro w'
    go_simp
    with_reducible rfl
  rotate_left
  · simp only [Act.put, List.setIfInBounds_toArray, List.set_cons_zero, List.set_cons_succ, i64_w, i32_w]
    rfl
  refine pure_ (i := 15) (N := some 18) (v := ?_) (a' := ?_) #[true, true, true, false, false, true, true, true, false, false, true, true, true, false, true, true, false, false, false, false, false, false, false, false, false, false, false, false, false, false, false, false, false, false, false, false, false, false, false, false, false, false, false, false, false, false, false, false, false, false, false, false, false, false, false, false, false] rfl rfl (any_of HT_.out (by kernel_rfl)) (fun _ _ _ h => h) (Or.inl ⟨by rfl, ?_⟩) ?_ ?_
  rotate_left
  · intro w'
    go_simp
    with_reducible rfl
  rotate_left
  · simp only [Act.put, List.setIfInBounds_toArray, List.set_cons_zero, List.set_cons_succ, i64_w, i32_w]
    rfl
  refine pure_ (i := 16) (N := some 19) (v := ?_) (a' := ?_) #[true, true, true, false, false, true, true, true, false, false, true, true, true, false, true, true, true, false, false, false, false, false, false, false, false, false, false, false, false, false, false, false, false, false, false, false, false, false, false, false, false, false, false, false, false, false, false, false, false, false, false, false, false, false, false, false, false] rfl rfl (any_of HT_.out (by kernel_rfl)) (fun _ _ _ h => h) (Or.inl ⟨by rfl, ?_⟩) ?_ ?_
  rotate_left
  · intro w'
    go_simp
    with_reducible rfl
  rotate_left
  · simp only [Act.put, List.setIfInBounds_toArray, List.set_cons_zero, List.set_cons_succ, i64_w, i32_w]
    rfl
  refine pure_ (i := 18) (N := some 21) (v := ?_) (a' := ?_) #[true, true, true, false, false, true, true, true, false, false, true, true, true, false, true, true, true, false, true, false, false, false, false, false, false, false, false, false, false, false, false, false, false, false, false, false, false, false, false, false, false, false, false, false, false, false, false, false, false, false, false, false, false, false, false, false, false] rfl rfl (any_of HT_.out (by kernel_rfl)) (fun _ _ _ h => h) (Or.inl ⟨by rfl, ?_⟩) ?_ ?_
  rotate_left
  · intro w'
    go_simp
    with_reducible rfl
  rotate_left
  · simp only [Act.put, List.setIfInBounds_toArray, List.set_cons_zero, List.set_cons_succ, i64_w, i32_w]
    rfl
  refine pure_ (i := 19) (N := some 22) (v := ?_) (a' := ?_) #[true, true, true, false, false, true, true, true, false, false, true, true, true, false, true, true, true, false, true, true, false, false, false, false, false, false, false, false, false, false, false, false, false, false, false, false, false, false, false, false, false, false, false, false, false, false, false, false, false, false, false, false, false, false, false, false, false] rfl rfl (any_of HT_.out (by kernel_rfl)) (fun _ _ _ h => h) (Or.inl ⟨by rfl, ?_⟩) ?_ ?_
  rotate_left
  · intro w'
    go_simp
    with_reducible rfl
  rotate_left
  · simp only [Act.put, List.setIfInBounds_toArray, List.set_cons_zero, List.set_cons_succ, i64_w, i32_w]
    rfl
  refine pure_ (i := 20) (N := some 23) (v := ?_) (a' := ?_) #[true, true, true, false, false, true, true, true, false, false, true, true, true, false, true, true, true, false, true, true, true, false, false, false, false, false, false, false, false, false, false, false, false, false, false, false, false, false, false, false, false, false, false, false, false, false, false, false, false, false, false, false, false, false, false, false, false] rfl rfl (any_of HT_.out (by kernel_rfl)) (fun _ _ _ h => h) (Or.inl ⟨by rfl, ?_⟩) ?_ ?_
  rotate_left
  · intro w'
    go_simp
    with_reducible rfl
  rotate_left
  · simp only [Act.put, List.setIfInBounds_toArray, List.set_cons_zero, List.set_cons_succ, i64_w, i32_w]
    rfl
  refine pure_ (i := 22) (N := some 25) (v := ?_) (a' := ?_) #[true, true, true, false, false, true, true, true, false, false, true, true, true, false, true, true, true, false, true, true, true, false, true, false, false, false, false, false, false, false, false, false, false, false, false, false, false, false, false, false, false, false, false, false, false, false, false, false, false, false, false, false, false, false, false, false, false] rfl rfl (any_of HT_.out (by kernel_rfl)) (fun _ _ _ h => h) (Or.inl ⟨by rfl, ?_⟩) ?_ ?_
  rotate_left
  · intro w'
    go_simp
    with_reducible rfl
  rotate_left
  · simp only [Act.put, List.setIfInBounds_toArray, List.set_cons_zero, List.set_cons_succ, i64_w, i32_w]
    rfl
  refine pure_ (i := 23) (N := some 26) (v := ?_) (a' := ?_) #[true, true, true, false, false, true, true, true, false, false, true, true, true, false, true, true, true, false, true, true, true, false, true, true, false, false, false, false, false, false, false, false, false, false, false, false, false, false, false, false, false, false, false, false, false, false, false, false, false, false, false, false, false, false, false, false, false] rfl rfl (any_of HT_.out (by kernel_rfl)) (fun _ _ _ h => h) (Or.inl ⟨by rfl, ?_⟩) ?_ ?_
  rotate_left
  · intro w'
    go_simp
    with_reducible rfl
  rotate_left
  · simp only [Act.put, List.setIfInBounds_toArray, List.set_cons_zero, List.set_cons_succ, i64_w, i32_w]
    rfl
  refine pure_ (i := 24) (N := some 27) (v := ?_) (a' := ?_) #[true, true, true, false, false, true, true, true, false, false, true, true, true, false, true, true, true, false, true, true, true, false, true, true, true, false, false, false, false, false, false, false, false, false, false, false, false, false, false, false, false, false, false, false, false, false, false, false, false, false, false, false, false, false, false, false, false] rfl rfl (any_of HT_.out (by kernel_rfl)) (fun _ _ _ h => h) (Or.inl ⟨by rfl, ?_⟩) ?_ ?_
  rotate_left
  · intro w'
    go_simp
    with_reducible rfl
  rotate_left
  · simp only [Act.put, List.setIfInBounds_toArray, List.set_cons_zero, List.set_cons_succ, i64_w, i32_w]
    rfl
  refine pure_ (i := 26) (N := some 29) (v := ?_) (a' := ?_) #[true, true, true, false, false, true, true, true, false, false, true, true, true, false, true, true, true, false, true, true, true, false, true, true, true, false, true, false, false, false, false, false, false, false, false, false, false, false, false, false, false, false, false, false, false, false, false, false, false, false, false, false, false, false, false, false, false] rfl rfl (any_of HT_.out (by kernel_rfl)) (fun _ _ _ h => h) (Or.inl ⟨by rfl, ?_⟩) ?_ ?_
  rotate_left
  · intro w'
    go_simp
    with_reducible rfl
  rotate_left
  · simp only [Act.put, List.setIfInBounds_toArray, List.set_cons_zero, List.set_cons_succ, i64_w, i32_w]
    rfl
  refine pure_ (i := 27) (N := some 30) (v := ?_) (a' := ?_) #[true, true, true, false, false, true, true, true, false, false, true, true, true, false, true, true, true, false, true, true, true, false, true, true, true, false, true, true, false, false, false, false, false, false, false, false, false, false, false, false, false, false, false, false, false, false, false, false, false, false, false, false, false, false, false, false, false] rfl rfl (any_of HT_.out (by kernel_rfl)) (fun _ _ _ h => h) (Or.inl ⟨by rfl, ?_⟩) ?_ ?_
  rotate_left
  · intro w'
    go_simp
    with_reducible rfl
  rotate_left
  · simp only [Act.put, List.setIfInBounds_toArray, List.set_cons_zero, List.set_cons_succ, i64_w, i32_w]
    rfl
  refine pure_ (i := 28) (N := some 31) (v := ?_) (a' := ?_) #[true, true, true, false, false, true, true, true, false, false, true, true, true, false, true, true, true, false, true, true, true, false, true, true, true, false, true, true, true, false, false, false, false, false, false, false, false, false, false, false, false, false, false, false, false, false, false, false, false, false, false, false, false, false, false, false, false] rfl rfl (any_of HT_.out (by kernel_rfl)) (fun _ _ _ h => h) (Or.inl ⟨by rfl, ?_⟩) ?_ ?_
  rotate_left
  · intro w'
    go_simp
    with_reducible rfl
  rotate_left
  · simp only [Act.put, List.setIfInBounds_toArray, List.set_cons_zero, List.set_cons_succ, i64_w, i32_w]
    rfl
  refine pure_ (i := 30) (N := some 33) (v := ?_) (a' := ?_) #[true, true, true, false, false, true, true, true, false, false, true, true, true, false, true, true, true, false, true, true, true, false, true, true, true, false, true, true, true, false, true, false, false, false, false, false, false, false, false, false, false, false, false, false, false, false, false, false, false, false, false, false, false, false, false, false, false] rfl rfl (any_of HT_.out (by kernel_rfl)) (fun _ _ _ h => h) (Or.inl ⟨by rfl, ?_⟩) ?_ ?_
  rotate_left
  · intro w'
    go_simp
    with_reducible rfl
  rotate_left
  · simp only [Act.put, List.setIfInBounds_toArray, List.set_cons_zero, List.set_cons_succ, i64_w, i32_w]
    rfl
  refine pure_ (i := 31) (N := some 34) (v := ?_) (a' := ?_) #[true, true, true, false, false, true, true, true, false, false, true, true, true, false, true, true, true, false, true, true, true, false, true, true, true, false, true, true, true, false, true, true, false, false, false, false, false, false, false, false, false, false, false, false, false, false, false, false, false, false, false, false, false, false, false, false, false] rfl rfl (any_of HT_.out (by kernel_rfl)) (fun _ _ _ h => h) (Or.inl ⟨by rfl, ?_⟩) ?_ ?_
  rotate_left
  · intro w'
    go_simp
    with_reducible rfl
  rotate_left
  · simp only [Act.put, List.setIfInBounds_toArray, List.set_cons_zero, List.set_cons_succ, i64_w, i32_w]
    rfl
  refine pure_ (i := 32) (N := some 35) (v := ?_) (a' := ?_) #[true, true, true, false, false, true, true, true, false, false, true, true, true, false, true, true, true, false, true, true, true, false, true, true, true, false, true, true, true, false, true, true, true, false, false, false, false, false, false, false, false, false, false, false, false, false, false, false, false, false, false, false, false, false, false, false, false] rfl rfl (any_of HT_.out (by kernel_rfl)) (fun _ _ _ h => h) (Or.inl ⟨by rfl, ?_⟩) ?_ ?_
  rotate_left
  · intro w'
    go_simp
    with_reducible rfl
  rotate_left
  · simp only [Act.put, List.setIfInBounds_toArray, List.set_cons_zero, List.set_cons_succ, i64_w, i32_w]
    rfl
  refine pure_ (i := 34) (N := some 37) (v := ?_) (a' := ?_) #[true, true, true, false, false, true, true, true, false, false, true, true, true, false, true, true, true, false, true, true, true, false, true, true, true, false, true, true, true, false, true, true, true, false, true, false, false, false, false, false, false, false, false, false, false, false, false, false, false, false, false, false, false, false, false, false, false] rfl rfl (any_of HT_.out (by kernel_rfl)) (fun _ _ _ h => h) (Or.inl ⟨by rfl, ?_⟩) ?_ ?_
  rotate_left
  · intro w'
    go_simp
    with_reducible rfl
  rotate_left
  · simp only [Act.put, List.setIfInBounds_toArray, List.set_cons_zero, List.set_cons_succ, i64_w, i32_w]
    rfl
  refine pure_ (i := 35) (N := some 38) (v := ?_) (a' := ?_) #[true, true, true, false, false, true, true, true, false, false, true, true, true, false, true, true, true, false, true, true, true, false, true, true, true, false, true, true, true, false, true, true, true, false, true, true, false, false, false, false, false, false, false, false, false, false, false, false, false, false, false, false, false, false, false, false, false] rfl rfl (any_of HT_.out (by kernel_rfl)) (fun _ _ _ h => h) (Or.inl ⟨by rfl, ?_⟩) ?_ ?_
  rotate_left
  · intro w'
    go_simp
    with_reducible rfl
  rotate_left
  · simp only [Act.put, List.setIfInBounds_toArray, List.set_cons_zero, List.set_cons_succ, i64_w, i32_w]
    rfl
  refine pure_ (i := 36) (N := some 39) (v := ?_) (a' := ?_) #[true, true, true, false, false, true, true, true, false, false, true, true, true, false, true, true, true, false, true, true, true, false, true, true, true, false, true, true, true, false, true, true, true, false, true, true, true, false, false, false, false, false, false, false, false, false, false, false, false, false, false, false, false, false, false, false, false] rfl rfl (any_of HT_.out (by kernel_rfl)) (fun _ _ _ h => h) (Or.inl ⟨by rfl, ?_⟩) ?_ ?_
  rotate_left
  · intro w'
    go_simp
    with_reducible rfl
  rotate_left
  · simp only [Act.put, List.setIfInBounds_toArray, List.set_cons_zero, List.set_cons_succ, i64_w, i32_w]
    rfl
  refine pure_ (i := 39) (N := some 42) (v := ?_) (a' := ?_) #[true, true, true, false, false, true, true, true, false, false, true, true, true, false, true, true, true, false, true, true, true, false, true, true, true, false, true, true, true, false, true, true, true, false, true, true, true, false, false, true, false, false, false, false, false, false, false, false, false, false, false, false, false, false, false, false, false] rfl rfl (any_of HT_.out (by kernel_rfl)) (fun _ _ _ h => h) (Or.inl ⟨by rfl, ?_⟩) ?_ ?_
  rotate_left
  · intro w'
    go_simp
    with_reducible rfl
  rotate_left
  · simp only [Act.put, List.setIfInBounds_toArray, List.set_cons_zero, List.set_cons_succ, i64_w, i32_w]
    rfl
  refine pure_ (i := 40) (N := some 43) (v := ?_) (a' := ?_) #[true, true, true, false, false, true, true, true, false, false, true, true, true, false, true, true, true, false, true, true, true, false, true, true, true, false, true, true, true, false, true, true, true, false, true, true, true, false, false, true, true, false, false, false, false, false, false, false, false, false, false, false, false, false, false, false, false] rfl rfl (any_of HT_.out (by kernel_rfl)) (fun _ _ _ h => h) (Or.inl ⟨by rfl, ?_⟩) ?_ ?_
  rotate_left
  · intro w'
    go_simp
    with_reducible rfl
  rotate_left
  · simp only [Act.put, List.setIfInBounds_toArray, List.set_cons_zero, List.set_cons_succ, i64_w, i32_w]
    rfl
  refine pure_ (i := 41) (N := some 44) (v := ?_) (a' := ?_) #[true, true, true, false, false, true, true, true, false, false, true, true, true, false, true, true, true, false, true, true, true, false, true, true, true, false, true, true, true, false, true, true, true, false, true, true, true, false, false, true, true, true, false, false, false, false, false, false, false, false, false, false, false, false, false, false, false] rfl rfl (any_of HT_.out (by kernel_rfl)) (fun _ _ _ h => h) (Or.inl ⟨by rfl, ?_⟩) ?_ ?_
  rotate_left
  · intro w'
    go_simp
    with_reducible rfl
  rotate_left
  · simp only [Act.put, List.setIfInBounds_toArray, List.set_cons_zero, List.set_cons_succ, i64_w, i32_w]
    rfl
  refine pure_ (i := 43) (N := some 46) (v := ?_) (a' := ?_) #[true, true, true, false, false, true, true, true, false, false, true, true, true, false, true, true, true, false, true, true, true, false, true, true, true, false, true, true, true, false, true, true, true, false, true, true, true, false, false, true, true, true, false, true, false, false, false, false, false, false, false, false, false, false, false, false, false] rfl rfl (any_of HT_.out (by kernel_rfl)) (fun _ _ _ h => h) (Or.inl ⟨by rfl, ?_⟩) ?_ ?_
  rotate_left
  · intro w'
    go_simp
    with_reducible rfl
  rotate_left
  · simp only [Act.put, List.setIfInBounds_toArray, List.set_cons_zero, List.set_cons_succ, i64_w, i32_w]
    rfl
  refine pure_ (i := 44) (N := some 47) (v := ?_) (a' := ?_) #[true, true, true, false, false, true, true, true, false, false, true, true, true, false, true, true, true, false, true, true, true, false, true, true, true, false, true, true, true, false, true, true, true, false, true, true, true, false, false, true, true, true, false, true, true, false, false, false, false, false, false, false, false, false, false, false, false] rfl rfl (any_of HT_.out (by kernel_rfl)) (fun _ _ _ h => h) (Or.inl ⟨by rfl, ?_⟩) ?_ ?_
  rotate_left
  · intro w'
    go_simp
    with_reducible rfl
  rotate_left
  · simp only [Act.put, List.setIfInBounds_toArray, List.set_cons_zero, List.set_cons_succ, i64_w, i32_w]
    rfl
  refine pure_ (i := 45) (N := some 48) (v := ?_) (a' := ?_) #[true, true, true, false, false, true, true, true, false, false, true, true, true, false, true, true, true, false, true, true, true, false, true, true, true, false, true, true, true, false, true, true, true, false, true, true, true, false, false, true, true, true, false, true, true, true, false, false, false, false, false, false, false, false, false, false, false] rfl rfl (any_of HT_.out (by kernel_rfl)) (fun _ _ _ h => h) (Or.inl ⟨by rfl, ?_⟩) ?_ ?_
  rotate_left
  · intro w'
    go_simp
    with_reducible rfl
  rotate_left
  · simp only [Act.put, List.setIfInBounds_toArray, List.set_cons_zero, List.set_cons_succ, i64_w, i32_w]
    rfl
  refine pure_ (i := 47) (N := some 50) (v := ?_) (a' := ?_) #[true, true, true, false, false, true, true, true, false, false, true, true, true, false, true, true, true, false, true, true, true, false, true, true, true, false, true, true, true, false, true, true, true, false, true, true, true, false, false, true, true, true, false, true, true, true, false, true, false, false, false, false, false, false, false, false, false] rfl rfl (any_of HT_.out (by kernel_rfl)) (fun _ _ _ h => h) (Or.inl ⟨by rfl, ?_⟩) ?_ ?_
  rotate_left
  · intro w'
    go_simp
    with_reducible rfl
  rotate_left
  · simp only [Act.put, List.setIfInBounds_toArray, List.set_cons_zero, List.set_cons_succ, i64_w, i32_w]
    rfl
  refine pure_ (i := 48) (N := some 51) (v := ?_) (a' := ?_) #[true, true, true, false, false, true, true, true, false, false, true, true, true, false, true, true, true, false, true, true, true, false, true, true, true, false, true, true, true, false, true, true, true, false, true, true, true, false, false, true, true, true, false, true, true, true, false, true, true, false, false, false, false, false, false, false, false] rfl rfl (any_of HT_.out (by kernel_rfl)) (fun _ _ _ h => h) (Or.inl ⟨by rfl, ?_⟩) ?_ ?_
  rotate_left
  · intro w'
    go_simp
    with_reducible rfl
  rotate_left
  · simp only [Act.put, List.setIfInBounds_toArray, List.set_cons_zero, List.set_cons_succ, i64_w, i32_w]
    rfl
  refine pure_ (i := 49) (N := some 52) (v := ?_) (a' := ?_) #[true, true, true, false, false, true, true, true, false, false, true, true, true, false, true, true, true, false, true, true, true, false, true, true, true, false, true, true, true, false, true, true, true, false, true, true, true, false, false, true, true, true, false, true, true, true, false, true, true, true, false, false, false, false, false, false, false] rfl rfl (any_of HT_.out (by kernel_rfl)) (fun _ _ _ h => h) (Or.inl ⟨by rfl, ?_⟩) ?_ ?_
  rotate_left
  · intro w'
    go_simp
    with_reducible rfl
  rotate_left
  · simp only [Act.put, List.setIfInBounds_toArray, List.set_cons_zero, List.set_cons_succ, i64_w, i32_w]
    rfl
  refine pure_ (i := 51) (N := some 54) (v := ?_) (a' := ?_) #[true, true, true, false, false, true, true, true, false, false, true, true, true, false, true, true, true, false, true, true, true, false, true, true, true, false, true, true, true, false, true, true, true, false, true, true, true, false, false, true, true, true, false, true, true, true, false, true, true, true, false, true, false, false, false, false, false] rfl rfl (any_of HT_.out (by kernel_rfl)) (fun _ _ _ h => h) (Or.inl ⟨by rfl, ?_⟩) ?_ ?_
  rotate_left
  · intro w'
    go_simp
    with_reducible rfl
  rotate_left
  · simp only [Act.put, List.setIfInBounds_toArray, List.set_cons_zero, List.set_cons_succ, i64_w, i32_w]
    rfl
  refine pure_ (i := 52) (N := some 55) (v := ?_) (a' := ?_) #[true, true, true, false, false, true, true, true, false, false, true, true, true, false, true, true, true, false, true, true, true, false, true, true, true, false, true, true, true, false, true, true, true, false, true, true, true, false, false, true, true, true, false, true, true, true, false, true, true, true, false, true, true, false, false, false, false] rfl rfl (any_of HT_.out (by kernel_rfl)) (fun _ _ _ h => h) (Or.inl ⟨by rfl, ?_⟩) ?_ ?_
  rotate_left
  · intro w'
    go_simp
    with_reducible rfl
  rotate_left
  · simp only [Act.put, List.setIfInBounds_toArray, List.set_cons_zero, List.set_cons_succ, i64_w, i32_w]
    rfl
  refine pure_ (i := 53) (N := some 56) (v := ?_) (a' := ?_) #[true, true, true, false, false, true, true, true, false, false, true, true, true, false, true, true, true, false, true, true, true, false, true, true, true, false, true, true, true, false, true, true, true, false, true, true, true, false, false, true, true, true, false, true, true, true, false, true, true, true, false, true, true, true, false, false, false] rfl rfl (any_of HT_.out (by kernel_rfl)) (fun _ _ _ h => h) (Or.inl ⟨by rfl, ?_⟩) ?_ ?_
  rotate_left
  · intro w'
    go_simp
    with_reducible rfl
  rotate_left
  · simp only [Act.put, List.setIfInBounds_toArray, List.set_cons_zero, List.set_cons_succ, i64_w, i32_w]
    rfl
  refine take_ (i := 3) (N := some 6) (v := ?_) (a' := ?_) #[true, true, true, true, false, true, true, true, false, false, true, true, true, false, true, true, true, false, true, true, true, false, true, true, true, false, true, true, true, false, true, true, true, false, true, true, true, false, false, true, true, true, false, true, true, true, false, true, true, true, false, true, true, true, false, false, false] rfl rfl (take_ofW HT_.out HW_.out (by kernel_rfl)) (fun _ _ _ h => h) (Or.inl ⟨by rfl, ?_⟩) hHeld ?_ ?_
  rotate_left
  · rintro w' ⟨s0, s1, s2, s3, s4, s5, s6, s7, s8, s9, s10, s11, s12, s13, s14, s15, s16, s17, s18, s19, s20, s21, s22, s23, s24, s25, s26, s27, s28, s29, s30, s31, s32, s33, s34, s35, s36⟩
    go_simp
    with_reducible rfl
  rotate_left
  · simp only [Act.put, List.setIfInBounds_toArray, List.set_cons_zero, List.set_cons_succ, i64_w, i32_w]
    rfl
  refine take_ (i := 8) (N := some 11) (v := ?_) (a' := ?_) #[true, true, true, true, false, true, true, true, true, false, true, true, true, false, true, true, true, false, true, true, true, false, true, true, true, false, true, true, true, false, true, true, true, false, true, true, true, false, false, true, true, true, false, true, true, true, false, true, true, true, false, true, true, true, false, false, false] rfl rfl (take_ofW HT_.out HW_.out (by kernel_rfl)) (fun _ _ _ h => h) (Or.inl ⟨by rfl, ?_⟩) hHeld ?_ ?_
  rotate_left
  · rintro w' ⟨s0, s1, s2, s3, s4, s5, s6, s7, s8, s9, s10, s11, s12, s13, s14, s15, s16, s17, s18, s19, s20, s21, s22, s23, s24, s25, s26, s27, s28, s29, s30, s31, s32, s33, s34, s35, s36⟩
    go_simp
    with_reducible rfl
  rotate_left
  · simp only [Act.put, List.setIfInBounds_toArray, List.set_cons_zero, List.set_cons_succ, i64_w, i32_w]
    rfl
  refine take_ (i := 13) (N := some 16) (v := ?_) (a' := ?_) #[true, true, true, true, false, true, true, true, true, false, true, true, true, true, true, true, true, false, true, true, true, false, true, true, true, false, true, true, true, false, true, true, true, false, true, true, true, false, false, true, true, true, false, true, true, true, false, true, true, true, false, true, true, true, false, false, false] rfl rfl (take_ofW HT_.out HW_.out (by kernel_rfl)) (fun _ _ _ h => h) (Or.inl ⟨by rfl, ?_⟩) hHeld ?_ ?_
  rotate_left
  · rintro w' ⟨s0, s1, s2, s3, s4, s5, s6, s7, s8, s9, s10, s11, s12, s13, s14, s15, s16, s17, s18, s19, s20, s21, s22, s23, s24, s25, s26, s27, s28, s29, s30, s31, s32, s33, s34, s35, s36⟩
    go_simp
    with_reducible rfl
  rotate_left
  · simp only [Act.put, List.setIfInBounds_toArray, List.set_cons_zero, List.set_cons_succ, i64_w, i32_w]
    rfl
  refine take_ (i := 17) (N := some 20) (v := ?_) (a' := ?_) #[true, true, true, true, false, true, true, true, true, false, true, true, true, true, true, true, true, true, true, true, true, false, true, true, true, false, true, true, true, false, true, true, true, false, true, true, true, false, false, true, true, true, false, true, true, true, false, true, true, true, false, true, true, true, false, false, false] rfl rfl (take_ofW HT_.out HW_.out (by kernel_rfl)) (fun _ _ _ h => h) (Or.inl ⟨by rfl, ?_⟩) hHeld ?_ ?_
  rotate_left
  · rintro w' ⟨s0, s1, s2, s3, s4, s5, s6, s7, s8, s9, s10, s11, s12, s13, s14, s15, s16, s17, s18, s19, s20, s21, s22, s23, s24, s25, s26, s27, s28, s29, s30, s31, s32, s33, s34, s35, s36⟩
    go_simp
    with_reducible rfl
  rotate_left
  · simp only [Act.put, List.setIfInBounds_toArray, List.set_cons_zero, List.set_cons_succ, i64_w, i32_w]
    rfl
  refine take_ (i := 21) (N := some 24) (v := ?_) (a' := ?_) #[true, true, true, true, false, true, true, true, true, false, true, true, true, true, true, true, true, true, true, true, true, true, true, true, true, false, true, true, true, false, true, true, true, false, true, true, true, false, false, true, true, true, false, true, true, true, false, true, true, true, false, true, true, true, false, false, false] rfl rfl (take_ofW HT_.out HW_.out (by kernel_rfl)) (fun _ _ _ h => h) (Or.inl ⟨by rfl, ?_⟩) hHeld ?_ ?_
  rotate_left
  · rintro w' ⟨s0, s1, s2, s3, s4, s5, s6, s7, s8, s9, s10, s11, s12, s13, s14, s15, s16, s17, s18, s19, s20, s21, s22, s23, s24, s25, s26, s27, s28, s29, s30, s31, s32, s33, s34, s35, s36⟩
    go_simp
    with_reducible rfl
  rotate_left
  · simp only [Act.put, List.setIfInBounds_toArray, List.set_cons_zero, List.set_cons_succ, i64_w, i32_w]
    rfl
  refine take_ (i := 25) (N := some 28) (v := ?_) (a' := ?_) #[true, true, true, true, false, true, true, true, true, false, true, true, true, true, true, true, true, true, true, true, true, true, true, true, true, true, true, true, true, false, true, true, true, false, true, true, true, false, false, true, true, true, false, true, true, true, false, true, true, true, false, true, true, true, false, false, false] rfl rfl (take_ofW HT_.out HW_.out (by kernel_rfl)) (fun _ _ _ h => h) (Or.inl ⟨by rfl, ?_⟩) hHeld ?_ ?_
  rotate_left
  · rintro w' ⟨s0, s1, s2, s3, s4, s5, s6, s7, s8, s9, s10, s11, s12, s13, s14, s15, s16, s17, s18, s19, s20, s21, s22, s23, s24, s25, s26, s27, s28, s29, s30, s31, s32, s33, s34, s35, s36⟩
    go_simp
    with_reducible rfl
  rotate_left
  · simp only [Act.put, List.setIfInBounds_toArray, List.set_cons_zero, List.set_cons_succ, i64_w, i32_w]
    rfl
  refine take_ (i := 29) (N := some 32) (v := ?_) (a' := ?_) #[true, true, true, true, false, true, true, true, true, false, true, true, true, true, true, true, true, true, true, true, true, true, true, true, true, true, true, true, true, true, true, true, true, false, true, true, true, false, false, true, true, true, false, true, true, true, false, true, true, true, false, true, true, true, false, false, false] rfl rfl (take_ofW HT_.out HW_.out (by kernel_rfl)) (fun _ _ _ h => h) (Or.inl ⟨by rfl, ?_⟩) hHeld ?_ ?_
  rotate_left
  · rintro w' ⟨s0, s1, s2, s3, s4, s5, s6, s7, s8, s9, s10, s11, s12, s13, s14, s15, s16, s17, s18, s19, s20, s21, s22, s23, s24, s25, s26, s27, s28, s29, s30, s31, s32, s33, s34, s35, s36⟩
    go_simp
    with_reducible rfl
  rotate_left
  · simp only [Act.put, List.setIfInBounds_toArray, List.set_cons_zero, List.set_cons_succ, i64_w, i32_w]
    rfl
  refine take_ (i := 33) (N := some 36) (v := ?_) (a' := ?_) #[true, true, true, true, false, true, true, true, true, false, true, true, true, true, true, true, true, true, true, true, true, true, true, true, true, true, true, true, true, true, true, true, true, true, true, true, true, false, false, true, true, true, false, true, true, true, false, true, true, true, false, true, true, true, false, false, false] rfl rfl (take_ofW HT_.out HW_.out (by kernel_rfl)) (fun _ _ _ h => h) (Or.inl ⟨by rfl, ?_⟩) hHeld ?_ ?_
  rotate_left
  · rintro w' ⟨s0, s1, s2, s3, s4, s5, s6, s7, s8, s9, s10, s11, s12, s13, s14, s15, s16, s17, s18, s19, s20, s21, s22, s23, s24, s25, s26, s27, s28, s29, s30, s31, s32, s33, s34, s35, s36⟩
    go_simp
    with_reducible rfl
  rotate_left
  · simp only [Act.put, List.setIfInBounds_toArray, List.set_cons_zero, List.set_cons_succ, i64_w, i32_w]
    rfl
  refine take_ (i := 37) (N := some 40) (v := .agg #[.int .u8 (hv 0), .int .u8 (hv 1), .int .u8 (hv 2), .int .u8 (hv 3), .int .u8 (hv 4), .int .u8 (hv 5), .int .u8 (hv 6), .int .u8 (hv 7), .int .u8 (hv 8), .int .u8 (hv 9), .int .u8 (hv 10), .int .u8 (hv 11), .int .u8 (hv 12), .int .u8 (hv 13), .int .u8 (hv 14), .int .u8 (hv 15), .int .u8 (hv 16), .int .u8 (hv 17), .int .u8 (hv 18), .int .u8 (hv 19)]) (a' := ?_) #[true, true, true, true, false, true, true, true, true, false, true, true, true, true, true, true, true, true, true, true, true, true, true, true, true, true, true, true, true, true, true, true, true, true, true, true, true, true, false, true, true, true, false, true, true, true, false, true, true, true, false, true, true, true, false, false, false] rfl rfl (take_ofW HT_.out HW_.out (by kernel_rfl)) (fun _ _ _ h => h) (yieldsIf_load_mid (by rfl) 50 (.tmp 39) rfl g 0 rfl [.int .u8 (hv 0), .int .u8 (hv 1), .int .u8 (hv 2), .int .u8 (hv 3), .int .u8 (hv 4), .int .u8 (hv 5), .int .u8 (hv 6), .int .u8 (hv 7), .int .u8 (hv 8), .int .u8 (hv 9), .int .u8 (hv 10), .int .u8 (hv 11), .int .u8 (hv 12), .int .u8 (hv 13), .int .u8 (hv 14), .int .u8 (hv 15), .int .u8 (hv 16), .int .u8 (hv 17), .int .u8 (hv 18), .int .u8 (hv 19)] _ (fun w' hS => range20 hv g w' hS.2.1 hS.2.2.1 hS.2.2.2.1 hS.2.2.2.2.1 hS.2.2.2.2.2.1 hS.2.2.2.2.2.2.1 hS.2.2.2.2.2.2.2.1 hS.2.2.2.2.2.2.2.2.1 hS.2.2.2.2.2.2.2.2.2.1 hS.2.2.2.2.2.2.2.2.2.2.1 hS.2.2.2.2.2.2.2.2.2.2.2.1 hS.2.2.2.2.2.2.2.2.2.2.2.2.1 hS.2.2.2.2.2.2.2.2.2.2.2.2.2.1 hS.2.2.2.2.2.2.2.2.2.2.2.2.2.2.1 hS.2.2.2.2.2.2.2.2.2.2.2.2.2.2.2.1 hS.2.2.2.2.2.2.2.2.2.2.2.2.2.2.2.2.1 hS.2.2.2.2.2.2.2.2.2.2.2.2.2.2.2.2.2.1 hS.2.2.2.2.2.2.2.2.2.2.2.2.2.2.2.2.2.2.1 hS.2.2.2.2.2.2.2.2.2.2.2.2.2.2.2.2.2.2.2.1 hS.2.2.2.2.2.2.2.2.2.2.2.2.2.2.2.2.2.2.2.2.1) Tryd.underlying50 rfl info50) hHeld ?_ ?_
  rotate_left
  · simp only [Act.put, List.setIfInBounds_toArray, List.set_cons_zero, List.set_cons_succ, i64_w, i32_w]
    rfl
  refine take_ (i := 42) (N := some 45) (v := ?_) (a' := ?_) #[true, true, true, true, false, true, true, true, true, false, true, true, true, true, true, true, true, true, true, true, true, true, true, true, true, true, true, true, true, true, true, true, true, true, true, true, true, true, false, true, true, true, true, true, true, true, false, true, true, true, false, true, true, true, false, false, false] rfl rfl (take_ofW HT_.out HW_.out (by kernel_rfl)) (fun _ _ _ h => h) (Or.inl ⟨by rfl, ?_⟩) hHeld ?_ ?_
  rotate_left
  · rintro w' ⟨s0, s1, s2, s3, s4, s5, s6, s7, s8, s9, s10, s11, s12, s13, s14, s15, s16, s17, s18, s19, s20, s21, s22, s23, s24, s25, s26, s27, s28, s29, s30, s31, s32, s33, s34, s35, s36⟩
    go_simp
    with_reducible rfl
  rotate_left
  · simp only [Act.put, List.setIfInBounds_toArray, List.set_cons_zero, List.set_cons_succ, i64_w, i32_w]
    rfl
  refine take_ (i := 46) (N := some 49) (v := ?_) (a' := ?_) #[true, true, true, true, false, true, true, true, true, false, true, true, true, true, true, true, true, true, true, true, true, true, true, true, true, true, true, true, true, true, true, true, true, true, true, true, true, true, false, true, true, true, true, true, true, true, true, true, true, true, false, true, true, true, false, false, false] rfl rfl (take_ofW HT_.out HW_.out (by kernel_rfl)) (fun _ _ _ h => h) (Or.inl ⟨by rfl, ?_⟩) hHeld ?_ ?_
  rotate_left
  · rintro w' ⟨s0, s1, s2, s3, s4, s5, s6, s7, s8, s9, s10, s11, s12, s13, s14, s15, s16, s17, s18, s19, s20, s21, s22, s23, s24, s25, s26, s27, s28, s29, s30, s31, s32, s33, s34, s35, s36⟩
    go_simp
    with_reducible rfl
  rotate_left
  · simp only [Act.put, List.setIfInBounds_toArray, List.set_cons_zero, List.set_cons_succ, i64_w, i32_w]
    rfl
  refine take_ (i := 50) (N := some 53) (v := ?_) (a' := ?_) #[true, true, true, true, false, true, true, true, true, false, true, true, true, true, true, true, true, true, true, true, true, true, true, true, true, true, true, true, true, true, true, true, true, true, true, true, true, true, false, true, true, true, true, true, true, true, true, true, true, true, true, true, true, true, false, false, false] rfl rfl (take_ofW HT_.out HW_.out (by kernel_rfl)) (fun _ _ _ h => h) (Or.inl ⟨by rfl, ?_⟩) hHeld ?_ ?_
  rotate_left
  · rintro w' ⟨s0, s1, s2, s3, s4, s5, s6, s7, s8, s9, s10, s11, s12, s13, s14, s15, s16, s17, s18, s19, s20, s21, s22, s23, s24, s25, s26, s27, s28, s29, s30, s31, s32, s33, s34, s35, s36⟩
    go_simp
    with_reducible rfl
  rotate_left
  · simp only [Act.put, List.setIfInBounds_toArray, List.set_cons_zero, List.set_cons_succ, i64_w, i32_w]
    rfl
  refine take_ (i := 54) (N := some 57) (v := ?_) (a' := ?_) #[true, true, true, true, false, true, true, true, true, false, true, true, true, true, true, true, true, true, true, true, true, true, true, true, true, true, true, true, true, true, true, true, true, true, true, true, true, true, false, true, true, true, true, true, true, true, true, true, true, true, true, true, true, true, true, false, false] rfl rfl (take_ofW HT_.out HW_.out (by kernel_rfl)) (fun _ _ _ h => h) (Or.inl ⟨by rfl, ?_⟩) hHeld ?_ ?_
  rotate_left
  · rintro w' ⟨s0, s1, s2, s3, s4, s5, s6, s7, s8, s9, s10, s11, s12, s13, s14, s15, s16, s17, s18, s19, s20, s21, s22, s23, s24, s25, s26, s27, s28, s29, s30, s31, s32, s33, s34, s35, s36⟩
    go_simp
    with_reducible rfl
  rotate_left
  · simp only [Act.put, List.setIfInBounds_toArray, List.set_cons_zero, List.set_cons_succ, i64_w, i32_w]
    rfl
  refine one_ (i := 4) (N := some 7) #[true, true, true, true, true, true, true, true, true, false, true, true, true, true, true, true, true, true, true, true, true, true, true, true, true, true, true, true, true, true, true, true, true, true, true, true, true, true, false, true, true, true, true, true, true, true, true, true, true, true, true, true, true, true, true, false, false] rfl rfl (one_of HT_.out (by kernel_rfl)) (by decide) (fun K hK => ?_)
  refine goes_ Tryd.func22 (by kernel_rfl) rfl #[.agg #[.int .i64 c1, .int .i64 c2, .int .i64 c3]] (by rfl) rfl rfl (by simp only [List.map_toArray, List.map_cons, List.map_nil]; rfl) ?_
  with_reducible refine (impl_stampOf.calls c1 c2 c3 a1 a2 _ HS1.out).mono ?_
  rintro e w21 ⟨rfl, hb⟩
  refine ⟨_, rfl, ?_⟩
  obtain ⟨f0_1, f1_1, f2_1, f3_1, f4_1, f5_1, f6_1, f7_1, f8_1, f9_1, f10_1, f11_1, f12_1, f13_1, f14_1, f15_1, f16_1, f17_1, f18_1, f19_1, f20_1, f21_1, f22_1, f23_1, f24_1, f25_1, f26_1, f27_1, f28_1, f29_1, f30_1, f31_1, f32_1, f33_1, f34_1, f35_1, f36_1⟩ := SF_go hHeld hb
  clear hb
  refine hK.out _ _ ⟨f0_1, f1_1, f2_1, f3_1, f4_1, f5_1, f6_1, f7_1, f8_1, f9_1, f10_1, f11_1, f12_1, f13_1, f14_1, f15_1, f16_1, f17_1, f18_1, f19_1, f20_1, f21_1, f22_1, f23_1, f24_1, f25_1, f26_1, f27_1, f28_1, f29_1, f30_1, f31_1, f32_1, f33_1, f34_1, f35_1, f36_1⟩ (fun hHeld => ?_)
  clear hK K
  refine norm_ (a' := ?_) ?_ ?_
  rotate_left
  · show Act.put _ (some 7) _ = _
    simp only [Act.put, List.setIfInBounds_toArray, List.set_cons_zero, List.set_cons_succ, i64_w, i32_w]
    rfl
  refine one_ (i := 9) (N := some 12) #[true, true, true, true, true, true, true, true, true, true, true, true, true, true, true, true, true, true, true, true, true, true, true, true, true, true, true, true, true, true, true, true, true, true, true, true, true, true, false, true, true, true, true, true, true, true, true, true, true, true, true, true, true, true, true, false, false] rfl rfl (one_of HT_.out (by kernel_rfl)) (by decide) (fun K hK => ?_)
  refine goes_ Tryd.func22 (by kernel_rfl) rfl #[.agg #[.int .i64 m1, .int .i64 m2, .int .i64 m3]] (by rfl) rfl rfl (by simp only [List.map_toArray, List.map_cons, List.map_nil]; rfl) ?_
  with_reducible refine (impl_stampOf.calls m1 m2 m3 b1 b2 _ HS2.out).mono ?_
  rintro e w22 ⟨rfl, hb⟩
  refine ⟨_, rfl, ?_⟩
  obtain ⟨f0_2, f1_2, f2_2, f3_2, f4_2, f5_2, f6_2, f7_2, f8_2, f9_2, f10_2, f11_2, f12_2, f13_2, f14_2, f15_2, f16_2, f17_2, f18_2, f19_2, f20_2, f21_2, f22_2, f23_2, f24_2, f25_2, f26_2, f27_2, f28_2, f29_2, f30_2, f31_2, f32_2, f33_2, f34_2, f35_2, f36_2⟩ := SF_go hHeld hb
  clear hb
  refine hK.out _ _ ⟨f0_2, f1_2, f2_2, f3_2, f4_2, f5_2, f6_2, f7_2, f8_2, f9_2, f10_2, f11_2, f12_2, f13_2, f14_2, f15_2, f16_2, f17_2, f18_2, f19_2, f20_2, f21_2, f22_2, f23_2, f24_2, f25_2, f26_2, f27_2, f28_2, f29_2, f30_2, f31_2, f32_2, f33_2, f34_2, f35_2, f36_2⟩ (fun hHeld => ?_)
  clear hK K
  refine norm_ (a' := ?_) ?_ ?_
  rotate_left
  · show Act.put _ (some 12) _ = _
    simp only [Act.put, List.setIfInBounds_toArray, List.set_cons_zero, List.set_cons_succ, i64_w, i32_w]
    rfl
  refine one_ (i := 38) (N := some 41) #[true, true, true, true, true, true, true, true, true, true, true, true, true, true, true, true, true, true, true, true, true, true, true, true, true, true, true, true, true, true, true, true, true, true, true, true, true, true, true, true, true, true, true, true, true, true, true, true, true, true, true, true, true, true, true, false, false] rfl rfl (one_of HT_.out (by kernel_rfl)) (by decide) (fun K hK => ?_)
  refine goes_ Tryd.func23 (by kernel_rfl) rfl #[.agg #[.int .u8 (hv 0), .int .u8 (hv 1), .int .u8 (hv 2), .int .u8 (hv 3), .int .u8 (hv 4), .int .u8 (hv 5), .int .u8 (hv 6), .int .u8 (hv 7), .int .u8 (hv 8), .int .u8 (hv 9), .int .u8 (hv 10), .int .u8 (hv 11), .int .u8 (hv 12), .int .u8 (hv 13), .int .u8 (hv 14), .int .u8 (hv 15), .int .u8 (hv 16), .int .u8 (hv 17), .int .u8 (hv 18), .int .u8 (hv 19)]] (by rfl) rfl rfl (by simp only [List.map_toArray, List.map_cons, List.map_nil]; rfl) ?_
  with_reducible refine (hashString hv hs HS3.out HR.out _).mono ?_
  rintro e w23 ⟨rfl, hb⟩
  refine ⟨_, rfl, ?_⟩
  obtain ⟨f0_3, f1_3, f2_3, f3_3, f4_3, f5_3, f6_3, f7_3, f8_3, f9_3, f10_3, f11_3, f12_3, f13_3, f14_3, f15_3, f16_3, f17_3, f18_3, f19_3, f20_3, f21_3, f22_3, f23_3, f24_3, f25_3, f26_3, f27_3, f28_3, f29_3, f30_3, f31_3, f32_3, f33_3, f34_3, f35_3, f36_3⟩ := SF_go hHeld hb
  clear hb
  refine hK.out _ _ ⟨f0_3, f1_3, f2_3, f3_3, f4_3, f5_3, f6_3, f7_3, f8_3, f9_3, f10_3, f11_3, f12_3, f13_3, f14_3, f15_3, f16_3, f17_3, f18_3, f19_3, f20_3, f21_3, f22_3, f23_3, f24_3, f25_3, f26_3, f27_3, f28_3, f29_3, f30_3, f31_3, f32_3, f33_3, f34_3, f35_3, f36_3⟩ (fun hHeld => ?_)
  clear hK K
  refine norm_ (a' := ?_) ?_ ?_
  rotate_left
  · show Act.put _ (some 41) _ = _
    simp only [Act.put, List.setIfInBounds_toArray, List.set_cons_zero, List.set_cons_succ, i64_w, i32_w]
    rfl
  refine pure_ (i := 55) (N := some 58) (v := ?_) (a' := ?_) #[true, true, true, true, true, true, true, true, true, true, true, true, true, true, true, true, true, true, true, true, true, true, true, true, true, true, true, true, true, true, true, true, true, true, true, true, true, true, true, true, true, true, true, true, true, true, true, true, true, true, true, true, true, true, true, true, false] rfl rfl (any_of HT_.out (by kernel_rfl)) (fun _ _ _ h => h) (Or.inl ⟨by rfl, ?_⟩) ?_ ?_
  rotate_left
  · intro w'
    go_simp
    with_reducible rfl
  rotate_left
  · simp only [Act.put, List.setIfInBounds_toArray, List.set_cons_zero, List.set_cons_succ, i64_w, i32_w]
    rfl
  refine last_ (i := 56) (N := none) #[true, true, true, true, true, true, true, true, true, true, true, true, true, true, true, true, true, true, true, true, true, true, true, true, true, true, true, true, true, true, true, true, true, true, true, true, true, true, true, true, true, true, true, true, true, true, true, true, true, true, true, true, true, true, true, true, true] rfl rfl (one_of HT_.out (by kernel_rfl)) (by decide) (fun K hK => ?_)
  refine skip_ (w1 := ?_) (by rfl) rfl ?_ ?_
  rotate_left
  · refine exec_store_row 31 (.tmp 2) (.tmp 58) ?_ gr 31 #[.int .i64 0, .int .i64 0, .int .i64 0, .int .i64 0, .int .u32 0, .int .u32 0, .int .u32 0, .int .u32 0, .int .u32 0, .int .u32 0, .string ⟨#[]⟩, .string ⟨#[]⟩, .int .i64 0, .bool false, .bool false] #[.int .i64 a1, .int .i64 a2, .int .i64 b1, .int .i64 b2, .int .u32 dv, .int .u32 no, .int .u32 md, .int .u32 ui, .int .u32 gi, .int .u32 sz, .string hs, .string nm, .int .i64 st, .bool sk, .bool it] ?_ ?_ (blk_below HGR.out hHeld.1) rfl info31 (one15 _ _ _ _ _ _ _ _ _ _ _ _ _ _ _)
    all_goals rfl
  have HRES := Aside0.mk (setRow_heap _ gr _ #[.int .i64 a1, .int .i64 a2, .int .i64 b1, .int .i64 b2, .int .u32 dv, .int .u32 no, .int .u32 md, .int .u32 ui, .int .u32 gi, .int .u32 sz, .string hs, .string nm, .int .i64 st, .bool sk, .bool it] _ _ (blk_below HGR.out hHeld.1))
  have HBB := Aside0.mk (below_setRow (HB1.out.trans (hHeld.1.mono HB1.out.size)) HGE.out #[.int .i64 a1, .int .i64 a2, .int .i64 b1, .int .i64 b2, .int .u32 dv, .int .u32 no, .int .u32 md, .int .u32 ui, .int .u32 gi, .int .u32 sz, .string hs, .string nm, .int .i64 st, .bool sk, .bool it])
  refine hK.out _ _ ?_
  clear hK K
  refine done_ (done_of HT_.out (by kernel_rfl)) ?_

  go_wp2
  refine bodyPost_ret (results_cell_row rfl _ _ gr 31 #[.int .i64 a1, .int .i64 a2, .int .i64 b1, .int .i64 b2, .int .u32 dv, .int .u32 no, .int .u32 md, .int .u32 ui, .int .u32 gi, .int .u32 sz, .string hs, .string nm, .int .i64 st, .bool sk, .bool it] (0, 0) _ rfl HRES.out Tryd.underlying31 rfl info31) rfl ?_
  exact ⟨rfl, HBB.out⟩
#print axioms fileOf
end Go.Proofs.YtcokggnbgakonaaDoor.HandF
