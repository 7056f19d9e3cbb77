/- spec.AreFiles, walked. -/
import Derived.Test.YtcokggnbgakonaaDoorPureF
import Derived.Laws.Cover1
set_option linter.unusedVariables false
set_option linter.unusedSimpArgs false
namespace Go.Proofs.YtcokggnbgakonaaDoor.HandK
open Go.RowKit Go.Proofs.YtcokggnbgakonaaDoorW.PrintWords Go.Proofs.YtcokggnbgakonaaDoorW.PrintLast Go.Proofs.YtcokggnbgakonaaDoorW.PrintMore Go.Proofs.YtcokggnbgakonaaDoor.QAll Go.Lib Ptr HandH HandF HandI HandJ PureF

def SK (w5 : World) (gf : Nat) (x : S31) (w' : World) : Prop := Below w5.heap.size w5 w' ∧ w'.cell? ⟨gf, 0, none⟩ = some (.int .i64 x.f0.f0) ∧ w'.cell? ⟨gf, 1, none⟩ = some (.int .i64 x.f0.f1) ∧ w'.cell? ⟨gf, 2, none⟩ = some (.int .i64 x.f1.f0) ∧ w'.cell? ⟨gf, 3, none⟩ = some (.int .i64 x.f1.f1) ∧ w'.cell? ⟨gf, 4, none⟩ = some (.int .u32 x.f2) ∧ w'.cell? ⟨gf, 5, none⟩ = some (.int .u32 x.f3) ∧ w'.cell? ⟨gf, 6, none⟩ = some (.int .u32 x.f4) ∧ w'.cell? ⟨gf, 7, none⟩ = some (.int .u32 x.f5) ∧ w'.cell? ⟨gf, 8, none⟩ = some (.int .u32 x.f6) ∧ w'.cell? ⟨gf, 9, none⟩ = some (.int .u32 x.f7) ∧ w'.cell? ⟨gf, 10, none⟩ = some (.string x.f8) ∧ w'.cell? ⟨gf, 11, none⟩ = some (.string x.f9) ∧ w'.cell? ⟨gf, 12, none⟩ = some (.int .i64 x.f10) ∧ w'.cell? ⟨gf, 13, none⟩ = some (.bool x.f11) ∧ w'.cell? ⟨gf, 14, none⟩ = some (.bool x.f12)
theorem SK_go {w5 : World} {gf : Nat} {x : S31} {w w' : World} (h : SK w5 gf x w) (hb : Below w.heap.size w w') : SK w5 gf x w' := by
  obtain ⟨f0, f1, f2, f3, f4, f5, f6, f7, f8, f9, f10, f11, f12, f13, f14, f15⟩ := h
  exact ⟨f0.trans (hb.mono f0.size), pw_cell_below hb f1, pw_cell_below hb f2, pw_cell_below hb f3, pw_cell_below hb f4, pw_cell_below hb f5, pw_cell_below hb f6, pw_cell_below hb f7, pw_cell_below hb f8, pw_cell_below hb f9, pw_cell_below hb f10, pw_cell_below hb f11, pw_cell_below hb f12, pw_cell_below hb f13, pw_cell_below hb f14, pw_cell_below hb f15⟩
theorem SK_mk {w5 : World} {gf : Nat} {x : S31} {w : World} (hb : Below w5.heap.size w5 w) (h : w.heap[gf]? = some (.cells #[.int .i64 x.f0.f0, .int .i64 x.f0.f1, .int .i64 x.f1.f0, .int .i64 x.f1.f1, .int .u32 x.f2, .int .u32 x.f3, .int .u32 x.f4, .int .u32 x.f5, .int .u32 x.f6, .int .u32 x.f7, .string x.f8, .string x.f9, .int .i64 x.f10, .bool x.f11, .bool x.f12] 31 (0, 0))) : SK w5 gf x w :=
  ⟨hb, (blk_cell h 0).trans rfl, (blk_cell h 1).trans rfl, (blk_cell h 2).trans rfl, (blk_cell h 3).trans rfl, (blk_cell h 4).trans rfl, (blk_cell h 5).trans rfl, (blk_cell h 6).trans rfl, (blk_cell h 7).trans rfl, (blk_cell h 8).trans rfl, (blk_cell h 9).trans rfl, (blk_cell h 10).trans rfl, (blk_cell h 11).trans rfl, (blk_cell h 12).trans rfl, (blk_cell h 13).trans rfl, (blk_cell h 14).trans rfl⟩
def SK2 (w5 : World) (gf : Nat) (ad : Addr) (j : Nat) (ny : ByteArray) (x : S31) (w' : World) : Prop := Below w5.heap.size w5 w' ∧ w'.cell? ⟨gf, 0, none⟩ = some (.int .i64 x.f0.f0) ∧ w'.cell? ⟨gf, 1, none⟩ = some (.int .i64 x.f0.f1) ∧ w'.cell? ⟨gf, 2, none⟩ = some (.int .i64 x.f1.f0) ∧ w'.cell? ⟨gf, 3, none⟩ = some (.int .i64 x.f1.f1) ∧ w'.cell? ⟨gf, 4, none⟩ = some (.int .u32 x.f2) ∧ w'.cell? ⟨gf, 5, none⟩ = some (.int .u32 x.f3) ∧ w'.cell? ⟨gf, 6, none⟩ = some (.int .u32 x.f4) ∧ w'.cell? ⟨gf, 7, none⟩ = some (.int .u32 x.f5) ∧ w'.cell? ⟨gf, 8, none⟩ = some (.int .u32 x.f6) ∧ w'.cell? ⟨gf, 9, none⟩ = some (.int .u32 x.f7) ∧ w'.cell? ⟨gf, 10, none⟩ = some (.string x.f8) ∧ w'.cell? ⟨gf, 11, none⟩ = some (.string x.f9) ∧ w'.cell? ⟨gf, 12, none⟩ = some (.int .i64 x.f10) ∧ w'.cell? ⟨gf, 13, none⟩ = some (.bool x.f11) ∧ w'.cell? ⟨gf, 14, none⟩ = some (.bool x.f12) ∧ w'.cell? ⟨(ad.add (j * 15)).block, (ad.add (j * 15)).off + 11, none⟩ = some (.string ny)
theorem SK2_go {w5 : World} {gf : Nat} {ad : Addr} {j : Nat} {ny : ByteArray} {x : S31} {w w' : World} (h : SK2 w5 gf ad j ny x w) (hb : Below w.heap.size w w') : SK2 w5 gf ad j ny x w' := by
  obtain ⟨f0, f1, f2, f3, f4, f5, f6, f7, f8, f9, f10, f11, f12, f13, f14, f15, f16⟩ := h
  exact ⟨f0.trans (hb.mono f0.size), pw_cell_below hb f1, pw_cell_below hb f2, pw_cell_below hb f3, pw_cell_below hb f4, pw_cell_below hb f5, pw_cell_below hb f6, pw_cell_below hb f7, pw_cell_below hb f8, pw_cell_below hb f9, pw_cell_below hb f10, pw_cell_below hb f11, pw_cell_below hb f12, pw_cell_below hb f13, pw_cell_below hb f14, pw_cell_below hb f15, pw_cell_below hb f16⟩
theorem SK2_mk {w5 : World} {gf : Nat} {ad : Addr} {j : Nat} {ny : ByteArray} {x : S31} {w : World} (hb : Below w5.heap.size w5 w) (h : w.heap[gf]? = some (.cells #[.int .i64 x.f0.f0, .int .i64 x.f0.f1, .int .i64 x.f1.f0, .int .i64 x.f1.f1, .int .u32 x.f2, .int .u32 x.f3, .int .u32 x.f4, .int .u32 x.f5, .int .u32 x.f6, .int .u32 x.f7, .string x.f8, .string x.f9, .int .i64 x.f10, .bool x.f11, .bool x.f12] 31 (0, 0))) (h2 : w5.cell? ⟨(ad.add (j * 15)).block, (ad.add (j * 15)).off + 11, none⟩ = some (.string ny)) : SK2 w5 gf ad j ny x w :=
  ⟨hb, (blk_cell h 0).trans rfl, (blk_cell h 1).trans rfl, (blk_cell h 2).trans rfl, (blk_cell h 3).trans rfl, (blk_cell h 4).trans rfl, (blk_cell h 5).trans rfl, (blk_cell h 6).trans rfl, (blk_cell h 7).trans rfl, (blk_cell h 8).trans rfl, (blk_cell h 9).trans rfl, (blk_cell h 10).trans rfl, (blk_cell h 11).trans rfl, (blk_cell h 12).trans rfl, (blk_cell h 13).trans rfl, (blk_cell h 14).trans rfl, pw_cell_below hb h2⟩

def areFiles5.T6 : Bool × List (List Nat × List Nat) := (true, [([], []), ([0], [0]), ([1], [1]), ([2, 1], [2]), ([3], [3]), ([4, 3], [3, 4]), ([5, 3, 3], [3, 5]), ([6], [6]), ([6], [6]), ([8, 6], [6, 8]), ([7, 9, 6], [6, 7, 9]), ([10, 6], [6, 10]), ([11, 6], [6, 11]), ([6], [6]), ([13, 6], [6, 13]), ([12, 14, 6], [6, 12, 14]), ([6, 15, 3], [3, 6, 15]), ([3, 16], [3, 16])])
def areFiles5.B6 : List Nat := [0, 1, 3, 7, 15, 31, 63, 127, 127, 383, 1023, 2047, 4095, 127, 8319, 32767, 65535, 131071]
theorem areFiles5.tab6 : rtab .any (opsOf Tryd.f5 6) = areFiles5.T6 := by kernel_rfl
theorem areFiles5.bits6 : waitsOk areFiles5.T6.2 areFiles5.B6 = true := by kernel_rfl

set_option maxHeartbeats 16000000 in
set_option maxRecDepth 100000 in
theorem areFiles (A : Option Addr) (c : Nat) (l : List S31) (w : World) (hC : Kd.C k31 w A l.length l) (hc : l.length ≤ c) (hsz : ∀ x ∈ l, x.f8.size ≤ 2147483647 ∧ x.f9.size ≤ 2147483647) :
    Calls Tryd.prog 5 #[.slice A l.length c] w fun e w' => ∃ b, e = .returned (.bool b) ∧ (b = true → l.length ≤ 1000 ∧ ∀ x ∈ l, Plain x) ∧ Below w.heap.size w w' := by
  have hu31 := Tryd.underlying31
  have HC := Aside0.mk hC
  have HSZ := Aside0.mk hsz
  clear hC hsz
  by_cases hl : l.length ≤ 1000
  rotate_left
  · have d1 : decide (1000 < (l.length : Int)) = true := decide_eq_true (by omega)
    have d2 : decide (1000 < l.length) = true := decide_eq_true (by omega)
    clear hl
    go_enter Tryd.func5, Tryd.ntmps5
    go_wp2
    go_ret
    exact ⟨false, rfl, fun e => by (cases e), Below.refl _ _⟩
  have d1 : decide (1000 < (l.length : Int)) = false := decide_eq_false (by omega)
  have d2 : decide (1000 < l.length) = false := decide_eq_false (by omega)
  have HL := Aside0.mk hl
  clear hl
  go_enter Tryd.func5, Tryd.ntmps5
  go_wp2
  go_loopg [10] l.length (fun gk v10 w' => ∃ (k : Nat), v10 = .int .i64 (k : Int) ∧ Aside0 (k + gk = l.length) ∧ Aside0 (Below w.heap.size w w') ∧ Aside0 (∀ x ∈ l.take k, Plain x))
  case atStart => exact ⟨0, rfl, ⟨by omega⟩, ⟨Below.refl _ _⟩, ⟨fun x hx => by simp at hx⟩⟩
  case round =>
    clear d1 d2
    obtain ⟨k, rfl, HK, HB, HPL⟩ := hrel
    by_cases hlt : k < l.length
    rotate_left
    · have hkn : k = l.length := by have := HK.out; omega
      have hP := HPL.out
      rw [hkn, List.take_length] at hP
      have HP2 := Aside0.mk hP
      clear hP
      go_wp2
      go_ret
      exact ⟨true, rfl, fun _ => ⟨HL.out, HP2.out⟩, HB.out⟩
    obtain ⟨g0, rfl⟩ : ∃ m, gk = m + 1 := ⟨gk - 1, by have := HK.out; omega⟩
    obtain ⟨ad, e, hx0, hx1, hx2, hx3, hx4, hx5, hx6, hx7, hx8, hx9, hx10, hx11, hx12, hx13, hx14⟩ := at_T31 (Kd.C_below HC.out HB.out) (k : Int) (by omega) (by omega)
    cases e
    rw [Int.toNat_natCast] at hx0 hx1 hx2 hx3 hx4 hx5 hx6 hx7 hx8 hx9 hx10 hx11 hx12 hx13 hx14
    have hgt : l[k]? = some (rd_T31 l (k : Int)) := by
      unfold rd_T31
      rw [Int.toNat_natCast, List.getD_eq_getElem?_getD, List.getElem?_eq_getElem hlt]
      rfl
    generalize rd_T31 l (k : Int) = x at hx0 hx1 hx2 hx3 hx4 hx5 hx6 hx7 hx8 hx9 hx10 hx11 hx12 hx13 hx14 hgt
    have hsx := HSZ.out x (List.mem_of_getElem? hgt)
    obtain ⟨b, ⟨kp, hp⟩, hpl⟩ := plain x hsx.1 hsx.2
    have HTK : Aside0 (l.take (k + 1) = l.take k ++ [x]) := ⟨by rw [List.take_add_one, hgt]; rfl⟩
    clear hgt hsx
    have HP := Aside0.mk hp
    have HPX := Aside0.mk hpl
    clear hp hpl
    have hk1 : (k : Int) < 1000 := by have := HL.out; omega
    have HNYj : Aside0 (∀ j, k = j + 1 → ∃ ny, wr.cell? ⟨(ad.add (j * 15)).block, (ad.add (j * 15)).off + 11, none⟩ = some (.string ny)) := ⟨by
      intro j hj
      obtain ⟨ad2, e2, y0, y1, y2, y3, y4, y5, y6, y7, y8, y9, y10, y11, y12, y13, y14⟩ := at_T31 (Kd.C_below HC.out HB.out) (j : Int) (by omega) (by omega)
      cases e2
      rw [Int.toNat_natCast] at y11
      exact ⟨_, y11⟩⟩
    go_upto_region 6 with fail
    have hgf : (wr.alloc (.cells #[.int .i64 x.f0.f0, .int .i64 x.f0.f1, .int .i64 x.f1.f0, .int .i64 x.f1.f1, .int .u32 x.f2, .int .u32 x.f3, .int .u32 x.f4, .int .u32 x.f5, .int .u32 x.f6, .int .u32 x.f7, .string x.f8, .string x.f9, .int .i64 x.f10, .bool x.f11, .bool x.f12] 31)).heap[wr.heap.size]? = some (.cells #[.int .i64 x.f0.f0, .int .i64 x.f0.f1, .int .i64 x.f1.f0, .int .i64 x.f1.f1, .int .u32 x.f2, .int .u32 x.f3, .int .u32 x.f4, .int .u32 x.f5, .int .u32 x.f6, .int .u32 x.f7, .string x.f8, .string x.f9, .int .i64 x.f10, .bool x.f11, .bool x.f12] 31 (0, 0)) := blk_new _ _
    have HB5 : Aside0 (Below w.heap.size w (wr.alloc (.cells #[.int .i64 x.f0.f0, .int .i64 x.f0.f1, .int .i64 x.f1.f0, .int .i64 x.f1.f1, .int .u32 x.f2, .int .u32 x.f3, .int .u32 x.f4, .int .u32 x.f5, .int .u32 x.f6, .int .u32 x.f7, .string x.f8, .string x.f9, .int .i64 x.f10, .bool x.f11, .bool x.f12] 31))) := ⟨below_alloc HB.out _⟩
    have HNY5 : Aside0 (∀ j, k = j + 1 → ∃ ny, (wr.alloc (.cells #[.int .i64 x.f0.f0, .int .i64 x.f0.f1, .int .i64 x.f1.f0, .int .i64 x.f1.f1, .int .u32 x.f2, .int .u32 x.f3, .int .u32 x.f4, .int .u32 x.f5, .int .u32 x.f6, .int .u32 x.f7, .string x.f8, .string x.f9, .int .i64 x.f10, .bool x.f11, .bool x.f12] 31)).cell? ⟨(ad.add (j * 15)).block, (ad.add (j * 15)).off + 11, none⟩ = some (.string ny)) := ⟨fun j hj => by obtain ⟨ny, h⟩ := HNYj.out j hj; exact ⟨ny, pw_cell_below (below_alloc (Below.refl _ _) _) h⟩⟩
    have HGF := Aside0.mk hgf
    clear hgf hx0 hx1 hx2 hx3 hx4 hx5 hx6 hx7 hx8 hx9 hx10 hx11 hx12 hx13 hx14 HNYj
    generalize wr.alloc (.cells #[.int .i64 x.f0.f0, .int .i64 x.f0.f1, .int .i64 x.f1.f0, .int .i64 x.f1.f1, .int .u32 x.f2, .int .u32 x.f3, .int .u32 x.f4, .int .u32 x.f5, .int .u32 x.f6, .int .u32 x.f7, .string x.f8, .string x.f9, .int .i64 x.f10, .bool x.f11, .bool x.f12] 31) = w5 at HB5 HNY5 HGF ⊢
    generalize wr.heap.size = gf at HGF ⊢
    cases b with
    | false =>
      obtain ⟨q0, q1, q2, q3, q4, q5, q6, q7, q8, q9, q10, q11, q12, q13, q14, q15⟩ : SK w5 gf x w5.drew := SK_mk (below_drew1 (Below.refl _ _)) (blk_drew HGF.out)
      refine start_ (n := 18) (S := fun w' => Below w5.heap.size w5 w' ∧ w'.cell? ⟨gf, 0, none⟩ = some (.int .i64 x.f0.f0) ∧ w'.cell? ⟨gf, 1, none⟩ = some (.int .i64 x.f0.f1) ∧ w'.cell? ⟨gf, 2, none⟩ = some (.int .i64 x.f1.f0) ∧ w'.cell? ⟨gf, 3, none⟩ = some (.int .i64 x.f1.f1) ∧ w'.cell? ⟨gf, 4, none⟩ = some (.int .u32 x.f2) ∧ w'.cell? ⟨gf, 5, none⟩ = some (.int .u32 x.f3) ∧ w'.cell? ⟨gf, 6, none⟩ = some (.int .u32 x.f4) ∧ w'.cell? ⟨gf, 7, none⟩ = some (.int .u32 x.f5) ∧ w'.cell? ⟨gf, 8, none⟩ = some (.int .u32 x.f6) ∧ w'.cell? ⟨gf, 9, none⟩ = some (.int .u32 x.f7) ∧ w'.cell? ⟨gf, 10, none⟩ = some (.string x.f8) ∧ w'.cell? ⟨gf, 11, none⟩ = some (.string x.f9) ∧ w'.cell? ⟨gf, 12, none⟩ = some (.int .i64 x.f10) ∧ w'.cell? ⟨gf, 13, none⟩ = some (.bool x.f11) ∧ w'.cell? ⟨gf, 14, none⟩ = some (.bool x.f12)) (ds := []) #[false, false, false, false, false, false, false, false, false, false, false, false, false, false, false, false, false, false] (by kernel_rfl) rfl rfl ⟨q0, q1, q2, q3, q4, q5, q6, q7, q8, q9, q10, q11, q12, q13, q14, q15⟩ (fun hHeld => ?_)
      refine with_tabW areFiles5.tab6 areFiles5.bits6 (fun HT_ HW_ => ?_)
      generalize World.drew _ = wd at hHeld ⊢
      refine take_ (i := 0) (N := some 15) (v := ?_) (a' := ?_) #[true, false, false, false, false, false, false, false, false, false, false, false, false, false, false, false, false, false] rfl rfl (take_ofW HT_.out HW_.out (by kernel_rfl)) (fun _ _ _ h => h) (Or.inl ⟨by rfl, ?_⟩) hHeld ?_ ?_
      rotate_left
      · rintro w' ⟨s0, s1, s2, s3, s4, s5, s6, s7, s8, s9, s10, s11, s12, s13, s14, s15⟩
        go_simp
        with_reducible rfl
      rotate_left
      · simp only [Act.put, List.setIfInBounds_toArray, List.set_cons_zero, List.set_cons_succ, i64_w, i32_w]
        rfl
      refine one_ (i := 1) (N := some 16) #[true, true, false, false, false, false, false, false, false, false, false, false, false, false, false, false, false, false] rfl rfl (one_of HT_.out (by kernel_rfl)) (by decide) (fun K hK => ?_)
      refine goes_ Tryd.func10 (by kernel_rfl) rfl #[.agg #[.int .i64 x.f0.f0, .int .i64 x.f0.f1, .int .i64 x.f1.f0, .int .i64 x.f1.f1, .int .u32 x.f2, .int .u32 x.f3, .int .u32 x.f4, .int .u32 x.f5, .int .u32 x.f6, .int .u32 x.f7, .string x.f8, .string x.f9, .int .i64 x.f10, .bool x.f11, .bool x.f12]] (by rfl) rfl rfl (by simp only [List.map_toArray, List.map_cons, List.map_nil]; rfl) ?_
      with_reducible refine (spec_IsPlainFile.calls kp x.f0.f0 x.f0.f1 x.f1.f0 x.f1.f1 x.f2 x.f3 x.f4 x.f5 x.f6 x.f7 x.f8 x.f9 x.f10 x.f11 x.f12 false _ HP.out).mono ?_
      rintro e w6 ⟨rfl, hb⟩
      refine ⟨_, rfl, ?_⟩
      have HB6 := Aside0.mk (HB5.out.trans ((hHeld.1.trans (hb.mono hHeld.1.size)).mono HB5.out.size))
      obtain ⟨f0, f1, f2, f3, f4, f5, f6, f7, f8, f9, f10, f11, f12, f13, f14, f15⟩ := SK_go hHeld hb
      clear hb
      refine hK.out _ _ ⟨f0, f1, f2, f3, f4, f5, f6, f7, f8, f9, f10, f11, f12, f13, f14, f15⟩ (fun hHeld => ?_)
      clear hK K
      refine norm_ (a' := ?_) ?_ ?_
      rotate_left
      · show Act.put _ (some 16) _ = _
        simp only [Act.put, List.setIfInBounds_toArray, List.set_cons_zero, List.set_cons_succ, i64_w, i32_w]
        rfl
      refine pure_ (i := 2) (N := some 17) (v := ?_) (a' := ?_) #[true, true, true, false, false, false, false, false, false, false, false, false, false, false, false, false, false, false] rfl rfl (any_of HT_.out (by kernel_rfl)) (fun _ _ _ h => h) (Or.inl ⟨by rfl, ?_⟩) ?_ ?_
      rotate_left
      · intro w'
        go_simp
        with_reducible rfl
      rotate_left
      · simp only [Act.put, List.setIfInBounds_toArray, List.set_cons_zero, List.set_cons_succ, i64_w, i32_w]
        rfl
      refine pure_ (i := 3) (N := some 18) (v := ?_) (a' := ?_) #[true, true, true, true, false, false, false, false, false, false, false, false, false, false, false, false, false, false] rfl rfl (any_of HT_.out (by kernel_rfl)) (fun _ _ _ h => h) (Or.inl ⟨by rfl, ?_⟩) ?_ ?_
      rotate_left
      · intro w'
        go_simp
        with_reducible rfl
      rotate_left
      · simp only [Act.put, List.setIfInBounds_toArray, List.set_cons_zero, List.set_cons_succ, i64_w, i32_w]
        rfl
      refine pure_ (i := 4) (N := some 19) (v := undef) (a' := ?_) #[true, true, true, true, true, false, false, false, false, false, false, false, false, false, false, false, false, false] rfl rfl (any_of HT_.out (by kernel_rfl)) (fun _ _ _ h => h) (Or.inr ⟨by rfl, rfl⟩) ?_ ?_
      rotate_left
      · simp only [Act.put, List.setIfInBounds_toArray, List.set_cons_zero, List.set_cons_succ, i64_w, i32_w]
        rfl
      refine pure_ (i := 5) (N := some 20) (v := undef) (a' := ?_) #[true, true, true, true, true, true, false, false, false, false, false, false, false, false, false, false, false, false] rfl rfl (any_of HT_.out (by kernel_rfl)) (fun _ _ _ h => h) (Or.inr ⟨by rfl, rfl⟩) ?_ ?_
      rotate_left
      · simp only [Act.put, List.setIfInBounds_toArray, List.set_cons_zero, List.set_cons_succ, i64_w, i32_w]
        rfl
      refine pure_ (i := 6) (N := some 21) (v := undef) (a' := ?_) #[true, true, true, true, true, true, true, false, false, false, false, false, false, false, false, false, false, false] rfl rfl (any_of HT_.out (by kernel_rfl)) (fun _ _ _ h => h) (Or.inr ⟨by rfl, rfl⟩) ?_ ?_
      rotate_left
      · simp only [Act.put, List.setIfInBounds_toArray, List.set_cons_zero, List.set_cons_succ, i64_w, i32_w]
        rfl
      refine pure_ (i := 7) (N := some 22) (v := undef) (a' := ?_) #[true, true, true, true, true, true, true, true, false, false, false, false, false, false, false, false, false, false] rfl rfl (any_of HT_.out (by kernel_rfl)) (fun _ _ _ h => h) (Or.inr ⟨by rfl, rfl⟩) ?_ ?_
      rotate_left
      · simp only [Act.put, List.setIfInBounds_toArray, List.set_cons_zero, List.set_cons_succ, i64_w, i32_w]
        rfl
      refine pure_ (i := 8) (N := some 23) (v := undef) (a' := ?_) #[true, true, true, true, true, true, true, true, true, false, false, false, false, false, false, false, false, false] rfl rfl (any_of HT_.out (by kernel_rfl)) (fun _ _ _ h => h) (Or.inr ⟨by rfl, rfl⟩) ?_ ?_
      rotate_left
      · simp only [Act.put, List.setIfInBounds_toArray, List.set_cons_zero, List.set_cons_succ, i64_w, i32_w]
        rfl
      refine pure_ (i := 9) (N := some 24) (v := undef) (a' := ?_) #[true, true, true, true, true, true, true, true, true, true, false, false, false, false, false, false, false, false] rfl rfl (any_of HT_.out (by kernel_rfl)) (fun _ _ _ h => h) (Or.inr ⟨by rfl, rfl⟩) ?_ ?_
      rotate_left
      · simp only [Act.put, List.setIfInBounds_toArray, List.set_cons_zero, List.set_cons_succ, i64_w, i32_w]
        rfl
      refine pure_ (i := 10) (N := some 25) (v := undef) (a' := ?_) #[true, true, true, true, true, true, true, true, true, true, true, false, false, false, false, false, false, false] rfl rfl (any_of HT_.out (by kernel_rfl)) (fun _ _ _ h => h) (Or.inr ⟨by rfl, rfl⟩) ?_ ?_
      rotate_left
      · simp only [Act.put, List.setIfInBounds_toArray, List.set_cons_zero, List.set_cons_succ, i64_w, i32_w]
        rfl
      refine pure_ (i := 11) (N := some 26) (v := undef) (a' := ?_) #[true, true, true, true, true, true, true, true, true, true, true, true, false, false, false, false, false, false] rfl rfl (any_of HT_.out (by kernel_rfl)) (fun _ _ _ h => h) (Or.inr ⟨by rfl, rfl⟩) ?_ ?_
      rotate_left
      · simp only [Act.put, List.setIfInBounds_toArray, List.set_cons_zero, List.set_cons_succ, i64_w, i32_w]
        rfl
      refine pure_ (i := 12) (N := some 27) (v := undef) (a' := ?_) #[true, true, true, true, true, true, true, true, true, true, true, true, true, false, false, false, false, false] rfl rfl (any_of HT_.out (by kernel_rfl)) (fun _ _ _ h => h) (Or.inr ⟨by rfl, rfl⟩) ?_ ?_
      rotate_left
      · simp only [Act.put, List.setIfInBounds_toArray, List.set_cons_zero, List.set_cons_succ, i64_w, i32_w]
        rfl
      refine pure_ (i := 13) (N := some 28) (v := undef) (a' := ?_) #[true, true, true, true, true, true, true, true, true, true, true, true, true, true, false, false, false, false] rfl rfl (any_of HT_.out (by kernel_rfl)) (fun _ _ _ h => h) (Or.inr ⟨by rfl, rfl⟩) ?_ ?_
      rotate_left
      · simp only [Act.put, List.setIfInBounds_toArray, List.set_cons_zero, List.set_cons_succ, i64_w, i32_w]
        rfl
      refine pure_ (i := 14) (N := some 29) (v := undef) (a' := ?_) #[true, true, true, true, true, true, true, true, true, true, true, true, true, true, true, false, false, false] rfl rfl (any_of HT_.out (by kernel_rfl)) (fun _ _ _ h => h) (Or.inr ⟨by rfl, rfl⟩) ?_ ?_
      rotate_left
      · simp only [Act.put, List.setIfInBounds_toArray, List.set_cons_zero, List.set_cons_succ, i64_w, i32_w]
        rfl
      refine pure_ (i := 15) (N := some 30) (v := undef) (a' := ?_) #[true, true, true, true, true, true, true, true, true, true, true, true, true, true, true, true, false, false] rfl rfl (any_of HT_.out (by kernel_rfl)) (fun _ _ _ h => h) (Or.inr ⟨by rfl, rfl⟩) ?_ ?_
      rotate_left
      · simp only [Act.put, List.setIfInBounds_toArray, List.set_cons_zero, List.set_cons_succ, i64_w, i32_w]
        rfl
      refine pure_ (i := 16) (N := some 31) (v := undef) (a' := ?_) #[true, true, true, true, true, true, true, true, true, true, true, true, true, true, true, true, true, false] rfl rfl (any_of HT_.out (by kernel_rfl)) (fun _ _ _ h => h) (Or.inr ⟨by rfl, rfl⟩) ?_ ?_
      rotate_left
      · simp only [Act.put, List.setIfInBounds_toArray, List.set_cons_zero, List.set_cons_succ, i64_w, i32_w]
        rfl
      refine pure_ (i := 17) (N := some 32) (v := ?_) (a' := ?_) #[true, true, true, true, true, true, true, true, true, true, true, true, true, true, true, true, true, true] rfl rfl (any_of HT_.out (by kernel_rfl)) (fun _ _ _ h => h) (Or.inl ⟨by rfl, ?_⟩) ?_ ?_
      rotate_left
      · intro w'
        go_simp
        with_reducible rfl
      rotate_left
      · simp only [Act.put, List.setIfInBounds_toArray, List.set_cons_zero, List.set_cons_succ, i64_w, i32_w]
        rfl
      refine done_ (done_of HT_.out (by kernel_rfl)) ?_
      go_wp2
      go_ret
      exact ⟨false, rfl, fun e => by (cases e), HB6.out⟩
    | true =>
      have HPX2 := Aside0.mk (HPX.out rfl)
      clear HPX
      cases k with
      | zero =>
        obtain ⟨q0, q1, q2, q3, q4, q5, q6, q7, q8, q9, q10, q11, q12, q13, q14, q15⟩ : SK w5 gf x w5.drew := SK_mk (below_drew1 (Below.refl _ _)) (blk_drew HGF.out)
        refine start_ (n := 18) (S := fun w' => Below w5.heap.size w5 w' ∧ w'.cell? ⟨gf, 0, none⟩ = some (.int .i64 x.f0.f0) ∧ w'.cell? ⟨gf, 1, none⟩ = some (.int .i64 x.f0.f1) ∧ w'.cell? ⟨gf, 2, none⟩ = some (.int .i64 x.f1.f0) ∧ w'.cell? ⟨gf, 3, none⟩ = some (.int .i64 x.f1.f1) ∧ w'.cell? ⟨gf, 4, none⟩ = some (.int .u32 x.f2) ∧ w'.cell? ⟨gf, 5, none⟩ = some (.int .u32 x.f3) ∧ w'.cell? ⟨gf, 6, none⟩ = some (.int .u32 x.f4) ∧ w'.cell? ⟨gf, 7, none⟩ = some (.int .u32 x.f5) ∧ w'.cell? ⟨gf, 8, none⟩ = some (.int .u32 x.f6) ∧ w'.cell? ⟨gf, 9, none⟩ = some (.int .u32 x.f7) ∧ w'.cell? ⟨gf, 10, none⟩ = some (.string x.f8) ∧ w'.cell? ⟨gf, 11, none⟩ = some (.string x.f9) ∧ w'.cell? ⟨gf, 12, none⟩ = some (.int .i64 x.f10) ∧ w'.cell? ⟨gf, 13, none⟩ = some (.bool x.f11) ∧ w'.cell? ⟨gf, 14, none⟩ = some (.bool x.f12)) (ds := []) #[false, false, false, false, false, false, false, false, false, false, false, false, false, false, false, false, false, false] (by kernel_rfl) rfl rfl ⟨q0, q1, q2, q3, q4, q5, q6, q7, q8, q9, q10, q11, q12, q13, q14, q15⟩ (fun hHeld => ?_)
        refine with_tabW areFiles5.tab6 areFiles5.bits6 (fun HT_ HW_ => ?_)
        generalize World.drew _ = wd at hHeld ⊢
        refine take_ (i := 0) (N := some 15) (v := ?_) (a' := ?_) #[true, false, false, false, false, false, false, false, false, false, false, false, false, false, false, false, false, false] rfl rfl (take_ofW HT_.out HW_.out (by kernel_rfl)) (fun _ _ _ h => h) (Or.inl ⟨by rfl, ?_⟩) hHeld ?_ ?_
        rotate_left
        · rintro w' ⟨s0, s1, s2, s3, s4, s5, s6, s7, s8, s9, s10, s11, s12, s13, s14, s15⟩
          go_simp
          with_reducible rfl
        rotate_left
        · simp only [Act.put, List.setIfInBounds_toArray, List.set_cons_zero, List.set_cons_succ, i64_w, i32_w]
          rfl
        refine one_ (i := 1) (N := some 16) #[true, true, false, false, false, false, false, false, false, false, false, false, false, false, false, false, false, false] rfl rfl (one_of HT_.out (by kernel_rfl)) (by decide) (fun K hK => ?_)
        refine goes_ Tryd.func10 (by kernel_rfl) rfl #[.agg #[.int .i64 x.f0.f0, .int .i64 x.f0.f1, .int .i64 x.f1.f0, .int .i64 x.f1.f1, .int .u32 x.f2, .int .u32 x.f3, .int .u32 x.f4, .int .u32 x.f5, .int .u32 x.f6, .int .u32 x.f7, .string x.f8, .string x.f9, .int .i64 x.f10, .bool x.f11, .bool x.f12]] (by rfl) rfl rfl (by simp only [List.map_toArray, List.map_cons, List.map_nil]; rfl) ?_
        with_reducible refine (spec_IsPlainFile.calls kp x.f0.f0 x.f0.f1 x.f1.f0 x.f1.f1 x.f2 x.f3 x.f4 x.f5 x.f6 x.f7 x.f8 x.f9 x.f10 x.f11 x.f12 true _ HP.out).mono ?_
        rintro e w6 ⟨rfl, hb⟩
        refine ⟨_, rfl, ?_⟩
        have HB6 := Aside0.mk (HB5.out.trans ((hHeld.1.trans (hb.mono hHeld.1.size)).mono HB5.out.size))
        obtain ⟨f0, f1, f2, f3, f4, f5, f6, f7, f8, f9, f10, f11, f12, f13, f14, f15⟩ := SK_go hHeld hb
        clear hb
        refine hK.out _ _ ⟨f0, f1, f2, f3, f4, f5, f6, f7, f8, f9, f10, f11, f12, f13, f14, f15⟩ (fun hHeld => ?_)
        clear hK K
        refine norm_ (a' := ?_) ?_ ?_
        rotate_left
        · show Act.put _ (some 16) _ = _
          simp only [Act.put, List.setIfInBounds_toArray, List.set_cons_zero, List.set_cons_succ, i64_w, i32_w]
          rfl
        refine pure_ (i := 2) (N := some 17) (v := ?_) (a' := ?_) #[true, true, true, false, false, false, false, false, false, false, false, false, false, false, false, false, false, false] rfl rfl (any_of HT_.out (by kernel_rfl)) (fun _ _ _ h => h) (Or.inl ⟨by rfl, ?_⟩) ?_ ?_
        rotate_left
        · intro w'
          go_simp
          with_reducible rfl
        rotate_left
        · simp only [Act.put, List.setIfInBounds_toArray, List.set_cons_zero, List.set_cons_succ, i64_w, i32_w]
          rfl
        refine pure_ (i := 3) (N := some 18) (v := ?_) (a' := ?_) #[true, true, true, true, false, false, false, false, false, false, false, false, false, false, false, false, false, false] rfl rfl (any_of HT_.out (by kernel_rfl)) (fun _ _ _ h => h) (Or.inl ⟨by rfl, ?_⟩) ?_ ?_
        rotate_left
        · intro w'
          go_simp
          with_reducible rfl
        rotate_left
        · simp only [Act.put, List.setIfInBounds_toArray, List.set_cons_zero, List.set_cons_succ, i64_w, i32_w]
          rfl
        refine pure_ (i := 4) (N := some 19) (v := ?_) (a' := ?_) #[true, true, true, true, true, false, false, false, false, false, false, false, false, false, false, false, false, false] rfl rfl (any_of HT_.out (by kernel_rfl)) (fun _ _ _ h => h) (Or.inl ⟨by rfl, ?_⟩) ?_ ?_
        rotate_left
        · intro w'
          go_simp
          with_reducible rfl
        rotate_left
        · simp only [Act.put, List.setIfInBounds_toArray, List.set_cons_zero, List.set_cons_succ, i64_w, i32_w]
          rfl
        refine pure_ (i := 5) (N := some 20) (v := ?_) (a' := ?_) #[true, true, true, true, true, true, false, false, false, false, false, false, false, false, false, false, false, false] rfl rfl (any_of HT_.out (by kernel_rfl)) (fun _ _ _ h => h) (Or.inl ⟨by rfl, ?_⟩) ?_ ?_
        rotate_left
        · intro w'
          go_simp
          with_reducible rfl
        rotate_left
        · simp only [Act.put, List.setIfInBounds_toArray, List.set_cons_zero, List.set_cons_succ, i64_w, i32_w]
          rfl
        refine pure_ (i := 6) (N := some 21) (v := ?_) (a' := ?_) #[true, true, true, true, true, true, true, false, false, false, false, false, false, false, false, false, false, false] rfl rfl (any_of HT_.out (by kernel_rfl)) (fun _ _ _ h => h) (Or.inl ⟨by rfl, ?_⟩) ?_ ?_
        rotate_left
        · intro w'
          go_simp
          with_reducible rfl
        rotate_left
        · simp only [Act.put, List.setIfInBounds_toArray, List.set_cons_zero, List.set_cons_succ, i64_w, i32_w]
          rfl
        refine pure_ (i := 7) (N := some 22) (v := undef) (a' := ?_) #[true, true, true, true, true, true, true, true, false, false, false, false, false, false, false, false, false, false] rfl rfl (any_of HT_.out (by kernel_rfl)) (fun _ _ _ h => h) (Or.inr ⟨by rfl, rfl⟩) ?_ ?_
        rotate_left
        · simp only [Act.put, List.setIfInBounds_toArray, List.set_cons_zero, List.set_cons_succ, i64_w, i32_w]
          rfl
        refine pure_ (i := 8) (N := some 23) (v := undef) (a' := ?_) #[true, true, true, true, true, true, true, true, true, false, false, false, false, false, false, false, false, false] rfl rfl (any_of HT_.out (by kernel_rfl)) (fun _ _ _ h => h) (Or.inr ⟨by rfl, rfl⟩) ?_ ?_
        rotate_left
        · simp only [Act.put, List.setIfInBounds_toArray, List.set_cons_zero, List.set_cons_succ, i64_w, i32_w]
          rfl
        refine pure_ (i := 9) (N := some 24) (v := undef) (a' := ?_) #[true, true, true, true, true, true, true, true, true, true, false, false, false, false, false, false, false, false] rfl rfl (any_of HT_.out (by kernel_rfl)) (fun _ _ _ h => h) (Or.inr ⟨by rfl, rfl⟩) ?_ ?_
        rotate_left
        · simp only [Act.put, List.setIfInBounds_toArray, List.set_cons_zero, List.set_cons_succ, i64_w, i32_w]
          rfl
        refine pure_ (i := 10) (N := some 25) (v := undef) (a' := ?_) #[true, true, true, true, true, true, true, true, true, true, true, false, false, false, false, false, false, false] rfl rfl (any_of HT_.out (by kernel_rfl)) (fun _ _ _ h => h) (Or.inr ⟨by rfl, rfl⟩) ?_ ?_
        rotate_left
        · simp only [Act.put, List.setIfInBounds_toArray, List.set_cons_zero, List.set_cons_succ, i64_w, i32_w]
          rfl
        refine pure_ (i := 11) (N := some 26) (v := undef) (a' := ?_) #[true, true, true, true, true, true, true, true, true, true, true, true, false, false, false, false, false, false] rfl rfl (any_of HT_.out (by kernel_rfl)) (fun _ _ _ h => h) (Or.inr ⟨by rfl, rfl⟩) ?_ ?_
        rotate_left
        · simp only [Act.put, List.setIfInBounds_toArray, List.set_cons_zero, List.set_cons_succ, i64_w, i32_w]
          rfl
        refine pure_ (i := 12) (N := some 27) (v := undef) (a' := ?_) #[true, true, true, true, true, true, true, true, true, true, true, true, true, false, false, false, false, false] rfl rfl (any_of HT_.out (by kernel_rfl)) (fun _ _ _ h => h) (Or.inr ⟨by rfl, rfl⟩) ?_ ?_
        rotate_left
        · simp only [Act.put, List.setIfInBounds_toArray, List.set_cons_zero, List.set_cons_succ, i64_w, i32_w]
          rfl
        refine pure_ (i := 13) (N := some 28) (v := undef) (a' := ?_) #[true, true, true, true, true, true, true, true, true, true, true, true, true, true, false, false, false, false] rfl rfl (any_of HT_.out (by kernel_rfl)) (fun _ _ _ h => h) (Or.inr ⟨by rfl, rfl⟩) ?_ ?_
        rotate_left
        · simp only [Act.put, List.setIfInBounds_toArray, List.set_cons_zero, List.set_cons_succ, i64_w, i32_w]
          rfl
        refine pure_ (i := 14) (N := some 29) (v := undef) (a' := ?_) #[true, true, true, true, true, true, true, true, true, true, true, true, true, true, true, false, false, false] rfl rfl (any_of HT_.out (by kernel_rfl)) (fun _ _ _ h => h) (Or.inr ⟨by rfl, rfl⟩) ?_ ?_
        rotate_left
        · simp only [Act.put, List.setIfInBounds_toArray, List.set_cons_zero, List.set_cons_succ, i64_w, i32_w]
          rfl
        refine pure_ (i := 15) (N := some 30) (v := undef) (a' := ?_) #[true, true, true, true, true, true, true, true, true, true, true, true, true, true, true, true, false, false] rfl rfl (any_of HT_.out (by kernel_rfl)) (fun _ _ _ h => h) (Or.inr ⟨by rfl, rfl⟩) ?_ ?_
        rotate_left
        · simp only [Act.put, List.setIfInBounds_toArray, List.set_cons_zero, List.set_cons_succ, i64_w, i32_w]
          rfl
        refine pure_ (i := 16) (N := some 31) (v := ?_) (a' := ?_) #[true, true, true, true, true, true, true, true, true, true, true, true, true, true, true, true, true, false] rfl rfl (any_of HT_.out (by kernel_rfl)) (fun _ _ _ h => h) (Or.inl ⟨by rfl, ?_⟩) ?_ ?_
        rotate_left
        · intro w'
          go_simp
          with_reducible rfl
        rotate_left
        · simp only [Act.put, List.setIfInBounds_toArray, List.set_cons_zero, List.set_cons_succ, i64_w, i32_w]
          rfl
        refine pure_ (i := 17) (N := some 32) (v := ?_) (a' := ?_) #[true, true, true, true, true, true, true, true, true, true, true, true, true, true, true, true, true, true] rfl rfl (any_of HT_.out (by kernel_rfl)) (fun _ _ _ h => h) (Or.inl ⟨by rfl, ?_⟩) ?_ ?_
        rotate_left
        · intro w'
          go_simp
          with_reducible rfl
        rotate_left
        · simp only [Act.put, List.setIfInBounds_toArray, List.set_cons_zero, List.set_cons_succ, i64_w, i32_w]
          rfl
        refine done_ (done_of HT_.out (by kernel_rfl)) ?_
        go_wp2
        go_roundg g0
        case measure => omega
        case rel => exact ⟨1, rfl, ⟨by have := HK.out; omega⟩, HB6, ⟨fun y hy => by rw [HTK.out] at hy; rcases List.mem_append.1 hy with hy | hy; exact HPL.out y hy; rw [List.mem_singleton.1 hy]; exact HPX2.out⟩⟩
      | succ j =>
        obtain ⟨ny, hny⟩ := HNY5.out j rfl
        have HNY := Aside0.mk hny
        clear hny HNY5
        have dj0 : decide ((0 : Int) ≤ (j : Int)) = true := decide_eq_true (by omega)
        have dj1 : decide ((j : Int) < (l.length : Int)) = true := decide_eq_true (by omega)
        have hj1 : (j : Int) < (l.length : Int) := by omega
        have hwj : wrap64 (j : Int) = (j : Int) := Txt.w64 _ (by omega) (by omega)
        obtain ⟨q0, q1, q2, q3, q4, q5, q6, q7, q8, q9, q10, q11, q12, q13, q14, q15, q16⟩ : SK2 w5 gf ad j ny x w5.drew := SK2_mk (below_drew1 (Below.refl _ _)) (blk_drew HGF.out) HNY.out
        refine start_ (n := 18) (S := fun w' => Below w5.heap.size w5 w' ∧ w'.cell? ⟨gf, 0, none⟩ = some (.int .i64 x.f0.f0) ∧ w'.cell? ⟨gf, 1, none⟩ = some (.int .i64 x.f0.f1) ∧ w'.cell? ⟨gf, 2, none⟩ = some (.int .i64 x.f1.f0) ∧ w'.cell? ⟨gf, 3, none⟩ = some (.int .i64 x.f1.f1) ∧ w'.cell? ⟨gf, 4, none⟩ = some (.int .u32 x.f2) ∧ w'.cell? ⟨gf, 5, none⟩ = some (.int .u32 x.f3) ∧ w'.cell? ⟨gf, 6, none⟩ = some (.int .u32 x.f4) ∧ w'.cell? ⟨gf, 7, none⟩ = some (.int .u32 x.f5) ∧ w'.cell? ⟨gf, 8, none⟩ = some (.int .u32 x.f6) ∧ w'.cell? ⟨gf, 9, none⟩ = some (.int .u32 x.f7) ∧ w'.cell? ⟨gf, 10, none⟩ = some (.string x.f8) ∧ w'.cell? ⟨gf, 11, none⟩ = some (.string x.f9) ∧ w'.cell? ⟨gf, 12, none⟩ = some (.int .i64 x.f10) ∧ w'.cell? ⟨gf, 13, none⟩ = some (.bool x.f11) ∧ w'.cell? ⟨gf, 14, none⟩ = some (.bool x.f12) ∧ w'.cell? ⟨(ad.add (j * 15)).block, (ad.add (j * 15)).off + 11, none⟩ = some (.string ny)) (ds := []) #[false, false, false, false, false, false, false, false, false, false, false, false, false, false, false, false, false, false] (by kernel_rfl) rfl rfl ⟨q0, q1, q2, q3, q4, q5, q6, q7, q8, q9, q10, q11, q12, q13, q14, q15, q16⟩ (fun hHeld => ?_)
        refine with_tabW areFiles5.tab6 areFiles5.bits6 (fun HT_ HW_ => ?_)
        generalize World.drew _ = wd at hHeld ⊢
        refine take_ (i := 0) (N := some 15) (v := ?_) (a' := ?_) #[true, false, false, false, false, false, false, false, false, false, false, false, false, false, false, false, false, false] rfl rfl (take_ofW HT_.out HW_.out (by kernel_rfl)) (fun _ _ _ h => h) (Or.inl ⟨by rfl, ?_⟩) hHeld ?_ ?_
        rotate_left
        · rintro w' ⟨s0, s1, s2, s3, s4, s5, s6, s7, s8, s9, s10, s11, s12, s13, s14, s15, s16⟩
          go_simp
          with_reducible rfl
        rotate_left
        · simp only [Act.put, List.setIfInBounds_toArray, List.set_cons_zero, List.set_cons_succ, i64_w, i32_w]
          rfl
        refine one_ (i := 1) (N := some 16) #[true, true, false, false, false, false, false, false, false, false, false, false, false, false, false, false, false, false] rfl rfl (one_of HT_.out (by kernel_rfl)) (by decide) (fun K hK => ?_)
        refine goes_ Tryd.func10 (by kernel_rfl) rfl #[.agg #[.int .i64 x.f0.f0, .int .i64 x.f0.f1, .int .i64 x.f1.f0, .int .i64 x.f1.f1, .int .u32 x.f2, .int .u32 x.f3, .int .u32 x.f4, .int .u32 x.f5, .int .u32 x.f6, .int .u32 x.f7, .string x.f8, .string x.f9, .int .i64 x.f10, .bool x.f11, .bool x.f12]] (by rfl) rfl rfl (by simp only [List.map_toArray, List.map_cons, List.map_nil]; rfl) ?_
        with_reducible refine (spec_IsPlainFile.calls kp x.f0.f0 x.f0.f1 x.f1.f0 x.f1.f1 x.f2 x.f3 x.f4 x.f5 x.f6 x.f7 x.f8 x.f9 x.f10 x.f11 x.f12 true _ HP.out).mono ?_
        rintro e w6 ⟨rfl, hb⟩
        refine ⟨_, rfl, ?_⟩
        have HB6 := Aside0.mk (HB5.out.trans ((hHeld.1.trans (hb.mono hHeld.1.size)).mono HB5.out.size))
        obtain ⟨f0, f1, f2, f3, f4, f5, f6, f7, f8, f9, f10, f11, f12, f13, f14, f15, f16⟩ := SK2_go hHeld hb
        clear hb
        refine hK.out _ _ ⟨f0, f1, f2, f3, f4, f5, f6, f7, f8, f9, f10, f11, f12, f13, f14, f15, f16⟩ (fun hHeld => ?_)
        clear hK K
        refine norm_ (a' := ?_) ?_ ?_
        rotate_left
        · show Act.put _ (some 16) _ = _
          simp only [Act.put, List.setIfInBounds_toArray, List.set_cons_zero, List.set_cons_succ, i64_w, i32_w]
          rfl
        refine pure_ (i := 2) (N := some 17) (v := ?_) (a' := ?_) #[true, true, true, false, false, false, false, false, false, false, false, false, false, false, false, false, false, false] rfl rfl (any_of HT_.out (by kernel_rfl)) (fun _ _ _ h => h) (Or.inl ⟨by rfl, ?_⟩) ?_ ?_
        rotate_left
        · intro w'
          go_simp
          with_reducible rfl
        rotate_left
        · simp only [Act.put, List.setIfInBounds_toArray, List.set_cons_zero, List.set_cons_succ, i64_w, i32_w]
          rfl
        refine pure_ (i := 3) (N := some 18) (v := ?_) (a' := ?_) #[true, true, true, true, false, false, false, false, false, false, false, false, false, false, false, false, false, false] rfl rfl (any_of HT_.out (by kernel_rfl)) (fun _ _ _ h => h) (Or.inl ⟨by rfl, ?_⟩) ?_ ?_
        rotate_left
        · intro w'
          go_simp
          with_reducible rfl
        rotate_left
        · simp only [Act.put, List.setIfInBounds_toArray, List.set_cons_zero, List.set_cons_succ, i64_w, i32_w]
          rfl
        refine pure_ (i := 4) (N := some 19) (v := ?_) (a' := ?_) #[true, true, true, true, true, false, false, false, false, false, false, false, false, false, false, false, false, false] rfl rfl (any_of HT_.out (by kernel_rfl)) (fun _ _ _ h => h) (Or.inl ⟨by rfl, ?_⟩) ?_ ?_
        rotate_left
        · intro w'
          go_simp
          with_reducible rfl
        rotate_left
        · simp only [Act.put, List.setIfInBounds_toArray, List.set_cons_zero, List.set_cons_succ, i64_w, i32_w]
          rfl
        refine pure_ (i := 5) (N := some 20) (v := ?_) (a' := ?_) #[true, true, true, true, true, true, false, false, false, false, false, false, false, false, false, false, false, false] rfl rfl (any_of HT_.out (by kernel_rfl)) (fun _ _ _ h => h) (Or.inl ⟨by rfl, ?_⟩) ?_ ?_
        rotate_left
        · intro w'
          go_simp
          with_reducible rfl
        rotate_left
        · simp only [Act.put, List.setIfInBounds_toArray, List.set_cons_zero, List.set_cons_succ, i64_w, i32_w]
          rfl
        refine pure_ (i := 6) (N := some 21) (v := ?_) (a' := ?_) #[true, true, true, true, true, true, true, false, false, false, false, false, false, false, false, false, false, false] rfl rfl (any_of HT_.out (by kernel_rfl)) (fun _ _ _ h => h) (Or.inl ⟨by rfl, ?_⟩) ?_ ?_
        rotate_left
        · intro w'
          go_simp
          with_reducible rfl
        rotate_left
        · simp only [Act.put, List.setIfInBounds_toArray, List.set_cons_zero, List.set_cons_succ, i64_w, i32_w]
          rfl
        refine pure_ (i := 7) (N := some 22) (v := ?_) (a' := ?_) #[true, true, true, true, true, true, true, true, false, false, false, false, false, false, false, false, false, false] rfl rfl (any_of HT_.out (by kernel_rfl)) (fun _ _ _ h => h) (Or.inl ⟨by rfl, ?_⟩) ?_ ?_
        rotate_left
        · intro w'
          go_simp
          with_reducible rfl
        rotate_left
        · simp only [Act.put, List.setIfInBounds_toArray, List.set_cons_zero, List.set_cons_succ, i64_w, i32_w]
          rfl
        refine pure_ (i := 8) (N := some 23) (v := ?_) (a' := ?_) #[true, true, true, true, true, true, true, true, true, false, false, false, false, false, false, false, false, false] rfl rfl (any_of HT_.out (by kernel_rfl)) (fun _ _ _ h => h) (Or.inl ⟨by rfl, ?_⟩) ?_ ?_
        rotate_left
        · intro w'
          go_simp
          with_reducible rfl
        rotate_left
        · simp only [Act.put, List.setIfInBounds_toArray, List.set_cons_zero, List.set_cons_succ, i64_w, i32_w]
          rfl
        refine pure_ (i := 9) (N := some 24) (v := ?_) (a' := ?_) #[true, true, true, true, true, true, true, true, true, true, false, false, false, false, false, false, false, false] rfl rfl (any_of HT_.out (by kernel_rfl)) (fun _ _ _ h => h) (Or.inl ⟨by rfl, ?_⟩) ?_ ?_
        rotate_left
        · intro w'
          go_simp
          with_reducible rfl
        rotate_left
        · simp only [Act.put, List.setIfInBounds_toArray, List.set_cons_zero, List.set_cons_succ, i64_w, i32_w]
          rfl
        refine pure_ (i := 10) (N := some 25) (v := ?_) (a' := ?_) #[true, true, true, true, true, true, true, true, true, true, true, false, false, false, false, false, false, false] rfl rfl (any_of HT_.out (by kernel_rfl)) (fun _ _ _ h => h) (Or.inl ⟨by rfl, ?_⟩) ?_ ?_
        rotate_left
        · intro w'
          go_simp
          with_reducible rfl
        rotate_left
        · simp only [Act.put, List.setIfInBounds_toArray, List.set_cons_zero, List.set_cons_succ, i64_w, i32_w]
          rfl
        refine pure_ (i := 11) (N := some 26) (v := ?_) (a' := ?_) #[true, true, true, true, true, true, true, true, true, true, true, true, false, false, false, false, false, false] rfl rfl (any_of HT_.out (by kernel_rfl)) (fun _ _ _ h => h) (Or.inl ⟨by rfl, ?_⟩) ?_ ?_
        rotate_left
        · intro w'
          go_simp
          with_reducible rfl
        rotate_left
        · simp only [Act.put, List.setIfInBounds_toArray, List.set_cons_zero, List.set_cons_succ, i64_w, i32_w]
          rfl
        refine pure_ (i := 13) (N := some 28) (v := ?_) (a' := ?_) #[true, true, true, true, true, true, true, true, true, true, true, true, false, true, false, false, false, false] rfl rfl (any_of HT_.out (by kernel_rfl)) (fun _ _ _ h => h) (Or.inl ⟨by rfl, ?_⟩) ?_ ?_
        rotate_left
        · intro w'
          go_simp
          with_reducible rfl
        rotate_left
        · simp only [Act.put, List.setIfInBounds_toArray, List.set_cons_zero, List.set_cons_succ, i64_w, i32_w]
          rfl
        refine take_ (i := 12) (N := some 27) (v := ?_) (a' := ?_) #[true, true, true, true, true, true, true, true, true, true, true, true, true, true, false, false, false, false] rfl rfl (take_ofW HT_.out HW_.out (by kernel_rfl)) (fun _ _ _ h => h) (Or.inl ⟨by rfl, ?_⟩) hHeld ?_ ?_
        rotate_left
        · rintro w' ⟨s0, s1, s2, s3, s4, s5, s6, s7, s8, s9, s10, s11, s12, s13, s14, s15, s16⟩
          go_simp
          with_reducible rfl
        rotate_left
        · simp only [Act.put, List.setIfInBounds_toArray, List.set_cons_zero, List.set_cons_succ, i64_w, i32_w]
          rfl
        refine take_ (i := 14) (N := some 29) (v := ?_) (a' := ?_) #[true, true, true, true, true, true, true, true, true, true, true, true, true, true, true, false, false, false] rfl rfl (take_ofW HT_.out HW_.out (by kernel_rfl)) (fun _ _ _ h => h) (Or.inl ⟨by rfl, ?_⟩) hHeld ?_ ?_
        rotate_left
        · rintro w' ⟨s0, s1, s2, s3, s4, s5, s6, s7, s8, s9, s10, s11, s12, s13, s14, s15, s16⟩
          go_simp
          with_reducible rfl
        rotate_left
        · simp only [Act.put, List.setIfInBounds_toArray, List.set_cons_zero, List.set_cons_succ, i64_w, i32_w]
          rfl
        refine pure_ (i := 15) (N := some 30) (v := ?_) (a' := ?_) #[true, true, true, true, true, true, true, true, true, true, true, true, true, true, true, true, false, false] rfl rfl (any_of HT_.out (by kernel_rfl)) (fun _ _ _ h => h) (Or.inl ⟨by rfl, ?_⟩) ?_ ?_
        rotate_left
        · intro w'
          go_simp
          with_reducible rfl
        rotate_left
        · simp only [Act.put, List.setIfInBounds_toArray, List.set_cons_zero, List.set_cons_succ, i64_w, i32_w]
          rfl
        refine pure_ (i := 16) (N := some 31) (v := ?_) (a' := ?_) #[true, true, true, true, true, true, true, true, true, true, true, true, true, true, true, true, true, false] rfl rfl (any_of HT_.out (by kernel_rfl)) (fun _ _ _ h => h) (Or.inl ⟨by rfl, ?_⟩) ?_ ?_
        rotate_left
        · intro w'
          go_simp
          with_reducible rfl
        rotate_left
        · simp only [Act.put, List.setIfInBounds_toArray, List.set_cons_zero, List.set_cons_succ, i64_w, i32_w]
          rfl
        refine pure_ (i := 17) (N := some 32) (v := ?_) (a' := ?_) #[true, true, true, true, true, true, true, true, true, true, true, true, true, true, true, true, true, true] rfl rfl (any_of HT_.out (by kernel_rfl)) (fun _ _ _ h => h) (Or.inl ⟨by rfl, ?_⟩) ?_ ?_
        rotate_left
        · intro w'
          go_simp
          with_reducible rfl
        rotate_left
        · simp only [Act.put, List.setIfInBounds_toArray, List.set_cons_zero, List.set_cons_succ, i64_w, i32_w]
          rfl
        refine done_ (done_of HT_.out (by kernel_rfl)) ?_
        cases hcmp : Op.bytesLess ny.toList x.f9.toList with
        | false =>
          go_wp2
          go_ret
          exact ⟨false, rfl, fun e => by (cases e), HB6.out⟩
        | true =>
          go_wp2
          go_roundg g0
          case measure => omega
          case rel => exact ⟨j + 2, by push_cast; rfl, ⟨by have := HK.out; omega⟩, HB6, ⟨fun y hy => by rw [HTK.out] at hy; rcases List.mem_append.1 hy with hy | hy; exact HPL.out y hy; rw [List.mem_singleton.1 hy]; exact HPX2.out⟩⟩
#print axioms areFiles
end Go.Proofs.YtcokggnbgakonaaDoor.HandK
