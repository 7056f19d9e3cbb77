/- impl.configOf, walked. -/
import Derived.Test.YtacndeejapfkiaaDoorHandD
set_option linter.unusedVariables false
set_option linter.unusedSimpArgs false
namespace Go.Proofs.YtacndeejapfkiaaDoor.HandE
open Go.RowKit Go.Proofs.YtacndeejapfkiaaDoorW.PrintWords Go.Proofs.YtacndeejapfkiaaDoorW.PrintLast Go.Proofs.YtacndeejapfkiaaDoorW.PrintMore Go.Proofs.YtacndeejapfkiaaDoor.QAll Txt Ptr SepK HandA HandB HandC HandD

theorem info56 : (Tryd.prog.info? 56).map (fun i => (i.zero, i.size, i.bytes)) = some (some (.pointer none), 1, 8) := by kernel_rfl
theorem info53 : (Tryd.prog.info? 53).map (fun i => (i.zero, i.size, i.bytes)) = some (some (.pointer none), 1, 8) := by kernel_rfl
/-- The cells of a configuration. -/
def cfgC (V : Value) : Array Value := #[.pointer none, V, .slice none 0 0]
set_option maxHeartbeats 2000000 in
theorem newConfig (w : World) : Calls Tryd.prog 34 #[] w fun e w' => e = .returned (.pointer (some ⟨w.heap.size, 0, none⟩)) ∧ w' = w.alloc (.cells (cfgC (.slice none 0 0)) 64) := by
  go_enter Tryd.func34, Tryd.ntmps34
  go_wp2
  go_ret
  exact ⟨rfl, rfl⟩

/-- What is held while the section x is made: V: the sections that are done; VO: its options; VP: its parts. -/
structure In (w w' : World) (gc gx N0 N2 : Nat) (V VO VP : Value) (dn : List S36) (nm : ByteArray) (os : List S42) (ps : List S46) : Prop where
  hb : Below w.heap.size w w'
  n0 : w.heap.size ≤ N0
  gcn : gc < N0
  gcw : w.heap.size ≤ gc
  gx0 : N0 ≤ gx
  gx2 : gx < N2
  n2 : N2 ≤ w'.heap.size
  cfg : w'.heap[gc]? = some (.cells (cfgC V) 64 (0, 0))
  sec : w'.heap[gx]? = some (.cells #[.string nm, VO, VP] 70 (0, 0))
  rows : SR kS 53 w' w.heap.size (fun k => k ≠ gc ∧ k < N0) V dn
  opts : kO.R 81 w' w.heap.size (fun k => (N0 ≤ k ∧ k < N2) ∧ k ≠ gx) VO os
  parts : SR kB 56 w' w.heap.size (fun k => N2 ≤ k) VP ps
theorem In.below {w w' w1 : World} {gc gx N0 N2 : Nat} {V VO VP : Value} {dn : List S36} {nm : ByteArray} {os : List S42} {ps : List S46} (h : In w w' gc gx N0 N2 V VO VP dn nm os ps) (hb : Below w'.heap.size w' w1) : In w w1 gc gx N0 N2 V VO VP dn nm os ps :=
  ⟨h.hb.trans (hb.mono h.hb.size), h.n0, h.gcn, h.gcw, h.gx0, h.gx2, Nat.le_trans h.n2 hb.size, blk_below h.cfg hb, blk_below h.sec hb, SR_below h.rows hb, Kd.R_below h.opts hb, SR_below h.parts hb⟩
theorem In.far {w w' : World} {gc gx N0 N2 : Nat} {V VO VP : Value} {dn : List S36} {nm : ByteArray} {os : List S42} {ps : List S46} (h : In w w' gc gx N0 N2 V VO VP dn nm os ps) {k : Nat} (hk : k < N2) : some k ≠ VP.ownBlock := fun e => by
  have := h.parts.1 k e.symm
  omega
theorem sec_kept {w w' w1 : World} {gc gx N0 N2 : Nat} {V VO VP : Value} {dn : List S36} {nm : ByteArray} {os : List S42} {ps : List S46} (h : In w w' gc gx N0 N2 V VO VP dn nm os ps) (hg : w'.grownBy w1 VP.ownBlock) : w1.heap[gx]? = some (.cells #[.string nm, VO, VP] 70 (0, 0)) :=
  (hg.block gx (blk_lt h.sec) (h.far h.gx2)).trans h.sec
theorem In.put {w w' w1 : World} {gc gx N0 N2 : Nat} {V VO VP v : Value} {dn : List S36} {nm : ByteArray} {os : List S42} {ps : List S46} {p : S46} (h : In w w' gc gx N0 N2 V VO VP dn nm os ps) (ho : SR kB 56 w1 w.heap.size (fun k => N2 ≤ k) v (ps ++ [p])) (hb : Below w.heap.size w w1) (hg : w'.grownBy w1 VP.ownBlock) :
    In w (w1.setCell ⟨gx, 2, none⟩ v) gc gx N0 N2 V VO v dn nm os (ps ++ [p]) := by
  have hs := sec_kept h hg
  have hgx := h.gx2
  have hgx0 := h.gx0
  have hgc := h.gcn
  refine ⟨below_set hb (Nat.le_trans h.n0 h.gx0), h.n0, h.gcn, h.gcw, h.gx0, h.gx2, ?_, ?_, blk_put hs 2 v rfl, ?_, ?_, ?_⟩
  · have := hg.size; have := h.n2; simp [World.setCell]; omega
  · exact blk_far ((hg.block gc (blk_lt h.cfg) (h.far (by omega))).trans h.cfg) (by show gc ≠ gx; omega) v
  · refine SR_step (SR_step h.rows (fun k hk hlt => hg.block k hlt (h.far (by omega)))) (fun k hk _ => Below.heap_setCell w1 _ v k (by show k ≠ gx; omega))
  · refine Kd.R_step (Kd.R_step h.opts (fun k hk hlt => hg.block k hlt (h.far hk.1.2))) (fun k hk _ => Below.heap_setCell w1 _ v k hk.2)
  · exact SR_step ho (fun k hk _ => Below.heap_setCell w1 _ v k (by show k ≠ gx; omega))
/-- A part that has been made. -/
theorem newB {W w8 : World} {base N2 : Nat} {A4 : Option Addr} {n4 c4 : Nat} (y : S46) (hr : kO.R 81 W w8.heap.size (fun _ => True) (.slice A4 n4 c4) y.f1) (hb : Below w8.heap.size w8 W) (hN : N2 ≤ w8.heap.size) (hB : base ≤ w8.heap.size) :
    kB.M (W.alloc (.cells #[.string y.f0, .slice A4 n4 c4] 73)) base (fun k => N2 ≤ k ∧ w8.heap.size ≤ k) y [.pointer (some ⟨W.heap.size, 0, none⟩)] := by
  refine ptr_new (d := kSub) (cells := #[.string y.f0, .slice A4 n4 c4]) ?_ (Nat.le_trans hB hb.size) ⟨Nat.le_trans hN hb.size, hb.size⟩
  refine ⟨[.string y.f0], [.slice A4 n4 c4], rfl, rfl, .slice A4 n4 c4, rfl, ?_⟩
  exact Kd.R_lower (Kd.R_mono (Kd.R_bound hr) (fun k hk => ⟨Nat.le_trans hN hk.2.1, hk.2.1⟩)) hB
/-- A section that has been made. -/
theorem In.newS {w w' : World} {gc gx N0 N2 : Nat} {V VO VP : Value} {dn : List S36} {s : S36} (h : In w w' gc gx N0 N2 V VO VP dn s.f0 s.f1 s.f2) :
    kS.M w' w.heap.size (fun k => k ≠ gc ∧ N0 ≤ k) s [.pointer (some ⟨gx, 0, none⟩)] := by
  have hgc := h.gcn
  have hgx0 := h.gx0
  have hgx2 := h.gx2
  refine ⟨gx, #[.string s.f0, VO, VP], rfl, ⟨by omega, h.gx0⟩, Nat.le_trans h.n0 h.gx0, h.sec, ?_⟩
  refine ⟨[.string s.f0], [VO, VP], rfl, rfl, fun k => k < N2, [VO], [VP], rfl, ⟨VO, rfl, ?_⟩, VP, rfl, ?_⟩
  · exact Kd.R_mono h.opts (fun k hk => ⟨⟨⟨by omega, hk.1.1⟩, hk.2⟩, hk.1.2⟩)
  · exact SR_mono h.parts (fun k hk => ⟨⟨⟨by omega, by omega⟩, by omega⟩, by omega⟩)
theorem get36 (l : List S36) (k : Nat) (h : k < l.length) : l[k]? = some (rd_T36 l (k : Int)) := by
  unfold rd_T36
  rw [Int.toNat_natCast]
  exact getD_at l _ k h
theorem get46 (l : List S46) (k : Nat) (h : k < l.length) : l[k]? = some (rd_T46 l (k : Int)) := by
  unfold rd_T46
  rw [Int.toNat_natCast]
  exact getD_at l _ k h
def SE (w5 : World) (gf : Nat) (x : S36) (A1 A2 : Option Addr) (c1 c2 : Nat) (w' : World) : Prop := Below w5.heap.size w5 w' ∧ w'.cell? ⟨gf, 0, none⟩ = some (.string x.f0) ∧ w'.cell? ⟨gf, 1, none⟩ = some (.slice A1 x.f1.length c1) ∧ w'.cell? ⟨gf, 2, none⟩ = some (.slice A2 x.f2.length c2)
theorem SE_go {w5 : World} {gf : Nat} {x : S36} {A1 A2 : Option Addr} {c1 c2 : Nat} {w w' : World} (h : SE w5 gf x A1 A2 c1 c2 w) (hb : Below w.heap.size w w') : SE w5 gf x A1 A2 c1 c2 w' := by
  obtain ⟨f0, f1, f2, f3⟩ := h
  exact ⟨f0.trans (hb.mono f0.size), pw_cell_below hb f1, pw_cell_below hb f2, pw_cell_below hb f3⟩
def SF (w8 : World) (gp gx : Nat) (y : S46) (B1 : Option Addr) (b1 : Nat) (VP : Value) (w' : World) : Prop := Below w8.heap.size w8 w' ∧ w'.cell? ⟨gp, 0, none⟩ = some (.string y.f0) ∧ w'.cell? ⟨gp, 1, none⟩ = some (.slice B1 y.f1.length b1) ∧ w'.cell? ⟨gx, 2, none⟩ = some VP
theorem SF_go {w8 : World} {gp gx : Nat} {y : S46} {B1 : Option Addr} {b1 : Nat} {VP : Value} {w w' : World} (h : SF w8 gp gx y B1 b1 VP w) (hb : Below w.heap.size w w') : SF w8 gp gx y B1 b1 VP w' := by
  obtain ⟨f0, f1, f2, f3⟩ := h
  exact ⟨f0.trans (hb.mono f0.size), pw_cell_below hb f1, pw_cell_below hb f2, pw_cell_below hb f3⟩
/-- What is asked of the sizes. -/
structure Sized (l : List S36) : Prop where
  n : l.length ≤ 101
  o : ∀ s ∈ l, s.f1.length ≤ 1001
  b : ∀ s ∈ l, s.f2.length ≤ 3518437208790
  p : ∀ s ∈ l, ∀ q ∈ s.f2, q.f1.length ≤ 1001
/-- Before a change. -/
structure Tight (l : List S36) : Prop where
  n : l.length ≤ 100
  o : ∀ s ∈ l, s.f1.length ≤ 1000
  b : ∀ s ∈ l, s.f2.length ≤ 3518437208780
  p : ∀ s ∈ l, ∀ q ∈ s.f2, q.f1.length ≤ 1000
theorem Tight.sized {l : List S36} (h : Tight l) : Sized l := ⟨Nat.le_trans h.n (by omega), fun s hs => Nat.le_trans (h.o s hs) (by omega), fun s hs => Nat.le_trans (h.b s hs) (by omega), fun s hs q hq => Nat.le_trans (h.p s hs q hq) (by omega)⟩

def configOf20a.T5 : Bool × List (List Nat × List Nat) := (true, [([], []), ([0], [0]), ([], []), ([2], [2]), ([3], [3]), ([1, 4], [1, 4]), ([5], [5]), ([6, 4, 0, 1, 2, 3, 4, 5, 6], [6])])
def configOf20a.B5 : List Nat := [0, 1, 0, 4, 12, 31, 63, 127]
theorem configOf20a.tab5 : rtab .any (opsOf Tryd.f20 5) = configOf20a.T5 := by kernel_rfl
theorem configOf20a.bits5 : waitsOk configOf20a.T5.2 configOf20a.B5 = true := by kernel_rfl

def configOf20b.T9 : Bool × List (List Nat × List Nat) := (true, [([], []), ([], []), ([1], [1]), ([2], [2]), ([3], [3]), ([], []), ([5], [5]), ([], []), ([7], [7]), ([8], [8]), ([6, 9], [6, 9]), ([10], [10]), ([11], [11]), ([4, 12, 9], [4, 12]), ([0, 0, 1, 2, 3, 4, 5, 6, 7, 8, 9, 10, 11, 12, 13], [0]), ([14, 0, 1, 2, 3, 4, 5, 6, 7, 8, 9, 10, 11, 12, 13], [14]), ([15, 13, 13, 0, 1, 2, 3, 4, 5, 6, 7, 8, 9, 10, 11, 12, 13], [13, 15])])
def configOf20b.B9 : List Nat := [0, 0, 2, 6, 14, 0, 32, 0, 128, 384, 992, 2016, 4064, 8190, 16383, 32767, 65535]
theorem configOf20b.tab9 : rtab .any (opsOf Tryd.f20 9) = configOf20b.T9 := by kernel_rfl
theorem configOf20b.bits9 : waitsOk configOf20b.T9.2 configOf20b.B9 = true := by kernel_rfl

set_option maxHeartbeats 16000000 in
set_option maxRecDepth 100000 in
theorem configOf (A : Option Addr) (c : Nat) (l : List S36) (w : World) (hC : Kd.C k36 w A l.length l) (hc : l.length ≤ c) (hl : Sized l) :
    Calls Tryd.prog 20 #[.slice A l.length c] w fun e w' => ∃ g V, e = .returned (.pointer (some ⟨g, 0, none⟩)) ∧ w.heap.size ≤ g ∧ w'.heap[g]? = some (.cells (cfgC V) 64 (0, 0)) ∧ SR kS 53 w' w.heap.size (fun k => k ≠ g) V l ∧ Below w.heap.size w w' := by
  have hu36 := Tryd.underlying36
  have hu46 := Tryd.underlying46
  have HC := Aside0.mk hC
  have HL := Aside0.mk hl
  have HNC := Aside0.mk (newConfig w)
  clear hC hl
  obtain ⟨gc, hgc⟩ : ∃ gc, gc = w.heap.size := ⟨_, rfl⟩
  have HG0 : Aside0 (w.heap.size ≤ gc) := ⟨by rw [hgc]; exact Nat.le_refl _⟩
  have HI0 : Aside0 ((w.alloc (.cells (cfgC (.slice none 0 0)) 64)).heap[gc]? = some (.cells (cfgC (.slice none 0 0)) 64 (0, 0))) := ⟨by rw [hgc]; exact blk_new _ _⟩
  go_enter Tryd.func20, Tryd.ntmps20
  go_wp2_with (first | (go_at_call 34; (with_reducible refine HNC.out.mono ?_); rintro e w1 ⟨rfl, rfl⟩))
  simp only [← hgc]
  go_loopg [12] l.length (fun gk v12 w' => ∃ (k : Nat) (V : Value), v12 = .int .i64 (k : Int) ∧ Aside0 (k + gk = l.length) ∧ Aside0 (Below w.heap.size w w') ∧ Aside0 (w'.heap[gc]? = some (.cells (cfgC V) 64 (0, 0))) ∧ Aside0 (SR kS 53 w' w.heap.size (fun k => k ≠ gc) V (l.take k)))
  case atStart => exact ⟨0, .slice none 0 0, rfl, ⟨by omega⟩, ⟨below_alloc (Below.refl _ _) _⟩, HI0, ⟨SR_nil _ _ _ _ _⟩⟩
  case round =>
    clear HI0 hgc
    obtain ⟨k, V, rfl, HK, HB, HI, HR⟩ := hrel
    by_cases hlt : k < l.length
    rotate_left
    · have hkn : k = l.length := by have := HK.out; omega
      have hR := HR.out
      rw [hkn, List.take_length] at hR
      have HR2 := Aside0.mk hR
      clear hR
      go_wp2
      go_ret
      exact ⟨gc, V, rfl, HG0.out, HI.out, HR2.out, HB.out⟩
    obtain ⟨g0, rfl⟩ : ∃ m, gk = m + 1 := ⟨gk - 1, by have := HK.out; omega⟩
    have hk1 : (k : Int) < (l.length : Int) := by omega
    have hk2 : (k : Int) < 101 := by have := HL.out.n; omega
    obtain ⟨ad, A1, c1, A2, c2, e, hx0, hx1, hx2, hc1, hC1, hc2, hC2⟩ := at_T36 HC.out (k : Int) (by omega) (by omega)
    cases e
    rw [Int.toNat_natCast] at hx0 hx1 hx2
    replace hx0 := pw_cell_below HB.out hx0
    replace hx1 := pw_cell_below HB.out hx1
    replace hx2 := pw_cell_below HB.out hx2
    have hgt := get36 l k hlt
    generalize rd_T36 l (k : Int) = x at hx0 hx1 hx2 hc1 hC1 hc2 hC2 hgt
    have hmem := List.mem_of_getElem? hgt
    have HTK : Aside0 (l.take (k + 1) = l.take k ++ [x]) := ⟨by rw [List.take_add_one, hgt]; rfl⟩
    have HL1 := Aside0.mk (HL.out.o x hmem)
    have HL2 := Aside0.mk (HL.out.b x hmem)
    have HL3 := Aside0.mk (HL.out.p x hmem)
    have HC1 := Aside0.mk hc1
    have HC2 := Aside0.mk hc2
    have HKN : Aside0 ((l.take k).length ≤ 101) := ⟨by rw [List.length_take]; have := HL.out.n; have := Nat.min_le_right k l.length; omega⟩
    have HRO : Aside0 (∀ W, Below w.heap.size w W → Kd.C k42 W A1 x.f1.length x.f1) := ⟨fun W hb => Kd.C_below hC1 hb⟩
    have HRD : Aside0 (∀ W, Below w.heap.size w W → Kd.C k46 W A2 x.f2.length x.f2) := ⟨fun W hb => Kd.C_below hC2 hb⟩
    clear hgt hmem hC1 hC2
    obtain ⟨N0, hN0⟩ : ∃ N0, N0 = wr.heap.size := ⟨_, rfl⟩
    have HN0 := Aside0.mk hN0
    go_upto_region 5 with fail
    have hF : (wr.alloc (.cells #[.string x.f0, .slice A1 x.f1.length c1, .slice A2 x.f2.length c2] 36)).heap[wr.heap.size]? = some (.cells #[.string x.f0, .slice A1 x.f1.length c1, .slice A2 x.f2.length c2] 36 (0, 0)) := blk_new _ _
    have HWR : Aside0 (Below wr.heap.size wr (wr.alloc (.cells #[.string x.f0, .slice A1 x.f1.length c1, .slice A2 x.f2.length c2] 36))) := ⟨below_alloc (Below.refl _ _) _⟩
    have HO5 : Aside0 (Kd.C k42 (wr.alloc (.cells #[.string x.f0, .slice A1 x.f1.length c1, .slice A2 x.f2.length c2] 36)) A1 x.f1.length x.f1) := ⟨HRO.out _ (HB.out.trans (HWR.out.mono HB.out.size))⟩
    clear hx0 hx1 hx2 hN0
    generalize wr.alloc (.cells #[.string x.f0, .slice A1 x.f1.length c1, .slice A2 x.f2.length c2] 36) = w5 at hF HWR HO5 ⊢
    generalize wr.heap.size = gf at hF ⊢
    have HF := Aside0.mk hF
    obtain ⟨q0, q1, q2, q3⟩ : SE w5 gf x A1 A2 c1 c2 w5.drew := ⟨below_drew1 (Below.refl _ _), (blk_cell (blk_drew hF) 0).trans rfl, (blk_cell (blk_drew hF) 1).trans rfl, (blk_cell (blk_drew hF) 2).trans rfl⟩
    clear hF
    refine start_ (n := 8) (S := fun w' => Below w5.heap.size w5 w' ∧ w'.cell? ⟨gf, 0, none⟩ = some (.string x.f0) ∧ w'.cell? ⟨gf, 1, none⟩ = some (.slice A1 x.f1.length c1) ∧ w'.cell? ⟨gf, 2, none⟩ = some (.slice A2 x.f2.length c2)) (ds := []) #[false, false, false, false, false, false, false, false] (by kernel_rfl) rfl rfl ⟨q0, q1, q2, q3⟩ (fun hHeld => ?_)
    refine with_tabW configOf20a.tab5 configOf20a.bits5 (fun HT_ HW_ => ?_)
    generalize World.drew _ = wd at hHeld ⊢
    refine pure_ (i := 0) (N := some 16) (v := ?_) (a' := ?_) #[true, false, false, false, false, false, false, false] rfl rfl (any_of HT_.out (by kernel_rfl)) (fun _ _ _ h => h) (Or.inl ⟨by rfl, ?_⟩) ?_ ?_
    rotate_left
    · intro w'
      go_simp
      with_reducible rfl
    rotate_left
    · simp only [Act.put, List.setIfInBounds_toArray, List.set_cons_zero, List.set_cons_succ, i64_w, i32_w]
      rfl
    refine pure_ (i := 2) (N := some 18) (v := ?_) (a' := ?_) #[true, false, true, false, false, false, false, false] rfl rfl (any_of HT_.out (by kernel_rfl)) (fun _ _ _ h => h) (Or.inl ⟨by rfl, ?_⟩) ?_ ?_
    rotate_left
    · intro w'
      go_simp
      with_reducible rfl
    rotate_left
    · simp only [Act.put, List.setIfInBounds_toArray, List.set_cons_zero, List.set_cons_succ, i64_w, i32_w]
      rfl
    refine take_ (i := 1) (N := some 17) (v := ?_) (a' := ?_) #[true, true, true, false, false, false, false, false] rfl rfl (take_ofW HT_.out HW_.out (by kernel_rfl)) (fun _ _ _ h => h) (Or.inl ⟨by rfl, ?_⟩) hHeld ?_ ?_
    rotate_left
    · rintro w' ⟨s0, s1, s2, s3⟩
      go_simp
      with_reducible rfl
    rotate_left
    · simp only [Act.put, List.setIfInBounds_toArray, List.set_cons_zero, List.set_cons_succ, i64_w, i32_w]
      rfl
    refine take_ (i := 3) (N := some 19) (v := ?_) (a' := ?_) #[true, true, true, true, false, false, false, false] rfl rfl (take_ofW HT_.out HW_.out (by kernel_rfl)) (fun _ _ _ h => h) (Or.inl ⟨by rfl, ?_⟩) hHeld ?_ ?_
    rotate_left
    · rintro w' ⟨s0, s1, s2, s3⟩
      go_simp
      with_reducible rfl
    rotate_left
    · simp only [Act.put, List.setIfInBounds_toArray, List.set_cons_zero, List.set_cons_succ, i64_w, i32_w]
      rfl
    refine one_ (i := 4) (N := some 20) #[true, true, true, true, true, false, false, false] rfl rfl (one_of HT_.out (by kernel_rfl)) (by decide) (fun K hK => ?_)
    refine goes_ Tryd.func35 (by kernel_rfl) rfl #[.slice A1 x.f1.length c1] (by rfl) rfl rfl (by simp only [List.map_toArray, List.map_cons, List.map_nil]; rfl) ?_
    with_reducible refine (optionsOf A1 c1 x.f1 _ (Kd.C_below HO5.out hHeld.1) HC1.out HL1.out).mono ?_
    rintro e w6 ⟨v, rfl, hr, hb⟩
    obtain ⟨A3, n3, c3, rfl⟩ : ∃ A n c, v = .slice A n c := by obtain ⟨A, c, h⟩ := Kd.R_slice hr; exact ⟨A, _, c, h⟩
    refine ⟨_, rfl, ?_⟩
    obtain ⟨f0, f1, f2, f3⟩ := SE_go hHeld hb
    have HR6 : Aside0 (kO.R 81 w6 w5.heap.size (fun _ => True) (.slice A3 n3 c3) x.f1) := ⟨Kd.R_lower hr hHeld.1.size⟩
    clear hr hb
    refine hK.out _ _ ⟨f0, f1, f2, f3⟩ (fun hHeld => ?_)
    clear hK K
    refine norm_ (a' := ?_) ?_ ?_
    rotate_left
    · show Act.put _ (some 20) _ = _
      simp only [Act.put, List.setIfInBounds_toArray, List.set_cons_zero, List.set_cons_succ, i64_w, i32_w]
      rfl
    refine pure_ (i := 5) (N := some 21) (v := ?_) (a' := ?_) #[true, true, true, true, true, true, false, false] rfl rfl (any_of HT_.out (by kernel_rfl)) (fun _ _ _ h => h) (Or.inl ⟨by rfl, ?_⟩) ?_ ?_
    rotate_left
    · intro w'
      go_simp
      with_reducible rfl
    rotate_left
    · simp only [Act.put, List.setIfInBounds_toArray, List.set_cons_zero, List.set_cons_succ, i64_w, i32_w]
      rfl
    refine one_ (i := 6) (N := some 22) #[true, true, true, true, true, true, true, false] rfl rfl (one_of HT_.out (by kernel_rfl)) (by decide) (fun K hK => ?_)
    have HB6 := Aside0.mk hHeld.1
    refine value_ (w1 := ?_) (v := ?_) (by rfl) rfl ?_ ?_
    rotate_left 2
    · go_simp
      constructor
      · rfl
      · rfl
    obtain ⟨f0, f1, f2, f3⟩ := SE_go hHeld (below_alloc (Below.refl _ _) _)
    refine hK.out _ _ ⟨f0, f1, f2, f3⟩ (fun hHeld => ?_)
    clear hK K
    refine norm_ (a' := ?_) ?_ ?_
    rotate_left
    · show Act.put _ (some 22) _ = _
      simp only [Act.put, List.setIfInBounds_toArray, List.set_cons_zero, List.set_cons_succ, i64_w, i32_w]
      rfl
    refine pure_ (i := 7) (N := some 6) (v := ?_) (a' := ?_) #[true, true, true, true, true, true, true, true] rfl rfl (any_of HT_.out (by kernel_rfl)) (fun _ _ _ h => h) (Or.inl ⟨by rfl, ?_⟩) ?_ ?_
    rotate_left
    · intro w'
      go_simp
      with_reducible rfl
    rotate_left
    · simp only [Act.put, List.setIfInBounds_toArray, List.set_cons_zero, List.set_cons_succ, i64_w, i32_w]
      rfl
    refine done_ (done_of HT_.out (by kernel_rfl)) ?_
    have hs6 : (w6.alloc (.cells #[.string x.f0, .slice A3 n3 c3, .slice none 0 0] 70)).heap[w6.heap.size]? = some (.cells #[.string x.f0, .slice A3 n3 c3, .slice none 0 0] 70 (0, 0)) := blk_new _ _
    have HW7 : Aside0 (Below wr.heap.size wr (w6.alloc (.cells #[.string x.f0, .slice A3 n3 c3, .slice none 0 0] 70))) := ⟨(HWR.out.trans (HB6.out.mono HWR.out.size)).alloc (HWR.out.trans (HB6.out.mono HWR.out.size)).size _⟩
    have HIN0 : Aside0 (In w (w6.alloc (.cells #[.string x.f0, .slice A3 n3 c3, .slice none 0 0] 70)) gc w6.heap.size N0 (w6.heap.size + 1) V (.slice A3 n3 c3) (.slice none 0 0) (l.take k) x.f0 x.f1 []) := ⟨by
      have hN := HN0.out
      have hbs := HB.out.size
      have h56 := Nat.le_trans HWR.out.size HB6.out.size
      have hgc := blk_lt HI.out
      refine ⟨HB.out.trans (HW7.out.mono HB.out.size), by omega, by omega, HG0.out, by omega, by omega, by simp, blk_below HI.out HW7.out, hs6, ?_, ?_, SR_nil _ _ _ _ _⟩
      · exact SR_mono (SR_old HR.out HW7.out) (fun k hk => ⟨hk.1, by omega⟩)
      · refine Kd.R_below (Kd.R_lower (Kd.R_mono (Kd.R_bound HR6.out) (fun k hk => ⟨⟨?_, ?_⟩, ?_⟩)) ?_) (below_alloc (Below.refl _ _) _)
        · have := hk.2.1; have := HWR.out.size; omega
        · have := hk.2.2.1; omega
        · have := hk.2.2.1; omega
        · have := HWR.out.size; omega⟩
    have hf6 : (w6.alloc (.cells #[.string x.f0, .slice A3 n3 c3, .slice none 0 0] 70)).cell? ⟨gf, 2, none⟩ = some (.slice A2 x.f2.length c2) := (blk_cell (blk_alloc (blk_below HF.out HB6.out) _) 2).trans rfl
    clear hs6 hHeld
    generalize w6.alloc (.cells #[.string x.f0, .slice A3 n3 c3, .slice none 0 0] 70) = w7 at HW7 HIN0 hf6 ⊢
    generalize (Value.slice A3 n3 c3) = VO at HIN0 ⊢
    generalize w6.heap.size + 1 = N2 at HIN0
    obtain ⟨gx, hgx⟩ : ∃ gx, gx = w6.heap.size := ⟨_, rfl⟩
    simp only [← hgx] at HIN0 ⊢
    clear hgx
    go_wp2
    go_loopg [26] x.f2.length (fun gj v26 w' => ∃ (j : Nat) (VP : Value), v26 = .int .i64 (j : Int) ∧ Aside0 (j + gj = x.f2.length) ∧ Aside0 (In w w' gc gx N0 N2 V VO VP (l.take k) x.f0 x.f1 (x.f2.take j)))
    case atStart => exact ⟨0, .slice none 0 0, rfl, ⟨by omega⟩, HIN0⟩
    case round =>
      obtain ⟨j, VP, rfl, HJ, HINJ⟩ := hrel
      by_cases hjt : j < x.f2.length
      rotate_left
      · have hjn : j = x.f2.length := by have := HJ.out; omega
        have hIn := HINJ.out
        rw [hjn, List.take_length] at hIn
        have HIE := Aside0.mk hIn
        have hcv : wr.cell? ⟨gc, 1, none⟩ = some V := (blk_cell hIn.cfg 1).trans rfl
        have hcz := blk_frozen hIn.cfg 1
        have hcv2 : ∀ o, (wr.alloc o).cell? ⟨gc, 1, none⟩ = some V := fun o => (blk_cell (blk_alloc hIn.cfg o) 1).trans rfl
        clear hIn
        go_wp2_with (first
          | ((with_reducible refine gate_builtin (b := .append) (xs := #[.tmp 51, .tmp 53]) rfl ?_); at_builtin; refine SR_append kS (w0 := w) w.heap.size N0 rfl (.tmp 51) (.tmp 53) 60 53 (.pointer none) 8 rfl Tryd.underlying60 info53 rfl (by decide) (by decide) V (l.take k) x [.pointer (some ⟨gx, 0, none⟩)] (fun k => k ≠ gc) rfl ?hx HIE.out.newS (fun k hk => ?hfr) ?hNN HIE.out.rows HIE.out.hb HIE.out.hb.size ?hlen ?_
             case hx => first | (go_simp; done) | (simp [Act.eval]; done)
             case hfr => have := blk_lt HIE.out.cfg; omega
             case hNN => have := HIE.out.n2; have := HIE.out.gx0; have := HIE.out.gx2; omega
             case hlen => have := HKN.out; omega
             intro v8 w8 ho8 hb8 hg8 hat8
             obtain ⟨A8, n8, c8, rfl⟩ : ∃ A n c, v8 = .slice A n c := by obtain ⟨A, c, h⟩ := SR_slice ho8; exact ⟨A, _, c, h⟩
             have hcf8 : w8.heap[gc]? = some (.cells (cfgC V) 64 (0, 0)) := (hg8.block gc (blk_lt HIE.out.cfg) (fun e => (HIE.out.rows.1 gc e.symm).1 rfl)).trans HIE.out.cfg
             have HR8 := Aside0.mk ho8
             have HB8 := Aside0.mk hb8
             have HC8 := Aside0.mk hcf8
             have hc8v : w8.cell? ⟨gc, 1, none⟩ = some V := (blk_cell hcf8 1).trans rfl
             have hz8 := blk_frozen hcf8 1
             clear ho8 hb8 hg8 hat8 hcf8))
        go_roundg g0
        case measure => omega
        case rel => exact ⟨k + 1, .slice A8 n8 c8, by push_cast; rfl, ⟨by have := HK.out; omega⟩, ⟨below_set HB8.out HG0.out⟩, ⟨blk_put HC8.out 1 _ rfl⟩, ⟨by rw [HTK.out]; exact SR_step HR8.out (fun i hi _ => Below.heap_setCell w8 _ _ i hi)⟩⟩
      obtain ⟨gj0, rfl⟩ : ∃ m, gk = m + 1 := ⟨gk - 1, by have := HJ.out; omega⟩
      have hj1 : (j : Int) < (x.f2.length : Int) := by omega
      have HJ2 := HL2
      have hj2 : (j : Int) < 3518437208883 := by have := HL2.out; omega
      obtain ⟨adj, B1, b1, e, hy0, hy1, hb1, hC8⟩ := at_T46 (HRD.out _ HINJ.out.hb) (j : Int) (by omega) (by omega)
      cases e
      rw [Int.toNat_natCast] at hy0 hy1
      have hgt := get46 x.f2 j hjt
      generalize rd_T46 x.f2 (j : Int) = y at hy0 hy1 hb1 hC8 hgt
      have HL8 := Aside0.mk (HL3.out y (List.mem_of_getElem? hgt))
      have HTJ : Aside0 (x.f2.take (j + 1) = x.f2.take j ++ [y]) := ⟨by rw [List.take_add_one, hgt]; rfl⟩
      have HC8 := Aside0.mk hb1
      clear hgt hb1
      go_upto_region 9 with fail
      have hF : (wr.alloc (.cells #[.string y.f0, .slice B1 y.f1.length b1] 46)).heap[wr.heap.size]? = some (.cells #[.string y.f0, .slice B1 y.f1.length b1] 46 (0, 0)) := blk_new _ _
      have HO8 : Aside0 (Kd.C k42 (wr.alloc (.cells #[.string y.f0, .slice B1 y.f1.length b1] 46)) B1 y.f1.length y.f1) := ⟨Kd.C_below hC8 (below_alloc (Below.refl _ _) _)⟩
      have HIN8 : Aside0 (In w (wr.alloc (.cells #[.string y.f0, .slice B1 y.f1.length b1] 46)) gc gx N0 N2 V VO VP (l.take k) x.f0 x.f1 (x.f2.take j)) := ⟨In.below HINJ.out (below_alloc (Below.refl _ _) _)⟩
      clear hy0 hy1 hC8
      generalize wr.alloc (.cells #[.string y.f0, .slice B1 y.f1.length b1] 46) = w8 at hF HO8 HIN8 ⊢
      generalize wr.heap.size = gp at hF ⊢
      have HN8 := Aside0.mk HIN8.out.n2
      have HB8 := Aside0.mk HIN8.out.hb
      have HP8 := Aside0.mk HIN8.out.parts
      obtain ⟨q0, q1, q2, q3⟩ : SF w8 gp gx y B1 b1 VP w8.drew := ⟨below_drew1 (Below.refl _ _), (blk_cell (blk_drew hF) 0).trans rfl, (blk_cell (blk_drew hF) 1).trans rfl, (blk_cell (blk_drew HIN8.out.sec) 2).trans rfl⟩
      clear hF
      refine start_ (n := 17) (S := fun w' => Below w8.heap.size w8 w' ∧ w'.cell? ⟨gp, 0, none⟩ = some (.string y.f0) ∧ w'.cell? ⟨gp, 1, none⟩ = some (.slice B1 y.f1.length b1) ∧ w'.cell? ⟨gx, 2, none⟩ = some VP) (ds := [13, 16]) #[false, false, false, false, false, false, false, false, false, false, false, false, false, false, false, false, false] (by kernel_rfl) rfl rfl ⟨q0, q1, q2, q3⟩ (fun hHeld => ?_)
      refine with_tabW configOf20b.tab9 configOf20b.bits9 (fun HT_ HW_ => ?_)
      generalize World.drew _ = wd at hHeld ⊢
      refine pure_ (i := 0) (N := some 30) (v := ?_) (a' := ?_) #[true, false, false, false, false, false, false, false, false, false, false, false, false, false, false, false, false] rfl rfl (any_of HT_.out (by kernel_rfl)) (fun _ _ _ h => h) (Or.inl ⟨by rfl, ?_⟩) ?_ ?_
      rotate_left
      · intro w'
        go_simp
        with_reducible rfl
      rotate_left
      · simp only [Act.put, List.setIfInBounds_toArray, List.set_cons_zero, List.set_cons_succ, i64_w, i32_w]
        rfl
      refine pure_ (i := 1) (N := some 31) (v := ?_) (a' := ?_) #[true, true, false, false, false, false, false, false, false, false, false, false, false, false, false, false, false] rfl rfl (any_of HT_.out (by kernel_rfl)) (fun _ _ _ h => h) (Or.inl ⟨by rfl, ?_⟩) ?_ ?_
      rotate_left
      · intro w'
        go_simp
        with_reducible rfl
      rotate_left
      · simp only [Act.put, List.setIfInBounds_toArray, List.set_cons_zero, List.set_cons_succ, i64_w, i32_w]
        rfl
      refine pure_ (i := 2) (N := some 32) (v := ?_) (a' := ?_) #[true, true, true, false, false, false, false, false, false, false, false, false, false, false, false, false, false] rfl rfl (any_of HT_.out (by kernel_rfl)) (fun _ _ _ h => h) (Or.inl ⟨by rfl, ?_⟩) ?_ ?_
      rotate_left
      · intro w'
        go_simp
        with_reducible rfl
      rotate_left
      · simp only [Act.put, List.setIfInBounds_toArray, List.set_cons_zero, List.set_cons_succ, i64_w, i32_w]
        rfl
      refine pure_ (i := 3) (N := some 33) (v := ?_) (a' := ?_) #[true, true, true, true, false, false, false, false, false, false, false, false, false, false, false, false, false] rfl rfl (any_of HT_.out (by kernel_rfl)) (fun _ _ _ h => h) (Or.inl ⟨by rfl, ?_⟩) ?_ ?_
      rotate_left
      · intro w'
        go_simp
        with_reducible rfl
      rotate_left
      · simp only [Act.put, List.setIfInBounds_toArray, List.set_cons_zero, List.set_cons_succ, i64_w, i32_w]
        rfl
      refine pure_ (i := 5) (N := some 35) (v := ?_) (a' := ?_) #[true, true, true, true, false, true, false, false, false, false, false, false, false, false, false, false, false] rfl rfl (any_of HT_.out (by kernel_rfl)) (fun _ _ _ h => h) (Or.inl ⟨by rfl, ?_⟩) ?_ ?_
      rotate_left
      · intro w'
        go_simp
        with_reducible rfl
      rotate_left
      · simp only [Act.put, List.setIfInBounds_toArray, List.set_cons_zero, List.set_cons_succ, i64_w, i32_w]
        rfl
      refine pure_ (i := 7) (N := some 37) (v := ?_) (a' := ?_) #[true, true, true, true, false, true, false, true, false, false, false, false, false, false, false, false, false] rfl rfl (any_of HT_.out (by kernel_rfl)) (fun _ _ _ h => h) (Or.inl ⟨by rfl, ?_⟩) ?_ ?_
      rotate_left
      · intro w'
        go_simp
        with_reducible rfl
      rotate_left
      · simp only [Act.put, List.setIfInBounds_toArray, List.set_cons_zero, List.set_cons_succ, i64_w, i32_w]
        rfl
      refine take_ (i := 4) (N := some 34) (v := ?_) (a' := ?_) #[true, true, true, true, true, true, false, true, false, false, false, false, false, false, false, false, false] rfl rfl (take_ofW HT_.out HW_.out (by kernel_rfl)) (fun _ _ _ h => h) (Or.inl ⟨by rfl, ?_⟩) hHeld ?_ ?_
      rotate_left
      · rintro w' ⟨s0, s1, s2, s3⟩
        go_simp
        with_reducible rfl
      rotate_left
      · simp only [Act.put, List.setIfInBounds_toArray, List.set_cons_zero, List.set_cons_succ, i64_w, i32_w]
        rfl
      refine take_ (i := 6) (N := some 36) (v := ?_) (a' := ?_) #[true, true, true, true, true, true, true, true, false, false, false, false, false, false, false, false, false] rfl rfl (take_ofW HT_.out HW_.out (by kernel_rfl)) (fun _ _ _ h => h) (Or.inl ⟨by rfl, ?_⟩) hHeld ?_ ?_
      rotate_left
      · rintro w' ⟨s0, s1, s2, s3⟩
        go_simp
        with_reducible rfl
      rotate_left
      · simp only [Act.put, List.setIfInBounds_toArray, List.set_cons_zero, List.set_cons_succ, i64_w, i32_w]
        rfl
      refine take_ (i := 8) (N := some 38) (v := ?_) (a' := ?_) #[true, true, true, true, true, true, true, true, true, false, false, false, false, false, false, false, false] rfl rfl (take_ofW HT_.out HW_.out (by kernel_rfl)) (fun _ _ _ h => h) (Or.inl ⟨by rfl, ?_⟩) hHeld ?_ ?_
      rotate_left
      · rintro w' ⟨s0, s1, s2, s3⟩
        go_simp
        with_reducible rfl
      rotate_left
      · simp only [Act.put, List.setIfInBounds_toArray, List.set_cons_zero, List.set_cons_succ, i64_w, i32_w]
        rfl
      refine one_ (i := 9) (N := some 39) #[true, true, true, true, true, true, true, true, true, true, false, false, false, false, false, false, false] rfl rfl (one_of HT_.out (by kernel_rfl)) (by decide) (fun K hK => ?_)
      refine goes_ Tryd.func35 (by kernel_rfl) rfl #[.slice B1 y.f1.length b1] (by rfl) rfl rfl (by simp only [List.map_toArray, List.map_cons, List.map_nil]; rfl) ?_
      with_reducible refine (optionsOf B1 b1 y.f1 _ (Kd.C_below HO8.out hHeld.1) HC8.out HL8.out).mono ?_
      rintro e w9 ⟨v, rfl, hr, hb⟩
      obtain ⟨A4, n4, c4, rfl⟩ : ∃ A n c, v = .slice A n c := by obtain ⟨A, c, h⟩ := Kd.R_slice hr; exact ⟨A, _, c, h⟩
      refine ⟨_, rfl, ?_⟩
      obtain ⟨f0, f1, f2, f3⟩ := SF_go hHeld hb
      have HR9 : Aside0 (kO.R 81 w9 w8.heap.size (fun _ => True) (.slice A4 n4 c4) y.f1) := ⟨Kd.R_lower hr hHeld.1.size⟩
      clear hr hb
      refine hK.out _ _ ⟨f0, f1, f2, f3⟩ (fun hHeld => ?_)
      clear hK K
      refine norm_ (a' := ?_) ?_ ?_
      rotate_left
      · show Act.put _ (some 39) _ = _
        simp only [Act.put, List.setIfInBounds_toArray, List.set_cons_zero, List.set_cons_succ, i64_w, i32_w]
        rfl
      refine pure_ (i := 10) (N := some 40) (v := ?_) (a' := ?_) #[true, true, true, true, true, true, true, true, true, true, true, false, false, false, false, false, false] rfl rfl (any_of HT_.out (by kernel_rfl)) (fun _ _ _ h => h) (Or.inl ⟨by rfl, ?_⟩) ?_ ?_
      rotate_left
      · intro w'
        go_simp
        with_reducible rfl
      rotate_left
      · simp only [Act.put, List.setIfInBounds_toArray, List.set_cons_zero, List.set_cons_succ, i64_w, i32_w]
        rfl
      refine one_ (i := 11) (N := some 41) #[true, true, true, true, true, true, true, true, true, true, true, true, false, false, false, false, false] rfl rfl (one_of HT_.out (by kernel_rfl)) (by decide) (fun K hK => ?_)
      have HB9 := Aside0.mk hHeld.1
      refine value_ (w1 := ?_) (v := ?_) (by rfl) rfl ?_ ?_
      rotate_left 2
      · go_simp
        constructor
        · rfl
        · rfl
      obtain ⟨f0, f1, f2, f3⟩ := SF_go hHeld (below_alloc (Below.refl _ _) _)
      refine hK.out _ _ ⟨f0, f1, f2, f3⟩ (fun hHeld => ?_)
      clear hK K
      refine norm_ (a' := ?_) ?_ ?_
      rotate_left
      · show Act.put _ (some 41) _ = _
        simp only [Act.put, List.setIfInBounds_toArray, List.set_cons_zero, List.set_cons_succ, i64_w, i32_w]
        rfl
      refine one_ (i := 12) (N := some 42) #[true, true, true, true, true, true, true, true, true, true, true, true, true, false, false, false, false] rfl rfl (one_of HT_.out (by kernel_rfl)) (by decide) (fun K hK => ?_)
      refine value_ (w1 := ?_) (v := ?_) (by rfl) rfl ?_ ?_
      rotate_left 2
      · go_simp
        constructor
        · rfl
        · rfl
      obtain ⟨f0, f1, f2, f3⟩ := SF_go hHeld (below_alloc (Below.refl _ _) _)
      refine hK.out _ _ ⟨f0, f1, f2, f3⟩ (fun hHeld => ?_)
      clear hK K
      refine norm_ (a' := ?_) ?_ ?_
      rotate_left
      · show Act.put _ (some 42) _ = _
        simp only [Act.put, List.setIfInBounds_toArray, List.set_cons_zero, List.set_cons_succ, i64_w, i32_w]
        rfl
      refine last_ (i := 13) (N := some 43) #[true, true, true, true, true, true, true, true, true, true, true, true, true, true, false, false, false] rfl rfl (one_of HT_.out (by kernel_rfl)) (by decide) (fun K hK => ?_)
      refine SR_append_step kB (w0 := w) w.heap.size w8.heap.size (by rfl) (.tmp 34) (.tmp 42) 68 56 (.pointer none) 8 rfl Tryd.underlying68 info56 rfl (by decide) (by decide) VP (x.f2.take j) y [.pointer (some ⟨w9.heap.size, 0, none⟩)] (fun k => N2 ≤ k) rfl ?hx (newB y HR9.out HB9.out HN8.out HB8.out.size) (fun k hk => ?hfr) ?hNN (SR_old HP8.out (HB9.out.alloc HB9.out.size _)) ((HB8.out.trans (HB9.out.mono HB8.out.size)).alloc (HB8.out.trans (HB9.out.mono HB8.out.size)).size _) ?hbase ?hlen ?_
      case hx => first | (go_simp; done) | (simp [Act.eval]; done)
      case hfr => exact Nat.le_trans HN8.out (Nat.le_trans HB9.out.size (Nat.le_trans (by simp) hk))
      case hNN => exact Nat.le_trans HB9.out.size (by simp)
      case hbase => exact Nat.le_trans (HB8.out.trans (HB9.out.mono HB8.out.size)).size (by simp)
      case hlen => rw [List.length_take]; have := HJ2.out; have := Nat.min_le_left j x.f2.length; omega
      intro v7 w7 ho7 hb7 hg7 hat7
      obtain ⟨A7, n7, c7, rfl⟩ : ∃ A n c, v7 = .slice A n c := by obtain ⟨A, c, h⟩ := SR_slice ho7; exact ⟨A, _, c, h⟩
      have HIN : Aside0 (In w (w7.setCell ⟨gx, 2, none⟩ (.slice A7 n7 c7)) gc gx N0 N2 V VO (.slice A7 n7 c7) (l.take k) x.f0 x.f1 (x.f2.take j ++ [y])) := ⟨In.put (In.below HIN8.out (HB9.out.alloc HB9.out.size _)) ho7 hb7 hg7⟩
      have hc7 : w7.cell? ⟨gx, 2, none⟩ = some VP := (blk_cell (sec_kept (In.below HIN8.out (HB9.out.alloc HB9.out.size _)) hg7) 2).trans rfl
      have hz7 := blk_frozen (sec_kept (In.below HIN8.out (HB9.out.alloc HB9.out.size _)) hg7) 2
      clear ho7 hb7 hg7 hat7
      refine hK.out _ _ ?_
      clear hK K
      refine norm_ (a' := ?_) ?_ ?_
      rotate_left
      · show Act.put _ (some 43) _ = _
        simp only [Act.put, List.setIfInBounds_toArray, List.set_cons_zero, List.set_cons_succ, i64_w, i32_w]
        rfl
      refine pure_ (i := 14) (N := some 44) (v := ?_) (a' := ?_) #[true, true, true, true, true, true, true, true, true, true, true, true, true, true, true, false, false] rfl rfl (any_of HT_.out (by kernel_rfl)) (fun _ _ _ h => h) (Or.inl ⟨by rfl, ?_⟩) ?_ ?_
      rotate_left
      · intro w'
        go_simp
        with_reducible rfl
      rotate_left
      · simp only [Act.put, List.setIfInBounds_toArray, List.set_cons_zero, List.set_cons_succ, i64_w, i32_w]
        rfl
      refine pure_ (i := 15) (N := some 45) (v := ?_) (a' := ?_) #[true, true, true, true, true, true, true, true, true, true, true, true, true, true, true, true, false] rfl rfl (any_of HT_.out (by kernel_rfl)) (fun _ _ _ h => h) (Or.inl ⟨by rfl, ?_⟩) ?_ ?_
      rotate_left
      · intro w'
        go_simp
        with_reducible rfl
      rotate_left
      · simp only [Act.put, List.setIfInBounds_toArray, List.set_cons_zero, List.set_cons_succ, i64_w, i32_w]
        rfl
      refine last_ (i := 16) (N := none) #[true, true, true, true, true, true, true, true, true, true, true, true, true, true, true, true, true] rfl rfl (one_of HT_.out (by kernel_rfl)) (by decide) (fun K hK => ?_)
      refine skip_ (w1 := ?_) (by rfl) rfl ?_ ?_
      rotate_left
      · go_simp
        rfl
      refine hK.out _ _ ?_
      clear hK K
      refine done_ (done_of HT_.out (by kernel_rfl)) ?_
      go_wp2
      go_roundg gj0
      case measure => omega
      case rel => exact ⟨j + 1, .slice A7 n7 c7, by push_cast; rfl, ⟨by have := HJ.out; omega⟩, ⟨by rw [HTJ.out]; exact HIN.out⟩⟩
#print axioms configOf
end Go.Proofs.YtacndeejapfkiaaDoor.HandE
