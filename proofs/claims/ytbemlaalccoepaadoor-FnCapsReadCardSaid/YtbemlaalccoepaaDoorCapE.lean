/- capability.List.Add, walked. -/
import Derived.Test.YtbemlaalccoepaaDoorCapD
set_option linter.unusedVariables false
set_option linter.unusedSimpArgs false
namespace Go.Proofs.YtbemlaalccoepaaDoor.CapE
open Go.RowKit Go.Proofs.YtbemlaalccoepaaDoorW.PrintWords Go.Proofs.YtbemlaalccoepaaDoorW.PrintLast Go.Proofs.YtbemlaalccoepaaDoorW.PrintMore Go.Proofs.YtbemlaalccoepaaDoor.QAll Txt SMap CapA Ptr CapB CapC CapD

theorem size_put (w : World) (p : Addr) (v : Value) : (w.setCell p v).heap.size = w.heap.size := by first | exact World.size_setCell .. | simp
theorem info9 : (Tryd.prog.info? 9).map (fun i => (i.zero, i.size, i.bytes)) = some (some (.string ⟨#[]⟩), 1, 16) := by kernel_rfl
def capAdd6.T6 : Bool × List (List Nat × List Nat) := (true, [([], []), ([], []), ([1], [1]), ([2], [2]), ([3], [3]), ([], []), ([5], [5]), ([6], [6]), ([4, 7, 6], [4, 7]), ([0, 0, 1, 2, 3, 4, 5, 6, 7, 8], [0]), ([9, 0, 1, 2, 3, 4, 5, 6, 7, 8], [9]), ([10, 8, 8, 0, 1, 2, 3, 4, 5, 6, 7, 8], [8, 10])])
def capAdd6.B6 : List Nat := [0, 0, 2, 6, 14, 0, 32, 96, 254, 511, 1023, 2047]
theorem capAdd6.tab6 : rtab .any (opsOf Tryd.f31 6) = capAdd6.T6 := by kernel_rfl
theorem capAdd6.bits6 : waitsOk capAdd6.T6.2 capAdd6.B6 = true := by kernel_rfl

def capAdd11.T11 : Bool × List (List Nat × List Nat) := (true, [([], []), ([0], [0]), ([1], [1]), ([2], [2]), ([], []), ([3, 4], [3, 4]), ([], []), ([6], [6]), ([7], [7]), ([8], [8]), ([], []), ([9, 10], [9, 10]), ([11], [11]), ([12], [12]), ([13], [13]), ([], []), ([14, 15], [14, 15]), ([5, 0, 1, 2, 3, 4, 5, 6, 7, 8, 9, 10, 11, 12, 13, 14, 15, 16], [5]), ([17, 0, 1, 2, 3, 4, 5, 6, 7, 8, 9, 10, 11, 12, 13, 14, 15, 16], [17]), ([18, 16, 16, 0, 1, 2, 3, 4, 5, 6, 7, 8, 9, 10, 11, 12, 13, 14, 15, 16], [16, 18])])
def capAdd11.B11 : List Nat := [0, 1, 3, 7, 0, 31, 0, 64, 192, 448, 0, 1984, 4032, 8128, 16320, 0, 65472, 131071, 262143, 524287]
theorem capAdd11.tab11 : rtab .any (opsOf Tryd.f31 11) = capAdd11.T11 := by kernel_rfl
theorem capAdd11.bits11 : waitsOk capAdd11.T11.2 capAdd11.B11 = true := by kernel_rfl

set_option maxHeartbeats 8000000 in
set_option maxRecDepth 100000 in
theorem addNew (lb mb : Nat) (G : Nat → Nat) (L : List Ent) (V : Value) (c : ByteArray) (A : Option Addr) (cp : Nat) (l : List ByteArray) (w0 w : World) (hb : Below w0.heap.size w0 w) (hL : LSt w w0.heap.size lb mb G L V (L.map Ent.n)) (hc : ∀ e ∈ L, e.n ≠ c) (ho : OkCap c l) (hv : Kd.string.R 9 w w0.heap.size (fun k => L.length + 1 < G k) (.slice A l.length cp) l) (hn : L.length ≤ 1000) :
    Calls Tryd.prog 31 #[.pointer (some ⟨lb, 0, none⟩), .string c, .slice A l.length cp] w fun e w' => e = .returned .nilIface ∧ ∃ G' L' V', LSt w' w0.heap.size lb mb G' L' V' (L'.map Ent.n) ∧ L'.map Ent.cap = L.map Ent.cap ++ [⟨c, l⟩] ∧ Below w0.heap.size w0 w' ∧ Keep3 w w' ∧ w.heap.size ≤ w'.heap.size := by
  have HVA := Aside0.mk (validate (.pointer (some ⟨lb, 0, none⟩)) c A cp l w (Kd.R_reads' hv).2.2 ho)
  have HL := Aside0.mk hL
  have HB := Aside0.mk hb
  have HC := Aside0.mk hc
  have HO := Aside0.mk ho
  have HV := Aside0.mk hv
  have HN := Aside0.mk hn
  clear hL hb hc ho hv hn
  go_enter Tryd.func31, Tryd.ntmps31
  go_upto_region 4 with (first | (go_at_call 43; (with_reducible refine HVA.out.mono ?_); rintro e w1 ⟨rfl, hb⟩; have HB1 := Aside0.mk hb; clear hb))
  have HL1 := Aside0.mk (HL.out.below HB1.out)
  have HSU := Aside0.mk (supports lb mb c (.pointer none) false V w1 HL1.out.hl (HL1.out.miss2 HC.out))
  go_upto_region 5 with (first | (go_at_call 32; (with_reducible refine HSU.out.mono ?_); rintro e w2 ⟨rfl, hw⟩; replace hw := hw.symm; subst hw))
  have HBZ : Aside0 (w0.heap.size ≤ w1.heap.size) := ⟨(HB.out.trans (HB1.out.mono HB.out.size)).size⟩
  obtain ⟨w5, hmu, hl5, hb5, hk5, hf5, hz5⟩ := HL1.out.entry HBZ.out HC.out
  have hcm : ∀ o, (w1.alloc o).cell? ⟨lb, 0, none⟩ = some (.map (some mb)) := fun o => (blk_cell (blk_alloc HL1.out.hl _) 0).trans rfl
  have hcm0 : w1.cell? ⟨lb, 0, none⟩ = some (.map (some mb)) := (blk_cell HL1.out.hl 0).trans rfl
  go_upto_region 6 with fail
  obtain ⟨eb, heb⟩ : ∃ eb, eb = w1.heap.size := ⟨_, rfl⟩
  rw [← heb] at hl5
  simp only [← heb]
  obtain ⟨n0, hn0⟩ : ∃ n0, n0 = w5.heap.size := ⟨_, rfl⟩
  obtain ⟨G0, hG0⟩ : ∃ G0, G0 = tagAt G w5.heap.size 0 := ⟨_, rfl⟩
  have HG0 : Aside0 (∀ k, n0 ≤ k → G0 k = 0) := ⟨fun k hk => by rw [hG0]; exact tagAt_ge (by omega)⟩
  have hL5 : LSt w5 w0.heap.size lb mb G0 (L ++ [⟨c, [], eb, .slice none 0 0⟩]) V (L.map Ent.n) := by rw [hG0]; exact hl5.tag (fun k hk => tagAt_lt hk)
  have hV5 : Kd.string.R 9 w5 w0.heap.size (fun k => L.length + 1 < G0 k) (.slice A l.length cp) l := by
    rw [hG0]
    have h1 := Kd.R_bound (Kd.R_below HV.out HB1.out)
    refine Kd.R_mono (Kd.R_move h1 (fun k hk => ?_)) (fun k hk => ?_)
    · obtain ⟨_, _, h3, q, _, cells, hq⟩ := hk
      exact hf5 k h3 (HL1.out.hm.ne hq)
    · have h2 := hk.1
      show L.length + 1 < tagAt G w5.heap.size 0 k
      rw [tagAt_lt (Nat.lt_of_lt_of_le hk.2.2.1 hz5)]
      exact h2
  have q0 : LSt w5.drew w0.heap.size lb mb G0 (L ++ [⟨c, [], eb, .slice none 0 0⟩]) V (L.map Ent.n) ∧ Below w0.heap.size w0 w5.drew ∧ Keep3 w w5.drew ∧ Kd.string.R 9 w5.drew w0.heap.size (fun k => L.length + 1 < G0 k) (.slice A l.length cp) l ∧ n0 ≤ w5.drew.heap.size :=
    ⟨hL5.below (below_drew1 (Below.refl _ _)), (HB.out.trans (HB1.out.mono HB.out.size)).trans (hb5.trans ((below_drew1 (Below.refl w5.heap.size w5)).mono (Nat.le_trans HBZ.out hz5))), ((Keep3.below HB1.out).trans hk5).trans (Keep3.below (below_drew1 (Below.refl _ _))), Kd.R_below hV5 (below_drew1 (Below.refl _ _)), Nat.le_of_eq hn0⟩
  have q1 : w5.drew.cell? ⟨lb, 1, none⟩ = some V := (blk_cell q0.1.hl 1).trans rfl
  have HNW : Aside0 (n0 ≥ w.heap.size) := ⟨by have := HB1.out.size; omega⟩
  clear hl5 hb5 hk5 hf5 hz5 hcm hcm0 hmu hL5 hV5 hG0 hn0 heb
  refine start_ (n := 12) (S := fun w' => (LSt w' w0.heap.size lb mb G0 (L ++ [⟨c, [], eb, .slice none 0 0⟩]) V (L.map Ent.n) ∧ Below w0.heap.size w0 w' ∧ Keep3 w w' ∧ Kd.string.R 9 w' w0.heap.size (fun k => L.length + 1 < G0 k) (.slice A l.length cp) l ∧ n0 ≤ w'.heap.size) ∧ w'.cell? ⟨lb, 1, none⟩ = some V) (ds := [8, 11]) #[false, false, false, false, false, false, false, false, false, false, false, false] (by kernel_rfl) rfl rfl ⟨q0, q1⟩ (fun hHeld => ?_)
  refine with_tabW capAdd6.tab6 capAdd6.bits6 (fun HT_ HW_ => ?_)
  generalize World.drew _ = wd at hHeld ⊢
  refine pure_ (i := 0) (N := some 27) (v := ?_) (a' := ?_) #[true, false, false, false, false, false, false, false, false, false, false, false] rfl rfl (any_of HT_.out (by kernel_rfl)) (fun _ _ _ h => h) (Or.inl ⟨by rfl, ?_⟩) ?_ ?_
  rotate_left
  · intro w'
    go_simp
    with_reducible rfl
  rotate_left
  · simp only [Act.put, List.setIfInBounds_toArray, List.set_cons_zero, List.set_cons_succ, i64_w, i32_w]
    rfl
  refine pure_ (i := 1) (N := some 28) (v := ?_) (a' := ?_) #[true, true, false, false, false, false, false, false, false, false, false, false] rfl rfl (any_of HT_.out (by kernel_rfl)) (fun _ _ _ h => h) (Or.inl ⟨by rfl, ?_⟩) ?_ ?_
  rotate_left
  · intro w'
    go_simp
    with_reducible rfl
  rotate_left
  · simp only [Act.put, List.setIfInBounds_toArray, List.set_cons_zero, List.set_cons_succ, i64_w, i32_w]
    rfl
  refine pure_ (i := 2) (N := some 29) (v := ?_) (a' := ?_) #[true, true, true, false, false, false, false, false, false, false, false, false] rfl rfl (any_of HT_.out (by kernel_rfl)) (fun _ _ _ h => h) (Or.inl ⟨by rfl, ?_⟩) ?_ ?_
  rotate_left
  · intro w'
    go_simp
    with_reducible rfl
  rotate_left
  · simp only [Act.put, List.setIfInBounds_toArray, List.set_cons_zero, List.set_cons_succ, i64_w, i32_w]
    rfl
  refine pure_ (i := 3) (N := some 30) (v := ?_) (a' := ?_) #[true, true, true, true, false, false, false, false, false, false, false, false] rfl rfl (any_of HT_.out (by kernel_rfl)) (fun _ _ _ h => h) (Or.inl ⟨by rfl, ?_⟩) ?_ ?_
  rotate_left
  · intro w'
    go_simp
    with_reducible rfl
  rotate_left
  · simp only [Act.put, List.setIfInBounds_toArray, List.set_cons_zero, List.set_cons_succ, i64_w, i32_w]
    rfl
  refine pure_ (i := 5) (N := some 32) (v := ?_) (a' := ?_) #[true, true, true, true, false, true, false, false, false, false, false, false] rfl rfl (any_of HT_.out (by kernel_rfl)) (fun _ _ _ h => h) (Or.inl ⟨by rfl, ?_⟩) ?_ ?_
  rotate_left
  · intro w'
    go_simp
    with_reducible rfl
  rotate_left
  · simp only [Act.put, List.setIfInBounds_toArray, List.set_cons_zero, List.set_cons_succ, i64_w, i32_w]
    rfl
  refine take_ (i := 4) (N := some 31) (v := ?_) (a' := ?_) #[true, true, true, true, true, true, false, false, false, false, false, false] rfl rfl (take_ofW HT_.out HW_.out (by kernel_rfl)) (fun _ _ _ h => h) (Or.inl ⟨by rfl, ?_⟩) hHeld ?_ ?_
  rotate_left
  · rintro w' ⟨s0, s1⟩
    go_simp
    with_reducible rfl
  rotate_left
  · simp only [Act.put, List.setIfInBounds_toArray, List.set_cons_zero, List.set_cons_succ, i64_w, i32_w]
    rfl
  refine one_ (i := 6) (N := some 33) #[true, true, true, true, true, true, true, false, false, false, false, false] rfl rfl (one_of HT_.out (by kernel_rfl)) (by decide) (fun K hK => ?_)
  refine goes_ Tryd.func44 (by kernel_rfl) rfl #[.string c] (by rfl) rfl rfl (by simp only [List.map_toArray, List.map_cons, List.map_nil]; rfl) ?_
  with_reducible refine (capString c _).mono ?_
  rintro e w3 ⟨rfl, hw⟩
  replace hw := hw.symm
  subst hw
  refine ⟨_, rfl, ?_⟩
  refine hK.out _ _ ⟨hHeld.1, hHeld.2⟩ (fun hHeld => ?_)
  clear hK K
  refine norm_ (a' := ?_) ?_ ?_
  rotate_left
  · show Act.put _ (some 33) _ = _
    simp only [Act.put, List.setIfInBounds_toArray, List.set_cons_zero, List.set_cons_succ, i64_w, i32_w]
    rfl
  refine one_ (i := 7) (N := some 34) #[true, true, true, true, true, true, true, true, false, false, false, false] rfl rfl (one_of HT_.out (by kernel_rfl)) (by decide) (fun K hK => ?_)
  have HS7 := Aside0.mk hHeld.1
  refine value_ (w1 := ?_) (v := ?_) (by rfl) rfl ?_ ?_
  rotate_left 2
  · go_simp
    constructor
    · rfl
    · rfl
  refine hK.out _ _ ⟨⟨hHeld.1.1.below (below_alloc (Below.refl _ _) _), hHeld.1.2.1.trans (Below.mono (below_alloc (Below.refl _ _) _) hHeld.1.2.1.size), hHeld.1.2.2.1.trans (Keep3.below (below_alloc (Below.refl _ _) _)), Kd.R_below hHeld.1.2.2.2.1 (below_alloc (Below.refl _ _) _), Nat.le_trans hHeld.1.2.2.2.2 (Below.size (below_alloc (Below.refl _ _) _))⟩, (pw_cell_below (below_alloc (Below.refl _ _) _) hHeld.2)⟩ (fun hHeld => ?_)
  clear hK K
  refine norm_ (a' := ?_) ?_ ?_
  rotate_left
  · show Act.put _ (some 34) _ = _
    simp only [Act.put, List.setIfInBounds_toArray, List.set_cons_zero, List.set_cons_succ, i64_w, i32_w]
    rfl
  refine last_ (i := 8) (N := some 35) #[true, true, true, true, true, true, true, true, true, false, false, false] rfl rfl (one_of HT_.out (by kernel_rfl)) (by decide) (fun K hK => ?_)
  refine Kd.R_append_step Kd.string (w0 := w0) w0.heap.size (by rfl) (.tmp 31) (.tmp 34) 25 9 (.string ⟨#[]⟩) 16 rfl Tryd.underlying25 info9 rfl (by decide) (by decide) V (L.map Ent.n) c [.string c] (fun k => G0 k = 0) (fun _ => False) rfl ?hx rfl (fun _ h => h.elim) ?hfr HS7.out.1.hs HS7.out.2.1 ?hbase ?hlen ?_
  case hx => first | (go_simp; done) | (simp [Act.eval]; done)
  case hfr => exact fun k hk => HG0.out k (Nat.le_trans HS7.out.2.2.2.2 hk)
  case hbase => exact HS7.out.2.1.size
  case hlen => rw [List.length_map]; have := HN.out; omega
  intro v7 w7 ho7 hb7 hg7 hat7
  obtain ⟨A7, n7, c7, rfl⟩ : ∃ A n c, v7 = .slice A n c := by obtain ⟨A, c, h⟩ := Kd.R_slice ho7; exact ⟨A, _, c, h⟩
  have hlb7 := blk_grown HS7.out.1.hl hg7 (Kd.R_ne HS7.out.1.hs HS7.out.1.hl (by decide))
  have HL7 : Aside0 (LSt (w7.setCell ⟨lb, 1, none⟩ (.slice A7 n7 c7)) w0.heap.size lb mb G0 (L ++ [⟨c, [], eb, .slice none 0 0⟩]) (.slice A7 n7 c7) (L.map Ent.n ++ [c])) := ⟨HS7.out.1.order ho7 hg7⟩
  have HB7 : Aside0 (Below w0.heap.size w0 (w7.setCell ⟨lb, 1, none⟩ (.slice A7 n7 c7))) := ⟨below_set hb7 HS7.out.1.hlb⟩
  have HK7 : Aside0 (Keep3 w (w7.setCell ⟨lb, 1, none⟩ (.slice A7 n7 c7))) := ⟨HS7.out.2.2.1.trans (Keep3.put HS7.out.1.hs hg7 HS7.out.1.hl (Or.inl rfl) 1 (.slice A7 n7 c7))⟩
  have HV7 : Aside0 (Kd.string.R 9 (w7.setCell ⟨lb, 1, none⟩ (.slice A7 n7 c7)) w0.heap.size (fun k => L.length + 1 < G0 k) (.slice A l.length cp) l) := ⟨Kd.R_set (Kd.R_grown HS7.out.2.2.2.1 hg7 (fun k hk e2 => by have := HS7.out.1.hs.1 k e2.symm; omega)) hlb7 (by decide) 1 (.slice A7 n7 c7)⟩
  have HZ7 : Aside0 (n0 ≤ (w7.setCell ⟨lb, 1, none⟩ (.slice A7 n7 c7)).heap.size) := ⟨by rw [size_put]; exact Nat.le_trans HS7.out.2.2.2.2 hg7.size⟩
  have hc7 : w7.cell? ⟨lb, 1, none⟩ = some V := (blk_cell hlb7 1).trans rfl
  have hz7 := blk_frozen hlb7 1
  clear ho7 hb7 hg7 hat7 hlb7
  refine hK.out _ _ ?_
  clear hK K
  refine norm_ (a' := ?_) ?_ ?_
  rotate_left
  · show Act.put _ (some 35) _ = _
    simp only [Act.put, List.setIfInBounds_toArray, List.set_cons_zero, List.set_cons_succ, i64_w, i32_w]
    rfl
  refine pure_ (i := 9) (N := some 36) (v := ?_) (a' := ?_) #[true, true, true, true, true, true, true, true, true, true, false, false] rfl rfl (any_of HT_.out (by kernel_rfl)) (fun _ _ _ h => h) (Or.inl ⟨by rfl, ?_⟩) ?_ ?_
  rotate_left
  · intro w'
    go_simp
    with_reducible rfl
  rotate_left
  · simp only [Act.put, List.setIfInBounds_toArray, List.set_cons_zero, List.set_cons_succ, i64_w, i32_w]
    rfl
  refine pure_ (i := 10) (N := some 37) (v := ?_) (a' := ?_) #[true, true, true, true, true, true, true, true, true, true, true, false] rfl rfl (any_of HT_.out (by kernel_rfl)) (fun _ _ _ h => h) (Or.inl ⟨by rfl, ?_⟩) ?_ ?_
  rotate_left
  · intro w'
    go_simp
    with_reducible rfl
  rotate_left
  · simp only [Act.put, List.setIfInBounds_toArray, List.set_cons_zero, List.set_cons_succ, i64_w, i32_w]
    rfl
  refine last_ (i := 11) (N := none) #[true, true, true, true, true, true, true, true, true, true, true, true] rfl rfl (one_of HT_.out (by kernel_rfl)) (by decide) (fun K hK => ?_)
  refine skip_ (w1 := ?_) (by rfl) rfl ?_ ?_
  rotate_left
  · go_simp
    rfl
  refine hK.out _ _ ?_
  clear hK K
  refine done_ (done_of HT_.out (by kernel_rfl)) ?_
  generalize w7.setCell ⟨lb, 1, none⟩ (.slice A7 n7 c7) = w8 at HL7 HB7 HK7 HV7 HZ7 ⊢
  have HW8 : Aside0 (w.heap.size ≤ w8.heap.size) := ⟨Nat.le_trans HNW.out HZ7.out⟩
  clear q0 q1 hHeld hc7 hz7
  by_cases q : l.length = 0
  · have e1 : ((l.length : Int) == 0) = true := by rw [beq_iff_eq]; omega
    have e2 : (l.length : Int) = 0 := by omega
    have HQ := Aside0.mk q
    clear q
    go_wp2
    go_ret
    refine ⟨rfl, G0, L ++ [⟨c, [], eb, .slice none 0 0⟩], .slice A7 n7 c7, by rw [List.map_append]; exact HL7.out, ?_, HB7.out, HK7.out, HW8.out⟩
    rw [List.map_append, List.length_eq_zero_iff.1 HQ.out]
    rfl
  have e1 : ((l.length : Int) == 0) = false := by rw [beq_eq_false_iff_ne]; omega
  have e2 : ¬ (l.length : Int) = 0 := by omega
  obtain ⟨LL, hLL⟩ : ∃ LL, LL = L ++ [(⟨c, [], eb, .slice none 0 0⟩ : Ent)] := ⟨_, rfl⟩
  have HLL := Aside0.mk hLL
  obtain ⟨j, hj⟩ : ∃ j, j = L.length := ⟨_, rfl⟩
  have HJJ := Aside0.mk hj
  have HJ : Aside0 (LL[j]? = some ⟨c, [], eb, .slice none 0 0⟩) := ⟨by rw [hLL, hj, List.getElem?_append_right (Nat.le_refl _), Nat.sub_self]; rfl⟩
  have HXL : Aside0 (([] : List ByteArray).length ≤ 1000) := ⟨by decide⟩
  have HL8 : Aside0 (LSt w8 w0.heap.size lb mb G0 LL (.slice A7 n7 c7) (L.map Ent.n ++ [c])) := ⟨by rw [hLL]; exact HL7.out⟩
  have HV8 : Aside0 (Kd.string.R 9 w8 w0.heap.size (fun k => LL.length < G0 k) (.slice A l.length cp) l) := ⟨by rw [hLL, List.length_append]; exact HV7.out⟩
  have HB8 := HB7
  have HK8 := HK7
  have HKN : Aside0 (∀ W, Calls Tryd.prog 45 #[.string c] W fun e w' => e = .returned (.bool true) ∧ Below W.heap.size W w') := ⟨fun W => by have := known c W; rwa [HO.out.known] at this⟩
  obtain ⟨V8, hV8⟩ : ∃ V8, V8 = Value.slice A7 n7 c7 := ⟨_, rfl⟩
  obtain ⟨NS, hNS⟩ : ∃ NS, NS = L.map Ent.n ++ [c] := ⟨_, rfl⟩
  have HNS := Aside0.mk hNS
  rw [← hV8, ← hNS] at HL8
  have HFIN : Aside0 (∀ V7 W G, LSt W w0.heap.size lb mb G (LL.set j ⟨c, [] ++ l, eb, V7⟩) V8 NS → LSt W w0.heap.size lb mb G (L ++ [⟨c, l, eb, V7⟩]) V8 ((L ++ [(⟨c, l, eb, V7⟩ : Ent)]).map Ent.n)) := ⟨fun V7 W G h => by
    rw [hLL, hj, hNS] at h
    rw [List.map_append]
    have e : (L ++ [(⟨c, [], eb, .slice none 0 0⟩ : Ent)]).set L.length ⟨c, [] ++ l, eb, V7⟩ = L ++ [⟨c, l, eb, V7⟩] := by simp
    rw [e] at h
    exact h⟩
  clear hLL hj hV8 hNS q HL7 HV7 HSU HL1 HS7 HG0
  by_cases hm : isIn multipleNames c = true
  · have HMU := Aside0.mk hm
    clear hm
    have HM : Aside0 (∀ W, Calls Tryd.prog 46 #[.string c] W fun e w' => e = .returned (.bool true) ∧ Below W.heap.size W w') := ⟨fun W => by have := multiple c W; rwa [HMU.out] at this⟩
    go_upto_region 11 with (first
      | (go_at_call 45; (with_reducible refine (HKN.out _).mono ?_); rintro e wa ⟨rfl, hb⟩; have HBA := Aside0.mk hb; clear hb)
      | (go_at_call 46; (with_reducible refine (HM.out _).mono ?_); rintro e wb ⟨rfl, hb⟩; replace HBA := Aside0.mk (below_step HBA.out hb); clear hb))
    obtain ⟨n1, hn1⟩ : ∃ n1, n1 = wb.heap.size := ⟨_, rfl⟩
    obtain ⟨G1, hG1⟩ : ∃ G1, G1 = tagAt G0 wb.heap.size (j + 1) := ⟨_, rfl⟩
    have HG1 : Aside0 (∀ k, n1 ≤ k → G1 k = j + 1) := ⟨fun k hk => by rw [hG1]; exact tagAt_ge (by omega)⟩
    have hLb : LSt wb w0.heap.size lb mb G1 LL V8 NS := by rw [hG1]; exact (HL8.out.below HBA.out).tag (fun k hk => tagAt_lt hk)
    have hVb : Kd.string.R 9 wb w0.heap.size (fun k => LL.length < G1 k) (.slice A l.length cp) l := by rw [hG1]; exact Kd.R_mono (Kd.R_bound (Kd.R_below HV8.out HBA.out)) (fun k hk => by have := hk.1; show LL.length < tagAt G0 wb.heap.size (j + 1) k; rw [tagAt_lt hk.2.2.1]; exact this)
    have q0 : LSt wb.drew w0.heap.size lb mb G1 LL V8 NS ∧ Below w0.heap.size w0 wb.drew ∧ Keep3 w wb.drew ∧ Kd.string.R 9 wb.drew w0.heap.size (fun k => LL.length < G1 k) (.slice A l.length cp) l ∧ n1 ≤ wb.drew.heap.size := ⟨hLb.below (below_drew1 (Below.refl _ _)), HB8.out.trans ((HBA.out.trans (below_drew1 (Below.refl _ _))).mono HB8.out.size), HK8.out.trans (Keep3.below (HBA.out.trans (below_drew1 (Below.refl _ _)))), Kd.R_below hVb (below_drew1 (Below.refl _ _)), Nat.le_of_eq hn1⟩
    have q1 : wb.drew.cell? ⟨lb, 0, none⟩ = some (.map (some mb)) := (blk_cell q0.1.hl 0).trans rfl
    have q2 := q0.1.look (List.mem_of_getElem? HJ.out)
    have q3 : wb.drew.cell? ⟨eb, 1, none⟩ = some (.slice none 0 0) := (blk_cell (q0.1.hc _ (List.mem_of_getElem? HJ.out)).1 1).trans rfl
    have HN1 : Aside0 (w.heap.size ≤ n1) := ⟨by have := HW8.out; have := HBA.out.size; omega⟩
    have HS9 := Aside0.mk q0
    clear q0 hLb hVb hG1 hn1
    refine start_ (n := 20) (S := fun w' => w'.cell? ⟨lb, 0, none⟩ = some (.map (some mb)) ∧ (Instr.lookup 64 (.map (some mb)) (.string c) false).run Tryd.prog w' = .ok (.pointer (some ⟨eb, 0, none⟩)) w' ∧ w'.cell? ⟨eb, 1, none⟩ = some (.slice none 0 0)) (ds := [19]) #[false, false, false, false, false, false, false, false, false, false, false, false, false, false, false, false, false, false, false, false] (by kernel_rfl) rfl rfl ⟨q1, q2, q3⟩ (fun hHeld => ?_)
    refine with_tabW capAdd11.tab11 capAdd11.bits11 (fun HT_ HW_ => ?_)
    generalize World.drew _ = wd at HS9 hHeld ⊢
    refine pure_ (i := 0) (N := some 62) (v := ?_) (a' := ?_) #[true, false, false, false, false, false, false, false, false, false, false, false, false, false, false, false, false, false, false, false] rfl rfl (any_of HT_.out (by kernel_rfl)) (fun _ _ _ h => h) (Or.inl ⟨by rfl, ?_⟩) ?_ ?_
    rotate_left
    · intro w'
      go_simp
      with_reducible rfl
    rotate_left
    · simp only [Act.put, List.setIfInBounds_toArray, List.set_cons_zero, List.set_cons_succ, i64_w, i32_w]
      rfl
    refine pure_ (i := 1) (N := some 63) (v := ?_) (a' := ?_) #[true, true, false, false, false, false, false, false, false, false, false, false, false, false, false, false, false, false, false, false] rfl rfl (any_of HT_.out (by kernel_rfl)) (fun _ _ _ h => h) (Or.inl ⟨by rfl, ?_⟩) ?_ ?_
    rotate_left
    · intro w'
      go_simp
      with_reducible rfl
    rotate_left
    · simp only [Act.put, List.setIfInBounds_toArray, List.set_cons_zero, List.set_cons_succ, i64_w, i32_w]
      rfl
    refine pure_ (i := 2) (N := some 64) (v := ?_) (a' := ?_) #[true, true, true, false, false, false, false, false, false, false, false, false, false, false, false, false, false, false, false, false] rfl rfl (any_of HT_.out (by kernel_rfl)) (fun _ _ _ h => h) (Or.inl ⟨by rfl, ?_⟩) ?_ ?_
    rotate_left
    · intro w'
      go_simp
      with_reducible rfl
    rotate_left
    · simp only [Act.put, List.setIfInBounds_toArray, List.set_cons_zero, List.set_cons_succ, i64_w, i32_w]
      rfl
    refine pure_ (i := 4) (N := some 66) (v := ?_) (a' := ?_) #[true, true, true, false, true, false, false, false, false, false, false, false, false, false, false, false, false, false, false, false] rfl rfl (any_of HT_.out (by kernel_rfl)) (fun _ _ _ h => h) (Or.inl ⟨by rfl, ?_⟩) ?_ ?_
    rotate_left
    · intro w'
      go_simp
      with_reducible rfl
    rotate_left
    · simp only [Act.put, List.setIfInBounds_toArray, List.set_cons_zero, List.set_cons_succ, i64_w, i32_w]
      rfl
    refine pure_ (i := 6) (N := some 68) (v := ?_) (a' := ?_) #[true, true, true, false, true, false, true, false, false, false, false, false, false, false, false, false, false, false, false, false] rfl rfl (any_of HT_.out (by kernel_rfl)) (fun _ _ _ h => h) (Or.inl ⟨by rfl, ?_⟩) ?_ ?_
    rotate_left
    · intro w'
      go_simp
      with_reducible rfl
    rotate_left
    · simp only [Act.put, List.setIfInBounds_toArray, List.set_cons_zero, List.set_cons_succ, i64_w, i32_w]
      rfl
    refine pure_ (i := 7) (N := some 69) (v := ?_) (a' := ?_) #[true, true, true, false, true, false, true, true, false, false, false, false, false, false, false, false, false, false, false, false] rfl rfl (any_of HT_.out (by kernel_rfl)) (fun _ _ _ h => h) (Or.inl ⟨by rfl, ?_⟩) ?_ ?_
    rotate_left
    · intro w'
      go_simp
      with_reducible rfl
    rotate_left
    · simp only [Act.put, List.setIfInBounds_toArray, List.set_cons_zero, List.set_cons_succ, i64_w, i32_w]
      rfl
    refine pure_ (i := 8) (N := some 70) (v := ?_) (a' := ?_) #[true, true, true, false, true, false, true, true, true, false, false, false, false, false, false, false, false, false, false, false] rfl rfl (any_of HT_.out (by kernel_rfl)) (fun _ _ _ h => h) (Or.inl ⟨by rfl, ?_⟩) ?_ ?_
    rotate_left
    · intro w'
      go_simp
      with_reducible rfl
    rotate_left
    · simp only [Act.put, List.setIfInBounds_toArray, List.set_cons_zero, List.set_cons_succ, i64_w, i32_w]
      rfl
    refine pure_ (i := 10) (N := some 72) (v := ?_) (a' := ?_) #[true, true, true, false, true, false, true, true, true, false, true, false, false, false, false, false, false, false, false, false] rfl rfl (any_of HT_.out (by kernel_rfl)) (fun _ _ _ h => h) (Or.inl ⟨by rfl, ?_⟩) ?_ ?_
    rotate_left
    · intro w'
      go_simp
      with_reducible rfl
    rotate_left
    · simp only [Act.put, List.setIfInBounds_toArray, List.set_cons_zero, List.set_cons_succ, i64_w, i32_w]
      rfl
    refine pure_ (i := 15) (N := some 77) (v := ?_) (a' := ?_) #[true, true, true, false, true, false, true, true, true, false, true, false, false, false, false, true, false, false, false, false] rfl rfl (any_of HT_.out (by kernel_rfl)) (fun _ _ _ h => h) (Or.inl ⟨by rfl, ?_⟩) ?_ ?_
    rotate_left
    · intro w'
      go_simp
      with_reducible rfl
    rotate_left
    · simp only [Act.put, List.setIfInBounds_toArray, List.set_cons_zero, List.set_cons_succ, i64_w, i32_w]
      rfl
    refine take_ (i := 3) (N := some 65) (v := ?_) (a' := ?_) #[true, true, true, true, true, false, true, true, true, false, true, false, false, false, false, true, false, false, false, false] rfl rfl (take_ofW HT_.out HW_.out (by kernel_rfl)) (fun _ _ _ h => h) (Or.inl ⟨by rfl, ?_⟩) hHeld ?_ ?_
    rotate_left
    · rintro w' ⟨s0, s1, s2⟩
      go_simp
      with_reducible rfl
    rotate_left
    · simp only [Act.put, List.setIfInBounds_toArray, List.set_cons_zero, List.set_cons_succ, i64_w, i32_w]
      rfl
    refine take_ (i := 5) (N := some 67) (v := ?_) (a' := ?_) #[true, true, true, true, true, true, true, true, true, false, true, false, false, false, false, true, false, false, false, false] rfl rfl (take_ofW HT_.out HW_.out (by kernel_rfl)) (fun _ _ _ h => h) (Or.inl ⟨by rfl, ?_⟩) hHeld ?_ ?_
    rotate_left
    · rintro w' ⟨s0, s1, s2⟩
      go_simp
      with_reducible rfl
    rotate_left
    · simp only [Act.put, List.setIfInBounds_toArray, List.set_cons_zero, List.set_cons_succ, i64_w, i32_w]
      rfl
    refine take_ (i := 9) (N := some 71) (v := ?_) (a' := ?_) #[true, true, true, true, true, true, true, true, true, true, true, false, false, false, false, true, false, false, false, false] rfl rfl (take_ofW HT_.out HW_.out (by kernel_rfl)) (fun _ _ _ h => h) (Or.inl ⟨by rfl, ?_⟩) hHeld ?_ ?_
    rotate_left
    · rintro w' ⟨s0, s1, s2⟩
      go_simp
      with_reducible rfl
    rotate_left
    · simp only [Act.put, List.setIfInBounds_toArray, List.set_cons_zero, List.set_cons_succ, i64_w, i32_w]
      rfl
    refine take_ (i := 11) (N := some 73) (v := ?_) (a' := ?_) #[true, true, true, true, true, true, true, true, true, true, true, true, false, false, false, true, false, false, false, false] rfl rfl (take_ofW HT_.out HW_.out (by kernel_rfl)) (fun _ _ _ h => h) (Or.inl ⟨by rfl, ?_⟩) hHeld ?_ ?_
    rotate_left
    · rintro w' ⟨s0, s1, s2⟩
      go_simp
      with_reducible rfl
    rotate_left
    · simp only [Act.put, List.setIfInBounds_toArray, List.set_cons_zero, List.set_cons_succ, i64_w, i32_w]
      rfl
    refine pure_ (i := 12) (N := some 74) (v := ?_) (a' := ?_) #[true, true, true, true, true, true, true, true, true, true, true, true, true, false, false, true, false, false, false, false] rfl rfl (any_of HT_.out (by kernel_rfl)) (fun _ _ _ h => h) (Or.inl ⟨by rfl, ?_⟩) ?_ ?_
    rotate_left
    · intro w'
      go_simp
      with_reducible rfl
    rotate_left
    · simp only [Act.put, List.setIfInBounds_toArray, List.set_cons_zero, List.set_cons_succ, i64_w, i32_w]
      rfl
    refine pure_ (i := 13) (N := some 75) (v := ?_) (a' := ?_) #[true, true, true, true, true, true, true, true, true, true, true, true, true, true, false, true, false, false, false, false] rfl rfl (any_of HT_.out (by kernel_rfl)) (fun _ _ _ h => h) (Or.inl ⟨by rfl, ?_⟩) ?_ ?_
    rotate_left
    · intro w'
      go_simp
      with_reducible rfl
    rotate_left
    · simp only [Act.put, List.setIfInBounds_toArray, List.set_cons_zero, List.set_cons_succ, i64_w, i32_w]
      rfl
    refine take_ (i := 14) (N := some 76) (v := ?_) (a' := ?_) #[true, true, true, true, true, true, true, true, true, true, true, true, true, true, true, true, false, false, false, false] rfl rfl (take_ofW HT_.out HW_.out (by kernel_rfl)) (fun _ _ _ h => h) (Or.inl ⟨by rfl, ?_⟩) hHeld ?_ ?_
    rotate_left
    · rintro w' ⟨s0, s1, s2⟩
      go_simp
      with_reducible rfl
    rotate_left
    · simp only [Act.put, List.setIfInBounds_toArray, List.set_cons_zero, List.set_cons_succ, i64_w, i32_w]
      rfl
    refine one_ (i := 16) (N := some 78) #[true, true, true, true, true, true, true, true, true, true, true, true, true, true, true, true, true, false, false, false] rfl rfl (one_of HT_.out (by kernel_rfl)) (by decide) (fun K hK => ?_)
    have hrv := (Kd.R_reads' HS9.out.2.2.2.1).2.2
    refine Kd.R_append_rows_step Kd.string (w0 := w0) w0.heap.size (by rfl) (.tmp 76) (.tmp 77) 25 9 (.string ⟨#[]⟩) 16 rfl Tryd.underlying25 info9 rfl (by decide) (by decide) (.slice none 0 0) ([] : List ByteArray) l A l.length cp (fun k => G1 k = j + 1) (fun _ => False) rfl rfl (HS9.out.1.he j _ HJ.out) hrv (fun _ _ h => h) (fun _ h => h.elim) ?hfr HS9.out.2.1 ?hbase ?hlen ?_
    case hfr => exact fun k hk => HG1.out k (Nat.le_trans HS9.out.2.2.2.2 hk)
    case hbase => exact HS9.out.2.1.size
    case hlen => have := HXL.out; have := HO.out.len; omega
    intro v7 w7 ho7 hb7 hg7 hat7
    obtain ⟨A7, n7, c7, rfl⟩ : ∃ A n c, v7 = .slice A n c := by obtain ⟨A, c, h⟩ := Kd.R_slice ho7; exact ⟨A, _, c, h⟩
    have heb7 := blk_grown (HS9.out.1.hc _ (List.mem_of_getElem? HJ.out)).1 hg7 (Kd.R_ne (HS9.out.1.he j _ HJ.out) (HS9.out.1.hc _ (List.mem_of_getElem? HJ.out)).1 (by decide))
    have HL9 : Aside0 (LSt (w7.setCell ⟨eb, 1, none⟩ (.slice A7 n7 c7)) w0.heap.size lb mb G1 (LL.set j ⟨c, [] ++ l, eb, .slice A7 n7 c7⟩) V8 NS) := ⟨HS9.out.1.vals HJ.out ho7 hg7⟩
    have HB9 : Aside0 (Below w0.heap.size w0 (w7.setCell ⟨eb, 1, none⟩ (.slice A7 n7 c7))) := ⟨below_set hb7 (HS9.out.1.hc _ (List.mem_of_getElem? HJ.out)).2⟩
    have HK9 : Aside0 (Keep3 w (w7.setCell ⟨eb, 1, none⟩ (.slice A7 n7 c7))) := ⟨HS9.out.2.2.1.trans (Keep3.put (HS9.out.1.he j _ HJ.out) hg7 (HS9.out.1.hc _ (List.mem_of_getElem? HJ.out)).1 (Or.inr rfl) 1 (.slice A7 n7 c7))⟩
    have HZ9 : Aside0 (n1 ≤ (w7.setCell ⟨eb, 1, none⟩ (.slice A7 n7 c7)).heap.size) := ⟨by rw [size_put]; exact Nat.le_trans HS9.out.2.2.2.2 hg7.size⟩
    have hc9 : w7.cell? ⟨eb, 1, none⟩ = some (.slice none 0 0) := (blk_cell heb7 1).trans rfl
    have hz9 := blk_frozen heb7 1
    have f0 : w7.cell? ⟨lb, 0, none⟩ = some (.map (some mb)) := (blk_cell (blk_grown HS9.out.1.hl hg7 (Kd.R_ne (HS9.out.1.he j _ HJ.out) HS9.out.1.hl (by decide))) 0).trans rfl
    have f1 := HS9.out.1.look_grown (List.mem_of_getElem? HJ.out) (HS9.out.1.he j _ HJ.out) hg7
    clear ho7 hb7 hg7 hat7 heb7 hrv
    refine hK.out _ _ ⟨f0, f1, hc9⟩ (fun hHeld => ?_)
    clear hK K
    refine norm_ (a' := ?_) ?_ ?_
    rotate_left
    · show Act.put _ (some 78) _ = _
      simp only [Act.put, List.setIfInBounds_toArray, List.set_cons_zero, List.set_cons_succ, i64_w, i32_w]
      rfl
    refine pure_ (i := 17) (N := some 79) (v := ?_) (a' := ?_) #[true, true, true, true, true, true, true, true, true, true, true, true, true, true, true, true, true, true, false, false] rfl rfl (any_of HT_.out (by kernel_rfl)) (fun _ _ _ h => h) (Or.inl ⟨by rfl, ?_⟩) ?_ ?_
    rotate_left
    · intro w'
      go_simp
      with_reducible rfl
    rotate_left
    · simp only [Act.put, List.setIfInBounds_toArray, List.set_cons_zero, List.set_cons_succ, i64_w, i32_w]
      rfl
    refine pure_ (i := 18) (N := some 80) (v := ?_) (a' := ?_) #[true, true, true, true, true, true, true, true, true, true, true, true, true, true, true, true, true, true, true, false] rfl rfl (any_of HT_.out (by kernel_rfl)) (fun _ _ _ h => h) (Or.inl ⟨by rfl, ?_⟩) ?_ ?_
    rotate_left
    · intro w'
      go_simp
      with_reducible rfl
    rotate_left
    · simp only [Act.put, List.setIfInBounds_toArray, List.set_cons_zero, List.set_cons_succ, i64_w, i32_w]
      rfl
    refine last_ (i := 19) (N := none) #[true, true, true, true, true, true, true, true, true, true, true, true, true, true, true, true, true, true, true, true] rfl rfl (one_of HT_.out (by kernel_rfl)) (by decide) (fun K hK => ?_)
    refine skip_ (w1 := ?_) (by rfl) rfl ?_ ?_
    rotate_left
    · go_simp
      rfl
    refine hK.out _ _ ?_
    clear hK K
    refine done_ (done_of HT_.out (by kernel_rfl)) ?_
    go_wp2
    go_ret
    exact ⟨rfl, G1, L ++ [⟨c, l, eb, .slice A7 n7 c7⟩], ⟨V8, HFIN.out _ _ _ HL9.out⟩, by rw [List.map_append]; rfl, HB9.out, HK9.out, Nat.le_trans HN1.out HZ9.out⟩
  · have HMU : Aside0 (isIn multipleNames c = false ∧ 0 = 0) := ⟨by simpa using hm, rfl⟩
    clear hm
    have HM : Aside0 (∀ W, Calls Tryd.prog 46 #[.string c] W fun e w' => e = .returned (.bool false) ∧ Below W.heap.size W w') := ⟨fun W => by have := multiple c W; rwa [HMU.out.1] at this⟩
    have e5 : ¬ (0 : Int) < (0 : Int) := by have := HMU.out.2; omega
    have e6 : decide ((0 : Int) < (0 : Int)) = false := decide_eq_false e5
    go_upto_region 11 with (first
      | (go_at_call 45; (with_reducible refine (HKN.out _).mono ?_); rintro e wa ⟨rfl, hb⟩; have HBA := Aside0.mk hb; clear hb)
      | (go_at_call 46; (with_reducible refine (HM.out _).mono ?_); rintro e wb ⟨rfl, hb⟩; replace HBA := Aside0.mk (below_step HBA.out hb); clear hb; have hlk := (HL8.out.below HBA.out).look (List.mem_of_getElem? HJ.out); have hl0 : wb.cell? ⟨lb, 0, none⟩ = some (.map (some mb)) := (blk_cell (HL8.out.below HBA.out).hl 0).trans rfl; have he0 : wb.cell? ⟨eb, 1, none⟩ = some (.slice none 0 0) := (blk_cell ((HL8.out.below HBA.out).hc _ (List.mem_of_getElem? HJ.out)).1 1).trans rfl))
    obtain ⟨n1, hn1⟩ : ∃ n1, n1 = wb.heap.size := ⟨_, rfl⟩
    obtain ⟨G1, hG1⟩ : ∃ G1, G1 = tagAt G0 wb.heap.size (j + 1) := ⟨_, rfl⟩
    have HG1 : Aside0 (∀ k, n1 ≤ k → G1 k = j + 1) := ⟨fun k hk => by rw [hG1]; exact tagAt_ge (by omega)⟩
    have hLb : LSt wb w0.heap.size lb mb G1 LL V8 NS := by rw [hG1]; exact (HL8.out.below HBA.out).tag (fun k hk => tagAt_lt hk)
    have hVb : Kd.string.R 9 wb w0.heap.size (fun k => LL.length < G1 k) (.slice A l.length cp) l := by rw [hG1]; exact Kd.R_mono (Kd.R_bound (Kd.R_below HV8.out HBA.out)) (fun k hk => by have := hk.1; show LL.length < tagAt G0 wb.heap.size (j + 1) k; rw [tagAt_lt hk.2.2.1]; exact this)
    have q0 : LSt wb.drew w0.heap.size lb mb G1 LL V8 NS ∧ Below w0.heap.size w0 wb.drew ∧ Keep3 w wb.drew ∧ Kd.string.R 9 wb.drew w0.heap.size (fun k => LL.length < G1 k) (.slice A l.length cp) l ∧ n1 ≤ wb.drew.heap.size := ⟨hLb.below (below_drew1 (Below.refl _ _)), HB8.out.trans ((HBA.out.trans (below_drew1 (Below.refl _ _))).mono HB8.out.size), HK8.out.trans (Keep3.below (HBA.out.trans (below_drew1 (Below.refl _ _)))), Kd.R_below hVb (below_drew1 (Below.refl _ _)), Nat.le_of_eq hn1⟩
    have q1 : wb.drew.cell? ⟨lb, 0, none⟩ = some (.map (some mb)) := (blk_cell q0.1.hl 0).trans rfl
    have q2 := q0.1.look (List.mem_of_getElem? HJ.out)
    have q3 : wb.drew.cell? ⟨eb, 1, none⟩ = some (.slice none 0 0) := (blk_cell (q0.1.hc _ (List.mem_of_getElem? HJ.out)).1 1).trans rfl
    have HN1 : Aside0 (w.heap.size ≤ n1) := ⟨by have := HW8.out; have := HBA.out.size; omega⟩
    have HS9 := Aside0.mk q0
    clear q0 hLb hVb hG1 hn1 hlk hl0 he0
    refine start_ (n := 20) (S := fun w' => w'.cell? ⟨lb, 0, none⟩ = some (.map (some mb)) ∧ (Instr.lookup 64 (.map (some mb)) (.string c) false).run Tryd.prog w' = .ok (.pointer (some ⟨eb, 0, none⟩)) w' ∧ w'.cell? ⟨eb, 1, none⟩ = some (.slice none 0 0)) (ds := [19]) #[false, false, false, false, false, false, false, false, false, false, false, false, false, false, false, false, false, false, false, false] (by kernel_rfl) rfl rfl ⟨q1, q2, q3⟩ (fun hHeld => ?_)
    refine with_tabW capAdd11.tab11 capAdd11.bits11 (fun HT_ HW_ => ?_)
    generalize World.drew _ = wd at HS9 hHeld ⊢
    refine pure_ (i := 0) (N := some 62) (v := ?_) (a' := ?_) #[true, false, false, false, false, false, false, false, false, false, false, false, false, false, false, false, false, false, false, false] rfl rfl (any_of HT_.out (by kernel_rfl)) (fun _ _ _ h => h) (Or.inl ⟨by rfl, ?_⟩) ?_ ?_
    rotate_left
    · intro w'
      go_simp
      with_reducible rfl
    rotate_left
    · simp only [Act.put, List.setIfInBounds_toArray, List.set_cons_zero, List.set_cons_succ, i64_w, i32_w]
      rfl
    refine pure_ (i := 1) (N := some 63) (v := ?_) (a' := ?_) #[true, true, false, false, false, false, false, false, false, false, false, false, false, false, false, false, false, false, false, false] rfl rfl (any_of HT_.out (by kernel_rfl)) (fun _ _ _ h => h) (Or.inl ⟨by rfl, ?_⟩) ?_ ?_
    rotate_left
    · intro w'
      go_simp
      with_reducible rfl
    rotate_left
    · simp only [Act.put, List.setIfInBounds_toArray, List.set_cons_zero, List.set_cons_succ, i64_w, i32_w]
      rfl
    refine pure_ (i := 2) (N := some 64) (v := ?_) (a' := ?_) #[true, true, true, false, false, false, false, false, false, false, false, false, false, false, false, false, false, false, false, false] rfl rfl (any_of HT_.out (by kernel_rfl)) (fun _ _ _ h => h) (Or.inl ⟨by rfl, ?_⟩) ?_ ?_
    rotate_left
    · intro w'
      go_simp
      with_reducible rfl
    rotate_left
    · simp only [Act.put, List.setIfInBounds_toArray, List.set_cons_zero, List.set_cons_succ, i64_w, i32_w]
      rfl
    refine pure_ (i := 4) (N := some 66) (v := ?_) (a' := ?_) #[true, true, true, false, true, false, false, false, false, false, false, false, false, false, false, false, false, false, false, false] rfl rfl (any_of HT_.out (by kernel_rfl)) (fun _ _ _ h => h) (Or.inl ⟨by rfl, ?_⟩) ?_ ?_
    rotate_left
    · intro w'
      go_simp
      with_reducible rfl
    rotate_left
    · simp only [Act.put, List.setIfInBounds_toArray, List.set_cons_zero, List.set_cons_succ, i64_w, i32_w]
      rfl
    refine pure_ (i := 6) (N := some 68) (v := ?_) (a' := ?_) #[true, true, true, false, true, false, true, false, false, false, false, false, false, false, false, false, false, false, false, false] rfl rfl (any_of HT_.out (by kernel_rfl)) (fun _ _ _ h => h) (Or.inl ⟨by rfl, ?_⟩) ?_ ?_
    rotate_left
    · intro w'
      go_simp
      with_reducible rfl
    rotate_left
    · simp only [Act.put, List.setIfInBounds_toArray, List.set_cons_zero, List.set_cons_succ, i64_w, i32_w]
      rfl
    refine pure_ (i := 7) (N := some 69) (v := ?_) (a' := ?_) #[true, true, true, false, true, false, true, true, false, false, false, false, false, false, false, false, false, false, false, false] rfl rfl (any_of HT_.out (by kernel_rfl)) (fun _ _ _ h => h) (Or.inl ⟨by rfl, ?_⟩) ?_ ?_
    rotate_left
    · intro w'
      go_simp
      with_reducible rfl
    rotate_left
    · simp only [Act.put, List.setIfInBounds_toArray, List.set_cons_zero, List.set_cons_succ, i64_w, i32_w]
      rfl
    refine pure_ (i := 8) (N := some 70) (v := ?_) (a' := ?_) #[true, true, true, false, true, false, true, true, true, false, false, false, false, false, false, false, false, false, false, false] rfl rfl (any_of HT_.out (by kernel_rfl)) (fun _ _ _ h => h) (Or.inl ⟨by rfl, ?_⟩) ?_ ?_
    rotate_left
    · intro w'
      go_simp
      with_reducible rfl
    rotate_left
    · simp only [Act.put, List.setIfInBounds_toArray, List.set_cons_zero, List.set_cons_succ, i64_w, i32_w]
      rfl
    refine pure_ (i := 10) (N := some 72) (v := ?_) (a' := ?_) #[true, true, true, false, true, false, true, true, true, false, true, false, false, false, false, false, false, false, false, false] rfl rfl (any_of HT_.out (by kernel_rfl)) (fun _ _ _ h => h) (Or.inl ⟨by rfl, ?_⟩) ?_ ?_
    rotate_left
    · intro w'
      go_simp
      with_reducible rfl
    rotate_left
    · simp only [Act.put, List.setIfInBounds_toArray, List.set_cons_zero, List.set_cons_succ, i64_w, i32_w]
      rfl
    refine pure_ (i := 15) (N := some 77) (v := ?_) (a' := ?_) #[true, true, true, false, true, false, true, true, true, false, true, false, false, false, false, true, false, false, false, false] rfl rfl (any_of HT_.out (by kernel_rfl)) (fun _ _ _ h => h) (Or.inl ⟨by rfl, ?_⟩) ?_ ?_
    rotate_left
    · intro w'
      go_simp
      with_reducible rfl
    rotate_left
    · simp only [Act.put, List.setIfInBounds_toArray, List.set_cons_zero, List.set_cons_succ, i64_w, i32_w]
      rfl
    refine take_ (i := 3) (N := some 65) (v := ?_) (a' := ?_) #[true, true, true, true, true, false, true, true, true, false, true, false, false, false, false, true, false, false, false, false] rfl rfl (take_ofW HT_.out HW_.out (by kernel_rfl)) (fun _ _ _ h => h) (Or.inl ⟨by rfl, ?_⟩) hHeld ?_ ?_
    rotate_left
    · rintro w' ⟨s0, s1, s2⟩
      go_simp
      with_reducible rfl
    rotate_left
    · simp only [Act.put, List.setIfInBounds_toArray, List.set_cons_zero, List.set_cons_succ, i64_w, i32_w]
      rfl
    refine take_ (i := 5) (N := some 67) (v := ?_) (a' := ?_) #[true, true, true, true, true, true, true, true, true, false, true, false, false, false, false, true, false, false, false, false] rfl rfl (take_ofW HT_.out HW_.out (by kernel_rfl)) (fun _ _ _ h => h) (Or.inl ⟨by rfl, ?_⟩) hHeld ?_ ?_
    rotate_left
    · rintro w' ⟨s0, s1, s2⟩
      go_simp
      with_reducible rfl
    rotate_left
    · simp only [Act.put, List.setIfInBounds_toArray, List.set_cons_zero, List.set_cons_succ, i64_w, i32_w]
      rfl
    refine take_ (i := 9) (N := some 71) (v := ?_) (a' := ?_) #[true, true, true, true, true, true, true, true, true, true, true, false, false, false, false, true, false, false, false, false] rfl rfl (take_ofW HT_.out HW_.out (by kernel_rfl)) (fun _ _ _ h => h) (Or.inl ⟨by rfl, ?_⟩) hHeld ?_ ?_
    rotate_left
    · rintro w' ⟨s0, s1, s2⟩
      go_simp
      with_reducible rfl
    rotate_left
    · simp only [Act.put, List.setIfInBounds_toArray, List.set_cons_zero, List.set_cons_succ, i64_w, i32_w]
      rfl
    refine take_ (i := 11) (N := some 73) (v := ?_) (a' := ?_) #[true, true, true, true, true, true, true, true, true, true, true, true, false, false, false, true, false, false, false, false] rfl rfl (take_ofW HT_.out HW_.out (by kernel_rfl)) (fun _ _ _ h => h) (Or.inl ⟨by rfl, ?_⟩) hHeld ?_ ?_
    rotate_left
    · rintro w' ⟨s0, s1, s2⟩
      go_simp
      with_reducible rfl
    rotate_left
    · simp only [Act.put, List.setIfInBounds_toArray, List.set_cons_zero, List.set_cons_succ, i64_w, i32_w]
      rfl
    refine pure_ (i := 12) (N := some 74) (v := ?_) (a' := ?_) #[true, true, true, true, true, true, true, true, true, true, true, true, true, false, false, true, false, false, false, false] rfl rfl (any_of HT_.out (by kernel_rfl)) (fun _ _ _ h => h) (Or.inl ⟨by rfl, ?_⟩) ?_ ?_
    rotate_left
    · intro w'
      go_simp
      with_reducible rfl
    rotate_left
    · simp only [Act.put, List.setIfInBounds_toArray, List.set_cons_zero, List.set_cons_succ, i64_w, i32_w]
      rfl
    refine pure_ (i := 13) (N := some 75) (v := ?_) (a' := ?_) #[true, true, true, true, true, true, true, true, true, true, true, true, true, true, false, true, false, false, false, false] rfl rfl (any_of HT_.out (by kernel_rfl)) (fun _ _ _ h => h) (Or.inl ⟨by rfl, ?_⟩) ?_ ?_
    rotate_left
    · intro w'
      go_simp
      with_reducible rfl
    rotate_left
    · simp only [Act.put, List.setIfInBounds_toArray, List.set_cons_zero, List.set_cons_succ, i64_w, i32_w]
      rfl
    refine take_ (i := 14) (N := some 76) (v := ?_) (a' := ?_) #[true, true, true, true, true, true, true, true, true, true, true, true, true, true, true, true, false, false, false, false] rfl rfl (take_ofW HT_.out HW_.out (by kernel_rfl)) (fun _ _ _ h => h) (Or.inl ⟨by rfl, ?_⟩) hHeld ?_ ?_
    rotate_left
    · rintro w' ⟨s0, s1, s2⟩
      go_simp
      with_reducible rfl
    rotate_left
    · simp only [Act.put, List.setIfInBounds_toArray, List.set_cons_zero, List.set_cons_succ, i64_w, i32_w]
      rfl
    refine one_ (i := 16) (N := some 78) #[true, true, true, true, true, true, true, true, true, true, true, true, true, true, true, true, true, false, false, false] rfl rfl (one_of HT_.out (by kernel_rfl)) (by decide) (fun K hK => ?_)
    have hrv := (Kd.R_reads' HS9.out.2.2.2.1).2.2
    refine Kd.R_append_rows_step Kd.string (w0 := w0) w0.heap.size (by rfl) (.tmp 76) (.tmp 77) 25 9 (.string ⟨#[]⟩) 16 rfl Tryd.underlying25 info9 rfl (by decide) (by decide) (.slice none 0 0) ([] : List ByteArray) l A l.length cp (fun k => G1 k = j + 1) (fun _ => False) rfl rfl (HS9.out.1.he j _ HJ.out) hrv (fun _ _ h => h) (fun _ h => h.elim) ?hfr HS9.out.2.1 ?hbase ?hlen ?_
    case hfr => exact fun k hk => HG1.out k (Nat.le_trans HS9.out.2.2.2.2 hk)
    case hbase => exact HS9.out.2.1.size
    case hlen => have := HXL.out; have := HO.out.len; omega
    intro v7 w7 ho7 hb7 hg7 hat7
    obtain ⟨A7, n7, c7, rfl⟩ : ∃ A n c, v7 = .slice A n c := by obtain ⟨A, c, h⟩ := Kd.R_slice ho7; exact ⟨A, _, c, h⟩
    have heb7 := blk_grown (HS9.out.1.hc _ (List.mem_of_getElem? HJ.out)).1 hg7 (Kd.R_ne (HS9.out.1.he j _ HJ.out) (HS9.out.1.hc _ (List.mem_of_getElem? HJ.out)).1 (by decide))
    have HL9 : Aside0 (LSt (w7.setCell ⟨eb, 1, none⟩ (.slice A7 n7 c7)) w0.heap.size lb mb G1 (LL.set j ⟨c, [] ++ l, eb, .slice A7 n7 c7⟩) V8 NS) := ⟨HS9.out.1.vals HJ.out ho7 hg7⟩
    have HB9 : Aside0 (Below w0.heap.size w0 (w7.setCell ⟨eb, 1, none⟩ (.slice A7 n7 c7))) := ⟨below_set hb7 (HS9.out.1.hc _ (List.mem_of_getElem? HJ.out)).2⟩
    have HK9 : Aside0 (Keep3 w (w7.setCell ⟨eb, 1, none⟩ (.slice A7 n7 c7))) := ⟨HS9.out.2.2.1.trans (Keep3.put (HS9.out.1.he j _ HJ.out) hg7 (HS9.out.1.hc _ (List.mem_of_getElem? HJ.out)).1 (Or.inr rfl) 1 (.slice A7 n7 c7))⟩
    have HZ9 : Aside0 (n1 ≤ (w7.setCell ⟨eb, 1, none⟩ (.slice A7 n7 c7)).heap.size) := ⟨by rw [size_put]; exact Nat.le_trans HS9.out.2.2.2.2 hg7.size⟩
    have hc9 : w7.cell? ⟨eb, 1, none⟩ = some (.slice none 0 0) := (blk_cell heb7 1).trans rfl
    have hz9 := blk_frozen heb7 1
    have f0 : w7.cell? ⟨lb, 0, none⟩ = some (.map (some mb)) := (blk_cell (blk_grown HS9.out.1.hl hg7 (Kd.R_ne (HS9.out.1.he j _ HJ.out) HS9.out.1.hl (by decide))) 0).trans rfl
    have f1 := HS9.out.1.look_grown (List.mem_of_getElem? HJ.out) (HS9.out.1.he j _ HJ.out) hg7
    clear ho7 hb7 hg7 hat7 heb7 hrv
    refine hK.out _ _ ⟨f0, f1, hc9⟩ (fun hHeld => ?_)
    clear hK K
    refine norm_ (a' := ?_) ?_ ?_
    rotate_left
    · show Act.put _ (some 78) _ = _
      simp only [Act.put, List.setIfInBounds_toArray, List.set_cons_zero, List.set_cons_succ, i64_w, i32_w]
      rfl
    refine pure_ (i := 17) (N := some 79) (v := ?_) (a' := ?_) #[true, true, true, true, true, true, true, true, true, true, true, true, true, true, true, true, true, true, false, false] rfl rfl (any_of HT_.out (by kernel_rfl)) (fun _ _ _ h => h) (Or.inl ⟨by rfl, ?_⟩) ?_ ?_
    rotate_left
    · intro w'
      go_simp
      with_reducible rfl
    rotate_left
    · simp only [Act.put, List.setIfInBounds_toArray, List.set_cons_zero, List.set_cons_succ, i64_w, i32_w]
      rfl
    refine pure_ (i := 18) (N := some 80) (v := ?_) (a' := ?_) #[true, true, true, true, true, true, true, true, true, true, true, true, true, true, true, true, true, true, true, false] rfl rfl (any_of HT_.out (by kernel_rfl)) (fun _ _ _ h => h) (Or.inl ⟨by rfl, ?_⟩) ?_ ?_
    rotate_left
    · intro w'
      go_simp
      with_reducible rfl
    rotate_left
    · simp only [Act.put, List.setIfInBounds_toArray, List.set_cons_zero, List.set_cons_succ, i64_w, i32_w]
      rfl
    refine last_ (i := 19) (N := none) #[true, true, true, true, true, true, true, true, true, true, true, true, true, true, true, true, true, true, true, true] rfl rfl (one_of HT_.out (by kernel_rfl)) (by decide) (fun K hK => ?_)
    refine skip_ (w1 := ?_) (by rfl) rfl ?_ ?_
    rotate_left
    · go_simp
      rfl
    refine hK.out _ _ ?_
    clear hK K
    refine done_ (done_of HT_.out (by kernel_rfl)) ?_
    go_wp2
    go_ret
    exact ⟨rfl, G1, L ++ [⟨c, l, eb, .slice A7 n7 c7⟩], ⟨V8, HFIN.out _ _ _ HL9.out⟩, by rw [List.map_append]; rfl, HB9.out, HK9.out, Nat.le_trans HN1.out HZ9.out⟩
end Go.Proofs.YtbemlaalccoepaaDoor.CapE
