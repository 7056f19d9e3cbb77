/- impl.capList, walked. -/
import Derived.Test.YtbemlaalccoepaaDoorCapE
set_option linter.unusedVariables false
set_option linter.unusedSimpArgs false
namespace Go.Proofs.YtbemlaalccoepaaDoor.CapF
open Go.RowKit Go.Proofs.YtbemlaalccoepaaDoorW.PrintWords Go.Proofs.YtbemlaalccoepaaDoorW.PrintLast Go.Proofs.YtbemlaalccoepaaDoorW.PrintMore Go.Proofs.YtbemlaalccoepaaDoor.QAll Txt SMap CapA Ptr CapB CapC CapD CapE

/-- The state while new memory is made. -/
structure St (w : World) (b0 lb mb : Nat) (G : Nat → Nat) (L : List Ent) (V : Value) (n0 : Nat) (w' : World) : Prop where
  l : LSt w' b0 lb mb G L V (L.map Ent.n)
  b : Below w.heap.size w w'
  n : n0 ≤ w'.heap.size
  o : ∀ k, n0 ≤ k → L.length < G k
theorem St.below {w w1 w2 : World} {b0 lb mb n0 : Nat} {G : Nat → Nat} {L : List Ent} {V : Value} (h : St w b0 lb mb G L V n0 w1) (hb : Below w1.heap.size w1 w2) : St w b0 lb mb G L V n0 w2 :=
  ⟨h.l.below hb, h.b.trans (hb.mono h.b.size), Nat.le_trans h.n hb.size, h.o⟩
theorem LSt.grown {w w' : World} {b0 lb mb b1 : Nat} {G : Nat → Nat} {L : List Ent} {V v : Value} {ns xs : List ByteArray} {ok : Nat → Prop} (h : LSt w b0 lb mb G L V ns) (hR : Kd.string.R 9 w b1 ok v xs) (hok : ∀ k, ok k → L.length < G k) (hg : w.grownBy w' v.ownBlock) : LSt w' b0 lb mb G L V ns := by
  have hne : ∀ (g t : Nat) (cs : Array Value), w.heap[g]? = some (.cells cs t (0, 0)) → t ≠ 9 → w'.heap[g]? = some (.cells cs t (0, 0)) := fun g t cs hx ht => blk_grown hx hg (Kd.R_ne hR hx (fun e => ht e.symm))
  refine ⟨hne _ _ _ h.hl (by decide), h.hlb, h.hmb, h.hm.of_heap (hg.block mb h.hm.lt (fun q => ?_)), Kd.R_grown h.hs hg (fun k hk q => ?_), fun e he => ⟨hne _ _ _ (h.hc e he).1 (by decide), (h.hc e he).2⟩, fun j e hj => Kd.R_grown (h.he j e hj) hg (fun k hk q => ?_), h.nd, h.bd⟩
  · obtain ⟨cells, hx⟩ := own_typed (Kd.R_own hR).choose_spec mb q.symm
    exact h.hm.ne hx rfl
  · have := hok k (hR.1 k q.symm)
    omega
  · have := hok k (hR.1 k q.symm)
    have := (List.getElem?_eq_some_iff.1 hj).1
    omega
theorem St.grown {w w1 w2 : World} {b0 lb mb n0 b1 : Nat} {G : Nat → Nat} {L : List Ent} {V v : Value} {xs : List ByteArray} (h : St w b0 lb mb G L V n0 w1) (hR : Kd.string.R 9 w1 b1 (fun k => n0 ≤ k) v xs) (hg : w1.grownBy w2 v.ownBlock) (hb : Below w.heap.size w w2) : St w b0 lb mb G L V n0 w2 :=
  ⟨LSt.grown h.l hR h.o hg, hb, Nat.le_trans h.n hg.size, h.o⟩
theorem empty_row {w : World} {b0 n0 : Nat} (hn : n0 ≤ w.heap.size) (hb : b0 ≤ w.heap.size) : Kd.string.R 9 (w.alloc (.cells #[] 9)) b0 (fun k => n0 ≤ k) (.slice (some ⟨w.heap.size, 0, none⟩) 0 0) [] := by
  have h := own_lit_of (enc := Value.string) w b0 9 [] hb (by show (0 : Nat) ≤ 9223372036854775807; omega)
  exact Kd.R_of_own (xs := []) h (fun k hk => by
    have : w.heap.size = k := by simpa [Value.ownBlock] using hk
    omega)
def capList5.T5 : Bool × List (List Nat × List Nat) := (true, [([], []), ([], []), ([1], [1]), ([], []), ([], []), ([4], [4]), ([3, 5], [3, 5]), ([0, 2, 6, 6], [0, 2, 6]), ([7], [7])])
def capList5.B5 : List Nat := [0, 0, 2, 0, 0, 16, 56, 127, 255]
theorem capList5.tab5 : rtab .any (opsOf Tryd.f15 5) = capList5.T5 := by kernel_rfl
theorem capList5.bits5 : waitsOk capList5.T5.2 capList5.B5 = true := by kernel_rfl

set_option maxHeartbeats 8000000 in
set_option maxRecDepth 100000 in
theorem capList (A : Option Addr) (c : Nat) (l : List S27) (w : World) (hC : Kd.C k27 w A l.length l) (hok : ∀ s ∈ l, OkCap s.f0 s.f1) (hnd : (l.map S27.f0).Nodup) (hl : l.length ≤ 60) :
    Calls Tryd.prog 15 #[.slice A l.length c] w fun e w' => e = .returned (.tuple #[.pointer (some ⟨w.heap.size + 1, 0, none⟩), .bool true]) ∧ ∃ G L V, LSt w' w.heap.size (w.heap.size + 1) w.heap.size G L V (L.map Ent.n) ∧ L.map Ent.cap = l ∧ Below w.heap.size w w' := by
  have HC := Aside0.mk hC
  have HOL := Aside0.mk hok
  have HND := Aside0.mk hnd
  have HLE := Aside0.mk hl
  clear hC hok hnd hl
  have HL0 := Aside0.mk (newLSt w (fun _ => 0))
  have HB0 : Aside0 (Below w.heap.size w ((w.alloc (.map #[] 0)).alloc (.cells #[.map (some w.heap.size), .slice none 0 0] 66))) := ⟨(below_alloc (Below.refl _ _) _).trans ((below_alloc (Below.refl _ _) _).mono (below_alloc (Below.refl w.heap.size w) _).size)⟩
  have hu27 := Tryd.underlying27
  go_enter Tryd.func15, Tryd.ntmps15
  go_upto_region 2 with (first | (go_at_call 19; (with_reducible refine (newList _).mono ?_); rintro e w1 ⟨rfl, hw⟩; rw [← hw] at HL0 HB0; clear hw))
  obtain ⟨lb, hlb⟩ : ∃ lb, lb = w.heap.size + 1 := ⟨_, rfl⟩
  rw [← hlb] at HL0
  simp only [← hlb]
  obtain ⟨mb, hmb⟩ : ∃ mb, mb = w.heap.size := ⟨_, rfl⟩
  obtain ⟨b0, hb0⟩ : ∃ b0, b0 = w.heap.size := ⟨_, rfl⟩
  have HBE := Aside0.mk hb0
  have HL1 : Aside0 (LSt w1 b0 lb mb (fun _ => 0) [] (.slice none 0 0) []) := ⟨by rw [hmb, hb0]; exact HL0.out⟩
  have HFIN : Aside0 (∀ W G L V, LSt W b0 lb mb G L V (L.map Ent.n) → LSt W w.heap.size (w.heap.size + 1) w.heap.size G L V (L.map Ent.n)) := ⟨fun W G L V h => by rw [hmb, hb0, hlb] at h; exact h⟩
  have HLB := Aside0.mk hlb
  clear hlb hmb hb0 HL0
  go_wp2
  go_loopg [10] l.length (fun gk v10 w' => ∃ (k : Nat) (G : Nat → Nat) (L : List Ent) (V : Value), v10 = .int .i64 (k : Int) ∧ Aside0 (k + gk = l.length) ∧ Aside0 (LSt w' b0 lb mb G L V (L.map Ent.n)) ∧ Aside0 (L.map Ent.cap = l.take k) ∧ Aside0 (Below w.heap.size w w'))
  case atStart => exact ⟨0, _, [], _, rfl, ⟨by omega⟩, HL1, ⟨rfl⟩, HB0⟩
  case round =>
    obtain ⟨k, G, L, V, rfl, HK, HL, HLC, HB⟩ := hrel
    by_cases hlt : k < l.length
    rotate_left
    · obtain rfl : k = l.length := by have := HK.out; omega
      go_wp2
      go_ret2
      exact ⟨by rw [← HLB.out]; rfl, G, L, V, HFIN.out _ _ _ _ HL.out, by rw [HLC.out, List.take_length], HB.out⟩
    obtain ⟨g0, rfl⟩ : ∃ m, gk = m + 1 := ⟨gk - 1, by have := HK.out; omega⟩
    have hk1 : (k : Int) < (l.length : Int) := by omega
    obtain ⟨ad, A1, c1, rfl, hx0, hx1, l1, g1⟩ := at_T27 (Kd.C_below HC.out HB.out) (k : Int) (by omega) hk1
    have hsk : rd_T27 l (k : Int) = l[k] := by unfold rd_T27; simp [hlt]
    rw [hsk, Int.toNat_natCast] at hx0 hx1
    rw [hsk] at l1 g1
    obtain ⟨s, hs⟩ : ∃ s, s = l[k] := ⟨_, rfl⟩
    rw [← hs] at hx0 hx1 l1 g1
    have HOK := Aside0.mk (HOL.out s (by rw [hs]; exact List.getElem_mem hlt))
    have HNE : Aside0 (∀ e ∈ L, e.n ≠ s.f0) := ⟨fun e he e2 => by
      have h1 : e.n ∈ (l.take k).map S27.f0 := by
        rw [← HLC.out, List.map_map]
        exact List.mem_map.2 ⟨e, he, rfl⟩
      have h2 := HND.out
      rw [← List.take_append_drop k l, List.map_append, List.nodup_append] at h2
      refine h2.2.2 _ h1 _ ?_ e2
      rw [List.drop_eq_getElem_cons hlt, ← hs]
      simp⟩
    have HTK : Aside0 (l.take (k + 1) = l.take k ++ [s]) := ⟨by rw [List.take_succ_eq_append_getElem hlt, hs]⟩
    have HLL : Aside0 (L.length ≤ 1000) := ⟨by
      have := congrArg List.length HLC.out
      rw [List.length_map, List.length_take] at this
      have := HLE.out
      omega⟩
    have HWK : Aside0 (wrap64 ((k : Int) + 1) = ((k + 1 : Nat) : Int)) := ⟨by have := HLE.out; unfold wrap64; omega⟩
    have HLN := Aside0.mk HOK.out.len
    have HG1 := Aside0.mk g1
    clear hsk hs l1 g1
    go_upto_region 5 with fail
    have hg0 : (wr.alloc (.cells #[.string s.f0, .slice A1 s.f1.length c1] 27)).heap[wr.heap.size]? = some (.cells #[.string s.f0, .slice A1 s.f1.length c1] 27 (0, 0)) := blk_new _ _
    have HBA : Aside0 (Below wr.heap.size wr (wr.alloc (.cells #[.string s.f0, .slice A1 s.f1.length c1] 27))) := ⟨below_alloc (Below.refl _ _) _⟩
    generalize wr.alloc (.cells #[.string s.f0, .slice A1 s.f1.length c1] 27) = wa at hg0 HBA ⊢
    obtain ⟨gc, hgc⟩ : ∃ gc, gc = wr.heap.size := ⟨_, rfl⟩
    rw [← hgc] at hg0
    simp only [← hgc]
    clear hgc hx0 hx1
    obtain ⟨n0, hn0⟩ : ∃ n0, n0 = wa.heap.size := ⟨_, rfl⟩
    obtain ⟨GG, hGG⟩ : ∃ GG, GG = tagAt G wa.heap.size (L.length + 2) := ⟨_, rfl⟩
    have HGG : Aside0 (∀ k, n0 ≤ k → GG k = L.length + 2) := ⟨fun k hk => by rw [hGG]; exact tagAt_ge (by omega)⟩
    have HLA : Aside0 (LSt wa b0 lb mb GG L V (L.map Ent.n)) := ⟨by rw [hGG]; exact (HL.out.below HBA.out).tag (fun k hk => tagAt_lt hk)⟩
    have HSD : Aside0 (St w b0 lb mb GG L V n0 wa.drew ∧ Kd.string.C wa.drew A1 s.f1.length s.f1) := ⟨⟨HLA.out.below (below_drew1 (Below.refl _ _)), HB.out.trans ((HBA.out.trans ((below_drew1 (Below.refl _ _)).mono HBA.out.size)).mono HB.out.size), Nat.le_of_eq hn0, fun k hk => by rw [HGG.out k hk]; omega⟩, Kd.C_below HG1.out (HBA.out.trans ((below_drew1 (Below.refl _ _)).mono HBA.out.size))⟩
    have q0 : wa.drew.heap[gc]? = some (.cells #[.string s.f0, .slice A1 s.f1.length c1] 27 (0, 0)) := hg0
    have q1 : wa.drew.cell? ⟨gc, 0, none⟩ = some (.string s.f0) := (blk_cell q0 0).trans rfl
    have q2 : wa.drew.cell? ⟨gc, 1, none⟩ = some (.slice A1 s.f1.length c1) := (blk_cell q0 1).trans rfl
    clear hn0 hGG hg0
    refine start_ (n := 9) (S := fun w' => w'.heap[gc]? = some (.cells #[.string s.f0, .slice A1 s.f1.length c1] 27 (0, 0)) ∧ w'.cell? ⟨gc, 0, none⟩ = some (.string s.f0) ∧ w'.cell? ⟨gc, 1, none⟩ = some (.slice A1 s.f1.length c1)) (ds := [7]) #[false, false, false, false, false, false, false, false, false] (by kernel_rfl) rfl rfl ⟨q0, q1, q2⟩ (fun hHeld => ?_)
    refine with_tabW capList5.tab5 capList5.bits5 (fun HT_ HW_ => ?_)
    generalize World.drew _ = wd at HSD hHeld ⊢
    refine pure_ (i := 0) (N := some 14) (v := ?_) (a' := ?_) #[true, false, false, false, false, false, false, false, false] rfl rfl (any_of HT_.out (by kernel_rfl)) (fun _ _ _ h => h) (Or.inl ⟨by rfl, ?_⟩) ?_ ?_
    rotate_left
    · intro w'
      go_simp
      with_reducible rfl
    rotate_left
    · simp only [Act.put, List.setIfInBounds_toArray, List.set_cons_zero, List.set_cons_succ, i64_w, i32_w]
      rfl
    refine pure_ (i := 1) (N := some 15) (v := ?_) (a' := ?_) #[true, true, false, false, false, false, false, false, false] rfl rfl (any_of HT_.out (by kernel_rfl)) (fun _ _ _ h => h) (Or.inl ⟨by rfl, ?_⟩) ?_ ?_
    rotate_left
    · intro w'
      go_simp
      with_reducible rfl
    rotate_left
    · simp only [Act.put, List.setIfInBounds_toArray, List.set_cons_zero, List.set_cons_succ, i64_w, i32_w]
      rfl
    refine pure_ (i := 4) (N := some 18) (v := ?_) (a' := ?_) #[true, true, false, false, true, false, false, false, false] rfl rfl (any_of HT_.out (by kernel_rfl)) (fun _ _ _ h => h) (Or.inl ⟨by rfl, ?_⟩) ?_ ?_
    rotate_left
    · intro w'
      go_simp
      with_reducible rfl
    rotate_left
    · simp only [Act.put, List.setIfInBounds_toArray, List.set_cons_zero, List.set_cons_succ, i64_w, i32_w]
      rfl
    refine take_ (i := 2) (N := some 16) (v := ?_) (a' := ?_) #[true, true, true, false, true, false, false, false, false] rfl rfl (take_ofW HT_.out HW_.out (by kernel_rfl)) (fun _ _ _ h => h) (Or.inl ⟨by rfl, ?_⟩) hHeld ?_ ?_
    rotate_left
    · rintro w' ⟨s0, s1, s2⟩
      go_simp
      with_reducible rfl
    rotate_left
    · simp only [Act.put, List.setIfInBounds_toArray, List.set_cons_zero, List.set_cons_succ, i64_w, i32_w]
      rfl
    refine take_ (i := 5) (N := some 19) (v := ?_) (a' := ?_) #[true, true, true, false, true, true, false, false, false] rfl rfl (take_ofW HT_.out HW_.out (by kernel_rfl)) (fun _ _ _ h => h) (Or.inl ⟨by rfl, ?_⟩) hHeld ?_ ?_
    rotate_left
    · rintro w' ⟨s0, s1, s2⟩
      go_simp
      with_reducible rfl
    rotate_left
    · simp only [Act.put, List.setIfInBounds_toArray, List.set_cons_zero, List.set_cons_succ, i64_w, i32_w]
      rfl
    refine one_ (i := 3) (N := some 17) #[true, true, true, true, true, true, false, false, false] rfl rfl (one_of HT_.out (by kernel_rfl)) (by decide) (fun K hK => ?_)
    refine value_ (w1 := ?_) (v := ?_) (by rfl) rfl ?_ ?_
    rotate_left 2
    · go_simp
      constructor
      · rfl
      · rfl
    have HS3 : Aside0 (St w b0 lb mb GG L V n0 (wd.alloc (.cells #[] 9)) ∧ Kd.string.R 9 (wd.alloc (.cells #[] 9)) w.heap.size (fun k => n0 ≤ k) (.slice (some ⟨wd.heap.size, 0, none⟩) 0 0) [] ∧ Kd.string.C (wd.alloc (.cells #[] 9)) A1 s.f1.length s.f1) := ⟨HSD.out.1.below (below_alloc (Below.refl _ _) _), empty_row HSD.out.1.n HSD.out.1.b.size, Kd.C_below HSD.out.2 (below_alloc (Below.refl _ _) _)⟩
    have f0 := blk_alloc hHeld.1 (.cells #[] 9)
    refine hK.out _ _ ⟨f0, ((blk_cell f0 0).trans rfl), ((blk_cell f0 1).trans rfl)⟩ (fun hHeld => ?_)
    clear hK K
    refine norm_ (a' := ?_) ?_ ?_
    rotate_left
    · show Act.put _ (some 17) _ = _
      simp only [Act.put, List.setIfInBounds_toArray, List.set_cons_zero, List.set_cons_succ, i64_w, i32_w]
      rfl
    refine one_ (i := 6) (N := some 20) #[true, true, true, true, true, true, true, false, false] rfl rfl (one_of HT_.out (by kernel_rfl)) (by decide) (fun K hK => ?_)
    refine Kd.R_append_rows_step Kd.string (w0 := w) w.heap.size (by rfl) (.tmp 17) (.tmp 19) 25 9 (.string ⟨#[]⟩) 16 rfl Tryd.underlying25 CapE.info9 rfl (by decide) (by decide) (.slice (some ⟨wd.heap.size, 0, none⟩) 0 0) [] s.f1 A1 s.f1.length c1 (fun k => n0 ≤ k) (fun _ => False) rfl rfl HS3.out.2.1 HS3.out.2.2 (fun _ _ h => h) (fun _ h => h.elim) ?hfr HS3.out.1.b ?hbase ?hlen ?_
    case hfr => exact fun k hk => Nat.le_trans HS3.out.1.n hk
    case hbase => exact HS3.out.1.b.size
    case hlen => have := HLN.out; simp; omega
    intro v7 w7 ho7 hb7 hg7 hat7
    replace ho7 : Kd.string.R 9 w7 w.heap.size (fun k => n0 ≤ k) v7 s.f1 := ho7
    obtain ⟨A7, c7, rfl⟩ := Kd.R_slice ho7
    have HS7 : Aside0 (St w b0 lb mb GG L V n0 w7 ∧ Kd.string.R 9 w7 w.heap.size (fun k => L.length + 1 < GG k) (.slice A7 s.f1.length c7) s.f1) := ⟨HS3.out.1.grown HS3.out.2.1 hg7 hb7, Kd.R_mono ho7 (fun k hk => by rw [HGG.out k hk]; omega)⟩
    have f0 := blk_grown hHeld.1 hg7 (Kd.R_ne HS3.out.2.1 hHeld.1 (by decide))
    clear ho7 hb7 hg7 hat7
    refine hK.out _ _ ⟨f0, ((blk_cell f0 0).trans rfl), ((blk_cell f0 1).trans rfl)⟩ (fun hHeld => ?_)
    clear hK K
    refine norm_ (a' := ?_) ?_ ?_
    rotate_left
    · show Act.put _ (some 20) _ = _
      simp only [Act.put, List.setIfInBounds_toArray, List.set_cons_zero, List.set_cons_succ, i64_w, i32_w]
      rfl
    refine last_ (i := 7) (N := some 21) #[true, true, true, true, true, true, true, true, false] rfl rfl (one_of HT_.out (by kernel_rfl)) (by decide) (fun K hK => ?_)
    refine goes_ Tryd.func31 (by kernel_rfl) rfl #[.pointer (some ⟨lb, 0, none⟩), .string s.f0, .slice A7 s.f1.length c7] (by rfl) rfl rfl (by simp only [List.map_toArray, List.map_cons, List.map_nil]; rfl) ?_
    with_reducible refine (addNew lb mb GG L V s.f0 A7 c7 s.f1 w _ HS7.out.1.b (by rw [← HBE.out]; exact HS7.out.1.l) HNE.out HOK.out HS7.out.2 HLL.out).mono ?_
    rintro e w8 ⟨rfl, G8, L8, V8, hl8, hc8, hb8, hk8, hz8⟩
    refine ⟨_, rfl, ?_⟩
    have HL8 := Aside0.mk hl8
    have HC8 := Aside0.mk hc8
    have HB8 := Aside0.mk hb8
    clear hl8 hc8 hb8 hk8 hz8
    refine hK.out _ _ ?_
    clear hK K
    refine norm_ (a' := ?_) ?_ ?_
    rotate_left
    · show Act.put _ (some 21) _ = _
      simp only [Act.put, List.setIfInBounds_toArray, List.set_cons_zero, List.set_cons_succ, i64_w, i32_w]
      rfl
    refine pure_ (i := 8) (N := some 22) (v := ?_) (a' := ?_) #[true, true, true, true, true, true, true, true, true] rfl rfl (any_of HT_.out (by kernel_rfl)) (fun _ _ _ h => h) (Or.inl ⟨by rfl, ?_⟩) ?_ ?_
    rotate_left
    · intro w'
      go_simp
      with_reducible rfl
    rotate_left
    · simp only [Act.put, List.setIfInBounds_toArray, List.set_cons_zero, List.set_cons_succ, i64_w, i32_w]
      rfl
    refine done_ (done_of HT_.out (by kernel_rfl)) ?_
    go_wp2
    go_roundg g0
    case measure => omega
    case rel => exact ⟨k + 1, G8, L8, V8, by rw [HWK.out], ⟨by have := HK.out; omega⟩, ⟨by rw [HBE.out]; exact HL8.out⟩, ⟨by rw [HC8.out, HLC.out, HTK.out]⟩, HB8⟩
#print axioms capList
end Go.Proofs.YtbemlaalccoepaaDoor.CapF
