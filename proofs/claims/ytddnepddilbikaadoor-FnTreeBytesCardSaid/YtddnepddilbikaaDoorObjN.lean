/- Entries of trees in order: Less, sort.IsSorted, walked. -/
import Derived.Test.YtddnepddilbikaaDoorObjL
import Derived.Laws.Cover1
set_option linter.unusedVariables false
set_option linter.unusedSimpArgs false
namespace Go.Proofs.YtddnepddilbikaaDoor.ObjN
open Go.RowKit Go.Proofs.YtddnepddilbikaaDoorW.PrintWords Go.Proofs.YtddnepddilbikaaDoorW.PrintLast Go.Proofs.YtddnepddilbikaaDoorW.PrintMore Go.Proofs.YtddnepddilbikaaDoor.QAll Ptr SrtL ObjL

/-- Entries in a row of their own: nothing, or a block. -/
structure Rw (w : World) (g : Nat) (l : List S44) : Prop where
  blk : 0 < l.length → ∃ C, w.heap[g]? = some (.cells C 95 (0, 0))
  at_ : ∀ k, k < l.length → w.rangeAt g (k * 22) (cellsE (l.getD k z44))
theorem Rw.below {w w' : World} {g : Nat} {l : List S44} (h : Rw w g l) (hb : Below w.heap.size w w') : Rw w' g l :=
  ⟨fun z => by obtain ⟨C, hC⟩ := h.blk z; exact ⟨C, (hb.block g (blk_lt hC)).trans hC⟩, fun k hk j v hj => pw_cell_below hb (h.at_ k hk j v hj)⟩
/-- The name for the order. -/
def keyE (x : S44) : ByteArray := if x.f1 = 16384 then x.f0 ++ (⟨#[47]⟩ : ByteArray) else x.f0
theorem nameOf (g off : Nat) (nm : ByteArray) (md : Int) (w : World) (h0 : w.cell? ⟨g, off, none⟩ = some (.string nm)) (h1 : w.cell? ⟨g, off + 1, none⟩ = some (.int .u32 md)) (hl : nm.size ≤ 4096) :
    Calls Tryd.prog 146 #[.pointer (some ⟨g, off, none⟩)] w fun e w' => e = .returned (.string (if md = 16384 then nm ++ (⟨#[47]⟩ : ByteArray) else nm)) ∧ Below w.heap.size w w' := by
  by_cases q : md = 16384
  · rw [if_pos q]
    subst q
    go_enter Tryd.func146, Tryd.ntmps146
    go_wp2
    go_ret
    exact ⟨rfl, Below.refl _ _⟩
  · rw [if_neg q]
    have q2 : (md == 16384) = false := by simp [q]
    go_enter Tryd.func146, Tryd.ntmps146
    go_wp2
    go_ret
    exact ⟨rfl, Below.refl _ _⟩
theorem nameAt {w : World} {g : Nat} {l : List S44} (h : Rw w g l) (i : Nat) (hi : i < l.length ∧ (l.getD i z44).f0.size ≤ 4096) : Calls Tryd.prog 146 #[.pointer (some ⟨g, i * 22, none⟩)] w fun e w' => e = .returned (.string (keyE (l.getD i z44))) ∧ Below w.heap.size w w' :=
  nameOf g (i * 22) _ _ w (h.at_ i hi.1 0 _ rfl) (h.at_ i hi.1 1 _ rfl) hi.2
def less1.T1 : Bool × List (List Nat × List Nat) := (true, [([], []), ([], []), ([0, 1], [0, 1]), ([2], [2]), ([], []), ([], []), ([4, 5], [4, 5]), ([6, 3], [6]), ([3, 7], [3, 7]), ([8, 7, 0, 1, 2, 3, 4, 5, 6, 7, 8], [8])])
def less1.B1 : List Nat := [0, 0, 3, 7, 0, 0, 48, 127, 255, 511]
theorem less1.tab1 : rtab .any (opsOf Tryd.f145 1) = less1.T1 := by kernel_rfl
theorem less1.bits1 : waitsOk less1.T1.2 less1.B1 = true := by kernel_rfl
set_option maxHeartbeats 8000000 in
set_option maxRecDepth 100000 in
theorem less {w : World} {g : Nat} {l : List S44} (h : Rw w g l) (n c i j : Nat) (hn : n = l.length) (hn1 : n ≤ 1000) (hi0 : i < l.length) (hj0 : j < l.length) (hnm : ∀ s ∈ l, s.f0.size ≤ 4096) :
    Calls Tryd.prog 145 #[.slice (some ⟨g, 0, none⟩) n c, .int .i64 (i : Int), .int .i64 (j : Int)] w fun e w' => e = .returned (.bool (Op.bytesLess (keyE (l.getD i z44)).toList (keyE (l.getD j z44)).toList)) ∧ Below w.heap.size w w' := by
  have hgd : ∀ k, k < l.length → (l.getD k z44).f0.size ≤ 4096 := fun k hk => by
    rw [List.getD_eq_getElem?_getD, List.getElem?_eq_getElem hk]
    exact hnm _ (List.getElem_mem hk)
  have hi := And.intro hi0 (hgd i hi0)
  have hj := And.intro hj0 (hgd j hj0)
  have HA := Aside0.mk h
  have hi1 : (i : Int) < (n : Int) := by omega
  have hj1 : (j : Int) < (n : Int) := by omega
  clear h hnm hgd hi0 hj0 hn
  go_enter Tryd.func145, Tryd.ntmps145
  go_upto_region 1 with fail
  have q0 : Rw w.drew g l ∧ Below w.heap.size w w.drew := ⟨HA.out.below (below_drew1 (Below.refl _ _)), below_drew1 (Below.refl _ _)⟩
  refine start_ (n := 10) (S := fun w' => Rw w' g l ∧ Below w.heap.size w w') (ds := []) #[false, false, false, false, false, false, false, false, false, false] (by kernel_rfl) rfl rfl (q0) (fun hHeld => ?_)
  refine with_tabW less1.tab1 less1.bits1 (fun HT_ HW_ => ?_)
  generalize World.drew _ = wd at hHeld ⊢
  refine pure_ (i := 0) (N := some 7) (v := ?_) (a' := ?_) #[true, false, false, false, false, false, false, false, false, false] rfl rfl (any_of HT_.out (by kernel_rfl)) (fun _ _ _ h => h) (Or.inl ⟨by rfl, ?_⟩) ?_ ?_
  rotate_left
  · intro w'
    go_simp
    with_reducible rfl
  rotate_left
  · simp only [Act.put, List.setIfInBounds_toArray, List.set_cons_zero, List.set_cons_succ, i64_w, i32_w]
    rfl
  refine pure_ (i := 1) (N := some 8) (v := ?_) (a' := ?_) #[true, true, false, false, false, false, false, false, false, false] rfl rfl (any_of HT_.out (by kernel_rfl)) (fun _ _ _ h => h) (Or.inl ⟨by rfl, ?_⟩) ?_ ?_
  rotate_left
  · intro w'
    go_simp
    with_reducible rfl
  rotate_left
  · simp only [Act.put, List.setIfInBounds_toArray, List.set_cons_zero, List.set_cons_succ, i64_w, i32_w]
    rfl
  refine pure_ (i := 2) (N := some 9) (v := ?_) (a' := ?_) #[true, true, true, false, false, false, false, false, false, false] rfl rfl (any_of HT_.out (by kernel_rfl)) (fun _ _ _ h => h) (Or.inl ⟨by rfl, ?_⟩) ?_ ?_
  rotate_left
  · intro w'
    go_simp
    with_reducible rfl
  rotate_left
  · simp only [Act.put, List.setIfInBounds_toArray, List.set_cons_zero, List.set_cons_succ, i64_w, i32_w]
    rfl
  refine pure_ (i := 4) (N := some 11) (v := ?_) (a' := ?_) #[true, true, true, false, true, false, false, false, false, false] rfl rfl (any_of HT_.out (by kernel_rfl)) (fun _ _ _ h => h) (Or.inl ⟨by rfl, ?_⟩) ?_ ?_
  rotate_left
  · intro w'
    go_simp
    with_reducible rfl
  rotate_left
  · simp only [Act.put, List.setIfInBounds_toArray, List.set_cons_zero, List.set_cons_succ, i64_w, i32_w]
    rfl
  refine pure_ (i := 5) (N := some 12) (v := ?_) (a' := ?_) #[true, true, true, false, true, true, false, false, false, false] rfl rfl (any_of HT_.out (by kernel_rfl)) (fun _ _ _ h => h) (Or.inl ⟨by rfl, ?_⟩) ?_ ?_
  rotate_left
  · intro w'
    go_simp
    with_reducible rfl
  rotate_left
  · simp only [Act.put, List.setIfInBounds_toArray, List.set_cons_zero, List.set_cons_succ, i64_w, i32_w]
    rfl
  refine pure_ (i := 6) (N := some 13) (v := ?_) (a' := ?_) #[true, true, true, false, true, true, true, false, false, false] rfl rfl (any_of HT_.out (by kernel_rfl)) (fun _ _ _ h => h) (Or.inl ⟨by rfl, ?_⟩) ?_ ?_
  rotate_left
  · intro w'
    go_simp
    with_reducible rfl
  rotate_left
  · simp only [Act.put, List.setIfInBounds_toArray, List.set_cons_zero, List.set_cons_succ, i64_w, i32_w]
    rfl
  refine one_ (i := 3) (N := some 10) #[true, true, true, true, true, true, true, false, false, false] rfl rfl (one_of HT_.out (by kernel_rfl)) (by decide) (fun K hK => ?_)
  refine goes_ Tryd.func146 (by kernel_rfl) rfl #[.pointer (some ⟨g, i * 22, none⟩)] (by rfl) rfl rfl (by simp only [List.map_toArray, List.map_cons, List.map_nil]; rfl) ?_
  with_reducible refine ((nameAt hHeld.1 i hi)).mono ?_
  rintro e w3 ⟨rfl, hb3⟩
  refine ⟨_, rfl, ?_⟩
  refine hK.out _ _ (⟨hHeld.1.below hb3, hHeld.2.trans (hb3.mono hHeld.2.size)⟩) (fun hHeld => ?_)
  clear hK K
  refine norm_ (a' := ?_) ?_ ?_
  rotate_left
  · show Act.put _ (some 10) _ = _
    simp only [Act.put, List.setIfInBounds_toArray, List.set_cons_zero, List.set_cons_succ, i64_w, i32_w]
    rfl
  refine one_ (i := 7) (N := some 14) #[true, true, true, true, true, true, true, true, false, false] rfl rfl (one_of HT_.out (by kernel_rfl)) (by decide) (fun K hK => ?_)
  refine goes_ Tryd.func146 (by kernel_rfl) rfl #[.pointer (some ⟨g, j * 22, none⟩)] (by rfl) rfl rfl (by simp only [List.map_toArray, List.map_cons, List.map_nil]; rfl) ?_
  with_reducible refine ((nameAt hHeld.1 j hj)).mono ?_
  rintro e w7 ⟨rfl, hb7⟩
  refine ⟨_, rfl, ?_⟩
  refine hK.out _ _ (⟨hHeld.1.below hb7, hHeld.2.trans (hb7.mono hHeld.2.size)⟩) (fun hHeld => ?_)
  clear hK K
  refine norm_ (a' := ?_) ?_ ?_
  rotate_left
  · show Act.put _ (some 14) _ = _
    simp only [Act.put, List.setIfInBounds_toArray, List.set_cons_zero, List.set_cons_succ, i64_w, i32_w]
    rfl
  refine pure_ (i := 8) (N := some 15) (v := ?_) (a' := ?_) #[true, true, true, true, true, true, true, true, true, false] rfl rfl (any_of HT_.out (by kernel_rfl)) (fun _ _ _ h => h) (Or.inl ⟨by rfl, ?_⟩) ?_ ?_
  rotate_left
  · intro w'
    go_simp
    with_reducible rfl
  rotate_left
  · simp only [Act.put, List.setIfInBounds_toArray, List.set_cons_zero, List.set_cons_succ, i64_w, i32_w]
    rfl
  refine pure_ (i := 9) (N := some 6) (v := ?_) (a' := ?_) #[true, true, true, true, true, true, true, true, true, true] rfl rfl (any_of HT_.out (by kernel_rfl)) (fun _ _ _ h => h) (Or.inl ⟨by rfl, ?_⟩) ?_ ?_
  rotate_left
  · intro w'
    go_simp
    with_reducible rfl
  rotate_left
  · simp only [Act.put, List.setIfInBounds_toArray, List.set_cons_zero, List.set_cons_succ, i64_w, i32_w]
    rfl
  refine done_ (done_of HT_.out (by kernel_rfl)) ?_
  have HFF := Aside0.mk hHeld.2
  clear hHeld
  go_wp2
  go_ret
  refine ⟨?_, HFF.out⟩
  simp only [List.getD_eq_getElem?_getD, List.getElem?_eq_getElem hi.1, List.getElem?_eq_getElem hj.1, Option.getD_some]
  rfl
set_option maxHeartbeats 8000000 in
set_option maxRecDepth 100000 in
theorem len (A : Option Addr) (n c : Nat) (w : World) : Calls Tryd.prog 144 #[.slice A n c] w fun e w' => e = .returned (.int .i64 (n : Nat)) ∧ Below w.heap.size w w' := by
  go_enter Tryd.func144, Tryd.ntmps144
  go_wp2
  go_ret
  exact ⟨rfl, Below.refl _ _⟩
theorem found104 (nm : String) (f : Nat) (h : (Tryd.prog.info? 104).map (fun i => (i.methods.find? (fun m => m.name == nm)).map (fun m => (m.path, m.func))) = some (some (#[], some (f, false)))) (n : Nat) (v : Value) (W : World) : (method (n + 1) 104 v nm).run Tryd.prog W = .ok (f, v) W := by
  obtain ⟨i, hi, h1⟩ := Option.map_eq_some_iff.1 h
  obtain ⟨m, hm, h2⟩ := Option.map_eq_some_iff.1 h1
  simp only [Prod.mk.injEq] at h2
  unfold method
  simp [typeInfo, hi, hm, h2.1, h2.2, follow, receiverAt, Place.get, Tryd.underlying104]
theorem mLen (n : Nat) (v : Value) (W : World) : (method (n + 1) 104 v "Len").run Tryd.prog W = .ok (144, v) W := found104 "Len" 144 (by kernel_rfl) n v W
theorem mLess (n : Nat) (v : Value) (W : World) : (method (n + 1) 104 v "Less").run Tryd.prog W = .ok (145, v) W := found104 "Less" 145 (by kernel_rfl) n v W
/-- Each entry behind the last by its name for the order. -/
def Sorted (l : List S44) : Prop := ∀ k, k + 1 < l.length → Op.bytesLess (keyE (l.getD (k + 1) z44)).toList (keyE (l.getD k z44)).toList = false
set_option maxHeartbeats 8000000 in
set_option maxRecDepth 100000 in
theorem isSorted {w : World} {g : Nat} {l : List S44} {A : Option Addr} (h : Rw w g l) (c : Nat) (hA : 0 < l.length → A = some ⟨g, 0, none⟩) (hn1 : l.length ≤ 1000) (hnm : ∀ s ∈ l, s.f0.size ≤ 4096) (hs : Sorted l) :
    Calls Tryd.prog 45 #[.iface 104 (.slice A l.length c)] w fun e w' => e = .returned (.bool true) ∧ Below w.heap.size w w' := by
  have H := Aside0.mk h
  have HAA := Aside0.mk hA
  have HN := Aside0.mk hnm
  have HS := Aside0.mk hs
  have HN1 := Aside0.mk hn1
  have hm1 := fun v W => mLen 328/-FUEL-/ v W
  have hm2 := fun v W => mLess 328/-FUEL-/ v W
  have hw0 : wrap64 ((l.length : Int) - 1) = (l.length : Int) - 1 := by unfold wrap64; omega
  clear h hA hnm hs hn1
  obtain ⟨n, hn⟩ : ∃ n, n = l.length := ⟨_, rfl⟩
  rw [← hn] at hw0 ⊢
  have HW0 := Aside0.mk hw0
  clear hw0
  have HNL := Aside0.mk hn
  clear hn
  go_enter Tryd.func45, Tryd.ntmps45
  go_wp2_with (first
    | (go_at_call 144
       (with_reducible refine (len A n c _).mono ?_)
       rintro x w1 ⟨rfl, hb1⟩
       have HB1 := Aside0.mk hb1
       clear hb1)
    | fail)
  go_loopg [4] n (fun gk v4 w' => v4 = .int .i64 ((gk : Int) - 1) ∧ Aside0 (gk ≤ n) ∧ Aside0 (Below w.heap.size w w'))
  case atStart => exact ⟨by rw [HW0.out], ⟨Nat.le_refl _⟩, HB1⟩
  case round =>
    obtain ⟨rfl, HK, HB⟩ := hrel
    by_cases hgt : 1 < gk
    · obtain ⟨m, rfl⟩ : ∃ m, gk = m + 2 := ⟨gk - 2, by omega⟩
      have hlt : m + 1 < n := by have := HK.out; omega
      have hAe := HAA.out (by have := HNL.out; omega)
      subst hAe
      have HLS : Aside0 (Calls Tryd.prog 145 #[.slice (some ⟨g, 0, none⟩) n c, .int .i64 ((m : Int) + 1), .int .i64 (m : Int)] wr fun e w' => e = .returned (.bool false) ∧ Below wr.heap.size wr w') := ⟨by
        have h := less (H.out.below HB.out) n c (m + 1) m HNL.out (by have := HNL.out; have := HN1.out; omega) (by have := HNL.out; omega) (by have := HNL.out; omega) HN.out
        rw [HS.out m (by have := HNL.out; omega)] at h
        exact h⟩
      have hmn : m < 1000 := by have := HNL.out; have := HN1.out; omega
      have hw1 : wrap64 ((m : Int) + 1 - 1) = (m : Int) := by clear HLS; unfold wrap64; omega
      have e1 : (((m + 2 : Nat) : Int) - 1) = (m : Int) + 1 := by omega
      rw [e1]
      have d1 : decide (0 < (m : Int) + 1) = true := decide_eq_true (by omega)
      clear hlt
      go_wp2_with (first
        | (go_at_call 145
           (with_reducible refine HLS.out.mono ?_)
           rintro x w2 ⟨rfl, hb⟩
           have HB2 := Aside0.mk (HB.out.trans (hb.mono HB.out.size))
           clear hb)
        | fail)
      go_roundg (m + 1)
      case measure => omega
      case rel => exact ⟨by congr 1; omega, ⟨by have := HK.out; omega⟩, HB2⟩
    · rcases (show gk = 0 ∨ gk = 1 by omega) with rfl | rfl
      all_goals
        clear hgt
        go_wp2
        go_ret
        exact ⟨rfl, HB.out⟩
end Go.Proofs.YtddnepddilbikaaDoor.ObjN
