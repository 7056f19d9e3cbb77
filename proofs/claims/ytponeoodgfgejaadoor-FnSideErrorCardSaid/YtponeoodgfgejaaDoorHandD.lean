/- Scanner.readPayloadLen, walked. Scanner.readPayloadLen where a whole number is read, bytes.HasPrefix, pktline.errPrefix, walked. -/
import Derived.Test.YtponeoodgfgejaaDoorHandC
set_option linter.unusedVariables false
set_option linter.unusedSimpArgs false
namespace Go.Proofs.YtponeoodgfgejaaDoor.HandD
open Go.RowKit Go.Proofs.YtponeoodgfgejaaDoorW.PrintWords Go.Proofs.YtponeoodgfgejaaDoorW.PrintLast Go.Proofs.YtponeoodgfgejaaDoorW.PrintMore Go.Proofs.YtponeoodgfgejaaDoor.QAll Txt PureA HandA HandB HandC

/-- The cells of a Scanner over the reader rb. -/
def scC (rb : Nat) (eV PV : Value) (ds : List Value) : List Value := .iface 69 (.pointer (some ⟨rb, 0, none⟩)) :: eV :: PV :: ds
/-- The errors that are told apart. -/
structure Sent (w : World) (aE aU aI : Addr) : Prop where
  e : w.cell? ⟨0, 0, none⟩ = some (.iface 126 (.pointer (some aE)))
  u : w.cell? ⟨2, 0, none⟩ = some (.iface 126 (.pointer (some aU)))
  i : w.cell? ⟨3, 0, none⟩ = some (.iface 126 (.pointer (some aI)))
  be : ∃ cs t, w.heap[aE.block]? = some (.cells cs t (0, 0))
  bu : ∃ cs t, w.heap[aU.block]? = some (.cells cs t (0, 0))
  bi : ∃ cs t, w.heap[aI.block]? = some (.cells cs t (0, 0))
  eu : aE ≠ aU
  ie : aI ≠ aE
theorem Sent.below {w W : World} {aE aU aI : Addr} (h : Sent w aE aU aI) (hb : Below w.heap.size w W) : Sent W aE aU aI := by
  obtain ⟨c1, t1, h1⟩ := h.be
  obtain ⟨c2, t2, h2⟩ := h.bu
  obtain ⟨c3, t3, h3⟩ := h.bi
  exact ⟨pw_cell_below hb h.e, pw_cell_below hb h.u, pw_cell_below hb h.i, ⟨c1, t1, blk_below h1 hb⟩, ⟨c2, t2, blk_below h2 hb⟩, ⟨c3, t3, blk_below h3 hb⟩, h.eu, h.ie⟩
/-- The stream, in the memory ahead of the call. -/
structure Dat (w0 : World) (A : Option Addr) (D : List Int) (c : Nat) : Prop where
  r : ∀ W, Below w0.heap.size w0 W → Kd.C (Kd.int .u8) W A D.length D
  c : D.length ≤ c
/-- A Scanner at the place pos. -/
structure St (w0 w : World) (sc rb : Nat) (A : Option Addr) (D : List Int) (c pos : Nat) (eV PV : Value) (ds : List Value) : Prop where
  b : Below w0.heap.size w0 w
  s : w.heap[sc]? = some (.cells (scC rb eV PV ds).toArray 96 (0, 0))
  r : ∃ pr, w.heap[rb]? = some (.cells (rdC A D c pos pr) 90 (0, 0))
  ne : rb ≠ sc
  bs : w0.heap.size ≤ sc
  br : w0.heap.size ≤ rb
  dl : ds.length = 4
theorem St.same {w0 w w' : World} {sc rb : Nat} {A : Option Addr} {D : List Int} {c pos : Nat} {eV PV : Value} {ds : List Value} (h : St w0 w sc rb A D c pos eV PV ds) (hs : Same w w') : St w0 w' sc rb A D c pos eV PV ds := by
  obtain ⟨pr, hr⟩ := h.r
  exact ⟨h.b.trans (hs.below _), hs.blk h.s, ⟨pr, hs.blk hr⟩, h.ne, h.bs, h.br, h.dl⟩
theorem splice_sc (rb : Nat) (eV PV : Value) (ds cs : List Value) : splice (scC rb eV PV ds) 3 cs = scC rb eV PV (cs ++ ds.drop cs.length) := by
  unfold splice scC
  have e : (Value.iface 69 (.pointer (some ⟨rb, 0, none⟩)) :: eV :: PV :: ds).drop (3 + cs.length) = ds.drop cs.length := by rw [Nat.add_comm]; rfl
  rw [e]
  rfl
/-- Behind a read of the digits. -/
theorem St.read {w0 w w' : World} {sc rb : Nat} {A : Option Addr} {D : List Int} {c pos k : Nat} {eV PV : Value} {ds : List Value} (h : St w0 w sc rb A D c pos eV PV ds) (hr : Rd w w' rb sc 3 A D c pos k (scC rb eV PV ds) 96) (hk : k ≤ D.length - pos) (hk4 : k ≤ 4) : St w0 w' sc rb A D c (pos + k) eV PV (seg D pos k ++ ds.drop k) := by
  have hl := seg_len D pos k hk
  have hg := hr.g
  rw [splice_sc, hl] at hg
  exact ⟨h.b.trans (hr.f.below h.b.size (fun i hi => by rcases hi with rfl | rfl; exact h.bs; exact h.br)), hg, hr.r, h.ne, h.bs, h.br, by rw [List.length_append, hl, List.length_drop, h.dl]; omega⟩
theorem sc_len (rb : Nat) (eV PV : Value) (ds : List Value) (h : ds.length = 4) : (scC rb eV PV ds).length = 7 := by unfold scC; simp [h]
theorem glob_lt {w : World} {aE aU aI : Addr} (h : Sent w aE aU aI) : 0 < w.heap.size ∧ 2 < w.heap.size ∧ 3 < w.heap.size := ⟨World.block_lt_of_cell? w _ h.e, World.block_lt_of_cell? w _ h.u, World.block_lt_of_cell? w _ h.i⟩
def rpl1.T1 : Bool × List (List Nat × List Nat) := (true, [([], []), ([0], [0]), ([1], [1]), ([2], [2]), ([], []), ([4], [4]), ([5], [5]), ([6], [6]), ([3, 7], [3, 7]), ([8], [8]), ([9], [9]), ([9], [9]), ([10, 8, 0, 1, 2, 3, 4, 5, 6, 7, 8, 9, 10], [10]), ([11, 12, 0, 1, 2, 3, 4, 5, 6, 7, 8, 9, 10, 11, 12], [11])])
def rpl1.B1 : List Nat := [0, 1, 3, 7, 0, 16, 48, 112, 255, 511, 1023, 1023, 2047, 8191]
theorem rpl1.tab1 : rtab .any (opsOf Tryd.f41 1) = rpl1.T1 := by kernel_rfl
theorem rpl1.bits1 : waitsOk rpl1.T1.2 rpl1.B1 = true := by kernel_rfl

def rpl4.T4 : Bool × List (List Nat × List Nat) := (true, [([], []), ([], []), ([0, 1, 0, 1], [0])])
def rpl4.B4 : List Nat := [0, 0, 3]
theorem rpl4.tab4 : rtab .any (opsOf Tryd.f41 4) = rpl4.T4 := by kernel_rfl
theorem rpl4.bits4 : waitsOk rpl4.T4.2 rpl4.B4 = true := by kernel_rfl

set_option maxHeartbeats 8000000 in
set_option maxRecDepth 100000 in
theorem rplEnd (w0 : World) (sc rb : Nat) (A : Option Addr) (D : List Int) (c pos : Nat) (eV PV : Value) (ds : List Value) (aE aU aI : Addr) (w : World) (h : St w0 w sc rb A D c pos eV PV ds) (hs : Sent w0 aE aU aI) (hD : Dat w0 A D c) (hpos : pos = D.length) :
    Calls Tryd.prog 41 #[.pointer (some ⟨sc, 0, none⟩)] w fun e w' => e = .returned (.tuple #[.int .i64 0, .iface 126 (.pointer (some aE))]) ∧ Same w w' := by
  have hsw := hs.below h.b
  obtain ⟨pr, hr⟩ := h.r
  have HC0 : Aside0 (w.cell? ⟨sc, 0, none⟩ = some (.iface 69 (.pointer (some ⟨rb, 0, none⟩)))) := ⟨(blk_cell h.s 0).trans rfl⟩
  have HF := Aside0.mk (fun W (hW : Same w W) => fullEnd rb sc 3 4 4 A c D pos pr (scC rb eV PV ds) 96 aE W (hW.blk hr) (hW.blk h.s) h.ne (by rw [sc_len _ _ _ _ h.dl]; omega) (Nat.le_refl _) (hD.r W (h.b.trans (hW.below _))) hD.c (hW.cell hsw.e) (by omega) hpos)
  have HSW := Aside0.mk hsw
  clear h hs hD hsw hr hpos
  go_enter Tryd.func41, Tryd.ntmps41
  go_upto_region 1 with fail
  refine start_ (n := 14) (S := fun w' => Same w w' ∧ w'.cell? ⟨sc, 0, none⟩ = some (.iface 69 (.pointer (some ⟨rb, 0, none⟩)))) (ds := [8]) #[false, false, false, false, false, false, false, false, false, false, false, false, false, false] (by kernel_rfl) rfl rfl ⟨(Same.drew w), (Same.cell (Same.drew w) HC0.out)⟩ (fun hHeld => ?_)
  refine with_tabW rpl1.tab1 rpl1.bits1 (fun HT_ HW_ => ?_)
  generalize World.drew _ = wd at hHeld ⊢
  refine pure_ (i := 0) (N := some 9) (v := ?_) (a' := ?_) #[true, false, false, false, false, false, false, false, false, false, false, false, false, false] rfl rfl (any_of HT_.out (by kernel_rfl)) (fun _ _ _ h => h) (Or.inl ⟨by rfl, ?_⟩) ?_ ?_
  rotate_left
  · intro w'
    go_simp
    with_reducible rfl
  rotate_left
  · simp only [Act.put, List.setIfInBounds_toArray, List.set_cons_zero, List.set_cons_succ, i64_w, i32_w]
    rfl
  refine pure_ (i := 1) (N := some 10) (v := ?_) (a' := ?_) #[true, true, false, false, false, false, false, false, false, false, false, false, false, false] rfl rfl (any_of HT_.out (by kernel_rfl)) (fun _ _ _ h => h) (Or.inl ⟨by rfl, ?_⟩) ?_ ?_
  rotate_left
  · intro w'
    go_simp
    with_reducible rfl
  rotate_left
  · simp only [Act.put, List.setIfInBounds_toArray, List.set_cons_zero, List.set_cons_succ, i64_w, i32_w]
    rfl
  refine pure_ (i := 2) (N := some 11) (v := ?_) (a' := ?_) #[true, true, true, false, false, false, false, false, false, false, false, false, false, false] rfl rfl (any_of HT_.out (by kernel_rfl)) (fun _ _ _ h => h) (Or.inl ⟨by rfl, ?_⟩) ?_ ?_
  rotate_left
  · intro w'
    go_simp
    with_reducible rfl
  rotate_left
  · simp only [Act.put, List.setIfInBounds_toArray, List.set_cons_zero, List.set_cons_succ, i64_w, i32_w]
    rfl
  refine pure_ (i := 4) (N := some 13) (v := ?_) (a' := ?_) #[true, true, true, false, true, false, false, false, false, false, false, false, false, false] rfl rfl (any_of HT_.out (by kernel_rfl)) (fun _ _ _ h => h) (Or.inl ⟨by rfl, ?_⟩) ?_ ?_
  rotate_left
  · intro w'
    go_simp
    with_reducible rfl
  rotate_left
  · simp only [Act.put, List.setIfInBounds_toArray, List.set_cons_zero, List.set_cons_succ, i64_w, i32_w]
    rfl
  refine pure_ (i := 5) (N := some 14) (v := ?_) (a' := ?_) #[true, true, true, false, true, true, false, false, false, false, false, false, false, false] rfl rfl (any_of HT_.out (by kernel_rfl)) (fun _ _ _ h => h) (Or.inl ⟨by rfl, ?_⟩) ?_ ?_
  rotate_left
  · intro w'
    go_simp
    with_reducible rfl
  rotate_left
  · simp only [Act.put, List.setIfInBounds_toArray, List.set_cons_zero, List.set_cons_succ, i64_w, i32_w]
    rfl
  refine pure_ (i := 6) (N := some 15) (v := ?_) (a' := ?_) #[true, true, true, false, true, true, true, false, false, false, false, false, false, false] rfl rfl (any_of HT_.out (by kernel_rfl)) (fun _ _ _ h => h) (Or.inl ⟨by rfl, ?_⟩) ?_ ?_
  rotate_left
  · intro w'
    go_simp
    with_reducible rfl
  rotate_left
  · simp only [Act.put, List.setIfInBounds_toArray, List.set_cons_zero, List.set_cons_succ, i64_w, i32_w]
    rfl
  refine pure_ (i := 7) (N := some 16) (v := ?_) (a' := ?_) #[true, true, true, false, true, true, true, true, false, false, false, false, false, false] rfl rfl (any_of HT_.out (by kernel_rfl)) (fun _ _ _ h => h) (Or.inl ⟨by rfl, ?_⟩) ?_ ?_
  rotate_left
  · intro w'
    go_simp
    with_reducible rfl
  rotate_left
  · simp only [Act.put, List.setIfInBounds_toArray, List.set_cons_zero, List.set_cons_succ, i64_w, i32_w]
    rfl
  refine take_ (i := 3) (N := some 12) (v := ?_) (a' := ?_) #[true, true, true, true, true, true, true, true, false, false, false, false, false, false] rfl rfl (take_ofW HT_.out HW_.out (by kernel_rfl)) (fun _ _ _ h => h) (Or.inl ⟨by rfl, ?_⟩) hHeld ?_ ?_
  rotate_left
  · rintro w' ⟨s0, s1⟩
    go_simp
    with_reducible rfl
  rotate_left
  · simp only [Act.put, List.setIfInBounds_toArray, List.set_cons_zero, List.set_cons_succ, i64_w, i32_w]
    rfl
  refine last_ (i := 8) (N := some 17) #[true, true, true, true, true, true, true, true, true, false, false, false, false, false] rfl rfl (one_of HT_.out (by kernel_rfl)) (by decide) (fun K hK => ?_)
  refine goes_ Tryd.func42 (by kernel_rfl) rfl #[.iface 69 (.pointer (some ⟨rb, 0, none⟩)), .slice (some ⟨sc, 3, none⟩) 4 4] (by rfl) rfl rfl (by simp only [List.map_toArray, List.map_cons, List.map_nil]; rfl) ?_
  with_reducible refine (HF.out _ hHeld.1).mono ?_
  rintro e w1 ⟨rfl, hs⟩
  refine ⟨_, rfl, ?_⟩
  have HS1 : Aside0 (Same w w1) := ⟨hHeld.1.trans hs⟩
  clear hs
  refine hK.out _ _ ?_
  clear hK K
  refine norm_ (a' := ?_) ?_ ?_
  rotate_left
  · show Act.put _ (some 17) _ = _
    simp only [Act.put, List.setIfInBounds_toArray, List.set_cons_zero, List.set_cons_succ, i64_w, i32_w]
    rfl
  refine pure_ (i := 9) (N := some 8) (v := ?_) (a' := ?_) #[true, true, true, true, true, true, true, true, true, true, false, false, false, false] rfl rfl (any_of HT_.out (by kernel_rfl)) (fun _ _ _ h => h) (Or.inl ⟨by rfl, ?_⟩) ?_ ?_
  rotate_left
  · intro w'
    go_simp
    with_reducible rfl
  rotate_left
  · simp only [Act.put, List.setIfInBounds_toArray, List.set_cons_zero, List.set_cons_succ, i64_w, i32_w]
    rfl
  refine pure_ (i := 10) (N := some 18) (v := ?_) (a' := ?_) #[true, true, true, true, true, true, true, true, true, true, true, false, false, false] rfl rfl (any_of HT_.out (by kernel_rfl)) (fun _ _ _ h => h) (Or.inl ⟨by rfl, ?_⟩) ?_ ?_
  rotate_left
  · intro w'
    go_simp
    with_reducible rfl
  rotate_left
  · simp only [Act.put, List.setIfInBounds_toArray, List.set_cons_zero, List.set_cons_succ, i64_w, i32_w]
    rfl
  refine pure_ (i := 11) (N := some 19) (v := ?_) (a' := ?_) #[true, true, true, true, true, true, true, true, true, true, true, true, false, false] rfl rfl (any_of HT_.out (by kernel_rfl)) (fun _ _ _ h => h) (Or.inl ⟨by rfl, ?_⟩) ?_ ?_
  rotate_left
  · intro w'
    go_simp
    with_reducible rfl
  rotate_left
  · simp only [Act.put, List.setIfInBounds_toArray, List.set_cons_zero, List.set_cons_succ, i64_w, i32_w]
    rfl
  refine pure_ (i := 12) (N := some 4) (v := ?_) (a' := ?_) #[true, true, true, true, true, true, true, true, true, true, true, true, true, false] rfl rfl (any_of HT_.out (by kernel_rfl)) (fun _ _ _ h => h) (Or.inl ⟨by rfl, ?_⟩) ?_ ?_
  rotate_left
  · intro w'
    go_simp
    with_reducible rfl
  rotate_left
  · simp only [Act.put, List.setIfInBounds_toArray, List.set_cons_zero, List.set_cons_succ, i64_w, i32_w]
    rfl
  refine pure_ (i := 13) (N := some 5) (v := ?_) (a' := ?_) #[true, true, true, true, true, true, true, true, true, true, true, true, true, true] rfl rfl (any_of HT_.out (by kernel_rfl)) (fun _ _ _ h => h) (Or.inl ⟨by rfl, ?_⟩) ?_ ?_
  rotate_left
  · intro w'
    go_simp
    with_reducible rfl
  rotate_left
  · simp only [Act.put, List.setIfInBounds_toArray, List.set_cons_zero, List.set_cons_succ, i64_w, i32_w]
    rfl
  refine done_ (done_of HT_.out (by kernel_rfl)) ?_
  obtain ⟨c1, t1, b1⟩ := HSW.out.be
  obtain ⟨c2, t2, b2⟩ := HSW.out.bu
  have heq := eqOther w1 HSW.out.eu (HS1.out.blk b1) (HS1.out.blk b2)
  have hU1 := HS1.out.cell HSW.out.u
  clear b1 b2
  go_wp2
  go_ret2
  exact ⟨rfl, HS1.out⟩
set_option maxHeartbeats 8000000 in
set_option maxRecDepth 100000 in
theorem rplPart (w0 : World) (sc rb : Nat) (A : Option Addr) (D : List Int) (c pos : Nat) (eV PV : Value) (ds : List Value) (aE aU aI : Addr) (w : World) (h : St w0 w sc rb A D c pos eV PV ds) (hs : Sent w0 aE aU aI) (hD : Dat w0 A D c) (k : Nat) (hk : k = D.length - pos) (hk0 : 0 < k) (hk4 : k < 4) :
    Calls Tryd.prog 41 #[.pointer (some ⟨sc, 0, none⟩)] w fun e w' => e = .returned (.tuple #[.int .i64 0, .iface 126 (.pointer (some aI))]) ∧ ∃ ds', St w0 w' sc rb A D c (pos + k) eV PV ds' ∧ Far w w' (fun i => i = sc ∨ i = rb) := by
  have hsw := hs.below h.b
  obtain ⟨pr, hr⟩ := h.r
  have hg2 := glob_lt hs
  have HC0 : Aside0 (w.cell? ⟨sc, 0, none⟩ = some (.iface 69 (.pointer (some ⟨rb, 0, none⟩)))) := ⟨(blk_cell h.s 0).trans rfl⟩
  have HF := Aside0.mk (fun W (hW : Same w W) => fullPart rb sc 3 4 4 A c D pos pr (scC rb eV PV ds) 96 aE W (hW.blk hr) (hW.blk h.s) h.ne (by rw [sc_len _ _ _ _ h.dl]; omega) (Nat.le_refl _) (hD.r W (h.b.trans (hW.below _))) hD.c (hW.cell hsw.e) (by omega) k aU (by omega) (by omega) (by omega) (hW.cell hsw.u) (by have := h.bs; omega) (by have := h.br; omega) (by have := h.bs; omega) (by have := h.br; omega))
  have HSW0 := Aside0.mk hs
  have HST := Aside0.mk h
  have HK := Aside0.mk hk
  have HK4 := Aside0.mk hk4
  clear h hs hD hsw hr hk hk0 hk4 hg2
  go_enter Tryd.func41, Tryd.ntmps41
  go_upto_region 1 with fail
  refine start_ (n := 14) (S := fun w' => Same w w' ∧ w'.cell? ⟨sc, 0, none⟩ = some (.iface 69 (.pointer (some ⟨rb, 0, none⟩)))) (ds := [8]) #[false, false, false, false, false, false, false, false, false, false, false, false, false, false] (by kernel_rfl) rfl rfl ⟨(Same.drew w), (Same.cell (Same.drew w) HC0.out)⟩ (fun hHeld => ?_)
  refine with_tabW rpl1.tab1 rpl1.bits1 (fun HT_ HW_ => ?_)
  generalize World.drew _ = wd at hHeld ⊢
  refine pure_ (i := 0) (N := some 9) (v := ?_) (a' := ?_) #[true, false, false, false, false, false, false, false, false, false, false, false, false, false] rfl rfl (any_of HT_.out (by kernel_rfl)) (fun _ _ _ h => h) (Or.inl ⟨by rfl, ?_⟩) ?_ ?_
  rotate_left
  · intro w'
    go_simp
    with_reducible rfl
  rotate_left
  · simp only [Act.put, List.setIfInBounds_toArray, List.set_cons_zero, List.set_cons_succ, i64_w, i32_w]
    rfl
  refine pure_ (i := 1) (N := some 10) (v := ?_) (a' := ?_) #[true, true, false, false, false, false, false, false, false, false, false, false, false, false] rfl rfl (any_of HT_.out (by kernel_rfl)) (fun _ _ _ h => h) (Or.inl ⟨by rfl, ?_⟩) ?_ ?_
  rotate_left
  · intro w'
    go_simp
    with_reducible rfl
  rotate_left
  · simp only [Act.put, List.setIfInBounds_toArray, List.set_cons_zero, List.set_cons_succ, i64_w, i32_w]
    rfl
  refine pure_ (i := 2) (N := some 11) (v := ?_) (a' := ?_) #[true, true, true, false, false, false, false, false, false, false, false, false, false, false] rfl rfl (any_of HT_.out (by kernel_rfl)) (fun _ _ _ h => h) (Or.inl ⟨by rfl, ?_⟩) ?_ ?_
  rotate_left
  · intro w'
    go_simp
    with_reducible rfl
  rotate_left
  · simp only [Act.put, List.setIfInBounds_toArray, List.set_cons_zero, List.set_cons_succ, i64_w, i32_w]
    rfl
  refine pure_ (i := 4) (N := some 13) (v := ?_) (a' := ?_) #[true, true, true, false, true, false, false, false, false, false, false, false, false, false] rfl rfl (any_of HT_.out (by kernel_rfl)) (fun _ _ _ h => h) (Or.inl ⟨by rfl, ?_⟩) ?_ ?_
  rotate_left
  · intro w'
    go_simp
    with_reducible rfl
  rotate_left
  · simp only [Act.put, List.setIfInBounds_toArray, List.set_cons_zero, List.set_cons_succ, i64_w, i32_w]
    rfl
  refine pure_ (i := 5) (N := some 14) (v := ?_) (a' := ?_) #[true, true, true, false, true, true, false, false, false, false, false, false, false, false] rfl rfl (any_of HT_.out (by kernel_rfl)) (fun _ _ _ h => h) (Or.inl ⟨by rfl, ?_⟩) ?_ ?_
  rotate_left
  · intro w'
    go_simp
    with_reducible rfl
  rotate_left
  · simp only [Act.put, List.setIfInBounds_toArray, List.set_cons_zero, List.set_cons_succ, i64_w, i32_w]
    rfl
  refine pure_ (i := 6) (N := some 15) (v := ?_) (a' := ?_) #[true, true, true, false, true, true, true, false, false, false, false, false, false, false] rfl rfl (any_of HT_.out (by kernel_rfl)) (fun _ _ _ h => h) (Or.inl ⟨by rfl, ?_⟩) ?_ ?_
  rotate_left
  · intro w'
    go_simp
    with_reducible rfl
  rotate_left
  · simp only [Act.put, List.setIfInBounds_toArray, List.set_cons_zero, List.set_cons_succ, i64_w, i32_w]
    rfl
  refine pure_ (i := 7) (N := some 16) (v := ?_) (a' := ?_) #[true, true, true, false, true, true, true, true, false, false, false, false, false, false] rfl rfl (any_of HT_.out (by kernel_rfl)) (fun _ _ _ h => h) (Or.inl ⟨by rfl, ?_⟩) ?_ ?_
  rotate_left
  · intro w'
    go_simp
    with_reducible rfl
  rotate_left
  · simp only [Act.put, List.setIfInBounds_toArray, List.set_cons_zero, List.set_cons_succ, i64_w, i32_w]
    rfl
  refine take_ (i := 3) (N := some 12) (v := ?_) (a' := ?_) #[true, true, true, true, true, true, true, true, false, false, false, false, false, false] rfl rfl (take_ofW HT_.out HW_.out (by kernel_rfl)) (fun _ _ _ h => h) (Or.inl ⟨by rfl, ?_⟩) hHeld ?_ ?_
  rotate_left
  · rintro w' ⟨s0, s1⟩
    go_simp
    with_reducible rfl
  rotate_left
  · simp only [Act.put, List.setIfInBounds_toArray, List.set_cons_zero, List.set_cons_succ, i64_w, i32_w]
    rfl
  refine last_ (i := 8) (N := some 17) #[true, true, true, true, true, true, true, true, true, false, false, false, false, false] rfl rfl (one_of HT_.out (by kernel_rfl)) (by decide) (fun K hK => ?_)
  refine goes_ Tryd.func42 (by kernel_rfl) rfl #[.iface 69 (.pointer (some ⟨rb, 0, none⟩)), .slice (some ⟨sc, 3, none⟩) 4 4] (by rfl) rfl rfl (by simp only [List.map_toArray, List.map_cons, List.map_nil]; rfl) ?_
  with_reducible refine (HF.out _ hHeld.1).mono ?_
  rintro e w1 ⟨rfl, hs⟩
  refine ⟨_, rfl, ?_⟩
  have HS1 : Aside0 (Rd w w1 rb sc 3 A D c pos k (scC rb eV PV ds) 96) := ⟨⟨(Far.of_same hHeld.1 _).trans hs.f, hs.g, hs.r⟩⟩
  clear hs
  refine hK.out _ _ ?_
  clear hK K
  refine norm_ (a' := ?_) ?_ ?_
  rotate_left
  · show Act.put _ (some 17) _ = _
    simp only [Act.put, List.setIfInBounds_toArray, List.set_cons_zero, List.set_cons_succ, i64_w, i32_w]
    rfl
  refine pure_ (i := 9) (N := some 8) (v := ?_) (a' := ?_) #[true, true, true, true, true, true, true, true, true, true, false, false, false, false] rfl rfl (any_of HT_.out (by kernel_rfl)) (fun _ _ _ h => h) (Or.inl ⟨by rfl, ?_⟩) ?_ ?_
  rotate_left
  · intro w'
    go_simp
    with_reducible rfl
  rotate_left
  · simp only [Act.put, List.setIfInBounds_toArray, List.set_cons_zero, List.set_cons_succ, i64_w, i32_w]
    rfl
  refine pure_ (i := 10) (N := some 18) (v := ?_) (a' := ?_) #[true, true, true, true, true, true, true, true, true, true, true, false, false, false] rfl rfl (any_of HT_.out (by kernel_rfl)) (fun _ _ _ h => h) (Or.inl ⟨by rfl, ?_⟩) ?_ ?_
  rotate_left
  · intro w'
    go_simp
    with_reducible rfl
  rotate_left
  · simp only [Act.put, List.setIfInBounds_toArray, List.set_cons_zero, List.set_cons_succ, i64_w, i32_w]
    rfl
  refine pure_ (i := 11) (N := some 19) (v := ?_) (a' := ?_) #[true, true, true, true, true, true, true, true, true, true, true, true, false, false] rfl rfl (any_of HT_.out (by kernel_rfl)) (fun _ _ _ h => h) (Or.inl ⟨by rfl, ?_⟩) ?_ ?_
  rotate_left
  · intro w'
    go_simp
    with_reducible rfl
  rotate_left
  · simp only [Act.put, List.setIfInBounds_toArray, List.set_cons_zero, List.set_cons_succ, i64_w, i32_w]
    rfl
  refine pure_ (i := 12) (N := some 4) (v := ?_) (a' := ?_) #[true, true, true, true, true, true, true, true, true, true, true, true, true, false] rfl rfl (any_of HT_.out (by kernel_rfl)) (fun _ _ _ h => h) (Or.inl ⟨by rfl, ?_⟩) ?_ ?_
  rotate_left
  · intro w'
    go_simp
    with_reducible rfl
  rotate_left
  · simp only [Act.put, List.setIfInBounds_toArray, List.set_cons_zero, List.set_cons_succ, i64_w, i32_w]
    rfl
  refine pure_ (i := 13) (N := some 5) (v := ?_) (a' := ?_) #[true, true, true, true, true, true, true, true, true, true, true, true, true, true] rfl rfl (any_of HT_.out (by kernel_rfl)) (fun _ _ _ h => h) (Or.inl ⟨by rfl, ?_⟩) ?_ ?_
  rotate_left
  · intro w'
    go_simp
    with_reducible rfl
  rotate_left
  · simp only [Act.put, List.setIfInBounds_toArray, List.set_cons_zero, List.set_cons_succ, i64_w, i32_w]
    rfl
  refine done_ (done_of HT_.out (by kernel_rfl)) ?_
  have HST1 := Aside0.mk (HST.out.read HS1.out (by rw [HK.out]; exact Nat.le_refl _) (Nat.le_of_lt HK4.out))
  have hsw1 := HSW0.out.below HST1.out.b
  have heq := eqSame aU
  have hU1 := hsw1.u
  have HI1 := Aside0.mk hsw1.i
  clear hsw1 hHeld
  go_upto_region 4 with fail
  refine start_ (n := 3) (S := fun w' => Same w1 w' ∧ w'.cell? ⟨3, 0, none⟩ = some (.iface 126 (.pointer (some aI)))) (ds := []) #[false, false, false] (by kernel_rfl) rfl rfl ⟨(Same.drew w1), (Same.cell (Same.drew w1) HI1.out)⟩ (fun hHeld => ?_)
  refine with_tabW rpl4.tab4 rpl4.bits4 (fun HT_ HW_ => ?_)
  generalize World.drew _ = we at hHeld ⊢
  refine pure_ (i := 1) (N := some 2) (v := ?_) (a' := ?_) #[false, true, false] rfl rfl (any_of HT_.out (by kernel_rfl)) (fun _ _ _ h => h) (Or.inl ⟨by rfl, ?_⟩) ?_ ?_
  rotate_left
  · intro w'
    go_simp
    with_reducible rfl
  rotate_left
  · simp only [Act.put, List.setIfInBounds_toArray, List.set_cons_zero, List.set_cons_succ, i64_w, i32_w]
    rfl
  refine take_ (i := 0) (N := some 25) (v := ?_) (a' := ?_) #[true, true, false] rfl rfl (take_ofW HT_.out HW_.out (by kernel_rfl)) (fun _ _ _ h => h) (Or.inl ⟨by rfl, ?_⟩) hHeld ?_ ?_
  rotate_left
  · rintro w' ⟨s0, s1⟩
    go_simp
    with_reducible rfl
  rotate_left
  · simp only [Act.put, List.setIfInBounds_toArray, List.set_cons_zero, List.set_cons_succ, i64_w, i32_w]
    rfl
  refine pure_ (i := 2) (N := some 3) (v := ?_) (a' := ?_) #[true, true, true] rfl rfl (any_of HT_.out (by kernel_rfl)) (fun _ _ _ h => h) (Or.inl ⟨by rfl, ?_⟩) ?_ ?_
  rotate_left
  · intro w'
    go_simp
    with_reducible rfl
  rotate_left
  · simp only [Act.put, List.setIfInBounds_toArray, List.set_cons_zero, List.set_cons_succ, i64_w, i32_w]
    rfl
  refine done_ (done_of HT_.out (by kernel_rfl)) ?_
  have HSE := Aside0.mk hHeld.1
  clear hHeld
  go_wp2
  go_ret2
  exact ⟨rfl, _, HST1.out.same HSE.out, HS1.out.f.trans (Far.of_same HSE.out _)⟩
#print axioms rplEnd
#print axioms rplPart
end Go.Proofs.YtponeoodgfgejaaDoor.HandD

set_option linter.unusedVariables false
set_option linter.unusedSimpArgs false
namespace Go.Proofs.YtponeoodgfgejaaDoor.HandE
open Go.RowKit Go.Proofs.YtponeoodgfgejaaDoorW.PrintWords Go.Proofs.YtponeoodgfgejaaDoorW.PrintLast Go.Proofs.YtponeoodgfgejaaDoorW.PrintMore Go.Proofs.YtponeoodgfgejaaDoor.QAll Txt PureA HandA HandB HandC HandD

theorem St_below {w0 w w' : World} {sc rb : Nat} {A : Option Addr} {D : List Int} {c pos : Nat} {eV PV : Value} {ds : List Value} (h : St w0 w sc rb A D c pos eV PV ds) (hs : Below w.heap.size w w') : St w0 w' sc rb A D c pos eV PV ds := by
  obtain ⟨pr, hr⟩ := h.r
  exact ⟨h.b.trans (hs.mono h.b.size), blk_below h.s hs, ⟨pr, blk_below hr hs⟩, h.ne, h.bs, h.br, h.dl⟩
/-- What is read in the digits' place. -/
theorem St_digits {w0 w : World} {sc rb : Nat} {A : Option Addr} {D : List Int} {c pos : Nat} {eV PV : Value} {ds : List Value} (h : St w0 w sc rb A D c pos eV PV ds) (a b d e : Value) (hd : ds = [a, b, d, e]) : w.cell? ⟨sc, 3, none⟩ = some a ∧ w.cell? ⟨sc, 4, none⟩ = some b ∧ w.cell? ⟨sc, 5, none⟩ = some d ∧ w.cell? ⟨sc, 6, none⟩ = some e := by
  subst hd
  exact ⟨(blk_cell h.s 3).trans rfl, (blk_cell h.s 4).trans rfl, (blk_cell h.s 5).trans rfl, (blk_cell h.s 6).trans rfl⟩
set_option maxHeartbeats 8000000 in
set_option maxRecDepth 100000 in
theorem rplAll (w0 : World) (sc rb : Nat) (A : Option Addr) (D : List Int) (c pos : Nat) (eV PV : Value) (ds : List Value) (aE aU aI : Addr) (w : World) (h : St w0 w sc rb A D c pos eV PV ds) (hs : Sent w0 aE aU aI) (hD : Dat w0 A D c) (d0 d1 d2 d3 : Int) (hpos : pos + 4 ≤ D.length) (hseg : seg D pos 4 = [.int .u8 d0, .int .u8 d1, .int .u8 d2, .int .u8 d3]) (h0 : Dg d0) (h1 : Dg d1) (h2 : Dg d2) (h3 : Dg d3) (m : Nat) (hm : (hexv d0 d1 d2 d3 = 0 ∧ m = 0) ∨ (5 ≤ hexv d0 d1 d2 d3 ∧ hexv d0 d1 d2 d3 ≤ 65520 ∧ (m : Int) = hexv d0 d1 d2 d3 - 4)) :
    Calls Tryd.prog 41 #[.pointer (some ⟨sc, 0, none⟩)] w fun e w' => e = .returned (.tuple #[.int .i64 (m : Int), .nilIface]) ∧ ∃ ds', St w0 w' sc rb A D c (pos + 4) eV PV ds' ∧ Far w w' (fun i => i = sc ∨ i = rb) := by
  have hsw := hs.below h.b
  obtain ⟨pr, hr⟩ := h.r
  have HC0 : Aside0 (w.cell? ⟨sc, 0, none⟩ = some (.iface 69 (.pointer (some ⟨rb, 0, none⟩)))) := ⟨(blk_cell h.s 0).trans rfl⟩
  have HF := Aside0.mk (fun W (hW : Same w W) => fullAll rb sc 3 4 4 A c D pos pr (scC rb eV PV ds) 96 aE W (hW.blk hr) (hW.blk h.s) h.ne (by rw [sc_len _ _ _ _ h.dl]; omega) (Nat.le_refl _) (hD.r W (h.b.trans (hW.below _))) hD.c (hW.cell hsw.e) (by omega) 4 (by omega) hpos)
  have HST := Aside0.mk h
  have HPOS := Aside0.mk hpos
  have HSEG := Aside0.mk hseg
  have HX := Aside0.mk (fun W => HandC.decode d0 d1 d2 d3 W h0 h1 h2 h3)
  have HM := Aside0.mk hm
  obtain ⟨z, hz⟩ : ∃ z, z = hexv d0 d1 d2 d3 := ⟨_, rfl⟩
  rw [← hz] at HX HM
  clear h hs hD hsw hr hpos hseg h0 h1 h2 h3 hm hz
  go_enter Tryd.func41, Tryd.ntmps41
  go_upto_region 1 with fail
  refine start_ (n := 14) (S := fun w' => Same w w' ∧ w'.cell? ⟨sc, 0, none⟩ = some (.iface 69 (.pointer (some ⟨rb, 0, none⟩)))) (ds := [8]) #[false, false, false, false, false, false, false, false, false, false, false, false, false, false] (by kernel_rfl) rfl rfl ⟨(Same.drew w), (Same.cell (Same.drew w) HC0.out)⟩ (fun hHeld => ?_)
  refine with_tabW rpl1.tab1 rpl1.bits1 (fun HT_ HW_ => ?_)
  generalize World.drew _ = wd at hHeld ⊢
  refine pure_ (i := 0) (N := some 9) (v := ?_) (a' := ?_) #[true, false, false, false, false, false, false, false, false, false, false, false, false, false] rfl rfl (any_of HT_.out (by kernel_rfl)) (fun _ _ _ h => h) (Or.inl ⟨by rfl, ?_⟩) ?_ ?_
  rotate_left
  · intro w'
    go_simp
    with_reducible rfl
  rotate_left
  · simp only [Act.put, List.setIfInBounds_toArray, List.set_cons_zero, List.set_cons_succ, i64_w, i32_w]
    rfl
  refine pure_ (i := 1) (N := some 10) (v := ?_) (a' := ?_) #[true, true, false, false, false, false, false, false, false, false, false, false, false, false] rfl rfl (any_of HT_.out (by kernel_rfl)) (fun _ _ _ h => h) (Or.inl ⟨by rfl, ?_⟩) ?_ ?_
  rotate_left
  · intro w'
    go_simp
    with_reducible rfl
  rotate_left
  · simp only [Act.put, List.setIfInBounds_toArray, List.set_cons_zero, List.set_cons_succ, i64_w, i32_w]
    rfl
  refine pure_ (i := 2) (N := some 11) (v := ?_) (a' := ?_) #[true, true, true, false, false, false, false, false, false, false, false, false, false, false] rfl rfl (any_of HT_.out (by kernel_rfl)) (fun _ _ _ h => h) (Or.inl ⟨by rfl, ?_⟩) ?_ ?_
  rotate_left
  · intro w'
    go_simp
    with_reducible rfl
  rotate_left
  · simp only [Act.put, List.setIfInBounds_toArray, List.set_cons_zero, List.set_cons_succ, i64_w, i32_w]
    rfl
  refine pure_ (i := 4) (N := some 13) (v := ?_) (a' := ?_) #[true, true, true, false, true, false, false, false, false, false, false, false, false, false] rfl rfl (any_of HT_.out (by kernel_rfl)) (fun _ _ _ h => h) (Or.inl ⟨by rfl, ?_⟩) ?_ ?_
  rotate_left
  · intro w'
    go_simp
    with_reducible rfl
  rotate_left
  · simp only [Act.put, List.setIfInBounds_toArray, List.set_cons_zero, List.set_cons_succ, i64_w, i32_w]
    rfl
  refine pure_ (i := 5) (N := some 14) (v := ?_) (a' := ?_) #[true, true, true, false, true, true, false, false, false, false, false, false, false, false] rfl rfl (any_of HT_.out (by kernel_rfl)) (fun _ _ _ h => h) (Or.inl ⟨by rfl, ?_⟩) ?_ ?_
  rotate_left
  · intro w'
    go_simp
    with_reducible rfl
  rotate_left
  · simp only [Act.put, List.setIfInBounds_toArray, List.set_cons_zero, List.set_cons_succ, i64_w, i32_w]
    rfl
  refine pure_ (i := 6) (N := some 15) (v := ?_) (a' := ?_) #[true, true, true, false, true, true, true, false, false, false, false, false, false, false] rfl rfl (any_of HT_.out (by kernel_rfl)) (fun _ _ _ h => h) (Or.inl ⟨by rfl, ?_⟩) ?_ ?_
  rotate_left
  · intro w'
    go_simp
    with_reducible rfl
  rotate_left
  · simp only [Act.put, List.setIfInBounds_toArray, List.set_cons_zero, List.set_cons_succ, i64_w, i32_w]
    rfl
  refine pure_ (i := 7) (N := some 16) (v := ?_) (a' := ?_) #[true, true, true, false, true, true, true, true, false, false, false, false, false, false] rfl rfl (any_of HT_.out (by kernel_rfl)) (fun _ _ _ h => h) (Or.inl ⟨by rfl, ?_⟩) ?_ ?_
  rotate_left
  · intro w'
    go_simp
    with_reducible rfl
  rotate_left
  · simp only [Act.put, List.setIfInBounds_toArray, List.set_cons_zero, List.set_cons_succ, i64_w, i32_w]
    rfl
  refine take_ (i := 3) (N := some 12) (v := ?_) (a' := ?_) #[true, true, true, true, true, true, true, true, false, false, false, false, false, false] rfl rfl (take_ofW HT_.out HW_.out (by kernel_rfl)) (fun _ _ _ h => h) (Or.inl ⟨by rfl, ?_⟩) hHeld ?_ ?_
  rotate_left
  · rintro w' ⟨s0, s1⟩
    go_simp
    with_reducible rfl
  rotate_left
  · simp only [Act.put, List.setIfInBounds_toArray, List.set_cons_zero, List.set_cons_succ, i64_w, i32_w]
    rfl
  refine last_ (i := 8) (N := some 17) #[true, true, true, true, true, true, true, true, true, false, false, false, false, false] rfl rfl (one_of HT_.out (by kernel_rfl)) (by decide) (fun K hK => ?_)
  refine goes_ Tryd.func42 (by kernel_rfl) rfl #[.iface 69 (.pointer (some ⟨rb, 0, none⟩)), .slice (some ⟨sc, 3, none⟩) 4 4] (by rfl) rfl rfl (by simp only [List.map_toArray, List.map_cons, List.map_nil]; rfl) ?_
  with_reducible refine (HF.out _ hHeld.1).mono ?_
  rintro e w1 ⟨rfl, hs⟩
  refine ⟨_, rfl, ?_⟩
  have HS1 : Aside0 (Rd w w1 rb sc 3 A D c pos 4 (scC rb eV PV ds) 96) := ⟨⟨(Far.of_same hHeld.1 _).trans hs.f, hs.g, hs.r⟩⟩
  clear hs
  refine hK.out _ _ ?_
  clear hK K
  refine norm_ (a' := ?_) ?_ ?_
  rotate_left
  · show Act.put _ (some 17) _ = _
    simp only [Act.put, List.setIfInBounds_toArray, List.set_cons_zero, List.set_cons_succ, i64_w, i32_w]
    rfl
  refine pure_ (i := 9) (N := some 8) (v := ?_) (a' := ?_) #[true, true, true, true, true, true, true, true, true, true, false, false, false, false] rfl rfl (any_of HT_.out (by kernel_rfl)) (fun _ _ _ h => h) (Or.inl ⟨by rfl, ?_⟩) ?_ ?_
  rotate_left
  · intro w'
    go_simp
    with_reducible rfl
  rotate_left
  · simp only [Act.put, List.setIfInBounds_toArray, List.set_cons_zero, List.set_cons_succ, i64_w, i32_w]
    rfl
  refine pure_ (i := 10) (N := some 18) (v := ?_) (a' := ?_) #[true, true, true, true, true, true, true, true, true, true, true, false, false, false] rfl rfl (any_of HT_.out (by kernel_rfl)) (fun _ _ _ h => h) (Or.inl ⟨by rfl, ?_⟩) ?_ ?_
  rotate_left
  · intro w'
    go_simp
    with_reducible rfl
  rotate_left
  · simp only [Act.put, List.setIfInBounds_toArray, List.set_cons_zero, List.set_cons_succ, i64_w, i32_w]
    rfl
  refine pure_ (i := 11) (N := some 19) (v := ?_) (a' := ?_) #[true, true, true, true, true, true, true, true, true, true, true, true, false, false] rfl rfl (any_of HT_.out (by kernel_rfl)) (fun _ _ _ h => h) (Or.inl ⟨by rfl, ?_⟩) ?_ ?_
  rotate_left
  · intro w'
    go_simp
    with_reducible rfl
  rotate_left
  · simp only [Act.put, List.setIfInBounds_toArray, List.set_cons_zero, List.set_cons_succ, i64_w, i32_w]
    rfl
  refine pure_ (i := 12) (N := some 4) (v := ?_) (a' := ?_) #[true, true, true, true, true, true, true, true, true, true, true, true, true, false] rfl rfl (any_of HT_.out (by kernel_rfl)) (fun _ _ _ h => h) (Or.inl ⟨by rfl, ?_⟩) ?_ ?_
  rotate_left
  · intro w'
    go_simp
    with_reducible rfl
  rotate_left
  · simp only [Act.put, List.setIfInBounds_toArray, List.set_cons_zero, List.set_cons_succ, i64_w, i32_w]
    rfl
  refine pure_ (i := 13) (N := some 5) (v := ?_) (a' := ?_) #[true, true, true, true, true, true, true, true, true, true, true, true, true, true] rfl rfl (any_of HT_.out (by kernel_rfl)) (fun _ _ _ h => h) (Or.inl ⟨by rfl, ?_⟩) ?_ ?_
  rotate_left
  · intro w'
    go_simp
    with_reducible rfl
  rotate_left
  · simp only [Act.put, List.setIfInBounds_toArray, List.set_cons_zero, List.set_cons_succ, i64_w, i32_w]
    rfl
  refine done_ (done_of HT_.out (by kernel_rfl)) ?_
  have hsto := HST.out.read HS1.out (by have := HPOS.out; omega) (Nat.le_refl _)
  rw [HSEG.out] at hsto
  obtain ⟨hg0, hg1, hg2, hg3⟩ := St_digits hsto _ _ _ _ (by rw [List.drop_eq_nil_of_le (Nat.le_of_eq HST.out.dl)]; rfl)
  have HST1 := Aside0.mk hsto
  clear hsto hHeld
  rcases HM.out with ⟨rfl, rfl⟩ | ⟨q1, q2, q3⟩
  · go_wp2_with (first | (go_at_call 53; (with_reducible refine (HX.out _).mono ?_); rintro e w2 ⟨rfl, HQ⟩; have HQ2 := Aside0.mk HQ; clear HQ))
    go_ret2
    exact ⟨rfl, _, St_below HST1.out HQ2.out, HS1.out.f.trans (Far.of_below HQ2.out _)⟩
  · have z0 : (z == 0) = false := by rw [beq_eq_false_iff_ne]; omega
    have z1 : decide (z ≤ 4) = false := decide_eq_false (by omega)
    have z2 : decide (65524 < z) = false := decide_eq_false (by omega)
    have z3 : wrap64 (z - 4) = z - 4 := by unfold wrap64; omega
    go_wp2_with (first | (go_at_call 53; (with_reducible refine (HX.out _).mono ?_); rintro e w2 ⟨rfl, HQ⟩; have HQ2 := Aside0.mk HQ; clear HQ))
    go_ret2
    exact ⟨by rw [q3]; rfl, _, St_below HST1.out HQ2.out, HS1.out.f.trans (Far.of_below HQ2.out _)⟩
#print axioms rplAll
end Go.Proofs.YtponeoodgfgejaaDoor.HandE
