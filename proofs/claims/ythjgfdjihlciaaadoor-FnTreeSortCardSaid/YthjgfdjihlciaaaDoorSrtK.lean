/- Entries of trees in a row: the state that sort.Sort works on; Less and Swap, walked. -/
import Derived.Test.YthjgfdjihlciaaaDoorSrtI
import Derived.Deep.MidRow
set_option linter.unusedVariables false
set_option linter.unusedSimpArgs false
namespace Go.Proofs.YthjgfdjihlciaaaDoor.SrtK
open Go.RowKit Go.Proofs.YthjgfdjihlciaaaDoorW.PrintWords Go.Proofs.YthjgfdjihlciaaaDoorW.PrintLast Go.Proofs.YthjgfdjihlciaaaDoorW.PrintMore Go.Proofs.YthjgfdjihlciaaaDoor.QAll SrtA Go.Sort

/-- An entry of a tree: its name, its mode, the bytes of its hash. -/
structure TE where
  nm : ByteArray
  md : Int
  hv : List Int
instance : Inhabited TE := ⟨⟨⟨#[]⟩, 0, []⟩⟩
def cellsT (x : TE) : List Value := .string x.nm :: .int .u32 x.md :: x.hv.map (Value.int .u8)
/-- The name for the order. -/
def keyT (x : TE) : ByteArray := if x.md = 16384 then x.nm ++ (⟨#[47]⟩ : ByteArray) else x.nm
def ltT (x y : TE) : Bool := Op.bytesLess (keyT x).toList (keyT y).toList
structure OkT (x : TE) : Prop where
  h : x.hv.length = 20
  n : x.nm.size ≤ 4096
theorem OkT.len {x : TE} (h : OkT x) : (cellsT x).length = 22 := by unfold cellsT; rw [List.length_cons, List.length_cons, List.length_map, h.h]
theorem OkT.one (x : TE) : ∀ v ∈ cellsT x, v.oneCell' = true := by
  intro v hv
  unfold cellsT at hv
  rcases List.mem_cons.1 hv with rfl | hv
  · rfl
  · rcases List.mem_cons.1 hv with rfl | hv
    · rfl
    · obtain ⟨b, _, rfl⟩ := List.mem_map.1 hv
      rfl
theorem size44 : (Tryd.prog.info? 44).map (·.size) = some 22 := by kernel_rfl
theorem setCells_blk (b : Nat) {t : Nat} : ∀ (vs : List Value) (o : Nat) (w : World) (C : Array Value), w.heap[b]? = some (.cells C t (0, 0)) → ∃ C', (w.setCells b o vs).heap[b]? = some (.cells C' t (0, 0))
  | [], o, w, C, h => ⟨C, h⟩
  | v :: r, o, w, C, h => setCells_blk b r (o + 1) (w.setCell ⟨b, o, none⟩ v) _ (blk_put h o v rfl)
theorem setCells_other (b : Nat) : ∀ (vs : List Value) (o : Nat) (w : World) (k : Nat), k ≠ b → (w.setCells b o vs).heap[k]? = w.heap[k]?
  | [], _, _, _, _ => rfl
  | v :: r, o, w, k, h => (setCells_other b r (o + 1) (w.setCell ⟨b, o, none⟩ v) k h).trans (Below.heap_setCell w ⟨b, o, none⟩ v k h)
theorem setCells_size (b : Nat) : ∀ (vs : List Value) (o : Nat) (w : World), (w.setCells b o vs).heap.size = w.heap.size
  | [], _, _ => rfl
  | v :: r, o, w => (setCells_size b r (o + 1) (w.setCell ⟨b, o, none⟩ v)).trans (by first | exact World.size_setCell .. | simp)
theorem setCells_below (b : Nat) {w0 : World} : ∀ (vs : List Value) (o : Nat) (w : World), Go.RowKit.Below w0.heap.size w0 w → w0.heap.size ≤ b → Go.RowKit.Below w0.heap.size w0 (w.setCells b o vs)
  | [], _, _, h, _ => h
  | v :: r, o, w, h, hb => setCells_below b r (o + 1) _ (below_set h hb) hb
/-- The array d lies in block g, in a world that has grown out of w0. -/
structure Arr (w0 w : World) (g n : Nat) (d : Array TE) : Prop where
  b : Go.RowKit.Below w0.heap.size w0 w
  ge : w0.heap.size ≤ g
  sz : d.size = n
  blk : ∃ C, w.heap[g]? = some (.cells C 44 (0, 0))
  at_ : ∀ k, k < n → w.rangeAt g (k * 22) (cellsT d[k]!)
  th : ∀ k, k < n → w.there g (k * 22) 22
  ok : ∀ k, k < n → OkT d[k]!
section
variable {w0 w w' : World} {g n : Nat} {d : Array TE}
theorem Arr.lt (h : Arr w0 w g n d) : g < w.heap.size := by
  obtain ⟨C, hC⟩ := h.blk
  exact blk_lt hC
theorem same_cell (hg : w'.heap[g]? = w.heap[g]?) (o : Nat) : w'.cell? ⟨g, o, none⟩ = w.cell? ⟨g, o, none⟩ := by
  unfold World.cell?
  first | (simp only [hg]; done) | simp [hg]
theorem same_frozen (hg : w'.heap[g]? = w.heap[g]?) (o : Nat) : w'.frozen? ⟨g, o, none⟩ = w.frozen? ⟨g, o, none⟩ := by
  unfold World.frozen?
  first | rw [hg] | simp [hg]
theorem Arr.same (h : Arr w0 w g n d) (hb : Go.RowKit.Below w0.heap.size w0 w') (hg : w'.heap[g]? = w.heap[g]?) : Arr w0 w' g n d :=
  ⟨hb, h.ge, h.sz, by obtain ⟨C, hC⟩ := h.blk; exact ⟨C, hg.trans hC⟩, fun k hk j v hv => (same_cell hg _).trans (h.at_ k hk j v hv), fun k hk j hj => by rw [same_cell hg, same_frozen hg]; exact h.th k hk j hj, h.ok⟩
theorem Arr.below (h : Arr w0 w g n d) (hb : Go.RowKit.Below w.heap.size w w') : Arr w0 w' g n d := h.same (h.b.trans (hb.mono h.b.size)) (hb.block g h.lt)
theorem Arr.put (h : Arr w0 w g n d) (k j : Nat) (v : Value) (hk : g < k) : Arr w0 (w.setCell ⟨k, j, none⟩ v) g n d :=
  h.same (below_set h.b (Nat.le_of_lt (Nat.lt_of_le_of_lt h.ge hk))) (Below.heap_setCell w ⟨k, j, none⟩ v g (Nat.ne_of_lt hk))
theorem getBang_swp (d : Array TE) (i j k : Nat) (hi : i < d.size) (hj : j < d.size) (hk : k < d.size) : (swp d i j)[k]! = if k = j then d[i]! else if k = i then d[j]! else d[k]! := by
  unfold swp
  simp only [getElem!_def, Array.getElem?_setIfInBounds, Array.size_setIfInBounds]
  by_cases h1 : k = j
  · subst h1
    simp [hk]
  · rw [if_neg (fun e => h1 e.symm), if_neg h1]
    by_cases h2 : k = i
    · subst h2
      simp [hk]
    · rw [if_neg (fun e => h2 e.symm), if_neg h2]
/-- Two elements are exchanged. -/
theorem Arr.swap (h : Arr w0 w g n d) (i j : Nat) (hi : i < n) (hj : j < n) : Arr w0 ((w.setCells g (i * 22) (cellsT d[j]!)).setCells g (j * 22) (cellsT d[i]!)) g n (swp d i j) := by
  have li := (h.ok i hi).len
  have lj := (h.ok j hj).len
  have hds := h.sz
  have ht1 : ∀ k, k < n → (w.setCells g (i * 22) (cellsT d[j]!)).there g (k * 22) 22 := fun k hk => World.there_setCells (h.th k hk) _ _ _
  refine ⟨setCells_below g _ _ _ (setCells_below g _ _ _ h.b h.ge) h.ge, h.ge, by rw [size_swp]; exact h.sz, ?_, fun k hk => ?_, fun k hk => World.there_setCells (ht1 k hk) _ _ _, fun k hk => ?_⟩
  · obtain ⟨C, hC⟩ := h.blk
    obtain ⟨C1, h1⟩ := setCells_blk g (cellsT d[j]!) (i * 22) w C hC
    exact setCells_blk g (cellsT d[i]!) (j * 22) _ C1 h1
  · rw [getBang_swp d i j k (by omega) (by omega) (by omega)]
    by_cases h1 : k = j
    · subst h1
      rw [if_pos rfl]
      exact World.rangeAt_setCells_same _ _ _ _ (by rw [li]; exact ht1 k hj)
    · rw [if_neg h1]
      by_cases h2 : k = i
      · subst h2
        rw [if_pos rfl]
        exact World.rangeAt_setCells_apart (World.rangeAt_setCells_same _ _ _ _ (by rw [lj]; exact h.th k hi)) _ _ _ (Or.inr (by rw [li, lj]; omega))
      · rw [if_neg h2]
        have lk := (h.ok k hk).len
        exact World.rangeAt_setCells_apart (World.rangeAt_setCells_apart (h.at_ k hk) _ _ _ (Or.inr (by rw [lk, lj]; omega))) _ _ _ (Or.inr (by rw [lk, li]; omega))
  · rw [getBang_swp d i j k (by omega) (by omega) (by omega)]
    split
    · exact h.ok i hi
    · split
      · exact h.ok j hj
      · exact h.ok k hk
theorem exec_load_mid {o : Oper} {a : Act} {w : World} (ty : TypeId) (x : Operand) (ho : o.op = .load ty x) (b off : Nat) (hx : a.eval x = .pointer (some ⟨b, off, none⟩)) (cs : List Value) (dd : TypeDesc) (hc : w.rangeAt b off cs)
    (hu : Tryd.prog.underlying ty = some dd) (hd : dd.isRow = true) (hi : (Tryd.prog.info? ty).map (·.size) = some cs.length) : (execOp a.eval o).run Tryd.prog w = .ok (.value (.agg cs.toArray)) w := by
  unfold execOp
  simp only [ho, hx, Instr.loadAt, Instr.sureAddr, Sem.run_bind, Sem.run_pure, Result.andThen_ok, run_loadVar_mid w b off ty cs dd hc hu hd hi]
theorem exec_store_mid {o : Oper} {a : Act} {w : World} (ty : TypeId) (x y : Operand) (ho : o.op = .store ty x y) (b off : Nat) (cells : Array Value) (hx : a.eval x = .pointer (some ⟨b, off, none⟩)) (hy : a.eval y = .agg cells)
    (ht : w.there b off cells.size) (hi : (Tryd.prog.info? ty).map (·.size) = some cells.size) (h1 : cells.all (·.oneCell') = true) : (execOp a.eval o).run Tryd.prog w = .ok .skip (w.setCells b off cells.toList) := by
  unfold execOp
  simp only [ho, hx, hy, Instr.storeAt, Instr.sureAddr, Sem.run_bind, Sem.run_pure, Result.andThen_ok, run_storeVar_mid w b off ty cells ht hi h1]
theorem nameOf (g off : Nat) (nm : ByteArray) (md : Int) (w : World) (h0 : w.cell? ⟨g, off, none⟩ = some (.string nm)) (h1 : w.cell? ⟨g, off + 1, none⟩ = some (.int .u32 md)) (hl : nm.size ≤ 4096) :
    Calls Tryd.prog 63 #[.pointer (some ⟨g, off, none⟩)] w fun e w' => e = .returned (.string (if md = 16384 then nm ++ (⟨#[47]⟩ : ByteArray) else nm)) ∧ w' = w := by
  by_cases q : md = 16384
  · rw [if_pos q]
    subst q
    go_enter Tryd.func63, Tryd.ntmps63
    go_wp2
    go_ret
    exact ⟨rfl, rfl⟩
  · rw [if_neg q]
    have e1 : (md == 16384) = false := by rw [beq_eq_false_iff_ne]; exact q
    go_enter Tryd.func63, Tryd.ntmps63
    go_wp2
    go_ret
    exact ⟨rfl, rfl⟩
theorem nameAt (k : Nat) (h : Arr w0 w g n d) (hk : k < n) : Calls Tryd.prog 63 #[.pointer (some ⟨g, k * 22, none⟩)] w fun e w' => e = .returned (.string (keyT d[k]!)) ∧ w' = w :=
  nameOf g (k * 22) _ _ w (h.at_ k hk 0 _ rfl) (h.at_ k hk 1 _ rfl) (h.ok k hk).n
def swap0.T0 : Bool × List (List Nat × List Nat) := (true, [([], []), ([], []), ([], []), ([], []), ([], []), ([], []), ([4, 5], [4, 5]), ([6], [6]), ([], []), ([], []), ([8, 9], [8, 9]), ([10], [10]), ([0, 1, 0, 1, 4, 5, 6, 7, 11], [0, 1]), ([12, 7, 0, 1, 4, 5, 6, 7, 11], [7, 12]), ([2, 3, 0, 1, 2, 3, 4, 5, 6, 7, 8, 9, 10, 11, 12, 13], [2, 3]), ([14, 11, 13, 0, 1, 2, 3, 4, 5, 6, 7, 8, 9, 10, 11, 12, 13], [11, 14])])
def swap0.B0 : List Nat := [0, 0, 0, 0, 0, 0, 48, 112, 0, 0, 768, 1792, 4083, 8179, 16383, 32767]
theorem swap0.tab0 : rtab .any (opsOf Tryd.f62 0) = swap0.T0 := by kernel_rfl
theorem swap0.bits0 : waitsOk swap0.T0.2 swap0.B0 = true := by kernel_rfl

set_option maxHeartbeats 8000000 in
set_option maxRecDepth 100000 in
theorem swap (c i j : Nat) (h : Arr w0 w g n d) (hi : i < n) (hj : j < n) (hn : n ≤ 1000) :
    Calls Tryd.prog 62 #[.slice (some ⟨g, 0, none⟩) n c, .int .i64 (i : Int), .int .i64 (j : Int)] w fun e w' => e = .returned (.tuple #[]) ∧ Arr w0 w' g n (swp d i j) ∧ Kept g w w' := by
  obtain ⟨X, hX⟩ : ∃ X, X = cellsT d[i]! := ⟨_, rfl⟩
  obtain ⟨Y, hY⟩ : ∃ Y, Y = cellsT d[j]! := ⟨_, rfl⟩
  have LX : Aside0 (X.length = 22) := ⟨by rw [hX]; exact (h.ok i hi).len⟩
  have LY : Aside0 (Y.length = 22) := ⟨by rw [hY]; exact (h.ok j hj).len⟩
  have OX : Aside0 (∀ v ∈ X, v.oneCell' = true) := ⟨by rw [hX]; exact OkT.one _⟩
  have OY : Aside0 (∀ v ∈ Y, v.oneCell' = true) := ⟨by rw [hY]; exact OkT.one _⟩
  have hb0 : Go.RowKit.Below w.heap.size w w.drew := below_drew1 (Go.RowKit.Below.refl _ _)
  have hA := h.below hb0
  have HA : Aside0 (Arr w0 w.drew g n d ∧ Go.RowKit.Below w.heap.size w w.drew) := ⟨hA, hb0⟩
  have HXY : Aside0 (X = cellsT d[i]! ∧ Y = cellsT d[j]!) := ⟨hX, hY⟩
  have q0 : w.drew.rangeAt g (i * 22) X := by rw [hX]; exact hA.at_ i hi
  have q1 : w.drew.rangeAt g (j * 22) Y := by rw [hY]; exact hA.at_ j hj
  have q2 := hA.th i hi
  have q3 := hA.th j hj
  have hi2 : (i : Int) < (n : Int) := by omega
  have hj2 : (j : Int) < (n : Int) := by omega
  clear hX hY h hA hb0
  go_enter Tryd.func62, Tryd.ntmps62
  refine start_ (n := 16) (S := fun w' => w'.rangeAt g (i * 22) X ∧ w'.rangeAt g (j * 22) Y ∧ w'.there g (i * 22) 22 ∧ w'.there g (j * 22) 22) (ds := [13, 15]) #[false, false, false, false, false, false, false, false, false, false, false, false, false, false, false, false] (by kernel_rfl) rfl rfl ⟨q0, q1, q2, q3⟩ (fun hHeld => ?_)
  refine with_tabW swap0.tab0 swap0.bits0 (fun HT_ HW_ => ?_)
  generalize World.drew _ = wd at HA hHeld ⊢
  refine pure_ (i := 0) (N := some 6) (v := ?_) (a' := ?_) #[true, false, false, false, false, false, false, false, false, false, false, false, false, false, false, false] rfl rfl (any_of HT_.out (by kernel_rfl)) (fun _ _ _ h => h) (Or.inl ⟨by rfl, ?_⟩) ?_ ?_
  rotate_left
  · intro w'
    go_simp
    with_reducible rfl
  rotate_left
  · simp only [Act.put, List.setIfInBounds_toArray, List.set_cons_zero, List.set_cons_succ, i64_w, i32_w]
    rfl
  refine pure_ (i := 1) (N := some 7) (v := ?_) (a' := ?_) #[true, true, false, false, false, false, false, false, false, false, false, false, false, false, false, false] rfl rfl (any_of HT_.out (by kernel_rfl)) (fun _ _ _ h => h) (Or.inl ⟨by rfl, ?_⟩) ?_ ?_
  rotate_left
  · intro w'
    go_simp
    with_reducible rfl
  rotate_left
  · simp only [Act.put, List.setIfInBounds_toArray, List.set_cons_zero, List.set_cons_succ, i64_w, i32_w]
    rfl
  refine pure_ (i := 2) (N := some 8) (v := ?_) (a' := ?_) #[true, true, true, false, false, false, false, false, false, false, false, false, false, false, false, false] rfl rfl (any_of HT_.out (by kernel_rfl)) (fun _ _ _ h => h) (Or.inl ⟨by rfl, ?_⟩) ?_ ?_
  rotate_left
  · intro w'
    go_simp
    with_reducible rfl
  rotate_left
  · simp only [Act.put, List.setIfInBounds_toArray, List.set_cons_zero, List.set_cons_succ, i64_w, i32_w]
    rfl
  refine pure_ (i := 3) (N := some 9) (v := ?_) (a' := ?_) #[true, true, true, true, false, false, false, false, false, false, false, false, false, false, false, false] rfl rfl (any_of HT_.out (by kernel_rfl)) (fun _ _ _ h => h) (Or.inl ⟨by rfl, ?_⟩) ?_ ?_
  rotate_left
  · intro w'
    go_simp
    with_reducible rfl
  rotate_left
  · simp only [Act.put, List.setIfInBounds_toArray, List.set_cons_zero, List.set_cons_succ, i64_w, i32_w]
    rfl
  refine pure_ (i := 4) (N := some 10) (v := ?_) (a' := ?_) #[true, true, true, true, true, false, false, false, false, false, false, false, false, false, false, false] rfl rfl (any_of HT_.out (by kernel_rfl)) (fun _ _ _ h => h) (Or.inl ⟨by rfl, ?_⟩) ?_ ?_
  rotate_left
  · intro w'
    go_simp
    with_reducible rfl
  rotate_left
  · simp only [Act.put, List.setIfInBounds_toArray, List.set_cons_zero, List.set_cons_succ, i64_w, i32_w]
    rfl
  refine pure_ (i := 5) (N := some 11) (v := ?_) (a' := ?_) #[true, true, true, true, true, true, false, false, false, false, false, false, false, false, false, false] rfl rfl (any_of HT_.out (by kernel_rfl)) (fun _ _ _ h => h) (Or.inl ⟨by rfl, ?_⟩) ?_ ?_
  rotate_left
  · intro w'
    go_simp
    with_reducible rfl
  rotate_left
  · simp only [Act.put, List.setIfInBounds_toArray, List.set_cons_zero, List.set_cons_succ, i64_w, i32_w]
    rfl
  refine pure_ (i := 6) (N := some 12) (v := ?_) (a' := ?_) #[true, true, true, true, true, true, true, false, false, false, false, false, false, false, false, false] rfl rfl (any_of HT_.out (by kernel_rfl)) (fun _ _ _ h => h) (Or.inl ⟨by rfl, ?_⟩) ?_ ?_
  rotate_left
  · intro w'
    go_simp
    with_reducible rfl
  rotate_left
  · simp only [Act.put, List.setIfInBounds_toArray, List.set_cons_zero, List.set_cons_succ, i64_w, i32_w]
    rfl
  refine pure_ (i := 8) (N := some 14) (v := ?_) (a' := ?_) #[true, true, true, true, true, true, true, false, true, false, false, false, false, false, false, false] rfl rfl (any_of HT_.out (by kernel_rfl)) (fun _ _ _ h => h) (Or.inl ⟨by rfl, ?_⟩) ?_ ?_
  rotate_left
  · intro w'
    go_simp
    with_reducible rfl
  rotate_left
  · simp only [Act.put, List.setIfInBounds_toArray, List.set_cons_zero, List.set_cons_succ, i64_w, i32_w]
    rfl
  refine pure_ (i := 9) (N := some 15) (v := ?_) (a' := ?_) #[true, true, true, true, true, true, true, false, true, true, false, false, false, false, false, false] rfl rfl (any_of HT_.out (by kernel_rfl)) (fun _ _ _ h => h) (Or.inl ⟨by rfl, ?_⟩) ?_ ?_
  rotate_left
  · intro w'
    go_simp
    with_reducible rfl
  rotate_left
  · simp only [Act.put, List.setIfInBounds_toArray, List.set_cons_zero, List.set_cons_succ, i64_w, i32_w]
    rfl
  refine pure_ (i := 10) (N := some 16) (v := ?_) (a' := ?_) #[true, true, true, true, true, true, true, false, true, true, true, false, false, false, false, false] rfl rfl (any_of HT_.out (by kernel_rfl)) (fun _ _ _ h => h) (Or.inl ⟨by rfl, ?_⟩) ?_ ?_
  rotate_left
  · intro w'
    go_simp
    with_reducible rfl
  rotate_left
  · simp only [Act.put, List.setIfInBounds_toArray, List.set_cons_zero, List.set_cons_succ, i64_w, i32_w]
    rfl
  refine take_ (i := 7) (N := some 13) (v := ?_) (a' := ?_) #[true, true, true, true, true, true, true, true, true, true, true, false, false, false, false, false] rfl rfl (take_ofW HT_.out HW_.out (by kernel_rfl)) (fun _ _ _ h => h) (Or.inl ⟨by rfl, ?_⟩) hHeld ?_ ?_
  rotate_left
  · rintro w' ⟨s0, s1, s2, s3⟩
    refine exec_load_mid 44 (.tmp 12) ?ho g (j * 22) ?hx Y _ s1 Tryd.underlying44 rfl (by rw [LY.out]; exact size44)
    case ho => rfl
    case hx => first | rfl | (simp [Act.eval]; done) | (go_simp; done)
  rotate_left
  · simp only [Act.put, List.setIfInBounds_toArray, List.set_cons_zero, List.set_cons_succ, i64_w, i32_w]
    rfl
  refine take_ (i := 11) (N := some 17) (v := ?_) (a' := ?_) #[true, true, true, true, true, true, true, true, true, true, true, true, false, false, false, false] rfl rfl (take_ofW HT_.out HW_.out (by kernel_rfl)) (fun _ _ _ h => h) (Or.inl ⟨by rfl, ?_⟩) hHeld ?_ ?_
  rotate_left
  · rintro w' ⟨s0, s1, s2, s3⟩
    refine exec_load_mid 44 (.tmp 16) ?ho g (i * 22) ?hx X _ s0 Tryd.underlying44 rfl (by rw [LX.out]; exact size44)
    case ho => rfl
    case hx => first | rfl | (simp [Act.eval]; done) | (go_simp; done)
  rotate_left
  · simp only [Act.put, List.setIfInBounds_toArray, List.set_cons_zero, List.set_cons_succ, i64_w, i32_w]
    rfl
  refine pure_ (i := 12) (N := some 18) (v := ?_) (a' := ?_) #[true, true, true, true, true, true, true, true, true, true, true, true, true, false, false, false] rfl rfl (any_of HT_.out (by kernel_rfl)) (fun _ _ _ h => h) (Or.inl ⟨by rfl, ?_⟩) ?_ ?_
  rotate_left
  · intro w'
    go_simp
    with_reducible rfl
  rotate_left
  · simp only [Act.put, List.setIfInBounds_toArray, List.set_cons_zero, List.set_cons_succ, i64_w, i32_w]
    rfl
  refine last_ (i := 13) (N := none) #[true, true, true, true, true, true, true, true, true, true, true, true, true, true, false, false] rfl rfl (one_of HT_.out (by kernel_rfl)) (by decide) (fun K hK => ?_)
  refine skip_ (w1 := ?_) (by rfl) rfl ?_ ?_
  rotate_left
  · refine exec_store_mid 44 (.tmp 18) (.tmp 13) ?ho g (i * 22) Y.toArray ?hx ?hy ?ht (by rw [List.size_toArray, LY.out]; exact size44) (all_oneCell_toArray OY.out)
    case ho => rfl
    case hx => first | rfl | (simp [Act.eval]; done) | (go_simp; done)
    case hy => first | rfl | (simp [Act.eval]; done) | (go_simp; done)
    case ht => rw [List.size_toArray, LY.out]; exact hHeld.2.2.1
  refine hK.out _ _ ?_
  clear hK K
  refine pure_ (i := 14) (N := some 19) (v := ?_) (a' := ?_) #[true, true, true, true, true, true, true, true, true, true, true, true, true, true, true, false] rfl rfl (any_of HT_.out (by kernel_rfl)) (fun _ _ _ h => h) (Or.inl ⟨by rfl, ?_⟩) ?_ ?_
  rotate_left
  · intro w'
    go_simp
    with_reducible rfl
  rotate_left
  · simp only [Act.put, List.setIfInBounds_toArray, List.set_cons_zero, List.set_cons_succ, i64_w, i32_w]
    rfl
  refine last_ (i := 15) (N := none) #[true, true, true, true, true, true, true, true, true, true, true, true, true, true, true, true] rfl rfl (one_of HT_.out (by kernel_rfl)) (by decide) (fun K hK => ?_)
  refine skip_ (w1 := ?_) (by rfl) rfl ?_ ?_
  rotate_left
  · refine exec_store_mid 44 (.tmp 19) (.tmp 17) ?ho g (j * 22) X.toArray ?hx ?hy ?ht (by rw [List.size_toArray, LX.out]; exact size44) (all_oneCell_toArray OX.out)
    case ho => rfl
    case hx => first | rfl | (simp [Act.eval]; done) | (go_simp; done)
    case hy => first | rfl | (simp [Act.eval]; done) | (go_simp; done)
    case ht => rw [List.size_toArray, LX.out]; exact World.there_setCells hHeld.2.2.2 _ _ _
  refine hK.out _ _ ?_
  clear hK K
  refine done_ (done_of HT_.out (by kernel_rfl)) ?_
  go_end0
  refine ⟨rfl, ?_, ?_⟩
  · have := HA.out.1.swap i j hi hj
    rw [← HXY.out.1, ← HXY.out.2] at this
    exact this
  · refine ⟨?_, fun k hk hkg => ?_⟩
    · show _ ≤ ((wd.setCells g (i * 22) Y).setCells g (j * 22) X).heap.size
      rw [setCells_size, setCells_size]
      exact HA.out.2.size
    · show ((wd.setCells g (i * 22) Y).setCells g (j * 22) X).heap[k]? = _
      rw [setCells_other g _ _ _ k hkg, setCells_other g _ _ _ k hkg]
      exact HA.out.2.block k hk
#print axioms swap
def less1.T1 : Bool × List (List Nat × List Nat) := (true, [([], []), ([], []), ([0, 1], [0, 1]), ([2], [2]), ([], []), ([], []), ([4, 5], [4, 5]), ([6, 3], [6]), ([3, 7], [3, 7]), ([8, 7, 0, 1, 2, 3, 4, 5, 6, 7, 8], [8])])
def less1.B1 : List Nat := [0, 0, 3, 7, 0, 0, 48, 127, 255, 511]
theorem less1.tab1 : rtab .any (opsOf Tryd.f61 1) = less1.T1 := by kernel_rfl
theorem less1.bits1 : waitsOk less1.T1.2 less1.B1 = true := by kernel_rfl

set_option maxHeartbeats 8000000 in
set_option maxRecDepth 100000 in
theorem less (c i j : Nat) (h : Arr w0 w g n d) (hi : i < n) (hj : j < n) (hn : n ≤ 1000) :
    Calls Tryd.prog 61 #[.slice (some ⟨g, 0, none⟩) n c, .int .i64 (i : Int), .int .i64 (j : Int)] w fun e w' => e = .returned (.bool (ltT d[i]! d[j]!)) ∧ Go.RowKit.Below w.heap.size w w' := by
  have hb0 : Go.RowKit.Below w.heap.size w w.drew := below_drew1 (Go.RowKit.Below.refl _ _)
  have HA : Aside0 (Arr w0 w.drew g n d ∧ Go.RowKit.Below w.heap.size w w.drew) := ⟨h.below hb0, hb0⟩
  have hi2 : (i : Int) < (n : Int) := by omega
  have hj2 : (j : Int) < (n : Int) := by omega
  clear hb0 h
  go_enter Tryd.func61, Tryd.ntmps61
  go_upto_region 1 with fail
  refine start_ (n := 10) (S := fun w' => Arr w0 w' g n d) (ds := []) #[false, false, false, false, false, false, false, false, false, false] (by kernel_rfl) rfl rfl (HA.out.1) (fun hHeld => ?_)
  refine with_tabW less1.tab1 less1.bits1 (fun HT_ HW_ => ?_)
  generalize World.drew _ = wd at HA hHeld ⊢
  refine pure_ (i := 0) (N := some 7) (v := ?_) (a' := ?_) #[true, false, false, false, false, false, false, false, false, false] rfl rfl (any_of HT_.out (by kernel_rfl)) (fun _ _ _ h => h) (Or.inl ⟨by rfl, ?_⟩) ?_ ?_
  rotate_left
  · intro w'
    go_simp
    with_reducible rfl
  rotate_left
  · simp only [Act.put, List.setIfInBounds_toArray, List.set_cons_zero, List.set_cons_succ, i64_w, i32_w]
    rfl
  refine pure_ (i := 1) (N := some 8) (v := ?_) (a' := ?_) #[true, true, false, false, false, false, false, false, false, false] rfl rfl (any_of HT_.out (by kernel_rfl)) (fun _ _ _ h => h) (Or.inl ⟨by rfl, ?_⟩) ?_ ?_
  rotate_left
  · intro w'
    go_simp
    with_reducible rfl
  rotate_left
  · simp only [Act.put, List.setIfInBounds_toArray, List.set_cons_zero, List.set_cons_succ, i64_w, i32_w]
    rfl
  refine pure_ (i := 2) (N := some 9) (v := ?_) (a' := ?_) #[true, true, true, false, false, false, false, false, false, false] rfl rfl (any_of HT_.out (by kernel_rfl)) (fun _ _ _ h => h) (Or.inl ⟨by rfl, ?_⟩) ?_ ?_
  rotate_left
  · intro w'
    go_simp
    with_reducible rfl
  rotate_left
  · simp only [Act.put, List.setIfInBounds_toArray, List.set_cons_zero, List.set_cons_succ, i64_w, i32_w]
    rfl
  refine pure_ (i := 4) (N := some 11) (v := ?_) (a' := ?_) #[true, true, true, false, true, false, false, false, false, false] rfl rfl (any_of HT_.out (by kernel_rfl)) (fun _ _ _ h => h) (Or.inl ⟨by rfl, ?_⟩) ?_ ?_
  rotate_left
  · intro w'
    go_simp
    with_reducible rfl
  rotate_left
  · simp only [Act.put, List.setIfInBounds_toArray, List.set_cons_zero, List.set_cons_succ, i64_w, i32_w]
    rfl
  refine pure_ (i := 5) (N := some 12) (v := ?_) (a' := ?_) #[true, true, true, false, true, true, false, false, false, false] rfl rfl (any_of HT_.out (by kernel_rfl)) (fun _ _ _ h => h) (Or.inl ⟨by rfl, ?_⟩) ?_ ?_
  rotate_left
  · intro w'
    go_simp
    with_reducible rfl
  rotate_left
  · simp only [Act.put, List.setIfInBounds_toArray, List.set_cons_zero, List.set_cons_succ, i64_w, i32_w]
    rfl
  refine pure_ (i := 6) (N := some 13) (v := ?_) (a' := ?_) #[true, true, true, false, true, true, true, false, false, false] rfl rfl (any_of HT_.out (by kernel_rfl)) (fun _ _ _ h => h) (Or.inl ⟨by rfl, ?_⟩) ?_ ?_
  rotate_left
  · intro w'
    go_simp
    with_reducible rfl
  rotate_left
  · simp only [Act.put, List.setIfInBounds_toArray, List.set_cons_zero, List.set_cons_succ, i64_w, i32_w]
    rfl
  refine one_ (i := 3) (N := some 10) #[true, true, true, true, true, true, true, false, false, false] rfl rfl (one_of HT_.out (by kernel_rfl)) (by decide) (fun K hK => ?_)
  refine goes_ Tryd.func63 (by kernel_rfl) rfl #[.pointer (some ⟨g, i * 22, none⟩)] (by rfl) rfl rfl (by simp only [List.map_toArray, List.map_cons, List.map_nil]; rfl) ?_
  with_reducible refine (nameAt i hHeld hi).mono ?_
  rintro e w3 ⟨rfl, hw⟩
  replace hw := hw.symm
  subst hw
  refine ⟨_, rfl, ?_⟩
  refine hK.out _ _ (hHeld) (fun hHeld => ?_)
  clear hK K
  refine norm_ (a' := ?_) ?_ ?_
  rotate_left
  · show Act.put _ (some 10) _ = _
    simp only [Act.put, List.setIfInBounds_toArray, List.set_cons_zero, List.set_cons_succ, i64_w, i32_w]
    rfl
  refine one_ (i := 7) (N := some 14) #[true, true, true, true, true, true, true, true, false, false] rfl rfl (one_of HT_.out (by kernel_rfl)) (by decide) (fun K hK => ?_)
  refine goes_ Tryd.func63 (by kernel_rfl) rfl #[.pointer (some ⟨g, j * 22, none⟩)] (by rfl) rfl rfl (by simp only [List.map_toArray, List.map_cons, List.map_nil]; rfl) ?_
  with_reducible refine (nameAt j hHeld hj).mono ?_
  rintro e w7 ⟨rfl, hw⟩
  replace hw := hw.symm
  subst hw
  refine ⟨_, rfl, ?_⟩
  refine hK.out _ _ (hHeld) (fun hHeld => ?_)
  clear hK K
  refine norm_ (a' := ?_) ?_ ?_
  rotate_left
  · show Act.put _ (some 14) _ = _
    simp only [Act.put, List.setIfInBounds_toArray, List.set_cons_zero, List.set_cons_succ, i64_w, i32_w]
    rfl
  refine pure_ (i := 8) (N := some 15) (v := ?_) (a' := ?_) #[true, true, true, true, true, true, true, true, true, false] rfl rfl (any_of HT_.out (by kernel_rfl)) (fun _ _ _ h => h) (Or.inl ⟨by rfl, ?_⟩) ?_ ?_
  rotate_left
  · intro w'
    go_simp
    with_reducible rfl
  rotate_left
  · simp only [Act.put, List.setIfInBounds_toArray, List.set_cons_zero, List.set_cons_succ, i64_w, i32_w]
    rfl
  refine pure_ (i := 9) (N := some 6) (v := ?_) (a' := ?_) #[true, true, true, true, true, true, true, true, true, true] rfl rfl (any_of HT_.out (by kernel_rfl)) (fun _ _ _ h => h) (Or.inl ⟨by rfl, ?_⟩) ?_ ?_
  rotate_left
  · intro w'
    go_simp
    with_reducible rfl
  rotate_left
  · simp only [Act.put, List.setIfInBounds_toArray, List.set_cons_zero, List.set_cons_succ, i64_w, i32_w]
    rfl
  refine done_ (done_of HT_.out (by kernel_rfl)) ?_
  go_wp2
  go_ret
  exact ⟨rfl, HA.out.2⟩
#print axioms less
theorem sorter (w0 : World) (g n c : Nat) (hn : n ≤ 1000) : Sorter (some ⟨g, 0, none⟩) n c ltT g (fun w d => Arr w0 w g n d) where
  small := hn
  size := fun h => h.sz
  pos := fun h => h.lt
  below := fun h hb => h.below hb
  put := fun k j v h hk => h.put k j v hk
  less := fun i j h hi hj => less c i j h hi hj hn
  swap := fun i j h hi hj => swap c i j h hi hj hn
end
end Go.Proofs.YthjgfdjihlciaaaDoor.SrtK
