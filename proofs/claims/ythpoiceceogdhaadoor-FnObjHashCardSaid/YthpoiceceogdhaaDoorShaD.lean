/- zzSha1.Sum walked. -/
import Derived.Test.YthpoiceceogdhaaDoorShaC
import Derived.Deep.RegionWith
set_option linter.unusedVariables false
set_option linter.unusedSimpArgs false
namespace Go.Proofs.YthpoiceceogdhaaDoor.ShaD
open Go.RowKit Go.Proofs.YthpoiceceogdhaaDoorW.PrintWords Go.Proofs.YthpoiceceogdhaaDoorW.PrintLast Go.Proofs.YthpoiceceogdhaaDoorW.PrintMore Go.Proofs.YthpoiceceogdhaaDoor.QAll ShaA ShaP ShaB ShaC

theorem Hs.off {w w' : World} {S : Nat → Prop} {hb : Nat} {v : Value} {m : List Nat} (h : Hs w hb v m) (ho : Off w w' S) (h1 : ¬ S hb) (h2 : ∀ k, v.ownBlock = some k → ¬ S k) : Hs w' hb v m := ⟨h.ob.off ho h1, h.row.off ho h2, h.mem⟩
theorem _root_.Go.Proofs.YthpoiceceogdhaaDoor.ShaB.Hs.below {w w' : World} {hb : Nat} {v : Value} {m : List Nat} (h : Hs w hb v m) (ho : Below w.heap.size w w') : Hs w' hb v m :=
  Hs.off h (Off.of_below ho (fun _ => False)) (fun h => h) (fun _ _ h => h)
theorem _root_.Go.Proofs.YthpoiceceogdhaaDoor.ShaB.Ob.cellS0 {w : World} {hb : Nat} {s : S5} {v : Value} {n : Int} (h : Ob w hb s v n) : w.cell? ⟨hb, 0, none⟩ = some (.int .u32 (s.a : Int)) := (Lib.cell_of_heap h 0).trans rfl
theorem _root_.Go.Proofs.YthpoiceceogdhaaDoor.ShaB.Ob.cellS1 {w : World} {hb : Nat} {s : S5} {v : Value} {n : Int} (h : Ob w hb s v n) : w.cell? ⟨hb, 1, none⟩ = some (.int .u32 (s.b : Int)) := (Lib.cell_of_heap h 1).trans rfl
theorem _root_.Go.Proofs.YthpoiceceogdhaaDoor.ShaB.Ob.cellS2 {w : World} {hb : Nat} {s : S5} {v : Value} {n : Int} (h : Ob w hb s v n) : w.cell? ⟨hb, 2, none⟩ = some (.int .u32 (s.c : Int)) := (Lib.cell_of_heap h 2).trans rfl
theorem _root_.Go.Proofs.YthpoiceceogdhaaDoor.ShaB.Ob.cellS3 {w : World} {hb : Nat} {s : S5} {v : Value} {n : Int} (h : Ob w hb s v n) : w.cell? ⟨hb, 3, none⟩ = some (.int .u32 (s.d : Int)) := (Lib.cell_of_heap h 3).trans rfl
theorem _root_.Go.Proofs.YthpoiceceogdhaaDoor.ShaB.Ob.cellS4 {w : World} {hb : Nat} {s : S5} {v : Value} {n : Int} (h : Ob w hb s v n) : w.cell? ⟨hb, 4, none⟩ = some (.int .u32 (s.e : Int)) := (Lib.cell_of_heap h 4).trans rfl
theorem _root_.Go.Proofs.YthpoiceceogdhaaDoor.ShaB.BQ.empty (w : World) (B : Nat) (hB : B ≤ w.heap.size) : BQ (w.alloc (.cells #[] 5)) B (.slice (some ⟨w.heap.size, 0, none⟩) 0 0) [] :=
  ⟨rfl, .inl ⟨rfl, _, rfl, fun a ha => by
    injection ha with ha
    subst ha
    exact ⟨hB, _, heap_alloc_new w _⟩⟩⟩
section
variable {ops : Array Oper} {Q : Exit → Act → World → Prop} {Kc : Act → World → Prop} {a : Act} {o : Oper}
/-- append(s, x...), x a row that may be empty. -/
theorem app_any (W : World) (B : Nat) (ty : TypeId) (v V : Value) (l ys : List Nat) (HQ : BQ W B v l) (HV : BQ W 0 V ys) (hy : ∀ x ∈ ys, x < 256) (hl : l.length + ys.length ≤ 140737488355328) (hB : B ≤ W.heap.size) :
    ∃ v1 w1, (Builtin.append_ #[22, 22] ty #[v, V]).run Tryd.prog W = .ok v1 w1 ∧ BQ w1 B v1 (l ++ ys) ∧ W.grownBy w1 v.ownBlock ∧ (v1.ownBlock = v.ownBlock ∨ ∃ b, v1.ownBlock = some b ∧ W.heap.size ≤ b) := by
  rcases Nat.eq_zero_or_pos ys.length with h0 | h0
  · obtain rfl : ys = [] := List.eq_nil_of_length_eq_zero h0
    obtain ⟨A, c, rfl, hc⟩ := HQ.form
    obtain ⟨A', c', rfl, _⟩ := HV.form
    obtain ⟨i0, hi, hz0, hz1, hz2⟩ := info_parts ShaB.info5
    refine ⟨.slice A l.length c, W, ?_, by simpa using HQ, World.grownBy.refl W _, .inl rfl⟩
    have hm : ∀ B : Option Addr, (Builtin.firstCells 1 0 (.slice B 0 c')).run Tryd.prog W = .ok #[] W := by
      intro B
      cases B with
      | none => rfl
      | some b => simp only [Builtin.firstCells]; exact run_loadCells_list W b [] (fun j v h => by simp at h)
    cases A with
    | none => simp [Builtin.append_, run_underlying und28, sizeOf, typeInfo, hi, hz1, Builtin.lenOf, hc, hm]
    | some a => simp [Builtin.append_, run_underlying und28, sizeOf, typeInfo, hi, hz1, Builtin.lenOf, hc, hm, storeCells]
  · obtain ⟨g, o, c, rfl, _, _, _, h8⟩ := HV.at h0 hy
    exact app_run W B ty v l ys g o ys.length c HQ h8 rfl h0 hl hB
theorem app_step (hw : Region.wanted o (yielded ops a.tmps) = true) (s x : Operand) (ho : o.op = .call { callee := .builtin .append, args := #[s, x], argTypes := #[22, 22] }) (W : World) (B : Nat) (v V : Value) (l ys : List Nat)
    (hs : a.eval s = v) (hx : a.eval x = V) (HQ : BQ W B v l) (HV : BQ W 0 V ys) (hy : ∀ x ∈ ys, x < 256) (hl : l.length + ys.length ≤ 140737488355328) (hB : B ≤ W.heap.size)
    (h : ∀ v1 w1, BQ w1 B v1 (l ++ ys) → W.grownBy w1 v.ownBlock → (v1.ownBlock = v.ownBlock ∨ ∃ b, v1.ownBlock = some b ∧ W.heap.size ≤ b) → Kc (a.put o.dst v1) w1) :
    if Region.wanted o (yielded ops a.tmps) = true then Oper.wp Tryd.prog o a W Kc Q else Kc (a.put o.dst undef) W := by
  obtain ⟨v1, w1, hr, h1, h2, h3⟩ := app_any W B o.type v V l ys HQ HV hy hl hB
  rw [if_pos hw]
  unfold Oper.wp execOp
  simp only [ho, resolve, invoke, builtin, Sem.run_bind, Sem.run_pure, Result.andThen_ok, List.map_toArray, List.map_cons, List.map_nil, hs, hx, hr]
  exact h v1 w1 h1 h2 h3
end
theorem hs_grown {w W w1 : World} {hb : Nat} {V v : Value} {m : List Nat} {b : Nat} (h : Hs W hb V m ∧ Below w.heap.size w W) (hg : W.grownBy w1 v.ownBlock) (hv : v.ownBlock = some b) (hlt : hb < b ∧ ∀ k, V.ownBlock = some k → k < b) (hwb : w.heap.size ≤ b) : Hs w1 hb V m ∧ Below w.heap.size w w1 := by
  have ho : Off W w1 (fun k => k = b) := Off.of_grown (by rw [hv] at hg; exact hg)
  exact ⟨Hs.off h.1 ho (fun e => absurd (show hb = b from e) (by omega)) (fun k hk e => absurd (hlt.2 k hk) (by rw [show k = b from e]; omega)), h.2.trans (ho.below h.2.size (fun k hk => by rw [show k = b from hk]; exact hwb))⟩
/-- The copy that Sum makes, while it is filled and emptied. -/
structure En (w W : World) (eb : Nat) (s : S5) (v : Value) (n : Int) (l : List Nat) : Prop where
  ob : Ob W eb s v n
  row : BQ W w.heap.size v l
  bel : Below w.heap.size w W
  ge : w.heap.size ≤ eb
theorem at8_new (w : World) (x : Nat) (hx : x < 256) : At8 (w.alloc (.cells #[.int .u8 (x : Int)] 5)) w.heap.size 0 [x] := by
  refine ⟨fun y hy => by rw [List.mem_singleton.1 hy]; exact hx, fun i y hi => ?_⟩
  rw [Lib.cell_of_heap (heap_alloc_new w _)]
  rcases i with _ | i
  · injection hi with hi
    subst hi
    rfl
  · cases hi
theorem En.pushed {w W w1 : World} {eb : Nat} {s : S5} {v v1 : Value} {n : Int} {l l' : List Nat} {o : Obj} (h : En w W eb s v n l) (hq : BQ w1 w.heap.size v1 l') (hg : (W.alloc o).grownBy w1 v.ownBlock) :
    Ob w1 eb s v n ∧ En w (w1.setCell ⟨eb, 5, none⟩ v1) eb s v1 n l' := by
  have h1 : Ob (W.alloc o) eb s v n := h.ob.off (Off.of_below (below_alloc (Below.refl _ _) o) (fun _ => False)) (fun h => h)
  have h2 : Ob w1 eb s v n := h1.off (Off.of_grownR hg) (h.row.ne h.ob (by decide))
  have hb : Below w.heap.size w w1 := (below_alloc h.bel o).grown hg (Nat.le_trans h.bel.size (by show _ ≤ (W.heap.push _).size; simp)) (fun k hk => (q_typed h.row k hk).1)
  exact ⟨h2, h2.set5 v1, hq.off (Off.set w1 eb 5 v1) (fun k hk e => hq.ne h2 (by decide) (by rw [hk]; exact congrArg some e)), hb.trans ((Off.set w1 eb 5 v1).below hb.size (fun k hk => by rw [show k = eb from hk]; exact h.ge)), h.ge⟩
theorem En.stepped {w W w2 : World} {eb : Nat} {s s' : S5} {A A2 : Option Addr} {n cc n2 c2 : Nat} {M : Int} {l l2 : List Nat} (h : En w W eb s (.slice A n cc) M l) (hob : Ob w2 eb s' (.slice A n cc) M) (hoff : Off W w2 (fun k => k = eb)) (hd : BQ W w.heap.size (.slice A2 n2 c2) l2) :
    En w (w2.setCell ⟨eb, 5, none⟩ (.slice A2 n2 c2)) eb s' (.slice A2 n2 c2) M l2 := by
  have hne : ∀ k, (Value.slice A2 n2 c2).ownBlock = some k → ¬ k = eb := fun k hk e => hd.ne h.ob (by decide) (by rw [hk]; exact congrArg some e)
  have hb2 : Below w.heap.size w w2 := h.bel.trans (hoff.below h.bel.size (fun k hk => by rw [show k = eb from hk]; exact h.ge))
  exact ⟨hob.set5 _, (hd.off hoff hne).off (Off.set w2 eb 5 _) hne, hb2.trans ((Off.set w2 eb 5 _).below hb2.size (fun k hk => by rw [show k = eb from hk]; exact h.ge)), h.ge⟩
theorem padding_lt (m : List Nat) : ∀ x ∈ padding m, x < 256 := by
  intro x hx
  unfold padding at hx
  rcases List.mem_append.1 hx with h | h
  · rcases List.mem_cons.1 h with rfl | h
    · decide
    · rw [(List.mem_replicate.1 h).2]; decide
  · simp only [be8, List.mem_cons, List.not_mem_nil, or_false] at h
    omega
theorem padded_rest (m : List Nat) : (rest m ++ padding m).length % 64 = 0 := by
  have h1 := padded_len m
  rw [List.length_append, rest_length]
  omega
theorem at8_new4 (w : World) (x : Nat) (hx : x < 4294967296) : At8 (w.alloc (.cells #[.int .u8 ((x : Int) / 16777216), .int .u8 ((x : Int) / 65536 % 256), .int .u8 ((x : Int) / 256 % 256), .int .u8 ((x : Int) % 256)] 5)) w.heap.size 0 (be32 x) := by
  have e0 : (x : Int) / 16777216 = ((x / 16777216 % 256 : Nat) : Int) := by omega
  have e1 : (x : Int) / 65536 % 256 = ((x / 65536 % 256 : Nat) : Int) := by omega
  have e2 : (x : Int) / 256 % 256 = ((x / 256 % 256 : Nat) : Int) := by omega
  have e3 : (x : Int) % 256 = ((x % 256 : Nat) : Int) := by omega
  rw [e0, e1, e2, e3]
  refine ⟨be32_lt x, fun i y hi => ?_⟩
  rw [Lib.cell_of_heap (heap_alloc_new w _)]
  rcases i with _ | _ | _ | _ | i
  · injection hi with hi; subst hi; rfl
  · injection hi with hi; subst hi; rfl
  · injection hi with hi; subst hi; rfl
  · injection hi with hi; subst hi; rfl
  · cases hi
theorem und30 : Tryd.prog.underlying 50 = some (.int .u32) := by kernel_rfl
theorem index5 (cs : Array Value) (i : Int) (k : Nat) (hik : i = (k : Int)) (v : Value) (hk : k < 5) (hv : cs[k]? = some v) (W : World) : (Instr.index 51 (.agg cs) (.int .i64 i)).run Tryd.prog W = .ok v W := by
  obtain ⟨i0, hi, hz0, hz1, hz2⟩ := info_parts info30
  subst hik
  have h1 : 0 ≤ (k : Int) ∧ (k : Int) < ((5 : Nat) : Int) := by omega
  simp [Instr.index, run_underlying und75, asIntOf, part, isAgg, run_underlying und30, sizeOf, typeInfo, hi, hz1, hv, go_sem, h1]
  intro h
  omega
def sum1.T1 : Bool × List (List Nat × List Nat) := (true, [([], []), ([0], [0]), ([1], [1]), ([2], [2]), ([], []), ([], []), ([5], [5]), ([6], [6]), ([7], [7]), ([4, 8], [4, 8]), ([], []), ([10], [10]), ([11], [11]), ([12], [12]), ([3, 9, 13], [3, 9, 13]), ([14], [14]), ([15, 9, 0, 1, 2, 3, 4, 5, 6, 7, 8, 9, 10, 11, 12, 13, 14, 15], [15])])
def sum1.B1 : List Nat := [0, 1, 3, 7, 0, 0, 32, 96, 224, 496, 0, 1024, 3072, 7168, 16383, 32767, 65535]
theorem sum1.tab1 : rtab .any (opsOf Tryd.f58 1) = sum1.T1 := by kernel_rfl
theorem sum1.bits1 : waitsOk sum1.T1.2 sum1.B1 = true := by kernel_rfl

set_option maxHeartbeats 8000000 in
set_option maxRecDepth 100000 in
theorem sum (hb : Nat) (V : Value) (m : List Nat) (w : World) (h : Hs w hb V m) (hl : m.length ≤ 1000000000000) :
    Calls Tryd.prog 58 #[.pointer (some ⟨hb, 0, none⟩), .slice none 0 0] w fun e w' => ∃ g o c, e = .returned (.slice (some ⟨g, o, none⟩) 20 c) ∧ w.heap.size ≤ g ∧ g < w'.heap.size ∧ At8 w' g o (sha1 m) ∧ Below w.heap.size w w' := by
  obtain ⟨M, hM⟩ : ∃ M, M = m.length := ⟨_, rfl⟩
  have HM := Aside0.mk hM
  have H := Aside0.mk h
  rw [← hM] at hl
  have q0 : Hs w.drew hb V m ∧ Below w.heap.size w w.drew := ⟨h.below (below_drew (Below.refl _ _)), below_drew (Below.refl _ _)⟩
  have q1 := q0.1.ob.cellS0
  have q2 := q0.1.ob.cellS1
  have q3 := q0.1.ob.cellS2
  have q4 := q0.1.ob.cellS3
  have q5 := q0.1.ob.cellS4
  have q6 := q0.1.ob.cell5
  have q7 : w.drew.cell? ⟨hb, 6, none⟩ = some (.int .u64 (M : Int)) := by rw [hM]; exact q0.1.ob.cell6
  obtain ⟨R, hR⟩ : ∃ R, R = (rest m).length := ⟨_, rfl⟩
  have HRL := Aside0.mk hR
  have HMEM := Aside0.mk h.mem
  have HST : Aside0 (stOf m).Ok := ⟨stOf_ok m⟩
  have hR64 : R < 64 := by rw [hR, rest_length]; omega
  clear h hM hR
  go_enter Tryd.func58, Tryd.ntmps58
  go_wp2_with fail
  refine start_ (n := 17) (S := fun w' => (Hs w' hb V m ∧ Below w.heap.size w w') ∧ w'.cell? ⟨hb, 0, none⟩ = some (.int .u32 ((stOf m).a : Int)) ∧ w'.cell? ⟨hb, 1, none⟩ = some (.int .u32 ((stOf m).b : Int)) ∧ w'.cell? ⟨hb, 2, none⟩ = some (.int .u32 ((stOf m).c : Int)) ∧ w'.cell? ⟨hb, 3, none⟩ = some (.int .u32 ((stOf m).d : Int)) ∧ w'.cell? ⟨hb, 4, none⟩ = some (.int .u32 ((stOf m).e : Int)) ∧ w'.cell? ⟨hb, 5, none⟩ = some V ∧ w'.cell? ⟨hb, 6, none⟩ = some (.int .u64 (M : Int))) (ds := [15]) #[false, false, false, false, false, false, false, false, false, false, false, false, false, false, false, false, false] (by kernel_rfl) rfl rfl ⟨q0, q1, q2, q3, q4, q5, q6, q7⟩ (fun hHeld => ?_)
  refine with_tabW sum1.tab1 sum1.bits1 (fun HT_ HW_ => ?_)
  generalize World.drew _ = wd at hHeld ⊢
  refine pure_ (i := 0) (N := some 10) (v := ?_) (a' := ?_) #[true, false, false, false, false, false, false, false, false, false, false, false, false, false, false, false, false] rfl rfl (any_of HT_.out (by kernel_rfl)) (fun _ _ _ h => h) (Or.inl ⟨by rfl, ?_⟩) ?_ ?_
  rotate_left
  · intro w'
    go_simp
    with_reducible rfl
  rotate_left
  · simp only [Act.put, List.setIfInBounds_toArray, List.set_cons_zero, List.set_cons_succ, i64_w, i32_w]
    rfl
  refine pure_ (i := 1) (N := some 11) (v := ?_) (a' := ?_) #[true, true, false, false, false, false, false, false, false, false, false, false, false, false, false, false, false] rfl rfl (any_of HT_.out (by kernel_rfl)) (fun _ _ _ h => h) (Or.inl ⟨by rfl, ?_⟩) ?_ ?_
  rotate_left
  · intro w'
    go_simp
    with_reducible rfl
  rotate_left
  · simp only [Act.put, List.setIfInBounds_toArray, List.set_cons_zero, List.set_cons_succ, i64_w, i32_w]
    rfl
  refine pure_ (i := 2) (N := some 12) (v := ?_) (a' := ?_) #[true, true, true, false, false, false, false, false, false, false, false, false, false, false, false, false, false] rfl rfl (any_of HT_.out (by kernel_rfl)) (fun _ _ _ h => h) (Or.inl ⟨by rfl, ?_⟩) ?_ ?_
  rotate_left
  · intro w'
    go_simp
    with_reducible rfl
  rotate_left
  · simp only [Act.put, List.setIfInBounds_toArray, List.set_cons_zero, List.set_cons_succ, i64_w, i32_w]
    rfl
  refine pure_ (i := 5) (N := some 15) (v := ?_) (a' := ?_) #[true, true, true, false, false, true, false, false, false, false, false, false, false, false, false, false, false] rfl rfl (any_of HT_.out (by kernel_rfl)) (fun _ _ _ h => h) (Or.inl ⟨by rfl, ?_⟩) ?_ ?_
  rotate_left
  · intro w'
    go_simp
    with_reducible rfl
  rotate_left
  · simp only [Act.put, List.setIfInBounds_toArray, List.set_cons_zero, List.set_cons_succ, i64_w, i32_w]
    rfl
  refine pure_ (i := 6) (N := some 16) (v := ?_) (a' := ?_) #[true, true, true, false, false, true, true, false, false, false, false, false, false, false, false, false, false] rfl rfl (any_of HT_.out (by kernel_rfl)) (fun _ _ _ h => h) (Or.inl ⟨by rfl, ?_⟩) ?_ ?_
  rotate_left
  · intro w'
    go_simp
    with_reducible rfl
  rotate_left
  · simp only [Act.put, List.setIfInBounds_toArray, List.set_cons_zero, List.set_cons_succ, i64_w, i32_w]
    rfl
  refine pure_ (i := 7) (N := some 17) (v := ?_) (a' := ?_) #[true, true, true, false, false, true, true, true, false, false, false, false, false, false, false, false, false] rfl rfl (any_of HT_.out (by kernel_rfl)) (fun _ _ _ h => h) (Or.inl ⟨by rfl, ?_⟩) ?_ ?_
  rotate_left
  · intro w'
    go_simp
    with_reducible rfl
  rotate_left
  · simp only [Act.put, List.setIfInBounds_toArray, List.set_cons_zero, List.set_cons_succ, i64_w, i32_w]
    rfl
  refine pure_ (i := 10) (N := some 20) (v := ?_) (a' := ?_) #[true, true, true, false, false, true, true, true, false, false, true, false, false, false, false, false, false] rfl rfl (any_of HT_.out (by kernel_rfl)) (fun _ _ _ h => h) (Or.inl ⟨by rfl, ?_⟩) ?_ ?_
  rotate_left
  · intro w'
    go_simp
    with_reducible rfl
  rotate_left
  · simp only [Act.put, List.setIfInBounds_toArray, List.set_cons_zero, List.set_cons_succ, i64_w, i32_w]
    rfl
  refine pure_ (i := 11) (N := some 21) (v := ?_) (a' := ?_) #[true, true, true, false, false, true, true, true, false, false, true, true, false, false, false, false, false] rfl rfl (any_of HT_.out (by kernel_rfl)) (fun _ _ _ h => h) (Or.inl ⟨by rfl, ?_⟩) ?_ ?_
  rotate_left
  · intro w'
    go_simp
    with_reducible rfl
  rotate_left
  · simp only [Act.put, List.setIfInBounds_toArray, List.set_cons_zero, List.set_cons_succ, i64_w, i32_w]
    rfl
  refine pure_ (i := 12) (N := some 22) (v := ?_) (a' := ?_) #[true, true, true, false, false, true, true, true, false, false, true, true, true, false, false, false, false] rfl rfl (any_of HT_.out (by kernel_rfl)) (fun _ _ _ h => h) (Or.inl ⟨by rfl, ?_⟩) ?_ ?_
  rotate_left
  · intro w'
    go_simp
    with_reducible rfl
  rotate_left
  · simp only [Act.put, List.setIfInBounds_toArray, List.set_cons_zero, List.set_cons_succ, i64_w, i32_w]
    rfl
  refine take_ (i := 3) (N := some 13) (v := ?_) (a' := ?_) #[true, true, true, true, false, true, true, true, false, false, true, true, true, false, false, false, false] rfl rfl (take_ofW HT_.out HW_.out (by kernel_rfl)) (fun _ _ _ h => h) (Or.inl ⟨by rfl, ?_⟩) hHeld ?_ ?_
  rotate_left
  · rintro w' ⟨s0, s1, s2, s3, s4, s5, s6, s7⟩
    go_simp
    with_reducible rfl
  rotate_left
  · simp only [Act.put, List.setIfInBounds_toArray, List.set_cons_zero, List.set_cons_succ, i64_w, i32_w]
    rfl
  refine take_ (i := 8) (N := some 18) (v := ?_) (a' := ?_) #[true, true, true, true, false, true, true, true, true, false, true, true, true, false, false, false, false] rfl rfl (take_ofW HT_.out HW_.out (by kernel_rfl)) (fun _ _ _ h => h) (Or.inl ⟨by rfl, ?_⟩) hHeld ?_ ?_
  rotate_left
  · rintro w' ⟨s0, s1, s2, s3, s4, s5, s6, s7⟩
    go_simp
    with_reducible rfl
  rotate_left
  · simp only [Act.put, List.setIfInBounds_toArray, List.set_cons_zero, List.set_cons_succ, i64_w, i32_w]
    rfl
  refine take_ (i := 13) (N := some 23) (v := ?_) (a' := ?_) #[true, true, true, true, false, true, true, true, true, false, true, true, true, true, false, false, false] rfl rfl (take_ofW HT_.out HW_.out (by kernel_rfl)) (fun _ _ _ h => h) (Or.inl ⟨by rfl, ?_⟩) hHeld ?_ ?_
  rotate_left
  · rintro w' ⟨s0, s1, s2, s3, s4, s5, s6, s7⟩
    go_simp
    with_reducible rfl
  rotate_left
  · simp only [Act.put, List.setIfInBounds_toArray, List.set_cons_zero, List.set_cons_succ, i64_w, i32_w]
    rfl
  refine one_ (i := 4) (N := some 14) #[true, true, true, true, true, true, true, true, true, false, true, true, true, true, false, false, false] rfl rfl (one_of HT_.out (by kernel_rfl)) (by decide) (fun K hK => ?_)
  refine value_ (w1 := ?_) (v := ?_) (by rfl) rfl ?_ ?_
  rotate_left 2
  · go_simp
    constructor
    · rfl
    · rfl
  have HS4 : Aside0 ((Hs (wd.alloc (.cells #[] 5)) hb V m ∧ Below w.heap.size w (wd.alloc (.cells #[] 5))) ∧ BQ (wd.alloc (.cells #[] 5)) w.heap.size (.slice (some ⟨wd.heap.size, 0, none⟩) 0 0) []) := ⟨⟨hHeld.1.1.below (below_alloc (Below.refl _ _) _), below_alloc hHeld.1.2 _⟩, BQ.empty wd w.heap.size hHeld.1.2.size⟩
  have HLT4 : Aside0 ((hb < wd.heap.size ∧ ∀ k, V.ownBlock = some k → k < wd.heap.size) ∧ w.heap.size ≤ wd.heap.size) := ⟨⟨hHeld.1.1.ob.lt, fun k hk => hHeld.1.1.row.lt k hk⟩, hHeld.1.2.size⟩
  refine hK.out _ _ ⟨HS4.out.1, (HS4.out.1.1.ob.cellS0), (HS4.out.1.1.ob.cellS1), (HS4.out.1.1.ob.cellS2), (HS4.out.1.1.ob.cellS3), (HS4.out.1.1.ob.cellS4), (HS4.out.1.1.ob.cell5), (by rw [HM.out]; exact HS4.out.1.1.ob.cell6)⟩ (fun hHeld => ?_)
  clear hK K
  refine norm_ (a' := ?_) ?_ ?_
  rotate_left
  · show Act.put _ (some 14) _ = _
    simp only [Act.put, List.setIfInBounds_toArray, List.set_cons_zero, List.set_cons_succ, i64_w, i32_w]
    rfl
  refine one_ (i := 9) (N := some 19) #[true, true, true, true, true, true, true, true, true, true, true, true, true, true, false, false, false] rfl rfl (one_of HT_.out (by kernel_rfl)) (by decide) (fun K hK => ?_)
  refine app_step (by rfl) (.tmp 14) (.tmp 18) rfl _ w.heap.size (.slice (some ⟨wd.heap.size, 0, none⟩) 0 0) V [] (rest m) ?hs ?hx HS4.out.2 HS4.out.1.1.row (rest_mem HS4.out.1.1.mem) ?hlen HS4.out.1.2.size ?_
  case hs => rfl
  case hx => rfl
  case hlen => simp only [List.length_nil, rest_length]; omega
  intro v9 w9 hq9 hg9 hat9
  rw [List.nil_append] at hq9
  obtain ⟨A9, c9, rfl, hc9⟩ := hq9.form
  rw [← HRL.out] at hq9 hc9 ⊢
  have HS9 : Aside0 ((Hs w9 hb V m ∧ Below w.heap.size w w9) ∧ BQ w9 w.heap.size (.slice A9 R c9) (rest m)) := ⟨hs_grown HS4.out.1 hg9 rfl HLT4.out.1 HLT4.out.2, hq9⟩
  clear hq9 hg9 hat9
  refine hK.out _ _ ⟨HS9.out.1, (HS9.out.1.1.ob.cellS0), (HS9.out.1.1.ob.cellS1), (HS9.out.1.1.ob.cellS2), (HS9.out.1.1.ob.cellS3), (HS9.out.1.1.ob.cellS4), (HS9.out.1.1.ob.cell5), (by rw [HM.out]; exact HS9.out.1.1.ob.cell6)⟩ (fun hHeld => ?_)
  clear hK K
  refine norm_ (a' := ?_) ?_ ?_
  rotate_left
  · show Act.put _ (some 19) _ = _
    simp only [Act.put, List.setIfInBounds_toArray, List.set_cons_zero, List.set_cons_succ, i64_w, i32_w]
    rfl
  refine pure_ (i := 14) (N := some 24) (v := ?_) (a' := ?_) #[true, true, true, true, true, true, true, true, true, true, true, true, true, true, true, false, false] rfl rfl (any_of HT_.out (by kernel_rfl)) (fun _ _ _ h => h) (Or.inl ⟨by rfl, ?_⟩) ?_ ?_
  rotate_left
  · intro w'
    go_simp
    with_reducible rfl
  rotate_left
  · simp only [Act.put, List.setIfInBounds_toArray, List.set_cons_zero, List.set_cons_succ, i64_w, i32_w]
    rfl
  refine last_ (i := 15) (N := some 25) #[true, true, true, true, true, true, true, true, true, true, true, true, true, true, true, true, false] rfl rfl (one_of HT_.out (by kernel_rfl)) (by decide) (fun K hK => ?_)
  refine value_ (w1 := ?_) (v := ?_) (by rfl) rfl ?_ ?_
  rotate_left 2
  · go_simp
    constructor
    · rfl
    · rfl
  have HS15 : Aside0 (Ob (w9.alloc (.cells #[.int .u32 ((stOf m).a : Int), .int .u32 ((stOf m).b : Int), .int .u32 ((stOf m).c : Int), .int .u32 ((stOf m).d : Int), .int .u32 ((stOf m).e : Int), .slice A9 R c9, .int .u64 (M : Int)] 62)) w9.heap.size (stOf m) (.slice A9 R c9) (M : Int)) := ⟨heap_alloc_new w9 _⟩
  refine hK.out _ _ ?_
  clear hK K
  refine norm_ (a' := ?_) ?_ ?_
  rotate_left
  · show Act.put _ (some 25) _ = _
    simp only [Act.put, List.setIfInBounds_toArray, List.set_cons_zero, List.set_cons_succ, i64_w, i32_w]
    rfl
  refine pure_ (i := 16) (N := some 5) (v := ?_) (a' := ?_) #[true, true, true, true, true, true, true, true, true, true, true, true, true, true, true, true, true] rfl rfl (any_of HT_.out (by kernel_rfl)) (fun _ _ _ h => h) (Or.inl ⟨by rfl, ?_⟩) ?_ ?_
  rotate_left
  · intro w'
    go_simp
    with_reducible rfl
  rotate_left
  · simp only [Act.put, List.setIfInBounds_toArray, List.set_cons_zero, List.set_cons_succ, i64_w, i32_w]
    rfl
  refine done_ (done_of HT_.out (by kernel_rfl)) ?_
  have HE : Aside0 (En w (w9.alloc (.cells #[.int .u32 ((stOf m).a : Int), .int .u32 ((stOf m).b : Int), .int .u32 ((stOf m).c : Int), .int .u32 ((stOf m).d : Int), .int .u32 ((stOf m).e : Int), .slice A9 R c9, .int .u64 (M : Int)] 62)) w9.heap.size (stOf m) (.slice A9 R c9) (M : Int) (rest m)) := ⟨⟨HS15.out, HS9.out.2.off (Off.of_below (below_alloc (Below.refl _ _) _) (fun _ => False)) (fun _ _ h => h), below_alloc HS9.out.1.2 _, HS9.out.1.2.size⟩⟩
  have kh6 : (w9.alloc (.cells #[.int .u32 ((stOf m).a : Int), .int .u32 ((stOf m).b : Int), .int .u32 ((stOf m).c : Int), .int .u32 ((stOf m).d : Int), .int .u32 ((stOf m).e : Int), .slice A9 R c9, .int .u64 (M : Int)] 62)).cell? ⟨hb, 6, none⟩ = some (.int .u64 (M : Int)) := by rw [HM.out]; exact (HS9.out.1.1.below (below_alloc (Below.refl _ _) _)).ob.cell6
  generalize w9.alloc (.cells #[.int .u32 ((stOf m).a : Int), .int .u32 ((stOf m).b : Int), .int .u32 ((stOf m).c : Int), .int .u32 ((stOf m).d : Int), .int .u32 ((stOf m).e : Int), .slice A9 R c9, .int .u64 (M : Int)] 62) = wa at HE kh6 ⊢
  obtain ⟨eb, heb⟩ : ∃ eb, eb = w9.heap.size := ⟨_, rfl⟩
  rw [← heb] at HE
  simp only [← heb]
  clear HS4 HS9 HS15 HLT4 H heb hc9 q0 q1 q2 q3 q4 q5 q6 q7
  have k5 := HE.out.ob.cell5
  have k6 := HE.out.ob.cell6
  have n5 := HE.out.ob.frozen 5
  have hm8 : IntKind.u64.wrap ((M : Int) * 8) = ((M * 8 : Nat) : Int) := by rw [IntKind.wrap_u64]; omega
  obtain ⟨M8, hM8⟩ : ∃ M8, M8 = M * 8 := ⟨_, rfl⟩
  rw [← hM8] at hm8
  have HM8 := Aside0.mk hM8
  clear hM8
  have HQA : ∀ o, BQ (wa.alloc o) w.heap.size (.slice A9 R c9) (rest m) := fun o => HE.out.row.off (Off.of_below (below_alloc (Below.refl _ _) o) (fun _ => False)) (fun _ _ h => h)
  have HA8 : At8 (wa.alloc (.cells #[.int .u8 128] 5)) wa.heap.size 0 [128] := at8_new wa 128 (by omega)
  have HQA := Aside0.mk HQA
  have HA8 := Aside0.mk HA8
  have hsz : ∀ o, w.heap.size ≤ (wa.alloc o).heap.size := fun o => Nat.le_trans HE.out.bel.size (by show _ ≤ (wa.heap.push _).size; simp)
  have HSZ := Aside0.mk hsz
  clear hsz
  go_wp2_with (first
    | ((with_reducible refine gate_dst (N := 37) rfl ?_)
       refine app_op rfl (.tmp 35) (.tmp 36) rfl _ w.heap.size (.slice A9 R c9) (rest m) [128] wa.heap.size 0 1 1 rfl rfl (HQA.out _) HA8.out rfl (by decide) (by rw [← HRL.out]; omega) (HSZ.out _) ?_
       intro v1 w1 hq hg hat
       obtain ⟨A1, c1, rfl, hc1⟩ := hq.form
       have HP := Aside0.mk (HE.out.pushed hq hg)
       have hlen : (rest m ++ [128]).length = R + 1 := by rw [List.length_append, ← HRL.out]; rfl
       rw [hlen] at HP hc1 ⊢
       have d5 := HP.out.1.cell5
       have e5 := HP.out.1.frozen 5
       clear hq hg hat hlen)
    | fail)
  have hzl : zc M ≤ 63 := by unfold zc; omega
  have hRM : R = M % 64 := by rw [HRL.out, rest_length, ← HM.out]
  have HRM := Aside0.mk hRM
  clear hRM
  go_loopg [] (zc M) (fun g0 w' => ∃ (z n : Nat) (A : Option Addr) (c : Nat), n ≤ c ∧ n ≤ 128 ∧ z + g0 = zc M ∧ w'.cell? ⟨eb, 5, none⟩ = some (.slice A n c) ∧ w'.frozen? ⟨eb, 5, none⟩ = false ∧ Aside0 (n = R + 1 + z) ∧ Aside0 ((rest m ++ 128 :: List.replicate z 0).length = n) ∧ Aside0 (En w w' eb (stOf m) (.slice A n c) (M : Int) (rest m ++ 128 :: List.replicate z 0)))
  case atStart => exact ⟨0, R + 1, A1, c1, hc1, by omega, by omega, HP.out.2.ob.cell5, HP.out.2.ob.frozen 5, ⟨by omega⟩, ⟨by simp [← HRL.out]⟩, ⟨HP.out.2⟩⟩
  case round =>
    clear HE HP HQA HA8 HSZ hc1 d5 e5 k5 k6 n5 kh6
    obtain ⟨z, n, A, c, hnc, hn1, hzg, k5, n5, HNE, HN1, HE⟩ := hrel
    obtain ⟨q, hq⟩ : ∃ q, q = n % 64 := ⟨_, rfl⟩
    have ht : Int.tmod (n : Int) 64 = (q : Int) := by rw [Int.tmod_eq_emod_of_nonneg (by omega)]; omega
    have hq64 : q < 64 := by omega
    have HQQ := Aside0.mk hq
    clear hq
    by_cases hz : z < zc M
    · have hne : ((q : Int) != 56) = true := bne_iff_ne.2 (by have h1 := HNE.out; have h2 := HRM.out; have h3 := HQQ.out; unfold zc at hz; omega)
      have HLEN : Aside0 ((rest m ++ 128 :: List.replicate z 0).length = n) := ⟨by first | exact HN1.out | (have := HE.out.row.1; simp at this ⊢; omega)⟩
      have HQA : Aside0 (∀ o, BQ (wr.alloc o) w.heap.size (.slice A n c) (rest m ++ 128 :: List.replicate z 0)) := ⟨fun o => HE.out.row.off (Off.of_below (below_alloc (Below.refl _ _) o) (fun _ => False)) (fun _ _ h => h)⟩
      have HA8 : Aside0 (At8 (wr.alloc (.cells #[.int .u8 (0)] 5)) wr.heap.size 0 [0]) := ⟨by rw [show (0 : Int) = ((0 : Nat) : Int) by omega]; exact at8_new wr _ (by omega)⟩
      have HSZ : Aside0 (∀ o, w.heap.size ≤ (wr.alloc o).heap.size) := ⟨fun o => Nat.le_trans HE.out.bel.size (by show _ ≤ (wr.heap.push _).size; simp)⟩
      go_wp2_with (first
        | ((with_reducible refine gate_dst (N := 53) rfl ?_)
           refine app_op rfl (.tmp 51) (.tmp 52) rfl _ w.heap.size (.slice A n c) (rest m ++ 128 :: List.replicate z 0) [0] wr.heap.size 0 1 1 rfl rfl (HQA.out _) HA8.out rfl (by decide) (by rw [HLEN.out]; omega) (HSZ.out _) ?_
           intro v1 w1 hq hg hat
           obtain ⟨A1, c1, rfl, hc1⟩ := hq.form
           have HP := Aside0.mk (HE.out.pushed hq hg)
           have hlen : ((rest m ++ 128 :: List.replicate z 0) ++ [0]).length = n + 1 := by rw [List.length_append, HLEN.out]; rfl
           rw [hlen] at HP hc1 ⊢
           have d5 := HP.out.1.cell5
           have e5 := HP.out.1.frozen 5
           clear hq hg hat hlen)
        | fail)
      go_roundg (zc M - (z + 1))
      case measure => omega
      case rel =>
        have e1 : (rest m ++ 128 :: List.replicate z 0) ++ [0] = rest m ++ 128 :: List.replicate (z + 1) 0 := by rw [List.replicate_succ']; simp
        have h1 := HP.out.2
        rw [e1] at h1
        exact ⟨z + 1, n + 1, A1, c1, hc1, by have h1 := HNE.out; have h2 := HRM.out; unfold zc at hz; omega, by omega, h1.ob.cell5, h1.ob.frozen 5, ⟨by have := HNE.out; omega⟩, ⟨by rw [← e1, List.length_append, HN1.out]; rfl⟩, ⟨h1⟩⟩
    · obtain rfl : z = zc M := by omega
      have hne : ((q : Int) != 56) = false := by
        have : q = 56 := by have h1 := HNE.out; have h2 := HRM.out; have h3 := HQQ.out; unfold zc at h1; omega
        rw [this]; rfl
      clear hz
      go_wp2_with fail
      obtain ⟨L0, hL0⟩ : ∃ L0, L0 = rest m ++ 128 :: List.replicate (zc M) 0 := ⟨_, rfl⟩
      rw [← hL0] at HE HN1
      have HL0 := Aside0.mk hL0
      have HNA := Aside0.mk (⟨HNE.out, hnc, hn1⟩ : _ ∧ _ ∧ _)
      clear hL0 ht hne hq64 HQQ hzg
      go_loopg [7] 8 (fun g0 v7 w' => ∃ (k n1 : Nat) (i : Int) (A : Option Addr) (c : Nat), v7 = .int .i64 i ∧ k + g0 = 8 ∧ n1 ≤ c ∧ n1 ≤ 200 ∧ w'.cell? ⟨eb, 5, none⟩ = some (.slice A n1 c) ∧ w'.frozen? ⟨eb, 5, none⟩ = false ∧ Aside0 (i = 56 - 8 * (k : Int)) ∧ Aside0 (n1 = n + k) ∧ Aside0 ((L0 ++ (be8 M8).take k).length = n1) ∧ Aside0 (En w w' eb (stOf m) (.slice A n1 c) (M : Int) (L0 ++ (be8 M8).take k)))
      case atStart => exact ⟨0, n, 56, A, c, rfl, by omega, hnc, by omega, k5, n5, ⟨by omega⟩, ⟨by omega⟩, ⟨by simpa using HN1.out⟩, ⟨by simpa using HE.out⟩⟩
      case round =>
        clear HE HN1 hnc hn1 HNE k5 n5
        obtain ⟨k, n1, i, A, c, rfl, hkg, hnc, hn1, k5, n5, HI, HNE, HN1, HE⟩ := hrel
        obtain rfl | rfl | rfl | rfl | rfl | rfl | rfl | rfl | rfl : k = 0 ∨ k = 1 ∨ k = 2 ∨ k = 3 ∨ k = 4 ∨ k = 5 ∨ k = 6 ∨ k = 7 ∨ k = 8 := by omega
        · obtain rfl : i = 56 := by have := HI.out; omega
          have HLEN : Aside0 ((L0 ++ (be8 M8).take 0).length = n1) := ⟨by first | exact HN1.out | (have := HE.out.row.1; simp at this ⊢; omega)⟩
          have HQA : Aside0 (∀ o, BQ (wr.alloc o) w.heap.size (.slice A n1 c) (L0 ++ (be8 M8).take 0)) := ⟨fun o => HE.out.row.off (Off.of_below (below_alloc (Below.refl _ _) o) (fun _ => False)) (fun _ _ h => h)⟩
          have HA8 : Aside0 (At8 (wr.alloc (.cells #[.int .u8 ((M8 : Int) / 72057594037927936 % 256)] 5)) wr.heap.size 0 [M8 / 72057594037927936 % 256]) := ⟨by rw [show ((M8 : Int) / 72057594037927936 % 256 : Int) = ((M8 / 72057594037927936 % 256 : Nat) : Int) by omega]; exact at8_new wr _ (by omega)⟩
          have HSZ : Aside0 (∀ o, w.heap.size ≤ (wr.alloc o).heap.size) := ⟨fun o => Nat.le_trans HE.out.bel.size (by show _ ≤ (wr.heap.push _).size; simp)⟩
          go_wp2_with (first
            | ((with_reducible refine gate_dst (N := 71) rfl ?_)
               refine app_op rfl (.tmp 64) (.tmp 70) rfl _ w.heap.size (.slice A n1 c) (L0 ++ (be8 M8).take 0) [M8 / 72057594037927936 % 256] wr.heap.size 0 1 1 rfl rfl (HQA.out _) HA8.out rfl (by decide) (by rw [HLEN.out]; omega) (HSZ.out _) ?_
               intro v1 w1 hq hg hat
               obtain ⟨A1, c1, rfl, hc1⟩ := hq.form
               have HP := Aside0.mk (HE.out.pushed hq hg)
               have hlen : ((L0 ++ (be8 M8).take 0) ++ [M8 / 72057594037927936 % 256]).length = n1 + 1 := by rw [List.length_append, HLEN.out]; rfl
               rw [hlen] at HP hc1 ⊢
               have d5 := HP.out.1.cell5
               have e5 := HP.out.1.frozen 5
               clear hq hg hat hlen)
            | fail)
          go_roundg (8 - 1)
          case measure => omega
          case rel =>
            have e1 : (L0 ++ (be8 M8).take 0) ++ [M8 / 72057594037927936 % 256] = L0 ++ (be8 M8).take 1 := by rw [List.append_assoc]; rfl
            have h1 := HP.out.2
            rw [e1] at h1
            exact ⟨1, n1 + 1, _, A1, c1, rfl, by omega, hc1, by have h1 := HNE.out; have h2 := HNA.out; omega, h1.ob.cell5, h1.ob.frozen 5, ⟨by omega⟩, ⟨by have := HNE.out; omega⟩, ⟨by rw [← e1, List.length_append, HN1.out]; rfl⟩, ⟨h1⟩⟩
        · obtain rfl : i = 48 := by have := HI.out; omega
          have HLEN : Aside0 ((L0 ++ (be8 M8).take 1).length = n1) := ⟨by first | exact HN1.out | (have := HE.out.row.1; simp at this ⊢; omega)⟩
          have HQA : Aside0 (∀ o, BQ (wr.alloc o) w.heap.size (.slice A n1 c) (L0 ++ (be8 M8).take 1)) := ⟨fun o => HE.out.row.off (Off.of_below (below_alloc (Below.refl _ _) o) (fun _ => False)) (fun _ _ h => h)⟩
          have HA8 : Aside0 (At8 (wr.alloc (.cells #[.int .u8 ((M8 : Int) / 281474976710656 % 256)] 5)) wr.heap.size 0 [M8 / 281474976710656 % 256]) := ⟨by rw [show ((M8 : Int) / 281474976710656 % 256 : Int) = ((M8 / 281474976710656 % 256 : Nat) : Int) by omega]; exact at8_new wr _ (by omega)⟩
          have HSZ : Aside0 (∀ o, w.heap.size ≤ (wr.alloc o).heap.size) := ⟨fun o => Nat.le_trans HE.out.bel.size (by show _ ≤ (wr.heap.push _).size; simp)⟩
          go_wp2_with (first
            | ((with_reducible refine gate_dst (N := 71) rfl ?_)
               refine app_op rfl (.tmp 64) (.tmp 70) rfl _ w.heap.size (.slice A n1 c) (L0 ++ (be8 M8).take 1) [M8 / 281474976710656 % 256] wr.heap.size 0 1 1 rfl rfl (HQA.out _) HA8.out rfl (by decide) (by rw [HLEN.out]; omega) (HSZ.out _) ?_
               intro v1 w1 hq hg hat
               obtain ⟨A1, c1, rfl, hc1⟩ := hq.form
               have HP := Aside0.mk (HE.out.pushed hq hg)
               have hlen : ((L0 ++ (be8 M8).take 1) ++ [M8 / 281474976710656 % 256]).length = n1 + 1 := by rw [List.length_append, HLEN.out]; rfl
               rw [hlen] at HP hc1 ⊢
               have d5 := HP.out.1.cell5
               have e5 := HP.out.1.frozen 5
               clear hq hg hat hlen)
            | fail)
          go_roundg (8 - 2)
          case measure => omega
          case rel =>
            have e1 : (L0 ++ (be8 M8).take 1) ++ [M8 / 281474976710656 % 256] = L0 ++ (be8 M8).take 2 := by rw [List.append_assoc]; rfl
            have h1 := HP.out.2
            rw [e1] at h1
            exact ⟨2, n1 + 1, _, A1, c1, rfl, by omega, hc1, by have h1 := HNE.out; have h2 := HNA.out; omega, h1.ob.cell5, h1.ob.frozen 5, ⟨by omega⟩, ⟨by have := HNE.out; omega⟩, ⟨by rw [← e1, List.length_append, HN1.out]; rfl⟩, ⟨h1⟩⟩
        · obtain rfl : i = 40 := by have := HI.out; omega
          have HLEN : Aside0 ((L0 ++ (be8 M8).take 2).length = n1) := ⟨by first | exact HN1.out | (have := HE.out.row.1; simp at this ⊢; omega)⟩
          have HQA : Aside0 (∀ o, BQ (wr.alloc o) w.heap.size (.slice A n1 c) (L0 ++ (be8 M8).take 2)) := ⟨fun o => HE.out.row.off (Off.of_below (below_alloc (Below.refl _ _) o) (fun _ => False)) (fun _ _ h => h)⟩
          have HA8 : Aside0 (At8 (wr.alloc (.cells #[.int .u8 ((M8 : Int) / 1099511627776 % 256)] 5)) wr.heap.size 0 [M8 / 1099511627776 % 256]) := ⟨by rw [show ((M8 : Int) / 1099511627776 % 256 : Int) = ((M8 / 1099511627776 % 256 : Nat) : Int) by omega]; exact at8_new wr _ (by omega)⟩
          have HSZ : Aside0 (∀ o, w.heap.size ≤ (wr.alloc o).heap.size) := ⟨fun o => Nat.le_trans HE.out.bel.size (by show _ ≤ (wr.heap.push _).size; simp)⟩
          go_wp2_with (first
            | ((with_reducible refine gate_dst (N := 71) rfl ?_)
               refine app_op rfl (.tmp 64) (.tmp 70) rfl _ w.heap.size (.slice A n1 c) (L0 ++ (be8 M8).take 2) [M8 / 1099511627776 % 256] wr.heap.size 0 1 1 rfl rfl (HQA.out _) HA8.out rfl (by decide) (by rw [HLEN.out]; omega) (HSZ.out _) ?_
               intro v1 w1 hq hg hat
               obtain ⟨A1, c1, rfl, hc1⟩ := hq.form
               have HP := Aside0.mk (HE.out.pushed hq hg)
               have hlen : ((L0 ++ (be8 M8).take 2) ++ [M8 / 1099511627776 % 256]).length = n1 + 1 := by rw [List.length_append, HLEN.out]; rfl
               rw [hlen] at HP hc1 ⊢
               have d5 := HP.out.1.cell5
               have e5 := HP.out.1.frozen 5
               clear hq hg hat hlen)
            | fail)
          go_roundg (8 - 3)
          case measure => omega
          case rel =>
            have e1 : (L0 ++ (be8 M8).take 2) ++ [M8 / 1099511627776 % 256] = L0 ++ (be8 M8).take 3 := by rw [List.append_assoc]; rfl
            have h1 := HP.out.2
            rw [e1] at h1
            exact ⟨3, n1 + 1, _, A1, c1, rfl, by omega, hc1, by have h1 := HNE.out; have h2 := HNA.out; omega, h1.ob.cell5, h1.ob.frozen 5, ⟨by omega⟩, ⟨by have := HNE.out; omega⟩, ⟨by rw [← e1, List.length_append, HN1.out]; rfl⟩, ⟨h1⟩⟩
        · obtain rfl : i = 32 := by have := HI.out; omega
          have HLEN : Aside0 ((L0 ++ (be8 M8).take 3).length = n1) := ⟨by first | exact HN1.out | (have := HE.out.row.1; simp at this ⊢; omega)⟩
          have HQA : Aside0 (∀ o, BQ (wr.alloc o) w.heap.size (.slice A n1 c) (L0 ++ (be8 M8).take 3)) := ⟨fun o => HE.out.row.off (Off.of_below (below_alloc (Below.refl _ _) o) (fun _ => False)) (fun _ _ h => h)⟩
          have HA8 : Aside0 (At8 (wr.alloc (.cells #[.int .u8 ((M8 : Int) / 4294967296 % 256)] 5)) wr.heap.size 0 [M8 / 4294967296 % 256]) := ⟨by rw [show ((M8 : Int) / 4294967296 % 256 : Int) = ((M8 / 4294967296 % 256 : Nat) : Int) by omega]; exact at8_new wr _ (by omega)⟩
          have HSZ : Aside0 (∀ o, w.heap.size ≤ (wr.alloc o).heap.size) := ⟨fun o => Nat.le_trans HE.out.bel.size (by show _ ≤ (wr.heap.push _).size; simp)⟩
          go_wp2_with (first
            | ((with_reducible refine gate_dst (N := 71) rfl ?_)
               refine app_op rfl (.tmp 64) (.tmp 70) rfl _ w.heap.size (.slice A n1 c) (L0 ++ (be8 M8).take 3) [M8 / 4294967296 % 256] wr.heap.size 0 1 1 rfl rfl (HQA.out _) HA8.out rfl (by decide) (by rw [HLEN.out]; omega) (HSZ.out _) ?_
               intro v1 w1 hq hg hat
               obtain ⟨A1, c1, rfl, hc1⟩ := hq.form
               have HP := Aside0.mk (HE.out.pushed hq hg)
               have hlen : ((L0 ++ (be8 M8).take 3) ++ [M8 / 4294967296 % 256]).length = n1 + 1 := by rw [List.length_append, HLEN.out]; rfl
               rw [hlen] at HP hc1 ⊢
               have d5 := HP.out.1.cell5
               have e5 := HP.out.1.frozen 5
               clear hq hg hat hlen)
            | fail)
          go_roundg (8 - 4)
          case measure => omega
          case rel =>
            have e1 : (L0 ++ (be8 M8).take 3) ++ [M8 / 4294967296 % 256] = L0 ++ (be8 M8).take 4 := by rw [List.append_assoc]; rfl
            have h1 := HP.out.2
            rw [e1] at h1
            exact ⟨4, n1 + 1, _, A1, c1, rfl, by omega, hc1, by have h1 := HNE.out; have h2 := HNA.out; omega, h1.ob.cell5, h1.ob.frozen 5, ⟨by omega⟩, ⟨by have := HNE.out; omega⟩, ⟨by rw [← e1, List.length_append, HN1.out]; rfl⟩, ⟨h1⟩⟩
        · obtain rfl : i = 24 := by have := HI.out; omega
          have HLEN : Aside0 ((L0 ++ (be8 M8).take 4).length = n1) := ⟨by first | exact HN1.out | (have := HE.out.row.1; simp at this ⊢; omega)⟩
          have HQA : Aside0 (∀ o, BQ (wr.alloc o) w.heap.size (.slice A n1 c) (L0 ++ (be8 M8).take 4)) := ⟨fun o => HE.out.row.off (Off.of_below (below_alloc (Below.refl _ _) o) (fun _ => False)) (fun _ _ h => h)⟩
          have HA8 : Aside0 (At8 (wr.alloc (.cells #[.int .u8 ((M8 : Int) / 16777216 % 256)] 5)) wr.heap.size 0 [M8 / 16777216 % 256]) := ⟨by rw [show ((M8 : Int) / 16777216 % 256 : Int) = ((M8 / 16777216 % 256 : Nat) : Int) by omega]; exact at8_new wr _ (by omega)⟩
          have HSZ : Aside0 (∀ o, w.heap.size ≤ (wr.alloc o).heap.size) := ⟨fun o => Nat.le_trans HE.out.bel.size (by show _ ≤ (wr.heap.push _).size; simp)⟩
          go_wp2_with (first
            | ((with_reducible refine gate_dst (N := 71) rfl ?_)
               refine app_op rfl (.tmp 64) (.tmp 70) rfl _ w.heap.size (.slice A n1 c) (L0 ++ (be8 M8).take 4) [M8 / 16777216 % 256] wr.heap.size 0 1 1 rfl rfl (HQA.out _) HA8.out rfl (by decide) (by rw [HLEN.out]; omega) (HSZ.out _) ?_
               intro v1 w1 hq hg hat
               obtain ⟨A1, c1, rfl, hc1⟩ := hq.form
               have HP := Aside0.mk (HE.out.pushed hq hg)
               have hlen : ((L0 ++ (be8 M8).take 4) ++ [M8 / 16777216 % 256]).length = n1 + 1 := by rw [List.length_append, HLEN.out]; rfl
               rw [hlen] at HP hc1 ⊢
               have d5 := HP.out.1.cell5
               have e5 := HP.out.1.frozen 5
               clear hq hg hat hlen)
            | fail)
          go_roundg (8 - 5)
          case measure => omega
          case rel =>
            have e1 : (L0 ++ (be8 M8).take 4) ++ [M8 / 16777216 % 256] = L0 ++ (be8 M8).take 5 := by rw [List.append_assoc]; rfl
            have h1 := HP.out.2
            rw [e1] at h1
            exact ⟨5, n1 + 1, _, A1, c1, rfl, by omega, hc1, by have h1 := HNE.out; have h2 := HNA.out; omega, h1.ob.cell5, h1.ob.frozen 5, ⟨by omega⟩, ⟨by have := HNE.out; omega⟩, ⟨by rw [← e1, List.length_append, HN1.out]; rfl⟩, ⟨h1⟩⟩
        · obtain rfl : i = 16 := by have := HI.out; omega
          have HLEN : Aside0 ((L0 ++ (be8 M8).take 5).length = n1) := ⟨by first | exact HN1.out | (have := HE.out.row.1; simp at this ⊢; omega)⟩
          have HQA : Aside0 (∀ o, BQ (wr.alloc o) w.heap.size (.slice A n1 c) (L0 ++ (be8 M8).take 5)) := ⟨fun o => HE.out.row.off (Off.of_below (below_alloc (Below.refl _ _) o) (fun _ => False)) (fun _ _ h => h)⟩
          have HA8 : Aside0 (At8 (wr.alloc (.cells #[.int .u8 ((M8 : Int) / 65536 % 256)] 5)) wr.heap.size 0 [M8 / 65536 % 256]) := ⟨by rw [show ((M8 : Int) / 65536 % 256 : Int) = ((M8 / 65536 % 256 : Nat) : Int) by omega]; exact at8_new wr _ (by omega)⟩
          have HSZ : Aside0 (∀ o, w.heap.size ≤ (wr.alloc o).heap.size) := ⟨fun o => Nat.le_trans HE.out.bel.size (by show _ ≤ (wr.heap.push _).size; simp)⟩
          go_wp2_with (first
            | ((with_reducible refine gate_dst (N := 71) rfl ?_)
               refine app_op rfl (.tmp 64) (.tmp 70) rfl _ w.heap.size (.slice A n1 c) (L0 ++ (be8 M8).take 5) [M8 / 65536 % 256] wr.heap.size 0 1 1 rfl rfl (HQA.out _) HA8.out rfl (by decide) (by rw [HLEN.out]; omega) (HSZ.out _) ?_
               intro v1 w1 hq hg hat
               obtain ⟨A1, c1, rfl, hc1⟩ := hq.form
               have HP := Aside0.mk (HE.out.pushed hq hg)
               have hlen : ((L0 ++ (be8 M8).take 5) ++ [M8 / 65536 % 256]).length = n1 + 1 := by rw [List.length_append, HLEN.out]; rfl
               rw [hlen] at HP hc1 ⊢
               have d5 := HP.out.1.cell5
               have e5 := HP.out.1.frozen 5
               clear hq hg hat hlen)
            | fail)
          go_roundg (8 - 6)
          case measure => omega
          case rel =>
            have e1 : (L0 ++ (be8 M8).take 5) ++ [M8 / 65536 % 256] = L0 ++ (be8 M8).take 6 := by rw [List.append_assoc]; rfl
            have h1 := HP.out.2
            rw [e1] at h1
            exact ⟨6, n1 + 1, _, A1, c1, rfl, by omega, hc1, by have h1 := HNE.out; have h2 := HNA.out; omega, h1.ob.cell5, h1.ob.frozen 5, ⟨by omega⟩, ⟨by have := HNE.out; omega⟩, ⟨by rw [← e1, List.length_append, HN1.out]; rfl⟩, ⟨h1⟩⟩
        · obtain rfl : i = 8 := by have := HI.out; omega
          have HLEN : Aside0 ((L0 ++ (be8 M8).take 6).length = n1) := ⟨by first | exact HN1.out | (have := HE.out.row.1; simp at this ⊢; omega)⟩
          have HQA : Aside0 (∀ o, BQ (wr.alloc o) w.heap.size (.slice A n1 c) (L0 ++ (be8 M8).take 6)) := ⟨fun o => HE.out.row.off (Off.of_below (below_alloc (Below.refl _ _) o) (fun _ => False)) (fun _ _ h => h)⟩
          have HA8 : Aside0 (At8 (wr.alloc (.cells #[.int .u8 ((M8 : Int) / 256 % 256)] 5)) wr.heap.size 0 [M8 / 256 % 256]) := ⟨by rw [show ((M8 : Int) / 256 % 256 : Int) = ((M8 / 256 % 256 : Nat) : Int) by omega]; exact at8_new wr _ (by omega)⟩
          have HSZ : Aside0 (∀ o, w.heap.size ≤ (wr.alloc o).heap.size) := ⟨fun o => Nat.le_trans HE.out.bel.size (by show _ ≤ (wr.heap.push _).size; simp)⟩
          go_wp2_with (first
            | ((with_reducible refine gate_dst (N := 71) rfl ?_)
               refine app_op rfl (.tmp 64) (.tmp 70) rfl _ w.heap.size (.slice A n1 c) (L0 ++ (be8 M8).take 6) [M8 / 256 % 256] wr.heap.size 0 1 1 rfl rfl (HQA.out _) HA8.out rfl (by decide) (by rw [HLEN.out]; omega) (HSZ.out _) ?_
               intro v1 w1 hq hg hat
               obtain ⟨A1, c1, rfl, hc1⟩ := hq.form
               have HP := Aside0.mk (HE.out.pushed hq hg)
               have hlen : ((L0 ++ (be8 M8).take 6) ++ [M8 / 256 % 256]).length = n1 + 1 := by rw [List.length_append, HLEN.out]; rfl
               rw [hlen] at HP hc1 ⊢
               have d5 := HP.out.1.cell5
               have e5 := HP.out.1.frozen 5
               clear hq hg hat hlen)
            | fail)
          go_roundg (8 - 7)
          case measure => omega
          case rel =>
            have e1 : (L0 ++ (be8 M8).take 6) ++ [M8 / 256 % 256] = L0 ++ (be8 M8).take 7 := by rw [List.append_assoc]; rfl
            have h1 := HP.out.2
            rw [e1] at h1
            exact ⟨7, n1 + 1, _, A1, c1, rfl, by omega, hc1, by have h1 := HNE.out; have h2 := HNA.out; omega, h1.ob.cell5, h1.ob.frozen 5, ⟨by omega⟩, ⟨by have := HNE.out; omega⟩, ⟨by rw [← e1, List.length_append, HN1.out]; rfl⟩, ⟨h1⟩⟩
        · obtain rfl : i = 0 := by have := HI.out; omega
          have HLEN : Aside0 ((L0 ++ (be8 M8).take 7).length = n1) := ⟨by first | exact HN1.out | (have := HE.out.row.1; simp at this ⊢; omega)⟩
          have HQA : Aside0 (∀ o, BQ (wr.alloc o) w.heap.size (.slice A n1 c) (L0 ++ (be8 M8).take 7)) := ⟨fun o => HE.out.row.off (Off.of_below (below_alloc (Below.refl _ _) o) (fun _ => False)) (fun _ _ h => h)⟩
          have HA8 : Aside0 (At8 (wr.alloc (.cells #[.int .u8 ((M8 : Int) % 256)] 5)) wr.heap.size 0 [M8 % 256]) := ⟨by rw [show ((M8 : Int) % 256 : Int) = ((M8 % 256 : Nat) : Int) by omega]; exact at8_new wr _ (by omega)⟩
          have HSZ : Aside0 (∀ o, w.heap.size ≤ (wr.alloc o).heap.size) := ⟨fun o => Nat.le_trans HE.out.bel.size (by show _ ≤ (wr.heap.push _).size; simp)⟩
          go_wp2_with (first
            | ((with_reducible refine gate_dst (N := 71) rfl ?_)
               refine app_op rfl (.tmp 64) (.tmp 70) rfl _ w.heap.size (.slice A n1 c) (L0 ++ (be8 M8).take 7) [M8 % 256] wr.heap.size 0 1 1 rfl rfl (HQA.out _) HA8.out rfl (by decide) (by rw [HLEN.out]; omega) (HSZ.out _) ?_
               intro v1 w1 hq hg hat
               obtain ⟨A1, c1, rfl, hc1⟩ := hq.form
               have HP := Aside0.mk (HE.out.pushed hq hg)
               have hlen : ((L0 ++ (be8 M8).take 7) ++ [M8 % 256]).length = n1 + 1 := by rw [List.length_append, HLEN.out]; rfl
               rw [hlen] at HP hc1 ⊢
               have d5 := HP.out.1.cell5
               have e5 := HP.out.1.frozen 5
               clear hq hg hat hlen)
            | fail)
          go_roundg (8 - 8)
          case measure => omega
          case rel =>
            have e1 : (L0 ++ (be8 M8).take 7) ++ [M8 % 256] = L0 ++ (be8 M8).take 8 := by rw [List.append_assoc]; rfl
            have h1 := HP.out.2
            rw [e1] at h1
            exact ⟨8, n1 + 1, _, A1, c1, rfl, by omega, hc1, by have h1 := HNE.out; have h2 := HNA.out; omega, h1.ob.cell5, h1.ob.frozen 5, ⟨by omega⟩, ⟨by have := HNE.out; omega⟩, ⟨by rw [← e1, List.length_append, HN1.out]; rfl⟩, ⟨h1⟩⟩
        · obtain rfl : i = -8 := by have := HI.out; omega
          go_wp2_with fail
          obtain ⟨X, hX⟩ : ∃ X, X = rest m ++ padding m := ⟨_, rfl⟩
          have hXe : L0 ++ (be8 M8).take 8 = X := by
            rw [hX, HL0.out, HM8.out, HM.out]
            exact List.append_assoc _ _ _
          rw [hXe] at HE HN1
          have HX := Aside0.mk hX
          have hXm : ∀ x ∈ X, x < 256 := fun x hx => by
            rw [hX] at hx
            rcases List.mem_append.1 hx with h1 | h1
            · exact rest_mem HMEM.out x h1
            · exact padding_lt m x h1
          have HXM := Aside0.mk hXm
          have HMD : Aside0 (n1 % 64 = 0) := ⟨by rw [← HN1.out, hX]; exact padded_rest m⟩
          clear hXe hX hXm hkg HNE
          go_loopg [] n1 (fun g0 w' => ∃ (j n : Nat) (A : Option Addr) (cc : Nat), n ≤ cc ∧ n ≤ g0 ∧ n ≤ 200 ∧ w'.cell? ⟨eb, 5, none⟩ = some (.slice A n cc) ∧ Aside0 (64 * j + n = n1) ∧ Aside0 (En w w' eb (blocks j (stOf m) X) (.slice A n cc) (M : Int) (X.drop (64 * j))))
          case atStart => exact ⟨0, n1, A, c, hnc, Nat.le_refl _, hn1, k5, ⟨by omega⟩, ⟨HE.out⟩⟩
          case round =>
            clear HE hnc hn1 k5 n5
            obtain ⟨j, n, A, cc, hncc, hng, hn200, k5, HJ, HE⟩ := hrel
            have l5 := HE.out.ob.frozen 5
            by_cases h64 : 64 ≤ n
            · have hdl : (X.drop (64 * j)).length = n := by rw [List.length_drop, HN1.out]; have := HJ.out; omega
              obtain ⟨g, o, c2, hv, hc2, hgl, hgo, hat8⟩ := HE.out.row.at (by omega) (fun x hx => HXM.out x (List.mem_of_mem_drop hx))
              rw [hdl] at hv
              injection hv with hv1 hv2 hv3
              subst hv1
              subst hv3
              have hgh : g ≠ eb := fun e => HE.out.row.ne HE.out.ob (by decide) (by rw [hgo, e])
              have hcut := cutto g o n cc 64 h64 hncc
              have hdq := HE.out.row.drop 64 (by omega)
              obtain ⟨A2, hA2⟩ : ∃ A2, A2 = (if cc = 64 then (some ⟨g, o, none⟩ : Option Addr) else (some ⟨g, o, none⟩ : Option Addr).map (·.add (64 * 1))) := ⟨_, rfl⟩
              rw [← hA2] at hdq
              have HSTP : Aside0 (Calls Tryd.prog 60 #[.pointer (some ⟨eb, 0, none⟩), .slice (some ⟨g, o, none⟩) 64 cc] wr _) := ⟨step' eb g o cc (blocks j (stOf m) X) (.slice (some ⟨g, o, none⟩) n cc) _ ((X.drop (64 * j)).take 64) wr (by rw [List.length_take, hdl]; omega) ⟨fun x hx => hat8.1 x (List.mem_of_mem_take hx), fun i x hx => hat8.2 i x (by rw [List.getElem?_take] at hx; split at hx; exact hx; cases hx)⟩ (by omega) hgl HE.out.ob (blocks_ok HST.out _ _) hgh⟩
              have HDQ := Aside0.mk hdq
              clear hdl hat8 hgo hdq hgl hc2 hgh
              by_cases hc64 : cc = 64
              · obtain rfl : A2 = some ⟨g, o, none⟩ := by rw [hA2, if_pos hc64]
                clear hA2
                subst hc64
                obtain rfl : n = 64 := by omega
                have hz : 64 - 64 = 0 := rfl
                rw [hz] at HDQ
                clear hz
                go_wp2_with (first
                  | (go_at_call 60
                     (with_reducible refine HSTP.out.mono ?_)
                     rintro e w2 ⟨rfl, hob, hoff⟩
                     have HOB2 := Aside0.mk hob
                     have HOF2 := Aside0.mk hoff
                     have m5 := hob.cell5
                     have n5 := hob.frozen 5
                     clear hob hoff)
                  | fail)
                go_roundg (gk - 64)
                case measure => omega
                case rel =>
                  have h1 := HE.out.stepped HOB2.out HOF2.out HDQ.out
                  refine ⟨j + 1, 0, some ⟨g, o, none⟩, 0, by omega, by omega, by omega, h1.ob.cell5, ⟨by have := HJ.out; omega⟩, ⟨?_⟩⟩
                  rw [blocks_succ, show 64 * (j + 1) = 64 * j + 64 by omega, ← List.drop_drop]
                  exact h1
              · obtain rfl : A2 = some ⟨g, o + 64, none⟩ := by rw [hA2, if_neg hc64]; simp [Addr.add]
                clear hA2
                go_wp2_with (first
                  | (go_at_call 60
                     (with_reducible refine HSTP.out.mono ?_)
                     rintro e w2 ⟨rfl, hob, hoff⟩
                     have HOB2 := Aside0.mk hob
                     have HOF2 := Aside0.mk hoff
                     have m5 := hob.cell5
                     have n5 := hob.frozen 5
                     clear hob hoff)
                  | fail)
                go_roundg (gk - 64)
                case measure => omega
                case rel =>
                  have h1 := HE.out.stepped HOB2.out HOF2.out HDQ.out
                  refine ⟨j + 1, n - 64, some ⟨g, o + 64, none⟩, cc - 64, by omega, by omega, by omega, h1.ob.cell5, ⟨by have := HJ.out; omega⟩, ⟨?_⟩⟩
                  rw [blocks_succ, show 64 * (j + 1) = 64 * j + 64 by omega, ← List.drop_drop]
                  exact h1
            · obtain rfl : n = 0 := by have h1 := HMD.out; have h2 := HJ.out; omega
              have hst : blocks j (stOf m) X = stOf (m ++ padding m) := by
                rw [stOf_more m (padding m) j (by rw [← HX.out, HN1.out]; have := HJ.out; omega), ← HX.out]
              obtain ⟨S, hS⟩ : ∃ S, S = stOf (m ++ padding m) := ⟨_, rfl⟩
              rw [hst, ← hS] at HE
              have HS := Aside0.mk hS
              obtain ⟨b0, b1, b2, b3, b4⟩ : S.Ok := by rw [hS]; exact stOf_ok _
              have s0 := HE.out.ob.cellS0
              have s1 := HE.out.ob.cellS1
              have s2 := HE.out.ob.cellS2
              have s3 := HE.out.ob.cellS3
              have s4 := HE.out.ob.cellS4
              have HB1 := Aside0.mk HE.out.bel
              clear hst hS HX HXM HMD HJ HN1 HL0 HNA HST
              go_wp2_with fail
              go_loopg [1, 9, 99] 5 (fun g0 v1 v9 v99 w' => ∃ (k n : Nat) (A : Option Addr) (c : Nat), v1 = .slice A n c ∧ v99 = .int .i64 (k : Int) ∧ k + g0 = 5 ∧ n ≤ c ∧ Aside0 (n = 4 * k) ∧ Aside0 (BQ w' w.heap.size (.slice A n c) ((outOf S).take (4 * k))) ∧ Aside0 (Below w.heap.size w w'))
              case atStart => exact ⟨0, 0, none, 0, rfl, rfl, by omega, Nat.le_refl _, ⟨by omega⟩, ⟨BQ.nil _ _⟩, HB1⟩
              case round =>
                clear HE HB1 s0 s1 s2 s3 s4 k5 l5 hncc hng hn200 h64
                obtain ⟨k, n, A, c, rfl, rfl, hkg, hnc, HNK, HQ, HB⟩ := hrel
                obtain rfl | rfl | rfl | rfl | rfl | rfl : k = 0 ∨ k = 1 ∨ k = 2 ∨ k = 3 ∨ k = 4 ∨ k = 5 := by omega
                · obtain rfl : n = 0 := by have := HNK.out; omega
                  have HLEN : Aside0 (((outOf S).take (4 * 0)).length = 0) := ⟨rfl⟩
                  have HQA : Aside0 (∀ o, BQ (wr.alloc o) w.heap.size (.slice A 0 c) ((outOf S).take (4 * 0))) := ⟨fun o => HQ.out.off (Off.of_below (below_alloc (Below.refl _ _) o) (fun _ => False)) (fun _ _ h => h)⟩
                  have HA8 : Aside0 (At8 (wr.alloc (.cells #[.int .u8 ((S.a : Int) / 16777216), .int .u8 ((S.a : Int) / 65536 % 256), .int .u8 ((S.a : Int) / 256 % 256), .int .u8 ((S.a : Int) % 256)] 5)) wr.heap.size 0 (be32 S.a)) := ⟨at8_new4 wr S.a b0⟩
                  have HSZ : Aside0 (∀ o, w.heap.size ≤ (wr.alloc o).heap.size) := ⟨fun o => Nat.le_trans HB.out.size (by show _ ≤ (wr.heap.push _).size; simp)⟩
                  have hix := index5 #[.int .u32 (S.a : Int), .int .u32 (S.b : Int), .int .u32 (S.c : Int), .int .u32 (S.d : Int), .int .u32 (S.e : Int)] 0 0 rfl _ (by decide) rfl
                  go_wp2_with (first
                    | ((with_reducible refine gate_dst (N := 115) rfl ?_)
                       refine app_op rfl (.tmp 102) (.tmp 114) rfl _ w.heap.size (.slice A 0 c) ((outOf S).take (4 * 0)) (be32 S.a) wr.heap.size 0 4 4 rfl rfl (HQA.out _) HA8.out rfl (by decide) (by rw [HLEN.out]; omega) (HSZ.out _) ?_
                       intro v1 w1 hq hg hat
                       obtain ⟨A1, c1, rfl, hc1⟩ := hq.form
                       have hlen : ((outOf S).take (4 * 0) ++ be32 S.a).length = 4 := rfl
                       rw [hlen] at hq hc1 ⊢
                       have HQ1 := Aside0.mk hq
                       have HB1 : Aside0 (Below w.heap.size w w1) := ⟨(below_alloc HB.out _).grown hg (HSZ.out _) (fun k hk => (q_typed HQ.out k hk).1)⟩
                       clear hq hg hat hlen)
                    | fail)
                  go_roundg (5 - 1)
                  case measure => omega
                  case rel => exact ⟨1, 4, A1, c1, rfl, rfl, by omega, hc1, ⟨rfl⟩, HQ1, HB1⟩
                · obtain rfl : n = 4 := by have := HNK.out; omega
                  have HLEN : Aside0 (((outOf S).take (4 * 1)).length = 4) := ⟨rfl⟩
                  have HQA : Aside0 (∀ o, BQ (wr.alloc o) w.heap.size (.slice A 4 c) ((outOf S).take (4 * 1))) := ⟨fun o => HQ.out.off (Off.of_below (below_alloc (Below.refl _ _) o) (fun _ => False)) (fun _ _ h => h)⟩
                  have HA8 : Aside0 (At8 (wr.alloc (.cells #[.int .u8 ((S.b : Int) / 16777216), .int .u8 ((S.b : Int) / 65536 % 256), .int .u8 ((S.b : Int) / 256 % 256), .int .u8 ((S.b : Int) % 256)] 5)) wr.heap.size 0 (be32 S.b)) := ⟨at8_new4 wr S.b b1⟩
                  have HSZ : Aside0 (∀ o, w.heap.size ≤ (wr.alloc o).heap.size) := ⟨fun o => Nat.le_trans HB.out.size (by show _ ≤ (wr.heap.push _).size; simp)⟩
                  have hix := index5 #[.int .u32 (S.a : Int), .int .u32 (S.b : Int), .int .u32 (S.c : Int), .int .u32 (S.d : Int), .int .u32 (S.e : Int)] 1 1 rfl _ (by decide) rfl
                  go_wp2_with (first
                    | ((with_reducible refine gate_dst (N := 115) rfl ?_)
                       refine app_op rfl (.tmp 102) (.tmp 114) rfl _ w.heap.size (.slice A 4 c) ((outOf S).take (4 * 1)) (be32 S.b) wr.heap.size 0 4 4 rfl rfl (HQA.out _) HA8.out rfl (by decide) (by rw [HLEN.out]; omega) (HSZ.out _) ?_
                       intro v1 w1 hq hg hat
                       obtain ⟨A1, c1, rfl, hc1⟩ := hq.form
                       have hlen : ((outOf S).take (4 * 1) ++ be32 S.b).length = 8 := rfl
                       rw [hlen] at hq hc1 ⊢
                       have HQ1 := Aside0.mk hq
                       have HB1 : Aside0 (Below w.heap.size w w1) := ⟨(below_alloc HB.out _).grown hg (HSZ.out _) (fun k hk => (q_typed HQ.out k hk).1)⟩
                       clear hq hg hat hlen)
                    | fail)
                  go_roundg (5 - 2)
                  case measure => omega
                  case rel => exact ⟨2, 8, A1, c1, rfl, rfl, by omega, hc1, ⟨rfl⟩, HQ1, HB1⟩
                · obtain rfl : n = 8 := by have := HNK.out; omega
                  have HLEN : Aside0 (((outOf S).take (4 * 2)).length = 8) := ⟨rfl⟩
                  have HQA : Aside0 (∀ o, BQ (wr.alloc o) w.heap.size (.slice A 8 c) ((outOf S).take (4 * 2))) := ⟨fun o => HQ.out.off (Off.of_below (below_alloc (Below.refl _ _) o) (fun _ => False)) (fun _ _ h => h)⟩
                  have HA8 : Aside0 (At8 (wr.alloc (.cells #[.int .u8 ((S.c : Int) / 16777216), .int .u8 ((S.c : Int) / 65536 % 256), .int .u8 ((S.c : Int) / 256 % 256), .int .u8 ((S.c : Int) % 256)] 5)) wr.heap.size 0 (be32 S.c)) := ⟨at8_new4 wr S.c b2⟩
                  have HSZ : Aside0 (∀ o, w.heap.size ≤ (wr.alloc o).heap.size) := ⟨fun o => Nat.le_trans HB.out.size (by show _ ≤ (wr.heap.push _).size; simp)⟩
                  have hix := index5 #[.int .u32 (S.a : Int), .int .u32 (S.b : Int), .int .u32 (S.c : Int), .int .u32 (S.d : Int), .int .u32 (S.e : Int)] 2 2 rfl _ (by decide) rfl
                  go_wp2_with (first
                    | ((with_reducible refine gate_dst (N := 115) rfl ?_)
                       refine app_op rfl (.tmp 102) (.tmp 114) rfl _ w.heap.size (.slice A 8 c) ((outOf S).take (4 * 2)) (be32 S.c) wr.heap.size 0 4 4 rfl rfl (HQA.out _) HA8.out rfl (by decide) (by rw [HLEN.out]; omega) (HSZ.out _) ?_
                       intro v1 w1 hq hg hat
                       obtain ⟨A1, c1, rfl, hc1⟩ := hq.form
                       have hlen : ((outOf S).take (4 * 2) ++ be32 S.c).length = 12 := rfl
                       rw [hlen] at hq hc1 ⊢
                       have HQ1 := Aside0.mk hq
                       have HB1 : Aside0 (Below w.heap.size w w1) := ⟨(below_alloc HB.out _).grown hg (HSZ.out _) (fun k hk => (q_typed HQ.out k hk).1)⟩
                       clear hq hg hat hlen)
                    | fail)
                  go_roundg (5 - 3)
                  case measure => omega
                  case rel => exact ⟨3, 12, A1, c1, rfl, rfl, by omega, hc1, ⟨rfl⟩, HQ1, HB1⟩
                · obtain rfl : n = 12 := by have := HNK.out; omega
                  have HLEN : Aside0 (((outOf S).take (4 * 3)).length = 12) := ⟨rfl⟩
                  have HQA : Aside0 (∀ o, BQ (wr.alloc o) w.heap.size (.slice A 12 c) ((outOf S).take (4 * 3))) := ⟨fun o => HQ.out.off (Off.of_below (below_alloc (Below.refl _ _) o) (fun _ => False)) (fun _ _ h => h)⟩
                  have HA8 : Aside0 (At8 (wr.alloc (.cells #[.int .u8 ((S.d : Int) / 16777216), .int .u8 ((S.d : Int) / 65536 % 256), .int .u8 ((S.d : Int) / 256 % 256), .int .u8 ((S.d : Int) % 256)] 5)) wr.heap.size 0 (be32 S.d)) := ⟨at8_new4 wr S.d b3⟩
                  have HSZ : Aside0 (∀ o, w.heap.size ≤ (wr.alloc o).heap.size) := ⟨fun o => Nat.le_trans HB.out.size (by show _ ≤ (wr.heap.push _).size; simp)⟩
                  have hix := index5 #[.int .u32 (S.a : Int), .int .u32 (S.b : Int), .int .u32 (S.c : Int), .int .u32 (S.d : Int), .int .u32 (S.e : Int)] 3 3 rfl _ (by decide) rfl
                  go_wp2_with (first
                    | ((with_reducible refine gate_dst (N := 115) rfl ?_)
                       refine app_op rfl (.tmp 102) (.tmp 114) rfl _ w.heap.size (.slice A 12 c) ((outOf S).take (4 * 3)) (be32 S.d) wr.heap.size 0 4 4 rfl rfl (HQA.out _) HA8.out rfl (by decide) (by rw [HLEN.out]; omega) (HSZ.out _) ?_
                       intro v1 w1 hq hg hat
                       obtain ⟨A1, c1, rfl, hc1⟩ := hq.form
                       have hlen : ((outOf S).take (4 * 3) ++ be32 S.d).length = 16 := rfl
                       rw [hlen] at hq hc1 ⊢
                       have HQ1 := Aside0.mk hq
                       have HB1 : Aside0 (Below w.heap.size w w1) := ⟨(below_alloc HB.out _).grown hg (HSZ.out _) (fun k hk => (q_typed HQ.out k hk).1)⟩
                       clear hq hg hat hlen)
                    | fail)
                  go_roundg (5 - 4)
                  case measure => omega
                  case rel => exact ⟨4, 16, A1, c1, rfl, rfl, by omega, hc1, ⟨rfl⟩, HQ1, HB1⟩
                · obtain rfl : n = 16 := by have := HNK.out; omega
                  have HLEN : Aside0 (((outOf S).take (4 * 4)).length = 16) := ⟨rfl⟩
                  have HQA : Aside0 (∀ o, BQ (wr.alloc o) w.heap.size (.slice A 16 c) ((outOf S).take (4 * 4))) := ⟨fun o => HQ.out.off (Off.of_below (below_alloc (Below.refl _ _) o) (fun _ => False)) (fun _ _ h => h)⟩
                  have HA8 : Aside0 (At8 (wr.alloc (.cells #[.int .u8 ((S.e : Int) / 16777216), .int .u8 ((S.e : Int) / 65536 % 256), .int .u8 ((S.e : Int) / 256 % 256), .int .u8 ((S.e : Int) % 256)] 5)) wr.heap.size 0 (be32 S.e)) := ⟨at8_new4 wr S.e b4⟩
                  have HSZ : Aside0 (∀ o, w.heap.size ≤ (wr.alloc o).heap.size) := ⟨fun o => Nat.le_trans HB.out.size (by show _ ≤ (wr.heap.push _).size; simp)⟩
                  have hix := index5 #[.int .u32 (S.a : Int), .int .u32 (S.b : Int), .int .u32 (S.c : Int), .int .u32 (S.d : Int), .int .u32 (S.e : Int)] 4 4 rfl _ (by decide) rfl
                  go_wp2_with (first
                    | ((with_reducible refine gate_dst (N := 115) rfl ?_)
                       refine app_op rfl (.tmp 102) (.tmp 114) rfl _ w.heap.size (.slice A 16 c) ((outOf S).take (4 * 4)) (be32 S.e) wr.heap.size 0 4 4 rfl rfl (HQA.out _) HA8.out rfl (by decide) (by rw [HLEN.out]; omega) (HSZ.out _) ?_
                       intro v1 w1 hq hg hat
                       obtain ⟨A1, c1, rfl, hc1⟩ := hq.form
                       have hlen : ((outOf S).take (4 * 4) ++ be32 S.e).length = 20 := rfl
                       rw [hlen] at hq hc1 ⊢
                       have HQ1 := Aside0.mk hq
                       have HB1 : Aside0 (Below w.heap.size w w1) := ⟨(below_alloc HB.out _).grown hg (HSZ.out _) (fun k hk => (q_typed HQ.out k hk).1)⟩
                       clear hq hg hat hlen)
                    | fail)
                  go_roundg (5 - 5)
                  case measure => omega
                  case rel => exact ⟨5, 20, A1, c1, rfl, rfl, by omega, hc1, ⟨rfl⟩, HQ1, HB1⟩
                · obtain rfl : n = 20 := by have := HNK.out; omega
                  go_wp2_with fail
                  go_ret
                  obtain ⟨g, o, c2, hv, hc2, hgl, hgo, hat8⟩ := HQ.out.at (by show 0 < 20; decide) (fun x hx => outOf_lt S x hx)
                  injection hv with hv1 hv2 hv3
                  subst hv1
                  subst hv3

                  refine ⟨g, o, ⟨_, rfl⟩, (q_typed HQ.out g rfl).1, hgl, ?_, HB.out⟩
                  unfold sha1
                  rw [← HS.out]
                  exact hat8
end Go.Proofs.YthpoiceceogdhaaDoor.ShaD
