/- spec.Big32, spec.turn, spec.Put32 walked; appending bytes read anywhere. -/
import Derived.Test.YthpoiceceogdhaaDoorShaD
set_option linter.unusedVariables false
set_option linter.unusedSimpArgs false
namespace Go.Proofs.YthpoiceceogdhaaDoor.ShaE
open Go.RowKit Go.Proofs.YthpoiceceogdhaaDoorW.PrintWords Go.Proofs.YthpoiceceogdhaaDoor.QAll ShaA ShaP ShaB ShaC ShaD

set_option maxHeartbeats 4000000 in
set_option maxRecDepth 100000 in
theorem big32 (g o n c x0 x1 x2 x3 : Nat) (w : World) (h0 : w.cell? ⟨g, o, none⟩ = some (.int .u8 (x0 : Int))) (h1 : w.cell? ⟨g, o + 1, none⟩ = some (.int .u8 (x1 : Int))) (h2 : w.cell? ⟨g, o + 2, none⟩ = some (.int .u8 (x2 : Int))) (h3 : w.cell? ⟨g, o + 3, none⟩ = some (.int .u8 (x3 : Int)))
    (b0 : x0 < 256) (b1 : x1 < 256) (b2 : x2 < 256) (b3 : x3 < 256) (hn : 4 ≤ n) :
    Calls Tryd.prog 17 #[.slice (some ⟨g, o, none⟩) n c] w fun e w' => e = .returned (.int .u32 ((be4 x0 x1 x2 x3 : Nat) : Int)) ∧ ∃ q, w' = w.drewN q := by
  have hbe := be4_eq x0 x1 x2 x3 b0 b1 b2 b3
  go_enter Tryd.func17, Tryd.ntmps17
  go_wp2_with fail
  go_quiet (fail)
  go_wp2_with fail
  go_ret
  exact ⟨rfl, _, rfl⟩
set_option maxHeartbeats 4000000 in
set_option maxRecDepth 100000 in
theorem turn1 (x : Nat) (hx : x < 4294967296) (w : World) : Calls Tryd.prog 18 #[.int .u32 (x : Int), .int .u64 1] w fun e w' => e = .returned (.int .u32 ((rot1 x : Nat) : Int)) ∧ w' = w := by
  have hr := rot1_eq x hx
  go_enter Tryd.func18, Tryd.ntmps18
  go_wp2_with fail
  go_ret
  exact ⟨rfl, rfl⟩
set_option maxHeartbeats 4000000 in
set_option maxRecDepth 100000 in
theorem turn5 (x : Nat) (hx : x < 4294967296) (w : World) : Calls Tryd.prog 18 #[.int .u32 (x : Int), .int .u64 5] w fun e w' => e = .returned (.int .u32 ((rot5 x : Nat) : Int)) ∧ w' = w := by
  have hr := rot5_eq x hx
  go_enter Tryd.func18, Tryd.ntmps18
  go_wp2_with fail
  go_ret
  exact ⟨rfl, rfl⟩
set_option maxHeartbeats 4000000 in
set_option maxRecDepth 100000 in
theorem turn30 (x : Nat) (hx : x < 4294967296) (w : World) : Calls Tryd.prog 18 #[.int .u32 (x : Int), .int .u64 30] w fun e w' => e = .returned (.int .u32 ((rot30 x : Nat) : Int)) ∧ w' = w := by
  have hr := rot30_eq x hx
  go_enter Tryd.func18, Tryd.ntmps18
  go_wp2_with fail
  go_ret
  exact ⟨rfl, rfl⟩
set_option maxHeartbeats 4000000 in
set_option maxRecDepth 100000 in
theorem put32 (x : Nat) (hx : x < 4294967296) (w : World) : Calls Tryd.prog 19 #[.int .u32 (x : Int)] w fun e w' => e = .returned (.slice (some ⟨w.heap.size, 0, none⟩) 4 4) ∧ At8 w' w.heap.size 0 (be32 x) ∧ Below w.heap.size w w' ∧ w'.heap.size = w.heap.size + 1 := by
  have h4 := at8_new4 w x hx
  have H4 := Aside0.mk h4
  clear h4
  go_enter Tryd.func19, Tryd.ntmps19
  go_wp2_with fail
  go_ret
  exact ⟨rfl, H4.out, below_alloc (Below.refl _ _) _, by show (w.heap.push _).size = _; simp⟩

/-- Bytes that can be read in a slice. -/
def Rd8 (w : World) (V : Value) (ys : List Nat) : Prop := (∀ x ∈ ys, x < 256) ∧ ∃ A c, V = .slice A ys.length c ∧ ys.length ≤ c ∧ (0 < ys.length → ∃ ad, A = some ad ∧ ∀ i x : Nat, ys[i]? = some x → w.cell? (ad.add i) = some (.int .u8 (x : Int)))
section
variable {ops : Array Oper} {Q : Exit → Act → World → Prop} {a : Act} {rest : List Oper} {o : Oper}
theorem app_rd (W : World) (B : Nat) (ty : TypeId) (v V : Value) (l ys : List Nat) (HQ : BQ W B v l) (HV : Rd8 W V ys) (hl : l.length + ys.length ≤ 140737488355328) (hB : B ≤ W.heap.size) :
    ∃ v1 w1, (Builtin.append_ #[22, 22] ty #[v, V]).run Tryd.prog W = .ok v1 w1 ∧ BQ w1 B v1 (l ++ ys) ∧ W.grownBy w1 v.ownBlock ∧ (v1.ownBlock = v.ownBlock ∨ ∃ b, v1.ownBlock = some b ∧ W.heap.size ≤ b) := by
  obtain ⟨hy, A', c', rfl, hc', hA⟩ := HV
  obtain ⟨i0, hi, hz0, hz1, hz2⟩ := info_parts ShaB.info5
  rcases Nat.eq_zero_or_pos ys.length with h0 | h0
  · obtain rfl : ys = [] := List.eq_nil_of_length_eq_zero h0
    obtain ⟨A, c, rfl, hc⟩ := HQ.form
    refine ⟨.slice A l.length c, W, ?_, by simpa using HQ, World.grownBy.refl W _, .inl rfl⟩
    have hm : ∀ B : Option Addr, (Builtin.firstCells 1 0 (.slice B 0 c')).run Tryd.prog W = .ok #[] W := by
      intro B
      cases B with
      | none => rfl
      | some b => simp only [Builtin.firstCells]; exact run_loadCells_list W b [] (fun j v h => by simp at h)
    cases A with
    | none => simp [Builtin.append_, run_underlying und28, sizeOf, typeInfo, hi, hz1, Builtin.lenOf, hc, hm]
    | some a => simp [Builtin.append_, run_underlying und28, sizeOf, typeInfo, hi, hz1, Builtin.lenOf, hc, hm, storeCells]
  · obtain ⟨ad, rfl, hc⟩ := hA h0
    obtain ⟨v1, w1, h1, h2, h3, h4⟩ := q_append (P := Tryd.prog) W B 22 ty 5 i0 (.int .u8 0) 1 1 und28 hi hz0 hz1 hz2 rfl (by omega) v l.length (l.map vB) HQ ad ys.length c' (ys.map vB) (by simp)
      (fun j u hu => by
        rw [List.getElem?_map] at hu
        obtain ⟨x, hx, rfl⟩ := Option.map_eq_some_iff.1 hu
        exact hc j x hx)
      (fun u hu => by obtain ⟨x, _, rfl⟩ := List.mem_map.1 hu; rfl) h0 (by simp only [maxLen]; omega) (by omega) hB
    exact ⟨v1, w1, h1, by unfold BQ; rw [List.length_append, List.map_append]; exact h2, h3, h4⟩
theorem appr_op (hgd : o.guard = none) (s x : Operand) (ho : o.op = .call { callee := .builtin .append, args := #[s, x], argTypes := #[22, 22] }) (W : World) (B : Nat) (v V : Value) (l ys : List Nat)
    (hs : a.eval s = v) (hx : a.eval x = V) (HQ : BQ W B v l) (HV : Rd8 W V ys) (hl : l.length + ys.length ≤ 140737488355328) (hB : B ≤ W.heap.size)
    (h : ∀ v1 w1, BQ w1 B v1 (l ++ ys) → W.grownBy w1 v.ownBlock → (v1.ownBlock = v.ownBlock ∨ ∃ b, v1.ownBlock = some b ∧ W.heap.size ≤ b) → wpList Tryd.prog ops Q rest (a.put o.dst v1) w1) :
    wpList Tryd.prog ops Q (o :: rest) a W := by
  obtain ⟨v1, w1, hr, h1, h2, h3⟩ := app_rd W B o.type v V l ys HQ HV hl hB
  refine wpList_plain hgd fun K hK => ?_
  unfold Oper.wp execOp
  simp only [ho, resolve, invoke, builtin, Sem.run_bind, Sem.run_pure, Result.andThen_ok, List.map_toArray, List.map_cons, List.map_nil, hs, hx, hr]
  exact hK _ _ (h v1 w1 h1 h2 h3)
end
theorem Rd8.below {w w' : World} {V : Value} {ys : List Nat} (h : Rd8 w V ys) (hb : Below w.heap.size w w') : Rd8 w' V ys := by
  obtain ⟨hy, A, c, rfl, hc, hA⟩ := h
  refine ⟨hy, A, c, rfl, hc, fun hp => ?_⟩
  obtain ⟨ad, rfl, hx⟩ := hA hp
  refine ⟨ad, rfl, fun i x hi => ?_⟩
  have h1 := hx i x hi
  have hlt : (ad.add i).block < w.heap.size := World.block_lt_of_cell? w _ h1
  exact (hb.cell hlt).trans h1
theorem Rd8.of_at {w : World} {g o c : Nat} {ys : List Nat} (h : At8 w g o ys) (hc : ys.length ≤ c) : Rd8 w (.slice (some ⟨g, o, none⟩) ys.length c) ys :=
  ⟨h.1, _, _, rfl, hc, fun _ => ⟨_, rfl, fun i x hi => by rw [Lib.addr_add]; exact h.2 i x hi⟩⟩
/-- A row of bytes of one's own that begins with its block. -/
def BR (w : World) (B : Nat) (v : Value) (l : List Nat) : Prop := w.ownsRow B 5 1 v l.length (l.map vB)
theorem BR.form {w : World} {B : Nat} {v : Value} {l : List Nat} (h : BR w B v l) : ∃ A c, v = .slice A l.length c ∧ l.length ≤ c := q_slice (q_of_own h)
theorem BR.q {w : World} {B : Nat} {v : Value} {l : List Nat} (h : BR w B v l) : BQ w B v l := q_of_own h
theorem BR.below {w w' : World} {B : Nat} {v : Value} {l : List Nat} (h : BR w B v l) (hb : Below w.heap.size w w') : BR w' B v l := own_move h (fun k hk => hb.block k (own_lt h k hk))
theorem BR.nil (w : World) (B : Nat) : BR w B (.slice none 0 0) [] := ⟨rfl, .inl ⟨rfl, rfl⟩⟩
section
variable {ops : Array Oper} {Q : Exit → Act → World → Prop} {a : Act} {rest : List Oper} {o : Oper}
theorem appo_op (hgd : o.guard = none) (s x : Operand) (ho : o.op = .call { callee := .builtin .append, args := #[s, x], argTypes := #[22, 22] }) (W : World) (B : Nat) (v : Value) (l ys : List Nat) (pb po m c : Nat)
    (hs : a.eval s = v) (hx : a.eval x = .slice (some ⟨pb, po, none⟩) m c) (HQ : BR W B v l) (HA : At8 W pb po ys) (hm : ys.length = m) (hl : l.length + m ≤ 140737488355328) (hB : B ≤ W.heap.size)
    (h : ∀ v1 w1, BR w1 B v1 (l ++ ys) → W.grownBy w1 v.ownBlock → wpList Tryd.prog ops Q rest (a.put o.dst v1) w1) :
    wpList Tryd.prog ops Q (o :: rest) a W := by
  obtain ⟨i0, hi, hz0, hz1, hz2⟩ := info_parts ShaB.info5
  obtain ⟨v1, w1, hr, h1, h2, _, _⟩ := run_append_own_at (P := Tryd.prog) W B 22 o.type 5 i0 (.int .u8 0) 1 1 und28 hi hz0 hz1 hz2 rfl (by omega) v l.length (l.map vB) HQ ⟨pb, po, none⟩ m c (ys.map vB) (by simp [hm])
    (fun j u hu => by
      rw [List.getElem?_map] at hu
      obtain ⟨x, hx, rfl⟩ := Option.map_eq_some_iff.1 hu
      rw [Lib.addr_add]
      exact HA.2 j x hx)
    (fun u hu => by obtain ⟨x, _, rfl⟩ := List.mem_map.1 hu; rfl) (by simp only [maxLen]; omega) (by omega) hB
  refine wpList_plain hgd fun K hK => ?_
  unfold Oper.wp execOp
  simp only [ho, resolve, invoke, builtin, Sem.run_bind, Sem.run_pure, Result.andThen_ok, List.map_toArray, List.map_cons, List.map_nil, hs, hx, hr]
  exact hK _ _ (h v1 w1 (by unfold BR; rw [List.length_append, List.map_append, hm]; exact h1) h2)
end
end Go.Proofs.YthpoiceceogdhaaDoor.ShaE
