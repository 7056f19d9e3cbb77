/- Rows that may be appended to wherever they came from; spec.Decimal and spec.ObjectHash walked. -/
import Derived.Test.YthpoiceceogdhaaDoorShaF
import Derived.Test.YthpoiceceogdhaaDoorQAllx1
import Derived.Lib.ConvBytes
import Derived.Lib.ItoaNum
set_option linter.unusedVariables false
set_option linter.unusedSimpArgs false
namespace Go.Proofs.YthpoiceceogdhaaDoor.HshA
open Go.RowKit Go.Proofs.YthpoiceceogdhaaDoorW.PrintWords Go.Proofs.YthpoiceceogdhaaDoor.QAll ShaA ShaP ShaB ShaC ShaD ShaE ShaF

theorem und9 : Tryd.prog.underlying 9 = some .string := by kernel_rfl
theorem und5 : Tryd.prog.underlying 5 = some (.int .u8) := by kernel_rfl
/-- A slice of bytes that may be written up to its capacity, in a block younger than w0. -/
def Lw (w0 w : World) (V : Value) (l : List Nat) : Prop :=
  ∃ g o cap, V = .slice (some ⟨g, o, none⟩) l.length cap ∧ l.length ≤ cap ∧ w0.heap.size ≤ g ∧ At8 w g o l ∧ w.there g o cap ∧ g < w.heap.size
theorem Lw.rd {w0 w : World} {V : Value} {l : List Nat} (h : Lw w0 w V l) : Rd8 w V l := by
  obtain ⟨g, o, cap, rfl, hc, _, h8, _, _⟩ := h
  exact Rd8.of_at h8 hc
theorem at8_range {w : World} {g o : Nat} {l : List Nat} (h : At8 w g o l) : w.rangeAt g o (l.map vB) := fun j v hv => by
  rw [List.getElem?_map] at hv
  obtain ⟨x, hx, rfl⟩ := Option.map_eq_some_iff.1 hv
  exact h.2 j x hx
theorem range_at8 {w : World} {g o : Nat} {l : List Nat} (hl : ∀ x ∈ l, x < 256) (h : w.rangeAt g o (l.map vB)) : At8 w g o l := ⟨hl, fun i x hi => h i (vB x) (by rw [List.getElem?_map, hi]; rfl)⟩
theorem Lw.below {w0 w w' : World} {V : Value} {l : List Nat} (h : Lw w0 w V l) (hb : Below w.heap.size w w') : Lw w0 w' V l := by
  obtain ⟨g, o, cap, rfl, hc, h0, h8, ht, hlt⟩ := h
  have hh : w'.heap[g]? = w.heap[g]? := hb.block g hlt
  exact ⟨g, o, cap, rfl, hc, h0, ⟨h8.1, fun i x hi => (World.cell?_of_block hh).trans (h8.2 i x hi)⟩, fun j hj => ⟨by rw [World.cell?_of_block hh]; exact (ht j hj).1, by rw [World.frozen?_of_block hh]; exact (ht j hj).2⟩, Nat.lt_of_lt_of_le hlt hb.size⟩
theorem app_lw (w0 W : World) (ty : TypeId) (V X : Value) (l ys : List Nat) (h : Lw w0 W V l) (hx : Rd8 W X ys) (hb : Below w0.heap.size w0 W) (hl : l.length + ys.length ≤ 140737488355328) :
    ∃ v1 w1, (Builtin.append_ #[22, 22] ty #[V, X]).run Tryd.prog W = .ok v1 w1 ∧ Lw w0 w1 v1 (l ++ ys) ∧ Below w0.heap.size w0 w1 := by
  obtain ⟨g, o, cap, rfl, hc, hg, hat, hth, hgw⟩ := h
  obtain ⟨hy, A, c, rfl, hyc, hA⟩ := hx
  obtain ⟨i0, hi, hz0, hz1, hz2⟩ := info_parts ShaB.info5
  have hxy : ∀ x ∈ l ++ ys, x < 256 := fun x hx => (List.mem_append.1 hx).elim (hat.1 x) (hy x)
  have hone : ∀ v ∈ ys.map vB, v.oneCell' = true := fun v hv => by obtain ⟨x, _, rfl⟩ := List.mem_map.1 hv; rfl
  by_cases hn : l.length + ys.length ≤ cap
  · have hfirst : (Builtin.firstCells 1 ys.length (.slice A ys.length c)).run Tryd.prog W = .ok (ys.map vB).toArray W := by
      cases A with
      | none =>
        have h0 : ys.length = 0 := Nat.eq_zero_of_not_pos (fun hp => by obtain ⟨ad, e, _⟩ := hA hp; cases e)
        obtain rfl : ys = [] := List.eq_nil_of_length_eq_zero h0
        rfl
      | some ad => exact run_firstCells_some W 1 ys.length ad ys.length c (ys.map vB) (by simp) (fun j v hv => by
          rw [List.getElem?_map] at hv
          obtain ⟨x, hx, rfl⟩ := Option.map_eq_some_iff.1 hv
          have hp : 0 < ys.length := Nat.lt_of_le_of_lt (Nat.zero_le _) (List.getElem?_eq_some_iff.1 hx).1
          obtain ⟨ad', e, hc'⟩ := hA hp
          injection e with e
          subst e
          exact hc' j x hx)
    have hst := run_storeCells_cells (P := Tryd.prog) g (o + l.length) (ys.map vB) 0 W (fun j hj => by
        have := (hth (l.length + j) (by simp at hj; omega)).1
        rw [show o + l.length + 0 + j = o + (l.length + j) by omega]; exact this) (fun j hj => by
        have := (hth (l.length + j) (by simp at hj; omega)).2
        rw [show o + l.length + 0 + j = o + (l.length + j) by omega]; exact this) hone
    rw [Nat.add_zero] at hst
    refine ⟨.slice (some ⟨g, o, none⟩) (l.length + ys.length) cap, W.setCells g (o + l.length) (ys.map vB), ?_, ⟨g, o, cap, by rw [List.length_append], by rw [List.length_append]; exact hn, hg, ?_, World.there_setCells hth _ _ _, Nat.lt_of_lt_of_le hgw (Off.setCells W g (ys.map vB) (o + l.length)).zero.size⟩, ?_⟩
    · simp only [Builtin.append_, run_underlying und28, sizeOf, typeInfo, hi, hz1, Builtin.lenOf, Sem.run_bind, Sem.run_pure, Result.andThen_ok]
      simp [run_underlying und28, hi, hz1, hn, hfirst, Lib.addr_add, hst]
    · refine range_at8 hxy ?_
      rw [List.map_append]
      intro j v hv
      rcases Nat.lt_or_ge j (l.map vB).length with h1 | h1
      · rw [List.getElem?_append_left h1] at hv
        exact World.rangeAt_setCells_apart (at8_range hat) g (o + l.length) (ys.map vB) (Or.inr (Or.inl (by simp))) j v hv
      · rw [List.getElem?_append_right h1] at hv
        have := World.rangeAt_setCells_same W g (o + l.length) (ys.map vB) (fun i hi => by
          have := hth (l.length + i) (by simp at hi; omega)
          rw [Nat.add_assoc]; exact this) (j - (l.map vB).length) v hv
        rw [show o + l.length + (j - (l.map vB).length) = o + j by simp at h1 ⊢; omega] at this
        exact this
    · exact hb.trans ((Off.setCells W g (ys.map vB) (o + l.length)).below hb.size (fun k hk => by rw [show k = g from hk]; exact hg))
  · have hp : 0 < ys.length := by omega
    obtain ⟨ad, rfl, hc'⟩ := hA hp
    have hr := run_append_grow (P := Tryd.prog) W 22 ty 5 i0 (.int .u8 0) und28 hi hz0 ⟨g, o, none⟩ l.length cap (l.map vB) (by rw [hz1]; simp) (fun j v hv => by rw [Lib.addr_add]; exact at8_range hat j v hv)
      ad ys.length c (ys.map vB) (by rw [hz1]; simp) (fun j v hv => by
        rw [List.getElem?_map] at hv
        obtain ⟨x, hx, rfl⟩ := Option.map_eq_some_iff.1 hv
        exact hc' j x hx) (by omega) (by omega) (growslice_fits (by omega) (by rw [hz2]; omega))
    refine ⟨_, _, hr, ⟨W.heap.size, 0, grownCap W (l.length + ys.length) cap 5, by rw [List.length_append], ?_, hb.size, ?_, ?_, by show _ < (W.drew.heap.push _).size; simp⟩, ?_⟩
    · rw [List.length_append]; exact grownCap_ge W _ _ _
    · refine range_at8 hxy ?_
      intro j v hv
      refine (Lib.cell_of_heap (heap_alloc_new W.drew _) (0 + j)).trans ?_
      rw [List.map_append] at hv
      have hj : j < ((l.map vB) ++ (ys.map vB)).length := (List.getElem?_eq_some_iff.1 hv).1
      rw [Nat.zero_add, ← Array.getElem?_toList, Array.toList_append, List.getElem?_append_left (by simpa using hj)]
      simpa using hv
    · intro j hj
      refine ⟨?_, Lib.frozen_of_heap (heap_alloc_new W.drew _) _⟩
      refine (congrArg Option.isSome (Lib.cell_of_heap (heap_alloc_new W.drew _) (0 + j))).trans ?_
      have := grownCap_ge W (l.length + ys.length) cap 5
      simp [size_zeroCells, Value.cells]
      omega
    · exact (below_alloc (below_drew hb) _)
/-- The bytes of a text. -/
def bl (s : ByteArray) : List Nat := s.data.toList.map (fun b => b.toNat)
theorem bl_len (s : ByteArray) : (bl s).length = s.size := by unfold bl; rw [List.length_map, Lib.size_eq]
theorem bl_lt (s : ByteArray) : ∀ x ∈ bl s, x < 256 := fun x hx => by
  obtain ⟨b, _, rfl⟩ := List.mem_map.1 hx
  exact b.toNat_lt
theorem bl_append (s t : ByteArray) : bl (s ++ t) = bl s ++ bl t := by unfold bl; rw [ByteArray.data_append, Array.toList_append, List.map_append]
theorem conv_lw (w0 W : World) (s : ByteArray) (hb : Below w0.heap.size w0 W) :
    ∃ v1 w1, (convert 9 22 (.string s)).run Tryd.prog W = .ok v1 w1 ∧ Lw w0 w1 v1 (bl s) ∧ Below w0.heap.size w0 w1 := by
  refine ⟨_, _, Lib.run_convert_string_bytes W 9 22 5 s und9 und28 und5, ⟨W.heap.size, 0, grownCap W s.size 0 5, by rw [bl_len], by rw [bl_len]; exact grownCap_ge W _ _ _, hb.size, ⟨bl_lt s, fun i x hi => ?_⟩, fun j hj => ?_, by rw [Lib.bytesWorld_size]; omega⟩, ?_⟩
  · have hlt : i < s.size := by have := (List.getElem?_eq_some_iff.1 hi).1; rw [bl_len] at this; exact this
    rw [Nat.zero_add, Lib.bytesWorld_cell W 5 s i hlt]
    unfold bl at hi
    rw [List.getElem?_map] at hi
    obtain ⟨b, hb1, rfl⟩ := Option.map_eq_some_iff.1 hi
    rw [List.getD_eq_getElem?_getD, hb1]
    rfl
  · have hsz : (Lib.bytesCells W 5 s).size = grownCap W s.size 0 5 := by
      have := grownCap_ge W s.size 0 5
      have h2 : s.data.size = s.size := rfl
      unfold Lib.bytesCells
      rw [Array.size_append, Array.size_map, Array.size_replicate, h2]
      omega
    refine ⟨?_, ?_⟩
    · simp only [World.cell?, Lib.bytesWorld_at_new, Nat.zero_add]
      rw [Array.getElem?_eq_getElem (by omega)]
      rfl
    · simp only [World.frozen?, Lib.bytesWorld_at_new, Nat.zero_add, hsz]
      simp
      omega
  · exact ⟨hb.os, hb.tape, hb.output, by rw [Lib.bytesWorld_size]; have := hb.size; omega, fun k hk => (Lib.bytesWorld_at_old W 5 s k (Nat.lt_of_lt_of_le hk hb.size)).trans (hb.block k hk)⟩
section
variable {ops : Array Oper} {Q : Exit → Act → World → Prop} {a : Act} {rest : List Oper} {o : Oper}
theorem conv_op (hgd : o.guard = none) (x : Operand) (ho : o.op = .convert 9 22 x) (w0 W : World) (s : ByteArray) (hx : a.eval x = .string s) (hb : Below w0.heap.size w0 W)
    (h : ∀ v1 w1, Lw w0 w1 v1 (bl s) → Below w0.heap.size w0 w1 → wpList Tryd.prog ops Q rest (a.put o.dst v1) w1) : wpList Tryd.prog ops Q (o :: rest) a W := by
  obtain ⟨v1, w1, hr, h1, h2⟩ := conv_lw w0 W s hb
  refine wpList_plain hgd fun K hK => ?_
  unfold Oper.wp execOp
  simp only [ho, Sem.run_bind, Sem.run_pure, Result.andThen_ok, hx, hr]
  exact hK _ _ (h v1 w1 h1 h2)
theorem appl_op (hgd : o.guard = none) (s x : Operand) (ho : o.op = .call { callee := .builtin .append, args := #[s, x], argTypes := #[22, 22] }) (w0 W : World) (V X : Value) (l ys : List Nat)
    (hs : a.eval s = V) (hx : a.eval x = X) (HL : Lw w0 W V l) (HX : Rd8 W X ys) (hb : Below w0.heap.size w0 W) (hl : l.length + ys.length ≤ 140737488355328)
    (h : ∀ v1 w1, Lw w0 w1 v1 (l ++ ys) → Below w0.heap.size w0 w1 → wpList Tryd.prog ops Q rest (a.put o.dst v1) w1) : wpList Tryd.prog ops Q (o :: rest) a W := by
  obtain ⟨v1, w1, hr, h1, h2⟩ := app_lw w0 W o.type V X l ys HL HX hb hl
  refine wpList_plain hgd fun K hK => ?_
  unfold Oper.wp execOp
  simp only [ho, resolve, invoke, builtin, Sem.run_bind, Sem.run_pure, Result.andThen_ok, List.map_toArray, List.map_cons, List.map_nil, hs, hx, hr]
  exact hK _ _ (h v1 w1 h1 h2)
end

/-! ### Decimal -/
def dob (n : Nat) : ByteArray := if n < 10 then Utf8.encode (48 + (n : Int)) else dob (n / 10) ++ Utf8.encode (48 + ((n % 10 : Nat) : Int))
termination_by n
decreasing_by omega
theorem enc (n : Nat) (h : n < 10) : (Utf8.encode (48 + (n : Int))).data.toList = [UInt8.ofNat (48 + n)] := by
  rw [show (48 + (n : Int)) = ((48 + n : Nat) : Int) by omega]
  have c1 : 48 + n < 128 := by omega
  generalize 48 + n = r at c1
  have v : Utf8.valid (r : Int) = true := by simp [Utf8.valid]; omega
  simp [Utf8.encode, v, c1]
theorem dob_dec : ∀ n, (dob n).data.toList = Lib.decDigits n := by
  intro n
  induction n using Nat.strongRecOn with
  | ind n ih =>
    rw [dob, Lib.decDigits]
    split
    · rename_i h
      exact enc n h
    · rename_i h
      rw [ByteArray.data_append, Array.toList_append, ih (n / 10) (by omega), enc (n % 10) (by omega)]
theorem dob_size : ∀ n, (dob n).size ≤ n + 1 := by
  intro n
  induction n using Nat.strongRecOn with
  | ind n ih =>
    rw [dob]
    split
    · rename_i h
      rw [Lib.size_eq, enc n h]
      simp
    · rename_i h
      have := ih (n / 10) (by omega)
      rw [ByteArray.size_append]
      have h2 : (Utf8.encode (48 + ((n % 10 : Nat) : Int))).size = 1 := by rw [Lib.size_eq, enc (n % 10) (by omega)]; rfl
      omega
set_option maxHeartbeats 4000000 in
set_option maxRecDepth 100000 in
theorem dec (n : Nat) (hn : n ≤ 4294967295) : ∀ w : World, Calls Tryd.prog 12 #[.int .i64 (n : Int)] w fun e w' => e = .returned (.string (dob n)) ∧ Below w.heap.size w w' := by
  induction n using Nat.strongRecOn with
  | ind n ih =>
    intro w
    by_cases h : n < 10
    · have ho := Aside0.mk (show dob n = Utf8.encode (48 + (n : Int)) by rw [dob, if_pos h])
      go_enter Tryd.func12, Tryd.ntmps12
      go_wp2
      go_ret
      exact ⟨by rw [ho.out]; rfl, Below.refl _ _⟩
    · have ho := Aside0.mk (show dob n = dob (n / 10) ++ Utf8.encode (48 + ((n % 10 : Nat) : Int)) by rw [dob, if_neg h])
      have HI := Aside0.mk (ih (n / 10) (by omega) (by omega))
      have hz := dob_size (n / 10)
      have hz2 : (Utf8.encode (48 + ((n % 10 : Nat) : Int))).size = 1 := by rw [Lib.size_eq, enc (n % 10) (by omega)]; rfl
      obtain ⟨q, hq⟩ : ∃ q : Int, q = ((n / 10 : Nat) : Int) := ⟨_, rfl⟩
      obtain ⟨r, hr⟩ : ∃ r : Int, r = ((n % 10 : Nat) : Int) := ⟨_, rfl⟩
      obtain ⟨i, hi⟩ : ∃ i : Int, i = (n : Int) := ⟨_, rfl⟩
      rw [← hq] at HI
      rw [← hr] at ho hz2
      generalize dob (n / 10) = t at HI hz ho
      generalize dob n = u at ho ⊢
      have hr0 : 0 ≤ r := by omega
      have hr8 : r < 10 := by omega
      have hq0 : i.tdiv 10 = q := by rw [hi, Int.tdiv_eq_ediv_of_nonneg (by omega)]; omega
      have hr0' : i.tmod 10 = r := by rw [hi, Int.tmod_eq_emod_of_nonneg (by omega)]; omega
      have hi8 : (i < 10) = False := eq_false (by omega)
      have hts : t.size ≤ 4294967296 := by omega
      have hwq : wrap64 q = q := by unfold wrap64; omega
      rw [← hi]
      clear ih hq hr hi h hn hz
      clear n
      go_enter Tryd.func12, Tryd.ntmps12
      go_wp2_with (first | (go_at_call 12; (with_reducible refine (HI.out _).mono ?_); rintro e w' ⟨rfl, hb⟩; have HB := Aside0.mk hb; clear hb))
      go_ret
      exact ⟨by rw [ho.out]; rfl, HB.out⟩
end Go.Proofs.YthpoiceceogdhaaDoor.HshA
