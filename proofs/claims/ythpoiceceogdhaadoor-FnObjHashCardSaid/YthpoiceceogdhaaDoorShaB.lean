/- A hash that has been written to: its struct and its row of bytes; zzSha1.Write walked. -/
import Derived.Test.YthpoiceceogdhaaDoorShaP
set_option linter.unusedVariables false
set_option linter.unusedSimpArgs false
namespace Go.Proofs.YthpoiceceogdhaaDoor.ShaB
open Go.RowKit Go.Proofs.YthpoiceceogdhaaDoorW.PrintWords Go.Proofs.YthpoiceceogdhaaDoor.QAll ShaA ShaP

def vB (n : Nat) : Value := .int .u8 (n : Int)
theorem und28 : Tryd.prog.underlying 22 = some (.slice 5) := by kernel_rfl
theorem info5 : (Tryd.prog.info? 5).map (fun i => (i.zero, i.size, i.bytes)) = some (some (.int .u8 0), 1, 1) := by kernel_rfl
/-- A row of bytes of one's own; it may begin inside its block. -/
def BQ (w : World) (B : Nat) (v : Value) (l : List Nat) : Prop := QRow w B 5 1 v l.length (l.map vB)
theorem BQ.form {w : World} {B : Nat} {v : Value} {l : List Nat} (h : BQ w B v l) : ∃ A c, v = .slice A l.length c ∧ l.length ≤ c := q_slice h
theorem BQ.lt {w : World} {B : Nat} {v : Value} {l : List Nat} (h : BQ w B v l) (k : Nat) (hk : v.ownBlock = some k) : k < w.heap.size := q_lt h k hk
theorem BQ.typed {w : World} {B : Nat} {v : Value} {l : List Nat} (h : BQ w B v l) (k : Nat) (hk : v.ownBlock = some k) : ∃ cells, w.heap[k]? = some (.cells cells 5 (0, 0)) := (q_typed h k hk).2
theorem BQ.ne {w : World} {B : Nat} {v : Value} {l : List Nat} (h : BQ w B v l) {k t : Nat} {cs : Array Value} (hk : w.heap[k]? = some (.cells cs t (0, 0))) (ht : t ≠ 5) : v.ownBlock ≠ some k := fun e => by
  obtain ⟨cells, h1⟩ := h.typed k e
  rw [hk] at h1
  injection h1 with h1
  injection h1 with _ h2
  exact ht h2
theorem BQ.off {w w' : World} {S : Nat → Prop} {B : Nat} {v : Value} {l : List Nat} (h : BQ w B v l) (ho : Off w w' S) (hn : ∀ k, v.ownBlock = some k → ¬ S k) : BQ w' B v l :=
  q_move h (fun k hk => ho.blk k (h.lt k hk) (hn k hk))
theorem BQ.at {w : World} {B : Nat} {v : Value} {l : List Nat} (h : BQ w B v l) (hp : 0 < l.length) (hl : ∀ x ∈ l, x < 256) :
    ∃ g o c, v = .slice (some ⟨g, o, none⟩) l.length c ∧ l.length ≤ c ∧ g < w.heap.size ∧ v.ownBlock = some g ∧ At8 w g o l := by
  rcases h.2 with ⟨h0, _⟩ | ⟨g, off, cap, cur, rfl, hb, hh, hnc, _, _, ht⟩
  · omega
  · refine ⟨g, off, cap, by rw [Nat.mul_one], hnc, Lib.lt_of_heap hh, rfl, hl, fun i x hi => ?_⟩
    rw [Nat.mul_one] at ht
    have h1 : (l.map vB)[i]? = some (vB x) := by rw [List.getElem?_map, hi]; rfl
    rw [← ht, List.getElem?_take] at h1
    rw [Lib.cell_of_heap hh]
    split at h1
    · rw [List.getElem?_drop] at h1
      simpa [vB] using h1
    · cases h1
theorem BQ.drop {w : World} {B : Nat} {A : Option Addr} {n c : Nat} {l : List Nat} (h : BQ w B (.slice A n c) l) (k : Nat) (hk : k ≤ l.length) :
    BQ w B (.slice (if c = k then A else A.map (·.add (k * 1))) (n - k) (c - k)) (l.drop k) := by
  obtain ⟨A', c', he, hl⟩ := h.form
  injection he with h1 h2 h3
  subst h1; subst h2; subst h3
  have := q_drop h hk
  unfold BQ
  rw [List.length_drop, List.map_drop]
  simpa using this
theorem own_drop (A : Option Addr) (n c k m : Nat) : (Value.slice (if c = k then A else A.map (·.add (k * 1))) m (c - k)).ownBlock = (Value.slice A n c).ownBlock := by
  split
  · cases A <;> rfl
  · cases A with
    | none => rfl
    | some a => simp [Value.ownBlock]; unfold Addr.add; split <;> rfl
theorem BQ.nil (w : World) (B : Nat) : BQ w B (.slice none 0 0) [] := ⟨rfl, .inl ⟨rfl, none, rfl, fun a h => by cases h⟩⟩

section
variable {ops : Array Oper} {Q : Exit → Act → World → Prop} {a : Act} {rest : List Oper} {o : Oper}
/-- append(s, x...) with bytes to append. -/
theorem app_run (W : World) (B : Nat) (ty : TypeId) (v : Value) (l ys : List Nat) (pb po m c : Nat) (HQ : BQ W B v l) (HA : At8 W pb po ys) (hm : ys.length = m) (h0 : 0 < m) (hl : l.length + m ≤ 140737488355328) (hB : B ≤ W.heap.size) :
    ∃ v1 w1, (Builtin.append_ #[22, 22] ty #[v, .slice (some ⟨pb, po, none⟩) m c]).run Tryd.prog W = .ok v1 w1 ∧ BQ w1 B v1 (l ++ ys) ∧ W.grownBy w1 v.ownBlock ∧ (v1.ownBlock = v.ownBlock ∨ ∃ b, v1.ownBlock = some b ∧ W.heap.size ≤ b) := by
  obtain ⟨i0, hi, hz0, hz1, hz2⟩ := info_parts info5
  obtain ⟨v1, w1, h1, h2, h3, h4⟩ := q_append (P := Tryd.prog) W B 22 ty 5 i0 (.int .u8 0) 1 1 und28 hi hz0 hz1 hz2 rfl (by omega) v l.length (l.map vB) HQ ⟨pb, po, none⟩ m c (ys.map vB) (by simp [hm])
    (fun j u hu => by
      rw [List.getElem?_map] at hu
      obtain ⟨x, hx, rfl⟩ := Option.map_eq_some_iff.1 hu
      rw [Lib.addr_add]
      exact HA.2 j x hx)
    (fun u hu => by obtain ⟨x, _, rfl⟩ := List.mem_map.1 hu; rfl) h0 (by simp only [maxLen]; omega) (by omega) hB
  exact ⟨v1, w1, h1, by unfold BQ; rw [List.length_append, List.map_append, hm]; exact h2, h3, h4⟩
theorem app_op (hgd : o.guard = none) (s x : Operand) (ho : o.op = .call { callee := .builtin .append, args := #[s, x], argTypes := #[22, 22] }) (W : World) (B : Nat) (v : Value) (l ys : List Nat) (pb po m c : Nat)
    (hs : a.eval s = v) (hx : a.eval x = .slice (some ⟨pb, po, none⟩) m c) (HQ : BQ W B v l) (HA : At8 W pb po ys) (hm : ys.length = m) (h0 : 0 < m) (hl : l.length + m ≤ 140737488355328) (hB : B ≤ W.heap.size)
    (h : ∀ v1 w1, BQ w1 B v1 (l ++ ys) → W.grownBy w1 v.ownBlock → (v1.ownBlock = v.ownBlock ∨ ∃ b, v1.ownBlock = some b ∧ W.heap.size ≤ b) → wpList Tryd.prog ops Q rest (a.put o.dst v1) w1) :
    wpList Tryd.prog ops Q (o :: rest) a W := by
  obtain ⟨v1, w1, hr, h1, h2, h3⟩ := app_run W B o.type v l ys pb po m c HQ HA hm h0 hl hB
  refine wpList_plain hgd fun K hK => ?_
  unfold Oper.wp execOp
  simp only [ho, resolve, invoke, builtin, Sem.run_bind, Sem.run_pure, Result.andThen_ok, List.map_toArray, List.map_cons, List.map_nil, hs, hx, hr]
  exact hK _ _ (h v1 w1 h1 h2 h3)
end

theorem Off.of_grownR {w w1 : World} {r : Option Nat} (h : w.grownBy w1 r) : Off w w1 (fun k => r = some k) := ⟨⟨h.os, h.tape, h.output, h.size, fun k hk => by omega⟩, fun k hk hn => h.block k hk (fun e => hn e.symm)⟩
/-- The struct of a hash. -/
def Ob (w : World) (hb : Nat) (s : S5) (v : Value) (n : Int) : Prop :=
  w.heap[hb]? = some (.cells #[.int .u32 (s.a : Int), .int .u32 (s.b : Int), .int .u32 (s.c : Int), .int .u32 (s.d : Int), .int .u32 (s.e : Int), v, .int .u64 n] 62 (0, 0))
theorem Ob.lt {w : World} {hb : Nat} {s : S5} {v : Value} {n : Int} (h : Ob w hb s v n) : hb < w.heap.size := Lib.lt_of_heap h
theorem Ob.off {w w' : World} {S : Nat → Prop} {hb : Nat} {s : S5} {v : Value} {n : Int} (h : Ob w hb s v n) (ho : Off w w' S) (hn : ¬ S hb) : Ob w' hb s v n := (ho.blk hb h.lt hn).trans h
theorem Ob.cell5 {w : World} {hb : Nat} {s : S5} {v : Value} {n : Int} (h : Ob w hb s v n) : w.cell? ⟨hb, 5, none⟩ = some v := (Lib.cell_of_heap h 5).trans rfl
theorem Ob.cell6 {w : World} {hb : Nat} {s : S5} {v : Value} {n : Int} (h : Ob w hb s v n) : w.cell? ⟨hb, 6, none⟩ = some (.int .u64 n) := (Lib.cell_of_heap h 6).trans rfl
theorem Ob.frozen {w : World} {hb : Nat} {s : S5} {v : Value} {n : Int} (h : Ob w hb s v n) (i : Nat) : w.frozen? ⟨hb, i, none⟩ = false := Lib.frozen_of_heap h i
theorem Ob.set5 {w : World} {hb : Nat} {s : S5} {v : Value} {n : Int} (h : Ob w hb s v n) (u : Value) : Ob (w.setCell ⟨hb, 5, none⟩ u) hb s u n := (Lib.heap_setCell_same (i := 5) h u).trans rfl
theorem Ob.set6 {w : World} {hb : Nat} {s : S5} {v : Value} {n : Int} (h : Ob w hb s v n) (m : Int) : Ob (w.setCell ⟨hb, 6, none⟩ (.int .u64 m)) hb s v m := (Lib.heap_setCell_same (i := 6) h _).trans rfl
/-- A hash to which the bytes m have been written. -/
structure Hs (w : World) (hb : Nat) (v : Value) (m : List Nat) : Prop where
  ob : Ob w hb (stOf m) v (m.length : Int)
  row : BQ w 0 v (rest m)
  mem : ∀ x ∈ m, x < 256
/-- step, for a state as a whole. -/
theorem step' (hb pb po c : Nat) (s : S5) (v : Value) (n : Int) (p : List Nat) (w : World) (hp : p.length = 64) (h8 : At8 w pb po p) (hc : 64 ≤ c) (hpl : pb < w.heap.size) (hs : Ob w hb s v n) (hok : s.Ok) (hne : pb ≠ hb) :
    Calls Tryd.prog 60 #[.pointer (some ⟨hb, 0, none⟩), .slice (some ⟨pb, po, none⟩) 64 c] w fun e w' => e = .returned (.tuple #[]) ∧ Ob w' hb (stepW s p) v n ∧ Off w w' (fun k => k = hb) :=
  (ShaA.step hb pb po c s.a s.b s.c s.d s.e v n p w hp h8 hc hpl hs hok hne).mono fun e w' ⟨h1, ⟨a, b, c, d, e', h2, h3⟩, h4⟩ => ⟨h1, by
    have h5 : stepW s p = ⟨a, b, c, d, e'⟩ := h2
    unfold Ob
    rw [h5]
    exact h3, h4⟩
theorem cutto (g o n c k : Nat) (hk : k ≤ n) (hc : n ≤ c) : ∀ W, (Instr.slice 22 (.slice (some ⟨g, o, none⟩) n c) none (some (.int .i64 (k : Int))) none).run Tryd.prog W = .ok (.slice (some ⟨g, o, none⟩) k c) W := fun W => by
  obtain ⟨i0, hi, hz0, hz1, hz2⟩ := info_parts info5
  have := cut_to (P := Tryd.prog) 22 5 .i64 und28 hi (some ⟨g, o, none⟩) n c (k : Int) (by omega) (by omega) hc W
  simpa using this
theorem cutfrom (A : Option Addr) (n c k : Nat) (hk : k ≤ n) : ∀ W, (Instr.slice 22 (.slice A n c) (some (.int .i64 (k : Int))) none none).run Tryd.prog W = .ok (.slice (if c = k then A else A.map (·.add (k * 1))) (n - k) (c - k)) W := fun W => by
  obtain ⟨i0, hi, hz0, hz1, hz2⟩ := info_parts info5
  have := cut_from (P := Tryd.prog) 22 5 .i64 und28 hi 1 hz1 A n c (k : Int) (by omega) (by omega) W
  simpa using this

set_option maxHeartbeats 8000000 in
set_option maxRecDepth 100000 in
theorem write (hb : Nat) (v : Value) (m p : List Nat) (pb po c : Nat) (w : World) (h : Hs w hb v m) (h8 : At8 w pb po p) (hp : 0 < p.length) (hpb : pb < w.heap.size) (hne : pb ≠ hb) (hl : m.length + p.length ≤ 1000000000000) :
    Calls Tryd.prog 59 #[.pointer (some ⟨hb, 0, none⟩), .slice (some ⟨pb, po, none⟩) p.length c] w fun e w' => e = .returned (.tuple #[.int .i64 (p.length : Int), .nilIface]) ∧
      ∃ v', Hs w' hb v' (m ++ p) ∧ (v'.ownBlock = v.ownBlock ∨ ∃ b, v'.ownBlock = some b ∧ w.heap.size ≤ b) ∧ Off w w' (fun k => k = hb ∨ v.ownBlock = some k) := by
  obtain ⟨L, hL⟩ : ∃ L, L = p.length := ⟨_, rfl⟩
  have c5 := h.ob.cell5
  have c6 := h.ob.cell6
  have f5 := h.ob.frozen 5
  have f6 := h.ob.frozen 6
  have H := Aside0.mk h
  have H8 := Aside0.mk h8
  have HL := Aside0.mk hL
  have HNE := Aside0.mk hne
  have HPB := Aside0.mk hpb
  rw [← hL] at hp hl ⊢
  obtain ⟨M, hM⟩ : ∃ M, M = m.length := ⟨_, rfl⟩
  rw [← hM] at hl c6
  have HM := Aside0.mk hM
  have HLL : Aside0 (M + L ≤ 1000000000000) := ⟨hl⟩
  have hvb : v.ownBlock ≠ some hb := h.row.ne h.ob (by decide)
  have hXl : (rest m ++ p).length < L + 64 := by rw [List.length_append, rest_length, ← hL]; omega
  have HRM := Aside0.mk h.mem
  have HO1 : Aside0 (Off w (w.setCell ⟨hb, 6, none⟩ (.int .u64 ((M : Int) + (L : Int)))) (fun k => k = hb ∨ v.ownBlock = some k)) := ⟨(Off.set w hb 6 _).mono (fun _ _ h => Or.inl h)⟩
  have HOB : Aside0 (Ob (w.setCell ⟨hb, 6, none⟩ (.int .u64 ((M : Int) + (L : Int)))) hb (stOf m) v ((M : Int) + (L : Int))) := ⟨h.ob.set6 _⟩
  have HR1 : Aside0 (BQ (w.setCell ⟨hb, 6, none⟩ (.int .u64 ((M : Int) + (L : Int)))) 0 v (rest m)) := ⟨h.row.off (Off.set w hb 6 _) (fun k hk e => hvb (by rw [hk]; exact congrArg some e))⟩
  have H81 : Aside0 (At8 (w.setCell ⟨hb, 6, none⟩ (.int .u64 ((M : Int) + (L : Int)))) pb po p) := ⟨h8.off hpb (Off.set w hb 6 _) hne⟩
  have HVB := Aside0.mk hvb
  have HRML : Aside0 ((rest m).length < 64) := ⟨by rw [rest_length]; omega⟩
  have hst := stOf_ok m
  have HST := Aside0.mk hst
  obtain ⟨X, hX⟩ : ∃ X, X = rest m ++ p := ⟨_, rfl⟩
  obtain ⟨N, hN⟩ : ∃ N, N = X.length := ⟨_, rfl⟩
  have HX := Aside0.mk hX
  have HN := Aside0.mk hN
  rw [← hX, ← hN] at hXl
  have hXm : ∀ x ∈ X, x < 256 := fun x hx => by
    rw [hX] at hx
    rcases List.mem_append.1 hx with h1 | h1
    · exact rest_mem h.mem x h1
    · exact h8.1 x h1
  have HXM := Aside0.mk hXm
  clear hX hN hXm hst
  have HRL : Aside0 ((rest m).length + L ≤ 140737488355328) := ⟨by rw [rest_length]; omega⟩
  have HHB : Aside0 (hb < w.heap.size) := ⟨h.ob.lt⟩
  clear h h8 hL hne hpb hM hvb H H8
  go_enter Tryd.func59, Tryd.ntmps59
  go_wp2_with (first
    | ((with_reducible refine gate_dst (N := 22) rfl ?_)
       refine app_op rfl (.tmp 20) (.tmp 21) rfl _ 0 v (rest m) p pb po L c rfl rfl HR1.out H81.out HL.out.symm (by omega) HRL.out (Nat.zero_le _) ?_
       intro v1 w1 hQ hg hat
       rw [← HX.out] at hQ
       obtain ⟨A1, cc1, rfl, hcc1⟩ := hQ.form
       rw [← HN.out] at hQ hat hcc1 ⊢
       have HQ := Aside0.mk hQ
       have HO2 : Aside0 (Off w w1 (fun k => k = hb ∨ v.ownBlock = some k)) := ⟨HO1.out.trans (Off.of_grownR hg) (fun k _ e => Or.inr e)⟩
       have HOB2 : Aside0 (Ob w1 hb (stOf m) v ((M : Int) + (L : Int))) := ⟨HOB.out.off (Off.of_grownR hg) HVB.out⟩
       have HAT : Aside0 ((Value.slice A1 N cc1).ownBlock = v.ownBlock ∨ ∃ b, (Value.slice A1 N cc1).ownBlock = some b ∧ w.heap.size ≤ b) := ⟨hat.imp_right (fun ⟨b, h1, h2⟩ => ⟨b, h1, Nat.le_trans HO1.out.zero.size h2⟩)⟩
       have d5 := HOB2.out.cell5
       have e5 := HOB2.out.frozen 5
       clear hQ hg hat c5 c6 f5 f6 HR1 H81 HO1 HOB)
    | fail)
  go_loopg [] N (fun g0 w' => ∃ (j n : Nat) (A : Option Addr) (cc : Nat), n ≤ cc ∧ n ≤ N ∧ n ≤ g0 ∧ Aside0 (64 * j + n = N) ∧ w'.cell? ⟨hb, 5, none⟩ = some (.slice A n cc) ∧ Aside0 (Ob w' hb (blocks j (stOf m) X) (.slice A n cc) ((M : Int) + (L : Int))) ∧ Aside0 (BQ w' 0 (.slice A n cc) (X.drop (64 * j))) ∧ Aside0 ((Value.slice A n cc).ownBlock = (Value.slice A1 N cc1).ownBlock) ∧ Aside0 (Off w w' (fun k => k = hb ∨ v.ownBlock = some k ∨ (Value.slice A1 N cc1).ownBlock = some k)))
  case atStart =>
    have h1 := HOB2.out.set5 (.slice A1 N cc1)
    exact ⟨0, N, A1, cc1, hcc1, Nat.le_refl _, Nat.le_refl _, ⟨by omega⟩, h1.cell5, ⟨h1⟩, ⟨HQ.out.off (Off.set w1 hb 5 _) (fun k hk e => HQ.out.ne HOB2.out (by decide) (by rw [hk]; exact congrArg some e))⟩, ⟨rfl⟩, ⟨(HO2.out.trans (Off.set w1 hb 5 _) (fun _ _ h => Or.inl h)).mono (fun k _ h => h.elim Or.inl (fun h => Or.inr (Or.inl h)))⟩⟩
  case round =>
    obtain ⟨j, n, A, cc, hncc, hnN, hng, HJ, k5, HOBr, HQr, HOW, HO⟩ := hrel
    clear HO2 HQ HOB2 d5 e5 hcc1
    have l5 := HOBr.out.frozen 5
    by_cases h64 : 64 ≤ n
    · have hdl : (X.drop (64 * j)).length = n := by rw [List.length_drop, ← HN.out]; have := HJ.out; omega
      obtain ⟨g, o, c2, hv, hc2, hgl, hgo, hat8⟩ := HQr.out.at (by omega) (fun x hx => HXM.out x (List.mem_of_mem_drop hx))
      rw [hdl] at hv
      injection hv with hv1 hv2 hv3
      subst hv1
      subst hv3
      have hgh : g ≠ hb := fun e => HQr.out.ne HOBr.out (by decide) (by rw [hgo, e])
      have hcut := cutto g o n cc 64 h64 hncc
      have hcf := cutfrom (some ⟨g, o, none⟩) n cc 64 h64
      have hdq := HQr.out.drop 64 (by omega)
      have how := own_drop (some ⟨g, o, none⟩) n cc 64 (n - 64)
      obtain ⟨A2, hA2⟩ : ∃ A2, A2 = (if cc = 64 then (some ⟨g, o, none⟩ : Option Addr) else (some ⟨g, o, none⟩ : Option Addr).map (·.add (64 * 1))) := ⟨_, rfl⟩
      rw [← hA2] at hdq how
      clear hcf
      have HSTP : Aside0 (Calls Tryd.prog 60 #[.pointer (some ⟨hb, 0, none⟩), .slice (some ⟨g, o, none⟩) 64 cc] wr _) := ⟨step' hb g o cc (blocks j (stOf m) X) (.slice (some ⟨g, o, none⟩) n cc) _ ((X.drop (64 * j)).take 64) wr (by rw [List.length_take, hdl]; omega) ⟨fun x hx => hat8.1 x (List.mem_of_mem_take hx), fun i x hx => hat8.2 i x (by rw [List.getElem?_take] at hx; split at hx; exact hx; cases hx)⟩ (by omega) hgl HOBr.out (blocks_ok HST.out _ _) hgh⟩
      have HDQ := Aside0.mk hdq
      have HOD := Aside0.mk (how.trans HOW.out)
      have HGO := Aside0.mk hgo
      have HGH := Aside0.mk hgh
      clear hdl hat8 hgo hdq how hgl hc2 hgh
      by_cases hc64 : cc = 64
      · obtain rfl : A2 = some ⟨g, o, none⟩ := by rw [hA2, if_pos hc64]
        clear hA2
        subst hc64
        obtain rfl : n = 64 := by omega
        have hz : 64 - 64 = 0 := rfl
        rw [hz] at HDQ HOD
        clear hz
        go_wp2_with (first
          | (go_at_call 60
             (with_reducible refine HSTP.out.mono ?_)
             rintro e w2 ⟨rfl, hob, hoff⟩
             have HOB2 := Aside0.mk hob
             have HOF2 := Aside0.mk hoff
             have m5 := hob.cell5
             have n5 := hob.frozen 5
             clear hob hoff)
          | fail)
        go_roundg (gk - 64)
        case measure => omega
        case rel =>
          have h1 := HOB2.out.set5 (.slice (some ⟨g, o, none⟩) (0) 0)
          refine ⟨j + 1, 0, (some ⟨g, o, none⟩), 0, by omega, by omega, by omega, ⟨by have := HJ.out; omega⟩, h1.cell5, ⟨by rw [blocks_succ]; exact h1⟩, ⟨?_⟩, HOD, ⟨?_⟩⟩
          · rw [show 64 * (j + 1) = 64 * j + 64 by omega, ← List.drop_drop]
            exact (HDQ.out.off HOF2.out (fun k hk e => HGH.out (by have h2 := hk; rw [HOD.out, ← HOW.out, HGO.out] at h2; injection h2 with h2; exact h2.trans e))).off (Off.set w2 hb 5 _) (fun k hk e => HGH.out (by have h2 := hk; rw [HOD.out, ← HOW.out, HGO.out] at h2; injection h2 with h2; exact h2.trans e))
          · exact (HO.out.trans HOF2.out (fun _ _ h => Or.inl h)).trans (Off.set w2 hb 5 _) (fun _ _ h => Or.inl h)
      · obtain rfl : A2 = some ⟨g, o + 64, none⟩ := by rw [hA2, if_neg hc64]; simp [Addr.add]
        clear hA2
        go_wp2_with (first
          | (go_at_call 60
             (with_reducible refine HSTP.out.mono ?_)
             rintro e w2 ⟨rfl, hob, hoff⟩
             have HOB2 := Aside0.mk hob
             have HOF2 := Aside0.mk hoff
             have m5 := hob.cell5
             have n5 := hob.frozen 5
             clear hob hoff)
          | fail)
        go_roundg (gk - 64)
        case measure => omega
        case rel =>
          have h1 := HOB2.out.set5 (.slice (some ⟨g, o + 64, none⟩) (n - 64) (cc - 64))
          refine ⟨j + 1, n - 64, (some ⟨g, o + 64, none⟩), cc - 64, by omega, by omega, by omega, ⟨by have := HJ.out; omega⟩, h1.cell5, ⟨by rw [blocks_succ]; exact h1⟩, ⟨?_⟩, HOD, ⟨?_⟩⟩
          · rw [show 64 * (j + 1) = 64 * j + 64 by omega, ← List.drop_drop]
            exact (HDQ.out.off HOF2.out (fun k hk e => HGH.out (by have h2 := hk; rw [HOD.out, ← HOW.out, HGO.out] at h2; injection h2 with h2; exact h2.trans e))).off (Off.set w2 hb 5 _) (fun k hk e => HGH.out (by have h2 := hk; rw [HOD.out, ← HOW.out, HGO.out] at h2; injection h2 with h2; exact h2.trans e))
          · exact (HO.out.trans HOF2.out (fun _ _ h => Or.inl h)).trans (Off.set w2 hb 5 _) (fun _ _ h => Or.inl h)
    · go_wp2_with fail
      go_ret2
      have hj : j = (rest m ++ p).length / 64 := by rw [← HX.out, ← HN.out]; have := HJ.out; omega
      refine ⟨rfl, .slice A n cc, ⟨?_, ?_, ?_⟩, ?_, ?_⟩
      · rw [stOf_more m p j hj, ← HX.out, List.length_append, ← HM.out, ← HL.out, Int.natCast_add]
        exact HOBr.out
      · rw [rest_more m p j hj, ← HX.out]
        exact HQr.out
      · intro x hx
        rcases List.mem_append.1 hx with h1 | h1
        · exact HRM.out x h1
        · exact HXM.out x (by rw [HX.out]; exact List.mem_append_right _ h1)
      · rw [HOW.out]
        exact HAT.out
      · refine HO.out.mono (fun k hk h => ?_)
        rcases h with h | h | h
        · exact Or.inl h
        · exact Or.inr h
        · rcases HAT.out with h1 | ⟨b, h1, h2⟩
          · exact Or.inr (h1.symm.trans h)
          · rw [h1] at h
            injection h with h
            omega
end Go.Proofs.YthpoiceceogdhaaDoor.ShaB
