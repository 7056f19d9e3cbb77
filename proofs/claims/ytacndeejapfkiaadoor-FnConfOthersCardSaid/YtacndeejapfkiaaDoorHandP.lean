/- One element of a row, of a section, changed in its place. Options.withAddedOption, withSettedOption, walked. Options.withSettedOption, walked. SetOption and AddOption of a section and of a part of it, walked. -/
import Derived.Test.YtacndeejapfkiaaDoorHandB
import Derived.Test.YtacndeejapfkiaaDoorHandF
import Derived.Test.YtacndeejapfkiaaDoorPureS
set_option linter.unusedVariables false
set_option linter.unusedSimpArgs false
namespace Go.Proofs.YtacndeejapfkiaaDoor.HandM
open Go.RowKit Go.Proofs.YtacndeejapfkiaaDoorW.PrintWords Go.Proofs.YtacndeejapfkiaaDoorW.PrintLast Go.Proofs.YtacndeejapfkiaaDoorW.PrintMore Go.Proofs.YtacndeejapfkiaaDoor.QAll Txt Ptr SepK HandA HandB

/-- Blocks that were there and are not O's are as they were. -/
def Far (w w1 : World) (O : Nat → Prop) : Prop := w.heap.size ≤ w1.heap.size ∧ ∀ k, k < w.heap.size → ¬ O k → w1.heap[k]? = w.heap[k]?
theorem Far.refl (w : World) (O : Nat → Prop) : Far w w O := ⟨Nat.le_refl _, fun _ _ _ => rfl⟩
theorem Far.mono {w w1 : World} {O O' : Nat → Prop} (h : Far w w1 O) (hO : ∀ k, O k → O' k) : Far w w1 O' := ⟨h.1, fun k hk hn => h.2 k hk (fun h => hn (hO k h))⟩
theorem Far.trans {w w1 w2 : World} {O O1 : Nat → Prop} (h : Far w w1 O) (h1 : Far w1 w2 O1) (hO : ∀ k, O1 k → O k ∨ w.heap.size ≤ k) : Far w w2 O :=
  ⟨Nat.le_trans h.1 h1.1, fun k hk hn => (h1.2 k (Nat.lt_of_lt_of_le hk h.1) (fun h2 => by rcases hO k h2 with h3 | h3; exact hn h3; omega)).trans (h.2 k hk hn)⟩
theorem Far.of_below {w w1 : World} (h : Below w.heap.size w w1) (O : Nat → Prop) : Far w w1 O := ⟨h.size, fun k hk _ => h.block k hk⟩
theorem Far.of_grown {w w1 : World} {row : Option Nat} {O : Nat → Prop} (h : w.grownBy w1 row) (hO : ∀ k, row = some k → k < w.heap.size → O k) : Far w w1 O :=
  ⟨h.size, fun k hk hn => h.block k hk (fun e => hn (hO k e.symm hk))⟩
theorem Far.set {w w1 : World} {O : Nat → Prop} (h : Far w w1 O) {g j : Nat} (hg : O g) (v : Value) : Far w (w1.setCell ⟨g, j, none⟩ v) O :=
  ⟨by simpa [World.setCell] using h.1, fun k hk hn => (Below.heap_setCell w1 ⟨g, j, none⟩ v k (by rintro rfl; exact hn hg)).trans (h.2 k hk hn)⟩

/-- Element i of a row whose elements lie apart: its cell, what it leads to, and the row when it has been changed. -/
theorem SR_focus {α : Type} {d : Kd α} {e : Nat} {w : World} {base : Nat} {ok : Nat → Prop} {V : Value} {xs : List α} (h : SR d e w base ok V xs) (hs : d.sz = 1) {i : Nat} {x : α} (hi : xs[i]? = some x) :
    ∃ (ad : Addr) (c : Nat) (v : Value) (O : Nat → Prop), V = .slice (some ad) xs.length c ∧ w.cell? (ad.add i) = some v ∧ d.M w base O x [v] ∧ (∀ k, O k → ok k) ∧
      ∀ w1 x', Far w w1 O → d.M w1 base (fun k => O k ∨ w.heap.size ≤ k) x' [v] → SR d e w1 base (fun k => ok k ∨ w.heap.size ≤ k) V (xs.set i x') := by
  obtain ⟨h0, F, inner, ho, hl, hm⟩ := h
  rw [hs] at ho hl hm
  have hil : i < xs.length := (List.getElem?_eq_some_iff.1 hi).1
  have hii : i < inner.length := by omega
  have cut : ∀ j (hj : j < inner.length), (inner.drop (j * 1)).take 1 = [inner[j]] := fun j hj => by
    rw [Nat.mul_one, List.drop_eq_getElem_cons hj]
    rfl
  have hM := hm i x hi
  rw [cut i hii] at hM
  obtain ⟨g, cap, cur, hV, _⟩ : ∃ g cap cur, V = .slice (some ⟨g, 0, none⟩) xs.length cap ∧ w.heap[g]? = some (.cells cur e (0, 0)) := by
    rcases ho.2 with ⟨_, h⟩ | ⟨g, cap, cur, hV, _, hg, _⟩
    · omega
    · exact ⟨g, cap, cur, hV, hg⟩
  have hown : ∀ k, V.ownBlock = some k → k < w.heap.size := own_lt ho
  refine ⟨⟨g, 0, none⟩, cap, inner[i], fun k => (ok k ∧ some k ≠ V.ownBlock) ∧ F k = i, hV, ?_, hM, fun k hk => hk.1.1, fun w1 x' hfar hM' => ?_⟩
  · have ho2 := ho
    rw [hV] at ho2
    have := ho2.cells (g := g) rfl i inner[i] (List.getElem?_eq_getElem hii)
    simpa [Addr.add] using this
  · refine ⟨fun k hk => Or.inl (h0 k hk), fun k => if k < w.heap.size then F k else i, inner, ?_, by rw [hs, List.length_set]; exact hl, fun j p hj => ?_⟩
    · rw [hs, List.length_set]
      exact own_move ho (fun k hk => hfar.2 k (hown k hk) (fun h => h.1.2 hk.symm))
    · rw [hs]
      have hjl : j < xs.length := by
        have := (List.getElem?_eq_some_iff.1 hj).1
        rwa [List.length_set] at this
      rcases Nat.decEq i j with hne | rfl
      · rw [List.getElem?_set_ne hne] at hj
        have h1 := d.M_bound (hm j p hj)
        have h2 := d.M_move (w1 := w1) (fun k hk => hfar.2 k hk.2.2.1 (fun h => hne (h.2.symm.trans hk.1.2))) h1
        exact d.M_mono (fun k hk => ⟨⟨Or.inl hk.1.1.1, hk.1.1.2⟩, by show (if _ then F _ else i) = j; rw [if_pos hk.2.2.1]; exact hk.1.2⟩) h2
      · rw [List.getElem?_set_self hil] at hj
        cases hj
        rw [cut i hii]
        refine d.M_mono (fun k hk => ?_) hM'
        rcases hk with hk | hk
        · refine ⟨⟨Or.inl hk.1.1, hk.1.2⟩, ?_⟩
          show (if k < w.heap.size then F k else i) = i
          by_cases hkw : k < w.heap.size
          · rw [if_pos hkw]; exact hk.2
          · rw [if_neg hkw]
        · refine ⟨⟨Or.inr hk, fun e => ?_⟩, by show (if k < w.heap.size then F k else i) = i; rw [if_neg (by omega)]⟩
          have := hown k e.symm
          omega

/-! ### A section, a part: opened and made -/
theorem kS_openM {w : World} {base : Nat} {O : Nat → Prop} {x : S36} {cs : List Value} (h : kS.M w base O x cs) : ∃ (gs : Nat) (VO VP : Value) (P : Nat → Prop), cs = [.pointer (some ⟨gs, 0, none⟩)] ∧ O gs ∧ base ≤ gs ∧ w.heap[gs]? = some (.cells #[.string x.f0, VO, VP] 70 (0, 0)) ∧
    kO.R 81 w base (fun k => (O k ∧ k ≠ gs) ∧ P k) VO x.f1 ∧ SR kB 56 w base (fun k => (O k ∧ k ≠ gs) ∧ ¬ P k) VP x.f2 := by
  obtain ⟨gs, cells, rfl, hO, hgw, hgs, c0, c1, hce, hc0, P, c2, c3, hc23, ⟨VO, rfl, hR⟩, VP, rfl, hS⟩ := h
  obtain rfl : c0 = [.string x.f0] := hc0
  have hce2 : cells = #[.string x.f0, VO, VP] := by
    have : cells.toList = [.string x.f0, VO, VP] := by rw [hce, hc23]; rfl
    rw [← this]
  rw [hce2] at hgs
  exact ⟨gs, VO, VP, P, rfl, hO, hgw, hgs, hR, hS⟩
theorem kS_mkM {w : World} {base : Nat} {O P : Nat → Prop} {x : S36} {gs : Nat} {VO VP : Value} (hO : O gs) (hb : base ≤ gs) (hg : w.heap[gs]? = some (.cells #[.string x.f0, VO, VP] 70 (0, 0))) (hR : kO.R 81 w base (fun k => (O k ∧ k ≠ gs) ∧ P k) VO x.f1) (hS : SR kB 56 w base (fun k => (O k ∧ k ≠ gs) ∧ ¬ P k) VP x.f2) :
    kS.M w base O x [.pointer (some ⟨gs, 0, none⟩)] :=
  ⟨gs, #[.string x.f0, VO, VP], rfl, hO, hb, hg, [.string x.f0], [VO, VP], rfl, rfl, P, [VO], [VP], rfl, ⟨VO, rfl, hR⟩, VP, rfl, hS⟩
theorem kB_openM {w : World} {base : Nat} {O : Nat → Prop} {x : S46} {cs : List Value} (h : kB.M w base O x cs) : ∃ (gb : Nat) (VO : Value), cs = [.pointer (some ⟨gb, 0, none⟩)] ∧ O gb ∧ base ≤ gb ∧ w.heap[gb]? = some (.cells #[.string x.f0, VO] 73 (0, 0)) ∧ kO.R 81 w base (fun k => O k ∧ k ≠ gb) VO x.f1 := by
  obtain ⟨gb, cells, rfl, hO, hgw, hgs, c0, c1, hce, hc0, VO, rfl, hR⟩ := h
  obtain rfl : c0 = [.string x.f0] := hc0
  have hce2 : cells = #[.string x.f0, VO] := by
    have : cells.toList = [.string x.f0, VO] := hce
    rw [← this]
  rw [hce2] at hgs
  exact ⟨gb, VO, rfl, hO, hgw, hgs, hR⟩
theorem kB_mkM {w : World} {base : Nat} {O : Nat → Prop} {x : S46} {gb : Nat} {VO : Value} (hO : O gb) (hb : base ≤ gb) (hg : w.heap[gb]? = some (.cells #[.string x.f0, VO] 73 (0, 0))) (hR : kO.R 81 w base (fun k => O k ∧ k ≠ gb) VO x.f1) : kB.M w base O x [.pointer (some ⟨gb, 0, none⟩)] :=
  ⟨gb, #[.string x.f0, VO], rfl, hO, hb, hg, [.string x.f0], [VO], rfl, rfl, VO, rfl, hR⟩
/-- Other options in a section. -/
theorem kS_setO {w w1 : World} {base : Nat} {O P : Nat → Prop} {x : S36} {gs : Nat} {VO VP v : Value} {os : List S42} (hO : O gs) (hb : base ≤ gs) (hg : w.heap[gs]? = some (.cells #[.string x.f0, VO, VP] 70 (0, 0))) (hS : SR kB 56 w base (fun k => (O k ∧ k ≠ gs) ∧ ¬ P k) VP x.f2)
    (hf : Far w w1 (fun k => (O k ∧ k ≠ gs) ∧ P k)) (hR : kO.R 81 w1 base (fun k => ((O k ∧ k ≠ gs) ∧ P k) ∨ w.heap.size ≤ k) v os) :
    kS.M (w1.setCell ⟨gs, 1, none⟩ v) base (fun k => O k ∨ w.heap.size ≤ k) ⟨x.f0, os, x.f2⟩ [.pointer (some ⟨gs, 0, none⟩)] ∧ Far w (w1.setCell ⟨gs, 1, none⟩ v) O := by
  have hlt := blk_lt hg
  have hg1 : w1.heap[gs]? = some (.cells #[.string x.f0, VO, VP] 70 (0, 0)) := (hf.2 gs hlt (fun h => h.1.2 rfl)).trans hg
  refine ⟨kS_mkM (P := fun k => w.heap.size ≤ k ∨ P k) (VO := v) (VP := VP) (Or.inl hO) hb (blk_put hg1 1 v rfl) ?_ ?_, (hf.mono (fun k hk => hk.1.1)).set hO v⟩
  · have h1 := Kd.R_move (w1 := w1.setCell ⟨gs, 1, none⟩ v) hR (fun k hk => Below.heap_setCell w1 _ v k (by show k ≠ gs; rcases hk with hk | hk; exact hk.1.2; omega))
    refine Kd.R_mono h1 (fun k hk => ?_)
    rcases hk with hk | hk
    · exact ⟨⟨Or.inl hk.1.1, hk.1.2⟩, Or.inr hk.2⟩
    · exact ⟨⟨Or.inr hk, by omega⟩, Or.inl hk⟩
  · have h1 := SR_move (w1 := w1.setCell ⟨gs, 1, none⟩ v) (SR_bound hS) (fun k hk => (Below.heap_setCell w1 _ v k hk.1.1.2).trans (hf.2 k hk.2.2.1 (fun h => hk.1.2 h.2)))
    exact SR_mono h1 (fun k hk => ⟨⟨Or.inl hk.1.1.1, hk.1.1.2⟩, fun h => by rcases h with h | h; have := hk.2.2.1; omega; exact hk.1.2 h⟩)
/-- Other options in a part. -/
theorem kB_setO {w w1 : World} {base : Nat} {O : Nat → Prop} {x : S46} {gb : Nat} {VO v : Value} {os : List S42} (hO : O gb) (hb : base ≤ gb) (hg : w.heap[gb]? = some (.cells #[.string x.f0, VO] 73 (0, 0)))
    (hf : Far w w1 (fun k => O k ∧ k ≠ gb)) (hR : kO.R 81 w1 base (fun k => (O k ∧ k ≠ gb) ∨ w.heap.size ≤ k) v os) :
    kB.M (w1.setCell ⟨gb, 1, none⟩ v) base (fun k => O k ∨ w.heap.size ≤ k) ⟨x.f0, os⟩ [.pointer (some ⟨gb, 0, none⟩)] ∧ Far w (w1.setCell ⟨gb, 1, none⟩ v) O := by
  have hlt := blk_lt hg
  have hg1 : w1.heap[gb]? = some (.cells #[.string x.f0, VO] 73 (0, 0)) := (hf.2 gb hlt (fun h => h.2 rfl)).trans hg
  refine ⟨kB_mkM (VO := v) (Or.inl hO) hb (blk_put hg1 1 v rfl) ?_, (hf.mono (fun k hk => hk.1)).set hO v⟩
  have h1 := Kd.R_move (w1 := w1.setCell ⟨gb, 1, none⟩ v) hR (fun k hk => Below.heap_setCell w1 _ v k (by show k ≠ gb; rcases hk with hk | hk; exact hk.2; omega))
  refine Kd.R_mono h1 (fun k hk => ?_)
  rcases hk with hk | hk
  · exact ⟨Or.inl hk.1, hk.2⟩
  · exact ⟨Or.inr hk, by omega⟩
/-- A part of a section changed. -/
theorem kS_part {w : World} {base : Nat} {O P : Nat → Prop} {x : S36} {gs : Nat} {VO VP : Value} (hO : O gs) (hb : base ≤ gs) (hg : w.heap[gs]? = some (.cells #[.string x.f0, VO, VP] 70 (0, 0))) (hR : kO.R 81 w base (fun k => (O k ∧ k ≠ gs) ∧ P k) VO x.f1) (hS : SR kB 56 w base (fun k => (O k ∧ k ≠ gs) ∧ ¬ P k) VP x.f2) {j : Nat} {p : S46} (hj : x.f2[j]? = some p) :
    ∃ (ad : Addr) (c : Nat) (v : Value) (Ob : Nat → Prop), VP = .slice (some ad) x.f2.length c ∧ w.cell? (ad.add j) = some v ∧ kB.M w base Ob p [v] ∧ (∀ k, Ob k → O k) ∧
      ∀ w1 p', Far w w1 Ob → kB.M w1 base (fun k => Ob k ∨ w.heap.size ≤ k) p' [v] → kS.M w1 base (fun k => O k ∨ w.heap.size ≤ k) ⟨x.f0, x.f1, x.f2.set j p'⟩ [.pointer (some ⟨gs, 0, none⟩)] := by
  obtain ⟨ad, c, v, Ob, hV, hc, hM, hsub, hput⟩ := SR_focus hS rfl hj
  refine ⟨ad, c, v, Ob, hV, hc, hM, fun k hk => (hsub k hk).1.1, fun w1 p' hf hM' => ?_⟩
  have hlt := blk_lt hg
  refine kS_mkM (P := fun k => k < w.heap.size ∧ P k) (VO := VO) (VP := VP) (Or.inl hO) hb ((hf.2 gs hlt (fun h => (hsub gs h).1.2 rfl)).trans hg) ?_ ?_
  · have h1 := Kd.R_move (w1 := w1) (Kd.R_bound hR) (fun k hk => hf.2 k hk.2.2.1 (fun h => (hsub k h).2 hk.1.2))
    exact Kd.R_mono h1 (fun k hk => ⟨⟨Or.inl hk.1.1.1, hk.1.1.2⟩, hk.2.2.1, hk.1.2⟩)
  · refine SR_mono (hput w1 p' hf hM') (fun k hk => ?_)
    rcases hk with hk | hk
    · exact ⟨⟨Or.inl hk.1.1, hk.1.2⟩, fun h => hk.2 h.2⟩
    · exact ⟨⟨Or.inr hk, by omega⟩, fun h => by omega⟩

/-! ### append, with the cell of the last one -/
section
variable {P : Program} {ops : Array Oper} {rest : List Oper} {o : Oper} {a : Act} {Q : Exit → Act → World → Prop} {Kc : Act → World → Prop} {α : Type}
theorem SR_append2 (d : Kd α) {w0 W : World} (base N : Nat) (hgd : o.guard = none) (s x : Operand) (t e : TypeId) (z : Value) (bytes : Nat) (hsz : d.sz = 1)
    (ho : o.op = .call { callee := .builtin .append, args := #[s, x], argTypes := #[t, t] })
    (ht : P.underlying t = some (.slice e)) (hinfo : (P.info? e).map (fun i => (i.zero, i.size, i.bytes)) = some (some z, d.sz, bytes)) (hz : z.cells.size = d.sz) (hs0 : 0 < d.sz) (hb0 : 0 < bytes)
    (v : Value) (xs : List α) (p : α) (u : Value) (ok : Nat → Prop) (hs : a.eval s = v) (hx : a.eval x = .slice (some ⟨W.heap.size, 0, none⟩) 1 1) (hp : d.M W base (fun k => ok k ∧ N ≤ k) p [u]) (hfresh : ∀ k, W.heap.size ≤ k → ok k) (hN : N ≤ W.heap.size)
    (HO : SR d e W base (fun k => ok k ∧ k < N) v xs) (HB : Below base w0 W) (hbase : base ≤ W.heap.size) (hl : (xs.length + 1) * bytes ≤ 140737488355328)
    (h : ∀ v1 w1, SR d e w1 base ok v1 (xs ++ [p]) → Below base w0 w1 → W.grownBy w1 v.ownBlock → (v1.ownBlock = v.ownBlock ∨ ∃ b, v1.ownBlock = some b ∧ W.heap.size ≤ b) → (∃ ad c, v1 = .slice (some ad) (xs.length + 1) c ∧ w1.cell? (ad.add xs.length) = some u) → wpList P ops Q rest (a.put o.dst v1) w1) :
    wpList P ops Q (o :: rest) a (W.alloc (.cells #[u] e)) := by
  have HO2 := HO
  obtain ⟨h0, F, inner, hown, hil, hm⟩ := HO2
  refine print_append_cells base hgd s x t e z d.sz bytes ho ht hinfo hz hs0 hb0 v xs.length inner [u] hs hx (d.K_len (d.K_of_M hp)) (d.K_one (d.K_of_M hp)) hown HB hbase hl ?_
  intro v1 w1 hown1 hb1 hg1 hat1
  refine h v1 w1 ?_ hb1 hg1 hat1 ?_
  · exact SR_appended (inner := inner) hown hil hm h0 hp hfresh hN hown1 hg1 hat1
  · rcases hown1.2 with ⟨_, h⟩ | ⟨g, cap, cur, hV, _, hg, _⟩
    · omega
    · rw [hV] at hown1
      have := hown1.cells (g := g) rfl xs.length u (by rw [hsz, Nat.mul_one] at hil; rw [List.getElem?_append_right (by omega), hil, Nat.sub_self]; rfl)
      exact ⟨⟨g, 0, none⟩, cap, hV, by simpa [Addr.add] using this⟩
end
#print axioms SR_focus
#print axioms kS_part
#print axioms SR_append2
end Go.Proofs.YtacndeejapfkiaaDoor.HandM

set_option linter.unusedVariables false
set_option linter.unusedSimpArgs false
namespace Go.Proofs.YtacndeejapfkiaaDoor.HandN
open Go.RowKit Go.Proofs.YtacndeejapfkiaaDoorW.PrintWords Go.Proofs.YtacndeejapfkiaaDoorW.PrintLast Go.Proofs.YtacndeejapfkiaaDoorW.PrintMore Go.Proofs.YtacndeejapfkiaaDoor.QAll Txt Ptr SepK HandA HandB HandC HandD HandF HandM PureS

theorem own_lt_R {α : Type} {d : Kd α} {e : Nat} {w : World} {base : Nat} {ok : Nat → Prop} {v : Value} {xs : List α} (h : d.R e w base ok v xs) : ∀ k, v.ownBlock = some k → k < w.heap.size := by
  obtain ⟨inner, ho⟩ := Kd.R_own h
  exact own_lt ho
theorem grown_R {α β : Type} {d : Kd α} {d' : Kd β} {e e' : Nat} {w w1 : World} {base base' : Nat} {ok ok' : Nat → Prop} {v u : Value} {xs : List α} {ys : List β} (h : d.R e w base ok v xs) (hu : d'.R e' w base' ok' u ys) (hg : w.grownBy w1 u.ownBlock) (ht : ∀ q, q ∈ e :: d.E → q ≠ e') : d.R e w1 base ok v xs := by
  refine Kd.R_mono (Kd.R_grown (Kd.R_bound h) hg (fun k hk e0 => ?_)) (fun k hk => hk.1)
  obtain ⟨_, _, _, q, hq, cells, hc⟩ := hk
  obtain ⟨cells', hc'⟩ := Kd.R_typed hu k e0.symm
  rw [hc] at hc'
  injection hc' with hc'
  injection hc' with _ hc'
  exact ht q hq hc'
theorem below_grown {w W w1 : World} {b : Nat} {row : Option Nat} (hB : Below w.heap.size w W) (hb : Below b w w1) (hg : W.grownBy w1 row) (hrow : ∀ k, row = some k → w.heap.size ≤ k) : Below w.heap.size w w1 :=
  ⟨hb.os, hb.tape, hb.output, hb.size, fun k hk => (hg.block k (Nat.lt_of_lt_of_le hk hB.size) (fun e => by have := hrow k e.symm; omega)).trans (hB.block k hk)⟩

set_option maxHeartbeats 4000000 in
set_option maxRecDepth 100000 in
theorem added (V : Value) (os : List S42) (key val : ByteArray) (base : Nat) (O : Nat → Prop) (w : World) (hR : kO.R 81 w base O V os) (hb : base ≤ w.heap.size) (hl : os.length ≤ 1001) :
    Calls Tryd.prog 47 #[V, .string key, .string val] w fun e w' => ∃ v, e = .returned v ∧ kO.R 81 w' base (fun k => O k ∨ w.heap.size ≤ k) v (os ++ [⟨key, val⟩]) ∧ Far w w' O ∧ Below base w w' ∧ (v.ownBlock = V.ownBlock ∨ ∃ k, v.ownBlock = some k ∧ w.heap.size ≤ k) ∧ w.grownBy w' V.ownBlock := by
  have HR := Aside0.mk hR
  have HB := Aside0.mk hb
  have HL := Aside0.mk hl
  clear hR hb hl
  go_enter Tryd.func47, Tryd.ntmps47
  go_wp2_with (first
    | ((with_reducible refine gate_builtin (b := .append) (xs := #[.tmp 7, .tmp 12]) rfl ?_); at_builtin; refine Kd.R_append kO (w0 := w) base rfl (.tmp 7) (.tmp 12) 66 81 (.pointer none) 8 rfl Tryd.underlying66 info81 rfl (by decide) (by decide) V os ⟨key, val⟩ [.pointer (some ⟨w.heap.size, 0, none⟩)] (fun k => O k ∨ w.heap.size ≤ k) (fun k => w.heap.size ≤ k) rfl ?hx (newO ⟨key, val⟩ HB.out) (fun k hk => ⟨Or.inr hk, fun e => ?hne⟩) (fun k hk => Or.inr ?hfr) (Kd.R_mono (Kd.R_below HR.out (below_alloc (Below.refl _ _) _)) (fun k hk => Or.inl hk)) ((below_alloc (Below.refl _ _) _).mono HB.out) ?hbase ?hlen ?_
       case hx => first | (go_simp; done) | (simp [Act.eval]; done)
       case hne => have := own_lt_R HR.out k e.symm; omega
       case hfr => simp only [World.alloc, Array.size_push] at hk; omega
       case hbase => exact Nat.le_trans HB.out (by simp)
       case hlen => have := HL.out; omega
       intro v7 w7 ho7 hb7 hg7 hat7
       have HR7 := Aside0.mk ho7
       have HB7 := Aside0.mk hb7
       have HG7 : Aside0 (w.grownBy w7 V.ownBlock) := ⟨(World.grownBy_alloc w _ V.ownBlock).trans hg7⟩
       have HA7 : Aside0 (v7.ownBlock = V.ownBlock ∨ ∃ k, v7.ownBlock = some k ∧ w.heap.size ≤ k) := ⟨by rcases hat7 with h | ⟨b, h1, h2⟩; exact Or.inl h; exact Or.inr ⟨b, h1, Nat.le_trans (by simp) h2⟩⟩
       clear ho7 hb7 hg7 hat7))
  go_ret
  exact ⟨v7, rfl, HR7.out, Far.of_grown HG7.out (fun k hk _ => HR.out.1 k hk), HB7.out, HA7.out, HG7.out⟩

/-! ### contains -/
def isIn (l : List ByteArray) (a : ByteArray) : Bool := l.any fun b => decide (b = a)
theorem contains_l (l : List ByteArray) (a : ByteArray) (hl : l.length ≤ 140737488355328) : ∀ (n i : Nat), i + n = l.length → Ev (fun k => config_contains.l0 k a l (l.length : Int) (i : Int)) (isIn (l.drop i) a)
  | 0, i, h => by
    refine ev_now fun m => ?_
    simp only [config_contains.l0]
    rw [if_neg (by omega), List.drop_of_length_le (by omega)]
    rfl
  | n + 1, i, h => by
    have hlt : i < l.length := by omega
    have w1 := inc i l.length hlt hl
    have hi1 : (i : Int) < (l.length : Int) := by omega
    have hi0 : (0 : Int) ≤ (i : Int) := by omega
    have hg : rdOf ByteArray.empty l (i : Int) = l[i] := by
      unfold rdOf
      rw [Int.toNat_natCast, List.getD_eq_getElem?_getD, List.getElem?_eq_getElem hlt]
      rfl
    have hd : l.drop i = l[i] :: l.drop (i + 1) := List.drop_eq_getElem_cons hlt
    by_cases he : l[i].toList = a.toList
    · have : isIn (l.drop i) a = true := by rw [hd]; unfold isIn; rw [List.any_cons, decide_eq_true (ba_ext he), Bool.true_or]
      rw [this]
      refine ev_now fun m => ?_
      simp only [config_contains.l0, hi1, hi0, hg, if_true]
      rw [if_pos he]
    · have hne : a ≠ l[i] := fun e => he (by rw [e])
      have : isIn (l.drop i) a = isIn (l.drop (i + 1)) a := by
        rw [hd]
        unfold isIn
        rw [List.any_cons, decide_eq_false (fun e => hne e.symm), Bool.false_or]
      rw [this]
      refine ev_round (contains_l l a hl n (i + 1) (by omega)) fun m hm => ?_
      simp only [config_contains.l0, hi1, hi0, hg, w1, if_true]
      rw [if_neg he]
      exact hm
theorem containsC (A : Option Addr) (c : Nat) (l : List ByteArray) (a : ByteArray) (W : World) (hC : Kd.C Kd.string W A l.length l) (hc : l.length ≤ c) (hl : l.length ≤ 140737488355328) :
    Calls Tryd.prog 50 #[.slice A l.length c, .string a] W fun e w' => e = .returned (.bool (isIn l a)) ∧ Below W.heap.size W w' := by
  obtain ⟨K, h⟩ := contains_l l a hl l.length 0 (by omega)
  have h2 := h K (Nat.le_refl _)
  rw [List.drop_zero] at h2
  exact (config_contains.calls K A c l a _ W hC hc h2).mono fun e w' ⟨h1, h3⟩ => ⟨h1, Drawn0.below h3⟩

/-! ### withSettedOption -/
def keep (os : List S42) (key val : ByteArray) : List S42 := os.filter fun o => decide (o.f0 ≠ key ∨ o.f1 = val)
def had (os : List S42) (key val : ByteArray) : List ByteArray := (os.filter fun o => decide (o.f0 = key ∧ o.f1 = val)).map (·.f1)
def setOpts (os : List S42) (key val : ByteArray) : List S42 := keep os key val ++ (if isIn (had os key val) val = true then [] else [(⟨key, val⟩ : S42)])
theorem keep_append (l m : List S42) (key val : ByteArray) : keep (l ++ m) key val = keep l key val ++ keep m key val := List.filter_append ..
theorem had_append (l m : List S42) (key val : ByteArray) : had (l ++ m) key val = had l key val ++ had m key val := by
  unfold had
  rw [List.filter_append, List.map_append]
theorem keep_len (l : List S42) (key val : ByteArray) : (keep l key val).length ≤ l.length := List.length_filter_le _ _
theorem had_len (l : List S42) (key val : ByteArray) : (had l key val).length ≤ l.length := by
  unfold had
  rw [List.length_map]
  exact List.length_filter_le _ _
#print axioms added
#print axioms containsC
end Go.Proofs.YtacndeejapfkiaaDoor.HandN

set_option linter.unusedVariables false
set_option linter.unusedSimpArgs false
namespace Go.Proofs.YtacndeejapfkiaaDoor.HandO
open Go.RowKit Go.Proofs.YtacndeejapfkiaaDoorW.PrintWords Go.Proofs.YtacndeejapfkiaaDoorW.PrintLast Go.Proofs.YtacndeejapfkiaaDoorW.PrintMore Go.Proofs.YtacndeejapfkiaaDoor.QAll Txt Ptr SepK HandA HandB HandC HandD HandF HandM PureS HandN

theorem isIn_one (v a : ByteArray) : isIn [v] a = decide (v = a) := by unfold isIn; simp
theorem keep_one (o : S42) (key val : ByteArray) : keep [o] key val = if o.f0 ≠ key ∨ o.f1 = val then [o] else [] := by
  unfold keep
  by_cases h : o.f0 ≠ key ∨ o.f1 = val
  · rw [if_pos h]; simp [h]
  · rw [if_neg h]; simp [h]
theorem had_one (o : S42) (key val : ByteArray) : had [o] key val = if o.f0 = key ∧ o.f1 = val then [o.f1] else [] := by
  unfold had
  by_cases h : o.f0 = key ∧ o.f1 = val
  · rw [if_pos h]; simp [h]
  · rw [if_neg h]; simp [h]
/-- What is held between two rounds. -/
structure Half (w w' : World) (base : Nat) (O : Nat → Prop) (V7 V8 : Value) (ks : List S42) (hs : List ByteArray) : Prop where
  b : Below w.heap.size w w'
  r : kO.R 81 w' base (fun k => O k ∨ w.heap.size ≤ k) V7 ks
  o : ∀ k, V7.ownBlock = some k → w.heap.size ≤ k
  s : Kd.string.R 9 w' w.heap.size (fun _ => True) V8 hs
theorem Half.below {w w' w1 : World} {base : Nat} {O : Nat → Prop} {V7 V8 : Value} {ks : List S42} {hs : List ByteArray} (h : Half w w' base O V7 V8 ks hs) (hb : Below w'.heap.size w' w1) : Half w w1 base O V7 V8 ks hs :=
  ⟨h.b.trans (hb.mono h.b.size), Kd.R_below h.r hb, h.o, Kd.R_below h.s hb⟩
/-- An old option's pointer, put behind the others. -/
theorem Half.put {w w' w1 : World} {base : Nat} {O : Nat → Prop} {V7 V8 v : Value} {ks ks' : List S42} {hs : List ByteArray} (h : Half w w' base O V7 V8 ks hs) (hr : kO.R 81 w1 base (fun k => O k ∨ w.heap.size ≤ k) v ks') (hb : Below base w w1) (hg : w'.grownBy w1 V7.ownBlock) (hat : v.ownBlock = V7.ownBlock ∨ ∃ b, v.ownBlock = some b ∧ w'.heap.size ≤ b) : Half w w1 base O v V8 ks' hs :=
  ⟨below_grown h.b hb hg h.o, hr, fun k hk => by
    rcases hat with e | ⟨b, e, hle⟩
    · exact h.o k (e ▸ hk)
    · rw [e] at hk; cases hk; exact Nat.le_trans h.b.size hle, grown_R h.s h.r hg (by decide)⟩
theorem Half.says {w w' w1 : World} {base : Nat} {O : Nat → Prop} {V7 V8 v : Value} {ks : List S42} {hs hs' : List ByteArray} (h : Half w w' base O V7 V8 ks hs) (hr : Kd.string.R 9 w1 w.heap.size (fun _ => True) v hs') (hb : Below w.heap.size w w1) (hg : w'.grownBy w1 V8.ownBlock) : Half w w1 base O V7 v ks hs' :=
  ⟨hb, grown_R h.r h.s hg (by decide), h.o, hr⟩
/-- An option's pointer stays that option's. -/
theorem old_M {w w' : World} {base : Nat} {O : Nat → Prop} {x : S42} {cs : List Value} (h : kO.M w base O x cs) (hb : Below w.heap.size w w') : kO.M w' base (fun k => O k ∧ k < w.heap.size) x cs :=
  Kd.M_mono kO (fun k hk => hk) (Kd.M_below (Kd.M_mono kO (fun k hk => ⟨hk.1, hk.2.2.1⟩) (kO.M_bound h)) hb)

set_option maxHeartbeats 8000000 in
set_option maxRecDepth 100000 in
theorem setted (A : Option Addr) (c : Nat) (os : List S42) (key val : ByteArray) (Av : Option Addr) (cv : Nat) (base : Nat) (O : Nat → Prop) (w : World) (hR : kO.R 81 w base O (.slice A os.length c) os) (hb : base ≤ w.heap.size) (hl : os.length ≤ 1001) (hw : ∀ o ∈ os, Word o.f0) (hk : Word key) (hv : Kd.string.C w Av 1 [val]) (hcv : 1 ≤ cv) :
    Calls Tryd.prog 46 #[.slice A os.length c, .string key, .slice Av 1 cv] w fun e w' => ∃ v, e = .returned v ∧ kO.R 81 w' base (fun k => O k ∨ w.heap.size ≤ k) v (setOpts os key val) ∧ Below w.heap.size w w' := by
  have HR := Aside0.mk hR
  have HB0 := Aside0.mk hb
  have HL := Aside0.mk hl
  have HW := Aside0.mk hw
  have HK := Aside0.mk hk
  have HV := Aside0.mk hv
  have HIN : Aside0 (∀ (W : World) (a : ByteArray), Below w.heap.size w W → Calls Tryd.prog 50 #[.slice Av 1 cv, .string a] W fun e w' => e = .returned (.bool (decide (val = a))) ∧ Below W.heap.size W w') := ⟨fun W a hW => by
    have := containsC Av cv [val] a W (Kd.C_below hv hW) hcv (by show (1 : Nat) ≤ 140737488355328; omega)
    rw [isIn_one] at this
    exact this⟩
  clear hR hb hl hw hk hv
  go_enter Tryd.func46, Tryd.ntmps46
  go_wp2
  go_loopg [7, 8, 15] os.length (fun gk v7 v8 v15 w' => ∃ (k : Nat) (V7 V8 : Value), v7 = V7 ∧ v8 = V8 ∧ v15 = .int .i64 (k : Int) ∧ Aside0 (k + gk = os.length) ∧ Aside0 (Half w w' base O V7 V8 (keep (os.take k) key val) (had (os.take k) key val)))
  case atStart => exact ⟨0, _, _, rfl, rfl, rfl, ⟨by omega⟩, ⟨⟨Below.refl _ _, Kd.R_nil _ _ _ _ _, fun k hk => by simp [Value.ownBlock] at hk, Kd.R_nil _ _ _ _ _⟩⟩⟩
  case round =>
    obtain ⟨k, V7, V8, hV7, hV8, rfl, HKG, HH⟩ := hrel
    replace hV7 := hV7.symm
    replace hV8 := hV8.symm
    subst hV7
    subst hV8
    by_cases hlt : k < os.length
    rotate_left
    · obtain rfl : k = os.length := by have := HKG.out; omega
      have hH := HH.out
      rw [List.take_length] at hH
      have HH2 := Aside0.mk hH
      clear hH
      obtain ⟨A8, c8, rfl, hl8, hC8⟩ := Kd.R_reads HH2.out.s
      obtain ⟨ad, cs, rfl, hcl, hKK, hr⟩ := Kd.C_get HV.out (⟨#[]⟩ : ByteArray) 0 (by omega) (by omega)
      have hK' : cs = [.string val] := hKK
      subst hK'
      have hcv0 : wr.cell? ad = some (.string val) := pw_cell_below HH2.out.b (by have := hr 0 _ rfl; simpa [Addr.add, Kd.string, Kd.scalar] using this)
      have HIS := Aside0.mk (containsC A8 c8 (had os key val) val wr hC8 hl8 (by have := had_len os key val; have := HL.out; omega))
      have HAD := Aside0.mk (added V7 (keep os key val) key val base (fun k => O k ∨ w.heap.size ≤ k))
      have HKL : Aside0 ((keep os key val).length ≤ 1001) := ⟨Nat.le_trans (keep_len _ _ _) HL.out⟩
      obtain ⟨W0, hW0⟩ : ∃ W0, W0 = wr := ⟨_, rfl⟩
      clear hC8 hl8 hr hcl hKK
      go_wp2
      go_loopg [7, 47] 1 (fun gk v7 v47 w' => (gk = 1 ∧ v7 = V7 ∧ v47 = .int .i64 0 ∧ w' = W0) ∨ (gk = 0 ∧ v47 = .int .i64 1 ∧ Aside0 (Below w.heap.size w w') ∧ Aside0 (kO.R 81 w' base (fun k => O k ∨ w.heap.size ≤ k) v7 (setOpts os key val))))
      case atStart => exact Or.inl ⟨rfl, rfl, rfl, hW0.symm⟩
      case round =>
        rcases hrel with ⟨rfl, rfl, rfl, rfl⟩ | ⟨rfl, rfl, HE, HF⟩
        · cases hin : isIn (had os key val) val with
          | true =>
            have HSE : Aside0 (setOpts os key val = keep os key val) := ⟨by unfold setOpts; rw [if_pos hin, List.append_nil]⟩
            rw [hin] at HIS
            clear hin
            subst hW0
            go_wp2_with (first
              | (go_at_call 50; (with_reducible refine HIS.out.mono ?_); rintro e w2 ⟨rfl, hb2⟩; have HH3 := Aside0.mk (HH2.out.below hb2); clear hb2))
            go_roundg 0
            case measure => omega
            case rel => exact Or.inr ⟨rfl, rfl, ⟨HH3.out.b⟩, ⟨by rw [HSE.out]; exact HH3.out.r⟩⟩
          | false =>
            have HSE : Aside0 (setOpts os key val = keep os key val ++ [⟨key, val⟩]) := ⟨by unfold setOpts; rw [if_neg (by rw [hin]; decide)]⟩
            rw [hin] at HIS
            clear hin
            subst hW0
            go_wp2_with (first
              | (go_at_call 50; (with_reducible refine HIS.out.mono ?_); rintro e w2 ⟨rfl, hb2⟩; have HH3 := Aside0.mk (HH2.out.below hb2); clear hb2)
              | (go_at_call 47; (with_reducible refine (HAD.out w2 HH3.out.r (Nat.le_trans HB0.out HH3.out.b.size) HKL.out).mono ?_); rintro e w3 ⟨v, rfl, hr3, _, hb3, hat3, hg3⟩
                 have HH4 := Aside0.mk (HH3.out.put (Kd.R_mono hr3 (fun k hk => by rcases hk with hk | hk; exact hk; exact Or.inr (Nat.le_trans HH3.out.b.size hk))) ((HH3.out.b.mono HB0.out).trans hb3) hg3 hat3)
                 clear hr3 hb3 hat3 hg3))
            go_roundg 0
            case measure => omega
            case rel => exact Or.inr ⟨rfl, rfl, ⟨HH4.out.b⟩, ⟨by rw [HSE.out]; exact HH4.out.r⟩⟩
        · go_wp2
          go_ret
          exact ⟨_, rfl, HF.out, HE.out⟩
    obtain ⟨g0, rfl⟩ : ∃ m, gk = m + 1 := ⟨gk - 1, by have := HKG.out; omega⟩
    have hk1 : (k : Int) < (os.length : Int) := by omega
    have hk2 : (k : Int) < 1001 := by have := HL.out; omega
    obtain ⟨ad, c', v, hV, hlc, hcell, hM⟩ := at_row z42 rfl HR.out k hlt
    injection hV with hA _ hc
    subst hA
    subst hc
    replace hcell := pw_cell_below HH.out.b hcell
    obtain ⟨g, hv, hg0⟩ := kO_open (kO.K_of_M hM)
    obtain rfl : v = .pointer (some ⟨g, 0, none⟩) := by simpa using hv
    have hgt := getD_at os z42 k hlt
    generalize os.getD k z42 = o at hM hg0 hgt hv
    have hg := blk_below hg0 HH.out.b
    have HG : Aside0 (∀ W, Below wr.heap.size wr W → Calls Tryd.prog 49 #[.pointer (some ⟨g, 0, none⟩), .string key] W fun e w' => e = .returned (.bool (decide (o.f0 = key))) ∧ w' = W) := ⟨fun W hW => isKey g o.f0 o.f1 key key W (blk_below hg hW) (HW.out o (List.mem_of_getElem? hgt)) HK.out (FoldL.refl _)⟩
    have hc1 : wr.cell? ⟨g, 1, none⟩ = some (.string o.f1) := (blk_cell hg 1).trans rfl
    have HM : Aside0 (∀ W, Below w.heap.size w W → kO.M W base (fun k => O k ∧ k < w.heap.size) o [.pointer (some ⟨g, 0, none⟩)]) := ⟨fun W hW => old_M hM hW⟩
    have hke : keep (os.take (k + 1)) key val = keep (os.take k) key val ++ (if o.f0 ≠ key ∨ o.f1 = val then [o] else []) := by rw [List.take_add_one, hgt, keep_append, ← keep_one]; rfl
    have hhe : had (os.take (k + 1)) key val = had (os.take k) key val ++ (if o.f0 = key ∧ o.f1 = val then [o.f1] else []) := by rw [List.take_add_one, hgt, had_append, ← had_one]; rfl
    have HN7 : Aside0 ((keep (os.take k) key val).length ≤ 1001) := ⟨Nat.le_trans (keep_len _ _ _) (by rw [List.length_take]; have := HL.out; have := Nat.min_le_right k os.length; omega)⟩
    have HN8 : Aside0 ((had (os.take k) key val).length ≤ 1001) := ⟨Nat.le_trans (had_len _ _ _) (by rw [List.length_take]; have := HL.out; have := Nat.min_le_right k os.length; omega)⟩
    clear hM hg0 hg hgt hv hlc
    by_cases hou : o.f0 = key
    · have hd : decide (o.f0 = key) = true := decide_eq_true hou
      by_cases hvv : val = o.f1
      · have hd2 : decide (val = o.f1) = true := decide_eq_true hvv
        have HKE := Aside0.mk (hke.trans (by rw [if_pos (Or.inr hvv.symm)]))
        have HHE := Aside0.mk (hhe.trans (by rw [if_pos ⟨hou, hvv.symm⟩]))
        clear hou hvv hke hhe
        go_wp2_with (first
          | (go_at_call 49; (with_reducible refine (HG.out _ (Below.refl _ _)).mono ?_); rintro e w1 ⟨rfl, rfl⟩)
          | (go_at_call 50; (with_reducible refine (HIN.out _ _ HH.out.b).mono ?_); rintro e w2 ⟨rfl, hb2⟩; have HH1 := Aside0.mk (HH.out.below hb2); have hc1 := pw_cell_below hb2 hc1; clear hb2)
          | ((with_reducible refine gate_builtin (b := .append) (xs := #[.tmp 33, .tmp 38]) rfl ?_); at_builtin; refine Kd.R_append Kd.string (w0 := w) w.heap.size rfl (.tmp 33) (.tmp 38) 27 9 (.string ⟨#[]⟩) 16 rfl Tryd.underlying27 info9s rfl (by decide) (by decide) V8 (had (os.take k) key val) o.f1 [.string o.f1] (fun _ => True) (fun _ => False) rfl ?hx rfl (fun _ h => h.elim) (fun _ _ => trivial) HH1.out.s HH1.out.b HH1.out.b.size ?hlen ?_
             case hx => first | (go_simp; done) | (simp [Act.eval]; done)
             case hlen => have := HN8.out; omega
             intro v8 w8 ho8 hb8 hg8 hat8
             have HH2 := Aside0.mk (HH1.out.says ho8 hb8 hg8)
             clear ho8 hb8 hg8 hat8)
          | ((with_reducible refine gate_builtin (b := .append) (xs := #[.tmp 40, .tmp 42]) rfl ?_); at_builtin; refine Kd.R_append kO (w0 := w) base rfl (.tmp 40) (.tmp 42) 66 81 (.pointer none) 8 rfl Tryd.underlying66 info81 rfl (by decide) (by decide) V7 (keep (os.take k) key val) o [.pointer (some ⟨g, 0, none⟩)] (fun k => O k ∨ w.heap.size ≤ k) (fun k => O k ∧ k < w.heap.size) rfl ?hx (HM.out _ HH2.out.b) (fun k hk => ⟨Or.inl hk.1, fun e => ?hne⟩) (fun k hk => Or.inr ?hfr) HH2.out.r (HH2.out.b.mono HB0.out) ?hbase ?hlen ?_
             case hx => first | (go_simp; done) | (simp [Act.eval]; done)
             case hne => have := HH2.out.o k e.symm; omega
             case hfr => exact Nat.le_trans HH2.out.b.size hk
             case hbase => exact Nat.le_trans HB0.out HH2.out.b.size
             case hlen => have := HN7.out; omega
             intro v7 w7 ho7 hb7 hg7 hat7
             have HH3 := Aside0.mk (HH2.out.put ho7 hb7 hg7 hat7)
             clear ho7 hb7 hg7 hat7))
        go_roundg g0
        case measure => omega
        case rel => exact ⟨k + 1, v7, v8, rfl, rfl, by push_cast; rfl, ⟨by have := HKG.out; omega⟩, ⟨by rw [HKE.out, HHE.out]; exact HH3.out⟩⟩
      · have hd2 : decide (val = o.f1) = false := decide_eq_false hvv
        have HKE := Aside0.mk (hke.trans (by rw [if_neg (fun h => by rcases h with h | h; exact h hou; exact hvv h.symm)]))
        have HHE := Aside0.mk (hhe.trans (by rw [if_neg (fun h => hvv h.2.symm)]))
        clear hou hvv hke hhe
        go_wp2_with (first
          | (go_at_call 49; (with_reducible refine (HG.out _ (Below.refl _ _)).mono ?_); rintro e w1 ⟨rfl, rfl⟩)
          | (go_at_call 50; (with_reducible refine (HIN.out _ _ HH.out.b).mono ?_); rintro e w2 ⟨rfl, hb2⟩; have HH1 := Aside0.mk (HH.out.below hb2); clear hb2))
        go_roundg g0
        case measure => omega
        case rel => exact ⟨k + 1, V7, V8, rfl, rfl, by push_cast; rfl, ⟨by have := HKG.out; omega⟩, ⟨by rw [HKE.out, HHE.out, List.append_nil, List.append_nil]; exact HH1.out⟩⟩
    · have hd : decide (o.f0 = key) = false := decide_eq_false hou
      have HKE := Aside0.mk (hke.trans (by rw [if_pos (Or.inl hou)]))
      have HHE := Aside0.mk (hhe.trans (by rw [if_neg (fun h => hou h.1)]))
      clear hou hke hhe
      go_wp2_with (first
        | (go_at_call 49; (with_reducible refine (HG.out _ (Below.refl _ _)).mono ?_); rintro e w1 ⟨rfl, rfl⟩)
        | ((with_reducible refine gate_builtin (b := .append) (xs := #[.tmp 23, .tmp 25]) rfl ?_); at_builtin; refine Kd.R_append kO (w0 := w) base rfl (.tmp 23) (.tmp 25) 66 81 (.pointer none) 8 rfl Tryd.underlying66 info81 rfl (by decide) (by decide) V7 (keep (os.take k) key val) o [.pointer (some ⟨g, 0, none⟩)] (fun k => O k ∨ w.heap.size ≤ k) (fun k => O k ∧ k < w.heap.size) rfl ?hx (HM.out _ HH.out.b) (fun k hk => ⟨Or.inl hk.1, fun e => ?hne⟩) (fun k hk => Or.inr ?hfr) HH.out.r (HH.out.b.mono HB0.out) ?hbase ?hlen ?_
           case hx => first | (go_simp; done) | (simp [Act.eval]; done)
           case hne => have := HH.out.o k e.symm; omega
           case hfr => exact Nat.le_trans HH.out.b.size hk
           case hbase => exact Nat.le_trans HB0.out HH.out.b.size
           case hlen => have := HN7.out; omega
           intro v7 w7 ho7 hb7 hg7 hat7
           have HH3 := Aside0.mk (HH.out.put ho7 hb7 hg7 hat7)
           clear ho7 hb7 hg7 hat7))
      go_roundg g0
      case measure => omega
      case rel => exact ⟨k + 1, v7, V8, rfl, rfl, by push_cast; rfl, ⟨by have := HKG.out; omega⟩, ⟨by rw [HKE.out, HHE.out, List.append_nil]; exact HH3.out⟩⟩
#print axioms setted
end Go.Proofs.YtacndeejapfkiaaDoor.HandO

set_option linter.unusedVariables false
set_option linter.unusedSimpArgs false
namespace Go.Proofs.YtacndeejapfkiaaDoor.HandP
open Go.RowKit Go.Proofs.YtacndeejapfkiaaDoorW.PrintWords Go.Proofs.YtacndeejapfkiaaDoorW.PrintLast Go.Proofs.YtacndeejapfkiaaDoorW.PrintMore Go.Proofs.YtacndeejapfkiaaDoor.QAll Txt Ptr SepK HandA HandB HandC HandD HandF HandM PureS HandN HandO

def addOpts (os : List S42) (key val : ByteArray) : List S42 := os ++ [⟨key, val⟩]
theorem lit_val (w : World) (val : ByteArray) : Kd.string.C (w.alloc (.cells #[.string val] 9)) (some ⟨w.heap.size, 0, none⟩) 1 [val] := by
  have h := own_lit_of (enc := Value.string) w 0 9 [val] (Nat.zero_le _) (by show (1 : Nat) ≤ 9223372036854775807; omega)
  have h2 : Kd.string.R 9 (w.alloc (.cells #[.string val] 9)) 0 (fun _ => True) (.slice (some ⟨w.heap.size, 0, none⟩) 1 1) [val] := Kd.R_of_own (xs := [val]) h (fun _ _ => trivial)
  exact (Kd.R_reads' h2).2.2

set_option maxHeartbeats 4000000 in
set_option maxRecDepth 100000 in
theorem secSet (g : Nat) (x : S36) (key val : ByteArray) (base : Nat) (O : Nat → Prop) (w : World) (hM : kS.M w base O x [.pointer (some ⟨g, 0, none⟩)]) (hb : base ≤ w.heap.size) (hl : x.f1.length ≤ 1001) (hw : ∀ o ∈ x.f1, Word o.f0) (hk : Word key) :
    Calls Tryd.prog 36 #[.pointer (some ⟨g, 0, none⟩), .string key, .string val] w fun e w' => e = .returned (.pointer (some ⟨g, 0, none⟩)) ∧ kS.M w' base (fun k => O k ∨ w.heap.size ≤ k) ⟨x.f0, setOpts x.f1 key val, x.f2⟩ [.pointer (some ⟨g, 0, none⟩)] ∧ Far w w' O ∧ Below base w w' := by
  obtain ⟨g', VO, VP, P, hv0, hO, hbg, hg, hR, hS⟩ := kS_openM hM
  obtain rfl : g = g' := by simpa using hv0
  obtain ⟨A, c, rfl⟩ := Kd.R_slice hR
  have hc0 : w.cell? ⟨g, 1, none⟩ = some (.slice A x.f1.length c) := (blk_cell hg 1).trans rfl
  have hc1 : (w.alloc (.cells #[.string val] 9)).cell? ⟨g, 1, none⟩ = some (.slice A x.f1.length c) := (blk_cell (blk_alloc hg _) 1).trans rfl
  have HC := Aside0.mk (setted A c x.f1 key val (some ⟨w.heap.size, 0, none⟩) 1 base (fun k => (O k ∧ k ≠ g) ∧ P k) (w.alloc (.cells #[.string val] 9)) (Kd.R_below hR (below_alloc (Below.refl _ _) _)) (Nat.le_trans hb (below_alloc (Below.refl w.heap.size w) _).size) hl hw hk (lit_val w val) (Nat.le_refl _))
  have HO := Aside0.mk hO
  have HBG := Aside0.mk hbg
  have HG := Aside0.mk hg
  have HB := Aside0.mk hb
  have HS := Aside0.mk hS
  clear hM hb hl hv0 hO hbg hg hR hS hw hk
  go_enter Tryd.func36, Tryd.ntmps36
  go_wp2_with (first
    | (go_at_call 46; (with_reducible refine HC.out.mono ?_); rintro e w2 ⟨v, rfl, hr, hbw⟩
       have hbw2 : Below w.heap.size w w2 := (below_alloc (Below.refl _ _) _).trans (hbw.mono (below_alloc (Below.refl w.heap.size w) _).size)
       have hfar : Far w w2 (fun k => (O k ∧ k ≠ g) ∧ P k) := Far.of_below hbw2 _
       have hbb : Below base w w2 := hbw2.mono HB.out
       obtain ⟨A7, c7, hv7⟩ := Kd.R_slice hr
       obtain ⟨n7, hn7⟩ : ∃ n, n = (setOpts x.f1 key val).length := ⟨_, rfl⟩
       rw [← hn7] at hv7
       subst hv7
       have HM7 := Aside0.mk (kS_setO HO.out HBG.out HG.out HS.out hfar (Kd.R_mono hr (fun k hk => by rcases hk with hk | hk; exact Or.inl hk; exact Or.inr (Nat.le_trans (below_alloc (Below.refl w.heap.size w) _).size hk))))
       have HB7 : Aside0 (Below base w (w2.setCell ⟨g, 1, none⟩ (.slice A7 n7 c7))) := ⟨hbb.setCell HBG.out _⟩
       have hgb : w2.heap[g]? = some (.cells #[.string x.f0, .slice A x.f1.length c, VP] 70 (0, 0)) := (hfar.2 g (blk_lt HG.out) (fun h => h.1.2 rfl)).trans HG.out
       have hc7 : w2.cell? ⟨g, 1, none⟩ = some (.slice A x.f1.length c) := (blk_cell hgb 1).trans rfl
       have hz7 := blk_frozen hgb 1
       clear hr hfar hbb hgb hn7 hbw hbw2))
  go_ret
  exact ⟨rfl, HM7.out.1, HM7.out.2, HB7.out⟩

set_option maxHeartbeats 4000000 in
set_option maxRecDepth 100000 in
theorem subSet (g : Nat) (x : S46) (key val : ByteArray) (Av : Option Addr) (cv : Nat) (base : Nat) (O : Nat → Prop) (w : World) (hM : kB.M w base O x [.pointer (some ⟨g, 0, none⟩)]) (hb : base ≤ w.heap.size) (hl : x.f1.length ≤ 1001) (hw : ∀ o ∈ x.f1, Word o.f0) (hk : Word key) (hv : Kd.string.C w Av 1 [val]) (hcv : 1 ≤ cv) :
    Calls Tryd.prog 37 #[.pointer (some ⟨g, 0, none⟩), .string key, .slice Av 1 cv] w fun e w' => e = .returned (.pointer (some ⟨g, 0, none⟩)) ∧ kB.M w' base (fun k => O k ∨ w.heap.size ≤ k) ⟨x.f0, setOpts x.f1 key val⟩ [.pointer (some ⟨g, 0, none⟩)] ∧ Far w w' O ∧ Below base w w' := by
  obtain ⟨g', VO, hv0, hO, hbg, hg, hR⟩ := kB_openM hM
  obtain rfl : g = g' := by simpa using hv0
  obtain ⟨A, c, rfl⟩ := Kd.R_slice hR
  have hc0 : w.cell? ⟨g, 1, none⟩ = some (.slice A x.f1.length c) := (blk_cell hg 1).trans rfl
  have HC := Aside0.mk (setted A c x.f1 key val Av cv base (fun k => O k ∧ k ≠ g) w (Kd.R_below hR (Below.refl _ _)) hb hl hw hk hv hcv)
  have HO := Aside0.mk hO
  have HBG := Aside0.mk hbg
  have HG := Aside0.mk hg
  have HB := Aside0.mk hb
  clear hM hb hl hv0 hO hbg hg hR hw hk hv hcv
  go_enter Tryd.func37, Tryd.ntmps37
  go_wp2_with (first
    | (go_at_call 46; (with_reducible refine HC.out.mono ?_); rintro e w2 ⟨v, rfl, hr, hbw⟩
       have hbw2 : Below w.heap.size w w2 := hbw
       have hfar : Far w w2 (fun k => O k ∧ k ≠ g) := Far.of_below hbw2 _
       have hbb : Below base w w2 := hbw2.mono HB.out
       obtain ⟨A7, c7, hv7⟩ := Kd.R_slice hr
       obtain ⟨n7, hn7⟩ : ∃ n, n = (setOpts x.f1 key val).length := ⟨_, rfl⟩
       rw [← hn7] at hv7
       subst hv7
       have HM7 := Aside0.mk (kB_setO HO.out HBG.out HG.out hfar (hr))
       have HB7 : Aside0 (Below base w (w2.setCell ⟨g, 1, none⟩ (.slice A7 n7 c7))) := ⟨hbb.setCell HBG.out _⟩
       have hgb : w2.heap[g]? = some (.cells #[.string x.f0, .slice A x.f1.length c] 73 (0, 0)) := (hfar.2 g (blk_lt HG.out) (fun h => h.2 rfl)).trans HG.out
       have hc7 : w2.cell? ⟨g, 1, none⟩ = some (.slice A x.f1.length c) := (blk_cell hgb 1).trans rfl
       have hz7 := blk_frozen hgb 1
       clear hr hfar hbb hgb hn7 hbw hbw2))
  go_ret
  exact ⟨rfl, HM7.out.1, HM7.out.2, HB7.out⟩

set_option maxHeartbeats 4000000 in
set_option maxRecDepth 100000 in
theorem secAdd (g : Nat) (x : S36) (key val : ByteArray) (base : Nat) (O : Nat → Prop) (w : World) (hM : kS.M w base O x [.pointer (some ⟨g, 0, none⟩)]) (hb : base ≤ w.heap.size) (hl : x.f1.length ≤ 1001) :
    Calls Tryd.prog 38 #[.pointer (some ⟨g, 0, none⟩), .string key, .string val] w fun e w' => e = .returned (.pointer (some ⟨g, 0, none⟩)) ∧ kS.M w' base (fun k => O k ∨ w.heap.size ≤ k) ⟨x.f0, addOpts x.f1 key val, x.f2⟩ [.pointer (some ⟨g, 0, none⟩)] ∧ Far w w' O ∧ Below base w w' := by
  obtain ⟨g', VO, VP, P, hv0, hO, hbg, hg, hR, hS⟩ := kS_openM hM
  obtain rfl : g = g' := by simpa using hv0
  obtain ⟨A, c, rfl⟩ := Kd.R_slice hR
  have hc0 : w.cell? ⟨g, 1, none⟩ = some (.slice A x.f1.length c) := (blk_cell hg 1).trans rfl
  have HC := Aside0.mk (added (.slice A x.f1.length c) x.f1 key val base (fun k => (O k ∧ k ≠ g) ∧ P k) w hR hb hl)
  have HO := Aside0.mk hO
  have HBG := Aside0.mk hbg
  have HG := Aside0.mk hg
  have HB := Aside0.mk hb
  have HS := Aside0.mk hS
  clear hM hb hl hv0 hO hbg hg hR hS
  go_enter Tryd.func38, Tryd.ntmps38
  go_wp2_with (first
    | (go_at_call 47; (with_reducible refine HC.out.mono ?_); rintro e w2 ⟨v, rfl, hr, hfar, hbb, _, _⟩
       obtain ⟨A7, c7, hv7⟩ := Kd.R_slice hr
       obtain ⟨n7, hn7⟩ : ∃ n, n = (addOpts x.f1 key val).length := ⟨_, rfl⟩
       rw [show x.f1 ++ [⟨key, val⟩] = addOpts x.f1 key val from rfl, ← hn7] at hv7
       subst hv7
       have HM7 := Aside0.mk (kS_setO HO.out HBG.out HG.out HS.out hfar (hr))
       have HB7 : Aside0 (Below base w (w2.setCell ⟨g, 1, none⟩ (.slice A7 n7 c7))) := ⟨hbb.setCell HBG.out _⟩
       have hgb : w2.heap[g]? = some (.cells #[.string x.f0, .slice A x.f1.length c, VP] 70 (0, 0)) := (hfar.2 g (blk_lt HG.out) (fun h => h.1.2 rfl)).trans HG.out
       have hc7 : w2.cell? ⟨g, 1, none⟩ = some (.slice A x.f1.length c) := (blk_cell hgb 1).trans rfl
       have hz7 := blk_frozen hgb 1
       clear hr hfar hbb hgb hn7))
  go_ret
  exact ⟨rfl, HM7.out.1, HM7.out.2, HB7.out⟩

set_option maxHeartbeats 4000000 in
set_option maxRecDepth 100000 in
theorem subAdd (g : Nat) (x : S46) (key val : ByteArray) (base : Nat) (O : Nat → Prop) (w : World) (hM : kB.M w base O x [.pointer (some ⟨g, 0, none⟩)]) (hb : base ≤ w.heap.size) (hl : x.f1.length ≤ 1001) :
    Calls Tryd.prog 39 #[.pointer (some ⟨g, 0, none⟩), .string key, .string val] w fun e w' => e = .returned (.pointer (some ⟨g, 0, none⟩)) ∧ kB.M w' base (fun k => O k ∨ w.heap.size ≤ k) ⟨x.f0, addOpts x.f1 key val⟩ [.pointer (some ⟨g, 0, none⟩)] ∧ Far w w' O ∧ Below base w w' := by
  obtain ⟨g', VO, hv0, hO, hbg, hg, hR⟩ := kB_openM hM
  obtain rfl : g = g' := by simpa using hv0
  obtain ⟨A, c, rfl⟩ := Kd.R_slice hR
  have hc0 : w.cell? ⟨g, 1, none⟩ = some (.slice A x.f1.length c) := (blk_cell hg 1).trans rfl
  have HC := Aside0.mk (added (.slice A x.f1.length c) x.f1 key val base (fun k => O k ∧ k ≠ g) w hR hb hl)
  have HO := Aside0.mk hO
  have HBG := Aside0.mk hbg
  have HG := Aside0.mk hg
  have HB := Aside0.mk hb
  clear hM hb hl hv0 hO hbg hg hR
  go_enter Tryd.func39, Tryd.ntmps39
  go_wp2_with (first
    | (go_at_call 47; (with_reducible refine HC.out.mono ?_); rintro e w2 ⟨v, rfl, hr, hfar, hbb, _, _⟩
       obtain ⟨A7, c7, hv7⟩ := Kd.R_slice hr
       obtain ⟨n7, hn7⟩ : ∃ n, n = (addOpts x.f1 key val).length := ⟨_, rfl⟩
       rw [show x.f1 ++ [⟨key, val⟩] = addOpts x.f1 key val from rfl, ← hn7] at hv7
       subst hv7
       have HM7 := Aside0.mk (kB_setO HO.out HBG.out HG.out hfar (hr))
       have HB7 : Aside0 (Below base w (w2.setCell ⟨g, 1, none⟩ (.slice A7 n7 c7))) := ⟨hbb.setCell HBG.out _⟩
       have hgb : w2.heap[g]? = some (.cells #[.string x.f0, .slice A x.f1.length c] 73 (0, 0)) := (hfar.2 g (blk_lt HG.out) (fun h => h.2 rfl)).trans HG.out
       have hc7 : w2.cell? ⟨g, 1, none⟩ = some (.slice A x.f1.length c) := (blk_cell hgb 1).trans rfl
       have hz7 := blk_frozen hgb 1
       clear hr hfar hbb hgb hn7))
  go_ret
  exact ⟨rfl, HM7.out.1, HM7.out.2, HB7.out⟩
#print axioms secSet
#print axioms subSet
#print axioms secAdd
#print axioms subAdd
end Go.Proofs.YtacndeejapfkiaaDoor.HandP

