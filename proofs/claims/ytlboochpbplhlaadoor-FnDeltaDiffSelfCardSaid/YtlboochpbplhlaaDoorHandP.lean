/- The index of a delta's base: rows of numbers, the scanner's and the index's structs; scan walked. -/
import Derived.Test.YtlboochpbplhlaaDoorHandN
import Derived.Test.YtlboochpbplhlaaDoorHandK
set_option linter.unusedVariables false
set_option linter.unusedSimpArgs false
namespace Go.Proofs.YtlboochpbplhlaaDoor.HandP
open Go.RowKit Go.Proofs.YtlboochpbplhlaaDoorW.PrintWords Go.Proofs.YtlboochpbplhlaaDoor.QAll PureD HandA HandB HandC HandD HandK HandN

/-- A row of numbers. -/
def Nats (w : World) (g : Nat) (l : List Nat) : Prop := w.heap[g]? = some (.cells (l.map (fun n : Nat => Value.int .i64 (n : Int))).toArray 3 (0, 0))
theorem Nats.lt {w : World} {g : Nat} {l : List Nat} (h : Nats w g l) : g < w.heap.size := Lib.lt_of_heap h
theorem Nats.cell {w : World} {g : Nat} {l : List Nat} (h : Nats w g l) (i n : Nat) (hi : l[i]? = some n) : w.cell? ⟨g, i, none⟩ = some (.int .i64 (n : Int)) := by
  rw [Lib.cell_of_heap h]; simp [hi]
theorem Nats.frozen {w : World} {g : Nat} {l : List Nat} (h : Nats w g l) (i : Nat) : w.frozen? ⟨g, i, none⟩ = false := Lib.frozen_of_heap h i
theorem Nats.set {w : World} {g : Nat} {l : List Nat} (h : Nats w g l) (i n : Nat) : Nats (w.setCell ⟨g, i, none⟩ (.int .i64 (n : Int))) g (l.set i n) := by
  refine (Lib.heap_setCell_same (i := i) h _).trans ?_
  congr 2
  simp [List.map_set]
theorem Nats.other {w : World} {g : Nat} {l : List Nat} (h : Nats w g l) (b i : Nat) (v : Value) (hb : g ≠ b) : Nats (w.setCell ⟨b, i, none⟩ v) g l := (Below.heap_setCell _ _ _ _ hb).trans h
theorem Nats.off {w w' : World} {S : Nat → Prop} {g : Nat} {l : List Nat} (h : Nats w g l) (ho : Off w w' S) (hb : ¬ S g) : Nats w' g l := (ho.blk g h.lt hb).trans h
theorem made_nats (n : Nat) : madeCells (Value.int .i64 0).cells (n * 1) = ((List.replicate n 0).map (fun n : Nat => Value.int .i64 (n : Int))).toArray := by
  apply Array.ext
  · simp [size_madeCells]
  · intro i h1 h2
    simp [madeCells, Value.cells, Nat.mod_one]
theorem Nats.made (w : World) (n : Nat) : Nats (w.alloc (.cells (madeCells (Value.int .i64 0).cells (n * 1)) 3)) w.heap.size (List.replicate n 0) := by
  rw [made_nats]
  exact heap_alloc_new w _

/-- The scanner's struct. -/
def Sc (w : World) (s tb eb xb ts n m cnt : Nat) : Prop :=
  w.heap[s]? = some (.cells #[.slice (some ⟨tb, 0, none⟩) ts ts, .slice (some ⟨eb, 0, none⟩) n n, .slice (some ⟨xb, 0, none⟩) n n, .int .i64 (m : Int), .int .i64 (cnt : Int)] 87 (0, 0))
theorem Sc.off {w w' : World} {S : Nat → Prop} {s tb eb xb ts n m cnt : Nat} (h : Sc w s tb eb xb ts n m cnt) (ho : Off w w' S) (hb : ¬ S s) : Sc w' s tb eb xb ts n m cnt := (ho.blk s (Lib.lt_of_heap h) hb).trans h
/-- The scanner and its rows. -/
structure Scan (w : World) (s tb eb xb ts n m cnt : Nat) (table entries next : List Nat) : Prop where
  sc : Sc w s tb eb xb ts n m cnt
  t : Nats w tb table
  e : Nats w eb entries
  x : Nats w xb next
  ne1 : s ≠ tb
  ne2 : s ≠ eb
  ne3 : s ≠ xb
  ne4 : tb ≠ eb
  ne5 : tb ≠ xb
  ne6 : eb ≠ xb
  tl : table.length = ts
  el : entries.length = n
  xl : next.length = n
def Four (s tb eb xb k : Nat) : Prop := k = s ∨ k = tb ∨ k = eb ∨ k = xb
theorem Scan.new {w : World} {s tb eb xb ts n m cnt : Nat} {table entries next : List Nat} (h : Scan w s tb eb xb ts n m cnt table entries next) (ti p head : Nat) :
    Scan ((((w.setCell ⟨s, 4, none⟩ (.int .i64 ((cnt + 1 : Nat) : Int))).setCell ⟨eb, cnt + 1, none⟩ (.int .i64 (p : Int))).setCell ⟨xb, cnt + 1, none⟩ (.int .i64 (head : Int))).setCell ⟨tb, ti, none⟩ (.int .i64 ((cnt + 1 : Nat) : Int)))
      s tb eb xb ts n m (cnt + 1) (table.set ti (cnt + 1)) (entries.set (cnt + 1) p) (next.set (cnt + 1) head) ∧
    Off w ((((w.setCell ⟨s, 4, none⟩ (.int .i64 ((cnt + 1 : Nat) : Int))).setCell ⟨eb, cnt + 1, none⟩ (.int .i64 (p : Int))).setCell ⟨xb, cnt + 1, none⟩ (.int .i64 (head : Int))).setCell ⟨tb, ti, none⟩ (.int .i64 ((cnt + 1 : Nat) : Int))) (Four s tb eb xb) := by
  obtain ⟨hs, ht, he, hx, n1, n2, n3, n4, n5, n6, l1, l2, l3⟩ := h
  refine ⟨⟨?_, ?_, ?_, ?_, n1, n2, n3, n4, n5, n6, by rw [List.length_set]; exact l1, by rw [List.length_set]; exact l2, by rw [List.length_set]; exact l3⟩, ?_⟩
  · have h1 := Lib.heap_setCell_same (i := 4) hs (.int .i64 ((cnt + 1 : Nat) : Int))
    exact (Below.heap_setCell _ _ _ _ n1).trans ((Below.heap_setCell _ _ _ _ n3).trans ((Below.heap_setCell _ _ _ _ n2).trans h1))
  · exact (((ht.other s 4 _ n1.symm).other eb _ _ n4).other xb _ _ n5).set ti (cnt + 1)
  · exact (((he.other s 4 _ n2.symm).set (cnt + 1) p).other xb _ _ n6).other tb _ _ n4.symm
  · exact (((hx.other s 4 _ n3.symm).other eb _ _ n6.symm).set (cnt + 1) head).other tb _ _ n5.symm
  · exact ((((Off.set w s 4 _).mono (S2 := Four s tb eb xb) (fun _ _ h => Or.inl h)).trans (Off.set _ eb _ _) (fun _ _ h => Or.inr (Or.inr (Or.inl h)))).trans (Off.set _ xb _ _) (fun _ _ h => Or.inr (Or.inr (Or.inr h)))).trans (Off.set _ tb _ _) (fun _ _ h => Or.inr (Or.inl h))
theorem Scan.drewN {w : World} {s tb eb xb ts n m cnt : Nat} {table entries next : List Nat} (h : Scan w s tb eb xb ts n m cnt table entries next) (q : Nat) : Scan (w.drewN q) s tb eb xb ts n m cnt table entries next :=
  ⟨h.sc, h.t, h.e, h.x, h.ne1, h.ne2, h.ne3, h.ne4, h.ne5, h.ne6, h.tl, h.el, h.xl⟩
theorem Scan.move {w : World} {s tb eb xb ts n m cnt : Nat} {table entries next : List Nat} (h : Scan w s tb eb xb ts n m cnt table entries next) (head p : Nat) :
    Scan (w.setCell ⟨eb, head, none⟩ (.int .i64 (p : Int))) s tb eb xb ts n m cnt table (entries.set head p) next ∧ Off w (w.setCell ⟨eb, head, none⟩ (.int .i64 (p : Int))) (Four s tb eb xb) := by
  obtain ⟨hs, ht, he, hx, n1, n2, n3, n4, n5, n6, l1, l2, l3⟩ := h
  exact ⟨⟨(Below.heap_setCell _ _ _ _ n2).trans hs, ht.other eb _ _ n4, he.set head p, hx.other eb _ _ n6.symm, n1, n2, n3, n4, n5, n6, l1, by rw [List.length_set]; exact l2, l3⟩, (Off.set w eb _ _).mono (fun _ _ h => Or.inr (Or.inr (Or.inl h)))⟩
/-- What the rows hold: places up to cnt, chains that go down. -/
def Held (table next : List Nat) (cnt : Nat) : Prop := (∀ (i t : Nat), table[i]? = some t → t ≤ cnt) ∧ ∀ (i x : Nat), next[i]? = some x → x ≤ cnt ∧ (x = 0 ∨ x < i)
theorem Held.new {table next : List Nat} {cnt ti head : Nat} (h : Held table next cnt) (hh : head ≤ cnt) : Held (table.set ti (cnt + 1)) (next.set (cnt + 1) head) (cnt + 1) := by
  refine ⟨fun i t hi => ?_, fun i x hi => ?_⟩
  · rw [List.getElem?_set] at hi
    split at hi
    · split at hi
      · cases hi; omega
      · cases hi
    · have := h.1 i t hi; omega
  · rw [List.getElem?_set] at hi
    split at hi
    · split at hi
      · cases hi; omega
      · cases hi
    · have := h.2 i x hi; omega

/-- No number is above Q. -/
def Low (l : List Nat) (Q : Nat) : Prop := ∀ (i e : Nat), l[i]? = some e → e ≤ Q
theorem Low.set {l : List Nat} {Q : Nat} (h : Low l Q) (i e : Nat) (he : e ≤ Q) : Low (l.set i e) Q := by
  intro j x hj
  rw [List.getElem?_set] at hj
  split at hj
  · split at hj
    · cases hj; exact he
    · cases hj
  · exact h j x hj
theorem Low.rep (n Q : Nat) : Low (List.replicate n 0) Q := by
  intro i t hi
  rw [List.getElem?_replicate] at hi
  split at hi
  · cases hi; omega
  · cases hi

theorem and_i64 (a b : Nat) (ha : a < 2 ^ 63) (hb : b < 2 ^ 63) : bits .and .i64 (a : Int) (b : Int) = ((a &&& b : Nat) : Int) :=
  (bits_nat .i64 63 (by decide) (fun n h0 h1 => by rw [IntKind.wrap_i64]; omega) a b ha hb).1

set_option maxHeartbeats 8000000 in
set_option maxRecDepth 100000 in
theorem scan (B s tb eb xb ts n K : Nat) (A : Option Addr) (c : Nat) (l : List Int) (w : World) (hBw : B ≤ w.heap.size) (hT : ∀ W, Below B w W → TabT W) (hS : Sd w B A c l) (hB : B ≤ s ∧ B ≤ tb ∧ B ≤ eb ∧ B ≤ xb)
    (hK : K * 16 ≤ l.length) (hK1 : 1 ≤ K) (hn : n = K + 1) (hts : 1 ≤ ts) (hts2 : ts ≤ 4611686018427387904) (table entries next : List Nat) (h : Scan w s tb eb xb ts n (ts - 1) 0 table entries next) (hH : Held table next 0) (hE : Low entries (K * 16)) :
    Calls Tryd.prog 55 #[.pointer (some ⟨s, 0, none⟩), .slice A l.length c, .int .i64 ((K * 16 : Nat) : Int)] w fun e w' => e = .returned (.tuple #[]) ∧ Off w w' (Four s tb eb xb) ∧
      ∃ cnt table entries next, cnt ≤ K ∧ Scan w' s tb eb xb ts n (ts - 1) cnt table entries next ∧ Held table next cnt ∧ Low entries (K * 16) := by
  obtain ⟨L, hL⟩ : ∃ L, L = l.length := ⟨_, rfl⟩
  have hcap := hS.2.1
  have hlc := hS.1
  have HT := Aside0.mk hT
  have HS := Aside0.mk hS
  have HB := Aside0.mk hB
  have HN := Aside0.mk hn
  have HL := Aside0.mk hL
  rw [← hL] at hlc hcap hK ⊢
  have h0 := Aside0.mk h
  have h1 := Aside0.mk hH
  have h2 := Aside0.mk hE
  obtain ⟨M, hM⟩ : ∃ M, M = ts - 1 := ⟨_, rfl⟩
  rw [← hM] at h0 ⊢
  have HM : Aside0 (M + 1 = ts) := ⟨by omega⟩
  have HK := Aside0.mk hK
  have hK2 : K * 16 ≤ 140737488355328 := by omega
  have hg16 : ((K * 16 : Nat) : Int) = (K : Int) * 16 := by omega
  rw [hg16]
  obtain ⟨K', rfl⟩ : ∃ K', K = K' + 1 := ⟨K - 1, by omega⟩
  clear hT hS hB hn hL h hH hE hM hts hK hK1 hg16
  go_enter Tryd.func55, Tryd.ntmps55
  go_wp2_with fail
  go_loopg [6, 7, 8, 9, 10, 11] K' (fun g0 v6 v7 v8 v9 v10 v11 w' => ∃ (lh : Nat) (ptr : Int) (cnt : Nat) (table entries next : List Nat), v6 = .int .i64 (lh : Int) ∧ v7 = .int .i64 ptr ∧ ptr = (g0 : Int) * 16 ∧ g0 ≤ K' ∧ Aside0 (cnt + g0 ≤ K') ∧ Aside0 (Scan w' s tb eb xb ts n M cnt table entries next) ∧ Aside0 (Held table next cnt) ∧ Aside0 (Low entries ((K' + 1) * 16)) ∧ Aside0 (Off w w' (Four s tb eb xb)))
  case atStart => exact ⟨0, _, 0, table, entries, next, rfl, rfl, by omega, Nat.le_refl _, ⟨by omega⟩, ⟨h0.out⟩, ⟨h1.out⟩, h2, ⟨Off.refl _ _⟩⟩
  case round =>
    obtain ⟨lh, ptr, cnt, table1, entries1, next1, rfl, rfl, hptr, hgk, HC, HSc, HH, HE, HO⟩ := hrel
    have hbw : Below B w wr := HO.out.below hBw (fun k hk => by have := HB.out; rcases hk with rfl | rfl | rfl | rfl <;> omega)
    have HH9 : Aside0 (Calls Tryd.prog 49 #[.slice A L c, .int .i64 ((gk : Int) * 16)] wr _) := ⟨by
      have h := HandN.hash (gk * 16) B A c l wr (HS.out.below hbw) (HT.out wr hbw) (by rw [← HL.out]; have := HK.out; omega)
      rw [← HL.out, Int.natCast_mul] at h
      exact h⟩
    subst hptr
    have hsc := HSc.out.sc
    have c0 : wr.cell? ⟨s, 0, none⟩ = some (.slice (some ⟨tb, 0, none⟩) ts ts) := by rw [Lib.cell_of_heap hsc]; rfl
    have c1 : wr.cell? ⟨s, 1, none⟩ = some (.slice (some ⟨eb, 0, none⟩) n n) := by rw [Lib.cell_of_heap hsc]; rfl
    have c2 : wr.cell? ⟨s, 2, none⟩ = some (.slice (some ⟨xb, 0, none⟩) n n) := by rw [Lib.cell_of_heap hsc]; rfl
    have c3 : wr.cell? ⟨s, 3, none⟩ = some (.int .i64 (M : Int)) := by rw [Lib.cell_of_heap hsc]; rfl
    have c4 : wr.cell? ⟨s, 4, none⟩ = some (.int .i64 (cnt : Int)) := by rw [Lib.cell_of_heap hsc]; rfl
    have f4 : wr.frozen? ⟨s, 4, none⟩ = false := Lib.frozen_of_heap hsc 4
    have ft : ∀ i, wr.frozen? ⟨tb, i, none⟩ = false := fun i => HSc.out.t.frozen i
    have fe : ∀ i, wr.frozen? ⟨eb, i, none⟩ = false := fun i => HSc.out.e.frozen i
    have fx : ∀ i, wr.frozen? ⟨xb, i, none⟩ = false := fun i => HSc.out.x.frozen i
    obtain ⟨n1, n2, n3, n4, n5, n6⟩ := (⟨HSc.out.ne1, HSc.out.ne2, HSc.out.ne3, HSc.out.ne4, HSc.out.ne5, HSc.out.ne6⟩ : s ≠ tb ∧ s ≠ eb ∧ s ≠ xb ∧ tb ≠ eb ∧ tb ≠ xb ∧ eb ≠ xb)
    have n1' := n1.symm
    have n2' := n2.symm
    have n3' := n3.symm
    have n4' := n4.symm
    have n5' := n5.symm
    have n6' := n6.symm
    have hcn : cnt + 1 < n := by have := HC.out; have := HN.out; omega
    have hn63 : n ≤ 140737488355328 := by have := HN.out; omega
    obtain ⟨ev, hev⟩ : ∃ x, entries1[cnt + 1]? = some x := ⟨_, List.getElem?_eq_getElem (by rw [HSc.out.el]; exact hcn)⟩
    obtain ⟨xv, hxv⟩ : ∃ x, next1[cnt + 1]? = some x := ⟨_, List.getElem?_eq_getElem (by rw [HSc.out.xl]; exact hcn)⟩
    have ce := HSc.out.e.cell _ _ hev
    have cx := HSc.out.x.cell _ _ hxv
    have ec : ((cnt : Int) + 1).toNat = cnt + 1 := by omega
    clear hsc hbw hev hxv
    go_wp2_with (
      go_at_call 49
      (with_reducible refine HH9.out.mono ?_)
      rintro e w1 ⟨H, rfl, hH, q, rfl⟩
      have hMb : M < 2 ^ 63 := by have := HM.out; omega
      have hand := and_i64 H M (by omega) hMb
      have hti : H &&& M ≤ M := Nat.and_le_right
      generalize H &&& M = ti at hand hti
      have htis : ti < ts := by have := HM.out; omega
      obtain ⟨head, hhd⟩ : ∃ x, table1[ti]? = some x := ⟨_, List.getElem?_eq_getElem (by rw [HSc.out.tl]; exact htis)⟩
      have ct := HSc.out.t.cell _ _ hhd
      have hhc : head ≤ cnt := HH.out.1 _ _ hhd
      have HNW := Aside0.mk ((HSc.out.drewN q).new ti (gk * 16) head)
      have HNH := Aside0.mk (HH.out.new (ti := ti) hhc)
      have HNE := Aside0.mk (HE.out.set (cnt + 1) (gk * 16) (by omega))
      have HME := Aside0.mk (HE.out.set head (gk * 16) (by omega))
      have HMV := Aside0.mk ((HSc.out.drewN q).move head (gk * 16))
      have HO' : Aside0 (Off w (wr.drewN q) (Four s tb eb xb)) := ⟨HO.out.trans (Off.drewN wr q (fun _ => False)) (fun _ _ h => h.elim)⟩
      clear hhd hMb
      by_cases hd0 : head = 0
      (subst hd0)
      rotate_left
      obtain ⟨ov, hov⟩ : ∃ x, entries1[head]? = some x := ⟨_, List.getElem?_eq_getElem (by rw [HSc.out.el]; omega)⟩
      have co := HSc.out.e.cell _ _ hov
      have hd1 : ((head : Int) != 0) = true := bne_iff_ne.2 (by omega)
      clear hov
      by_cases hlh : lh = H
      (subst hlh)
      rotate_left
      have hlh1 : ((lh : Int) == (H : Int)) = false := beq_eq_false_iff_ne.2 (by omega)
      rotate_left)
    · go_end0
      exact ⟨rfl, HO'.out.trans HNW.out.2 (fun _ _ h => h), cnt + 1, _, _, _, by have := HC.out; omega, HNW.out.1, HNH.out, HNE.out⟩
    · go_roundg (gk - 1)
      case measure => omega
      case rel => exact ⟨H, _, cnt + 1, _, _, _, rfl, rfl, by omega, by omega, ⟨by have := HC.out; omega⟩, ⟨HNW.out.1⟩, HNH, HNE, ⟨HO'.out.trans HNW.out.2 (fun _ _ h => h)⟩⟩
    · go_end0
      exact ⟨rfl, HO'.out.trans HMV.out.2 (fun _ _ h => h), cnt, _, _, _, by have := HC.out; omega, HMV.out.1, HH.out, HME.out⟩
    · go_roundg (gk - 1)
      case measure => omega
      case rel => exact ⟨lh, _, cnt, _, _, _, rfl, rfl, by omega, by omega, ⟨by have := HC.out; omega⟩, ⟨HMV.out.1⟩, HH, HME, ⟨HO'.out.trans HMV.out.2 (fun _ _ h => h)⟩⟩
    · go_end0
      exact ⟨rfl, HO'.out.trans HNW.out.2 (fun _ _ h => h), cnt + 1, _, _, _, by have := HC.out; omega, HNW.out.1, HNH.out, HNE.out⟩
    · go_roundg (gk - 1)
      case measure => omega
      case rel => exact ⟨H, _, cnt + 1, _, _, _, rfl, rfl, by omega, by omega, ⟨by have := HC.out; omega⟩, ⟨HNW.out.1⟩, HNH, HNE, ⟨HO'.out.trans HNW.out.2 (fun _ _ h => h)⟩⟩
end Go.Proofs.YtlboochpbplhlaaDoor.HandP
