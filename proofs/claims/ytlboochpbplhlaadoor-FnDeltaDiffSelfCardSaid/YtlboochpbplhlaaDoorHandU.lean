/- The index: init and findMatch, walked. findMatch, walked. -/
import Derived.Test.YtlboochpbplhlaaDoorHandQ
import Derived.Test.YtlboochpbplhlaaDoorHandR
import Derived.Test.YtlboochpbplhlaaDoorHandT
set_option linter.unusedVariables false
set_option linter.unusedSimpArgs false
namespace Go.Proofs.YtlboochpbplhlaaDoor.HandU
open Go.RowKit Go.Proofs.YtlboochpbplhlaaDoorW.PrintWords Go.Proofs.YtlboochpbplhlaaDoor.QAll PureD HandA HandB HandC HandD HandE HandK HandL HandN HandP HandQ HandR HandT PureC
open Go.Proofs.YtlboochpbplhlaaDoorW.PrintLast Go.Proofs.YtlboochpbplhlaaDoorW.PrintMore

/-- The index of a base of n bytes. -/
def Idx (w : World) (x0 n : Nat) : Prop := ∃ tv ev, ∃ m : Int, w.heap[x0]? = some (.cells #[tv, ev, .int .i64 m] 59 (0, 0)) ∧ (16 ≤ n → ∃ (tb ts eb es : Nat) (table entries : List Nat), tv = .slice (some ⟨tb, 0, none⟩) ts ts ∧ ev = .slice (some ⟨eb, 0, none⟩) es es ∧
  Nats w tb table ∧ Nats w eb entries ∧ table.length = ts ∧ entries.length = es ∧ m = ((ts - 1 : Nat) : Int) ∧ 1 ≤ ts ∧ ts ≤ 131072 ∧ es ≤ 8388609 ∧ (∀ i t : Nat, table[i]? = some t → t < es) ∧ Low entries 1000000)
theorem Idx.off {w w' : World} {x0 n : Nat} {S : Nat → Prop} (h : Idx w x0 n) (ho : Off w w' S) (hS : ∀ k, S k → k < w.heap.size → ∃ a t, w.heap[k]? = some (.cells a t (0, 0)) ∧ (t = 5 ∨ t = 52)) : Idx w' x0 n := by
  have key : ∀ k a t, w.heap[k]? = some (.cells a t (0, 0)) → (t = 59 ∨ t = 3) → ¬ S k := by
    intro k a t hk ht hs
    obtain ⟨a', t', hk', ht'⟩ := hS k hs (Lib.lt_of_heap hk)
    have := blk_type hk hk'
    rcases ht with rfl | rfl <;> rcases ht' with rfl | rfl <;> exact absurd this (by decide)
  obtain ⟨tv, ev, m, hx, hr⟩ := h
  refine ⟨tv, ev, m, (ho.blk x0 (Lib.lt_of_heap hx) (key _ _ _ hx (Or.inl rfl))).trans hx, fun hn => ?_⟩
  obtain ⟨tb, ts, eb, es, table, entries, h1, h2, h3, h4, h5⟩ := hr hn
  exact ⟨tb, ts, eb, es, table, entries, h1, h2, h3.off ho (key _ _ _ h3 (Or.inr rfl)), h4.off ho (key _ _ _ h4 (Or.inr rfl)), h5⟩

set_option maxHeartbeats 4000000 in
set_option maxRecDepth 100000 in
theorem count0 (s : Nat) (w : World) (c0 : w.cell? ⟨s, 0, none⟩ = some (.slice none 0 0)) : Calls Tryd.prog 47 #[.pointer (some ⟨s, 0, none⟩)] w fun e w' => e = .returned (.int .i64 0) ∧ w' = w := by
  go_enter Tryd.func47, Tryd.ntmps47
  go_wp2_with fail
  go_loopg [2, 3, 4, 5] 0 (fun g0 v2 v3 v4 v5 w' => v2 = .int .i64 0 ∧ v3 = .int .i64 0 ∧ w' = w)
  case atStart => exact ⟨rfl, rfl, rfl⟩
  case round =>
    obtain ⟨rfl, rfl, rfl⟩ := hrel
    go_wp2_with fail
    go_ret
    exact ⟨rfl, rfl⟩
set_option maxHeartbeats 4000000 in
set_option maxRecDepth 100000 in
theorem copy0 (x0 : Nat) (p : Value) (w : World) (c0 : w.cell? ⟨x0, 0, none⟩ = some (.slice none 0 0)) : Calls Tryd.prog 48 #[.pointer (some ⟨x0, 0, none⟩), p] w fun e w' => e = .returned (.tuple #[]) ∧ w' = w := by
  go_enter Tryd.func48, Tryd.ntmps48
  go_wp2_with fail
  go_loopg [4, 5, 6] 0 (fun g0 v4 v5 v6 w' => v5 = .int .i64 0 ∧ w' = w)
  case atStart => exact ⟨rfl, rfl⟩
  case round =>
    obtain ⟨rfl, rfl⟩ := hrel
    go_wp2_with fail
    go_end0
    exact ⟨rfl, rfl⟩

theorem made_one : madeCells (Value.int .i64 0).cells (1 * 1) = #[.int .i64 0] := by rw [made_nats]; rfl
theorem Off.alloc {w w1 : World} {S : Nat → Prop} (h : Off w w1 S) (o : Obj) : Off w (w1.alloc o) S := h.trans (Off.of_below (below_alloc (Below.refl _ _) o) (fun _ => False)) (fun _ _ h => h.elim)
theorem Off.setS {w w1 : World} {S : Nat → Prop} (h : Off w w1 S) (b i : Nat) (v : Value) (hb : S b) : Off w (w1.setCell ⟨b, i, none⟩ v) S := h.trans (Off.set w1 b i v) (fun k _ e => by rw [e]; exact hb)
set_option maxHeartbeats 8000000 in
set_option maxRecDepth 100000 in
theorem init_small (x0 : Nat) (A : Option Addr) (c L : Nat) (w : World) (hL : L < 16) (hx : w.heap[x0]? = some (.cells #[.slice none 0 0, .slice none 0 0, .int .i64 0] 59 (0, 0))) :
    Calls Tryd.prog 38 #[.pointer (some ⟨x0, 0, none⟩), .slice A L c] w fun e w' => e = .returned (.tuple #[]) ∧ Idx w' x0 L ∧ Off w w' (fun k => k = x0) := by
  have HS := Aside0.mk (HandQ.small A c L hL w)
  have c0 : w.cell? ⟨x0, 0, none⟩ = some (.slice none 0 0) := by rw [Lib.cell_of_heap hx]; rfl
  have c1 : w.cell? ⟨x0, 1, none⟩ = some (.slice none 0 0) := by rw [Lib.cell_of_heap hx]; rfl
  have c2 : w.cell? ⟨x0, 2, none⟩ = some (.int .i64 0) := by rw [Lib.cell_of_heap hx]; rfl
  have f0 := Lib.frozen_of_heap hx 0
  have f1 := Lib.frozen_of_heap hx 1
  have f2 := Lib.frozen_of_heap hx 2
  have hxl := Lib.lt_of_heap hx
  have hxne : x0 ≠ w.heap.size := by omega
  have hxne' := hxne.symm
  obtain ⟨i0, hi, hz0, hz1, hz2⟩ := info_parts info3
  have hmk2 : ∀ W : World, (Instr.makeSlice 57 (.int .i64 1) (.int .i64 1)).run Tryd.prog W = .ok (.slice (some ⟨W.heap.size, 0, none⟩) 1 1) (W.alloc (.cells #[.int .i64 0] 3)) := fun W => by
    have h := run_make (P := Tryd.prog) W 57 3 i0 (.int .i64 0) Tryd.underlying57 hi hz0 .i64 .i64 1 1 (by omega) (by omega) (by rw [hz2]; omega) (by omega)
    rw [show (1 : Int).toNat = 1 from rfl, hz1, made_one] at h
    exact h
  have HX := Aside0.mk hx
  have hx3 : ∀ v0 v2, ((w.setCell ⟨x0, 2, none⟩ v2).setCell ⟨x0, 0, none⟩ v0).heap[x0]? = some (.cells #[v0, .slice none 0 0, v2] 59 (0, 0)) := fun v0 v2 => Lib.heap_setCell_same (i := 0) (Lib.heap_setCell_same (i := 2) hx v2) v0
  have hx4 : ∀ v0 v1 v2, (((w.setCell ⟨x0, 2, none⟩ v2).setCell ⟨x0, 0, none⟩ v0).setCell ⟨x0, 1, none⟩ v1).heap[x0]? = some (.cells #[v0, v1, v2] 59 (0, 0)) := fun v0 v1 v2 => Lib.heap_setCell_same (i := 1) (hx3 v0 v2) v1
  have hz4 : ∀ v0 v1 v2, x0 < (((w.setCell ⟨x0, 2, none⟩ v2).setCell ⟨x0, 0, none⟩ v0).setCell ⟨x0, 1, none⟩ v1).heap.size := fun v0 v1 v2 => Lib.lt_of_heap (hx4 v0 v1 v2)
  have HX4 : Aside0 (∀ v0 v1 v2 o1 o2, (((((w.setCell ⟨x0, 2, none⟩ v2).setCell ⟨x0, 0, none⟩ v0).setCell ⟨x0, 1, none⟩ v1).alloc o1).alloc o2).heap[x0]? = some (.cells #[v0, v1, v2] 59 (0, 0))) := ⟨fun v0 v1 v2 o1 o2 => (Below.heap_alloc _ o2 x0 (by rw [sz]; have := hz4 v0 v1 v2; omega)).trans ((Below.heap_alloc _ o1 x0 (hz4 v0 v1 v2)).trans (hx4 v0 v1 v2))⟩
  have HSN : Aside0 (∀ v0 v2 o, (((w.setCell ⟨x0, 2, none⟩ v2).setCell ⟨x0, 0, none⟩ v0).alloc o).heap[w.heap.size]? = some o) := ⟨fun v0 v2 o => by
    have h := heap_alloc_new ((w.setCell ⟨x0, 2, none⟩ v2).setCell ⟨x0, 0, none⟩ v0) o
    rwa [show ((w.setCell ⟨x0, 2, none⟩ v2).setCell ⟨x0, 0, none⟩ v0).heap.size = w.heap.size by simp [World.setCell]] at h⟩
  clear hx3 hx4 hz4
  clear hi hz0 hz1 hz2 i0 hx
  go_enter Tryd.func38, Tryd.ntmps38
  go_wp2_with (first
    | (go_at_call 46
       (with_reducible refine HS.out.mono ?_)
       rintro e w1 ⟨rfl, rfl⟩)
    | (go_at_call 47
       refine (count0 w.heap.size _ (by rw [Lib.cell_of_heap (HSN.out _ _ _)]; rfl)).mono ?_
       rintro e w1 ⟨rfl, rfl⟩)
    | (go_at_call 48
       refine (copy0 x0 _ _ (by rw [Lib.cell_of_heap (HX4.out _ _ _ _ _)]; rfl)).mono ?_
       rintro e w1 ⟨rfl, rfl⟩))
  go_end0
  exact ⟨rfl, ⟨_, _, _, HX4.out _ _ _ _ _, fun h => by omega⟩, Off.alloc (Off.alloc (Off.setS (Off.setS (Off.setS (Off.refl w (fun k => k = x0)) x0 _ _ rfl) x0 _ _ rfl) x0 _ _ rfl) _) _⟩

theorem scan_off {w w' : World} {S : Nat → Prop} {s tb eb xb ts n m cnt : Nat} {table entries next : List Nat} (h : Scan w s tb eb xb ts n m cnt table entries next) (ho : Off w w' S) (h1 : ¬ S s) (h2 : ¬ S tb) (h3 : ¬ S eb) (h4 : ¬ S xb) : Scan w' s tb eb xb ts n m cnt table entries next :=
  ⟨h.sc.off ho h1, h.t.off ho h2, h.e.off ho h3, h.x.off ho h4, h.ne1, h.ne2, h.ne3, h.ne4, h.ne5, h.ne6, h.tl, h.el, h.xl⟩
theorem nats_rep (w : World) (c : Nat) : Nats (w.alloc (.cells (madeCells (Value.int .i64 0).cells (c * 1)) 3)) w.heap.size (List.replicate c 0) := Nats.made w c
theorem szs (w : World) (b i : Nat) (v : Value) : (w.setCell ⟨b, i, none⟩ v).heap.size = w.heap.size := by simp [World.setCell]

set_option maxHeartbeats 8000000 in
set_option maxRecDepth 100000 in
theorem init_big (B x0 : Nat) (A : Option Addr) (c : Nat) (l : List Int) (w : World) (hBw : B ≤ w.heap.size) (hT : ∀ W, Below B w W → TabT W) (h8 : Tab8 w) (hS : Sd w B A c l) (h16 : 16 ≤ l.length) (hl : l.length ≤ 1000000)
    (hx : w.heap[x0]? = some (.cells #[.slice none 0 0, .slice none 0 0, .int .i64 0] 59 (0, 0))) :
    Calls Tryd.prog 38 #[.pointer (some ⟨x0, 0, none⟩), .slice A l.length c] w fun e w' => e = .returned (.tuple #[]) ∧ Idx w' x0 l.length ∧ Off w w' (fun k => k = x0) := by
  have HS := Aside0.mk (HandQ.big B A c l w hBw hT h8 hS h16 hl)
  have hxl := Lib.lt_of_heap hx
  have HX := Aside0.mk hx
  have h0 : ∀ W, Off w W (fun _ => False) → W.cell? ⟨x0, 0, none⟩ = some (.slice none 0 0) ∧ W.cell? ⟨x0, 1, none⟩ = some (.slice none 0 0) ∧ W.cell? ⟨x0, 2, none⟩ = some (.int .i64 0) ∧ W.heap[x0]? = some (.cells #[.slice none 0 0, .slice none 0 0, .int .i64 0] 59 (0, 0)) := fun W ho => by
    have h := (ho.blk x0 hxl id).trans hx
    exact ⟨by rw [Lib.cell_of_heap h]; rfl, by rw [Lib.cell_of_heap h]; rfl, by rw [Lib.cell_of_heap h]; rfl, h⟩
  have H0 := Aside0.mk h0
  have hL63 : l.length ≤ 1000000 := hl
  obtain ⟨L, hL⟩ : ∃ L, L = l.length := ⟨_, rfl⟩
  rw [← hL] at HS hL63 ⊢
  obtain ⟨i0, hi, hz0, hz1, hz2⟩ := info_parts info3
  have hmk : ∀ (cn : Nat) (W : World), cn ≤ 8388608 → (Instr.makeSlice 57 (.int .i64 ((cn : Int) + 1)) (.int .i64 ((cn : Int) + 1))).run Tryd.prog W = .ok (.slice (some ⟨W.heap.size, 0, none⟩) (cn + 1) (cn + 1)) (W.alloc (.cells (madeCells (Value.int .i64 0).cells ((cn + 1) * 1)) 3)) := fun cn W hcn => by
    have h := run_make (P := Tryd.prog) W 57 3 i0 (.int .i64 0) Tryd.underlying57 hi hz0 .i64 .i64 ((cn : Int) + 1) ((cn : Int) + 1) (by omega) (by omega) (by rw [hz2]; omega) (by omega)
    rw [show ((cn : Int) + 1).toNat = cn + 1 by omega, hz1] at h
    exact h
  have HMK := Aside0.mk hmk
  clear hi hz0 hz1 hz2 i0 hx hT h8 hS h0 hmk hl hL h16
  go_enter Tryd.func38, Tryd.ntmps38
  go_wp2_with (first
    | (go_at_call 46
       (with_reducible refine HS.out.mono ?_)
       rintro e w1 ⟨s, tb, eb, xb, ts, n, cnt, table, entries, next, rfl, ht1, ht2, hn, hcn, hSc, hH, hE, ⟨hf1, hf2, hf3, hf4⟩, hb⟩
       have HO1 := Aside0.mk (Off.of_below hb (fun _ => False))
       obtain ⟨c0, c1, c2, hx1⟩ := H0.out w1 HO1.out
       have hsz1 := HO1.out.zero.size
       have f0 := Lib.frozen_of_heap hx1 0
       have f1 := Lib.frozen_of_heap hx1 1
       have f2 := Lib.frozen_of_heap hx1 2
       have HX1 := Aside0.mk hx1
       have hs := hSc.sc
       have d0 : w1.cell? ⟨s, 0, none⟩ = some (.slice (some ⟨tb, 0, none⟩) ts ts) := by rw [Lib.cell_of_heap hs]; rfl
       have d3 : w1.cell? ⟨s, 3, none⟩ = some (.int .i64 ((ts - 1 : Nat) : Int)) := by rw [Lib.cell_of_heap hs]; rfl
       have hsx : s ≠ x0 := by omega
       have hsx' := hsx.symm
       have HSc := Aside0.mk hSc
       have HH := Aside0.mk hH
       have HE := Aside0.mk hE
       have HSW : Aside0 (∀ v1 v2, Scan ((w1.setCell ⟨x0, 2, none⟩ v1).setCell ⟨x0, 0, none⟩ v2) s tb eb xb ts n (ts - 1) cnt table entries next) := ⟨fun v1 v2 => scan_off hSc (Off.setS (Off.setS (Off.refl w1 (fun k => k = x0)) x0 2 v1 rfl) x0 0 v2 rfl) (by omega) (by omega) (by omega) (by omega)⟩
       have HXW : Aside0 (∀ v1 v2, ((w1.setCell ⟨x0, 2, none⟩ v1).setCell ⟨x0, 0, none⟩ v2).heap[x0]? = some (.cells #[v2, .slice none 0 0, v1] 59 (0, 0))) := ⟨fun v1 v2 => Lib.heap_setCell_same (i := 0) (Lib.heap_setCell_same (i := 2) hx1 v1) v2⟩
       generalize hMe : ((ts - 1 : Nat) : Int) = M at d3
       have HME := Aside0.mk hMe
       clear hb hx1 hs hSc hH hE hMe)
    | (go_at_call 47
       refine (HandT.count s tb eb xb ts n (ts - 1) cnt table entries next _ (HSW.out _ _) HH.out hcn ht2 hn).mono ?_
       rintro e w4 ⟨cn, next4, rfl, hcn4, hSc4, hH4, hF4, hO4⟩
       have hx4 := (hO4.blk x0 (by rw [szs, szs]; omega) (by unfold Four; omega)).trans (HXW.out _ _)
       have e1 : w4.cell? ⟨x0, 1, none⟩ = some (.slice none 0 0) := by rw [Lib.cell_of_heap hx4]; rfl
       have g1 := Lib.frozen_of_heap hx4 1
       obtain ⟨M4, hM4⟩ : ∃ M, M = madeCells (Value.int .i64 0).cells ((cn + 1) * 1) := ⟨_, rfl⟩
       have hmk4 := fun W => HMK.out cn W hcn4
       rw [← hM4] at hmk4
       have HM4 := Aside0.mk hM4
       clear hM4
       have hsz4 := hO4.zero.size
       rw [szs, szs] at hsz4
       have HX4 := Aside0.mk hx4
       have HSc4 := Aside0.mk hSc4
       have HH4 := Aside0.mk hH4
       have HF4 := Aside0.mk hF4
       have HO4 := Aside0.mk hO4
       have hx4lt : x0 < w4.heap.size := by omega
       have hx4l : x0 ≠ w4.heap.size := by omega
       have hx4l' := hx4l.symm
       have HO5 := Aside0.mk (Off.alloc (Off.setS (Off.refl w4 (fun k => k = x0)) x0 1 (.slice (some ⟨w4.heap.size, 0, none⟩) (cn + 1) (cn + 1)) rfl) (.cells M4 3))
       have HX5 : Aside0 (((w4.setCell ⟨x0, 1, none⟩ (.slice (some ⟨w4.heap.size, 0, none⟩) (cn + 1) (cn + 1))).alloc (.cells M4 3)).heap[x0]? = some (.cells #[.slice (some ⟨tb, 0, none⟩) ts ts, .slice (some ⟨w4.heap.size, 0, none⟩) (cn + 1) (cn + 1), .int .i64 ((ts - 1 : Nat) : Int)] 59 (0, 0))) := ⟨by
         rw [HME.out]
         exact (Below.heap_alloc _ _ x0 (by rw [szs]; exact hx4lt)).trans (Lib.heap_setCell_same (i := 1) hx4 _)⟩
       have HN5 : Aside0 (Nats ((w4.setCell ⟨x0, 1, none⟩ (.slice (some ⟨w4.heap.size, 0, none⟩) (cn + 1) (cn + 1))).alloc (.cells M4 3)) w4.heap.size (List.replicate (cn + 1) 0)) := ⟨by
         have h := nats_rep (w4.setCell ⟨x0, 1, none⟩ (.slice (some ⟨w4.heap.size, 0, none⟩) (cn + 1) (cn + 1))) (cn + 1)
         rw [szs, ← HM4.out] at h
         exact h⟩
       have hlts := Lib.lt_of_heap HSc4.out.sc
       have hltt := HSc4.out.t.lt
       have hlte := HSc4.out.e.lt
       have hltx := HSc4.out.x.lt
       have HC48 := Aside0.mk (HandT.copy x0 w4.heap.size s tb eb xb ts n (ts - 1) (ts - 1) cnt cn table entries next4 (List.replicate (cn + 1) 0) _ (scan_off HSc4.out HO5.out (by omega) (by omega) (by omega) (by omega)) HH4.out HE.out hcn ht2 hn hcn4 HF4.out HX5.out HN5.out (by simp) (Low.rep _ _) (by omega))
       clear hx4 hSc4 hH4 hF4 hO4)
    | (go_at_call 48
       (with_reducible refine HC48.out.mono ?_)
       rintro e w6 ⟨rfl, table6, ents6, k1, k2, k3, k4, k5, k6, hO6⟩))
  go_end0
  refine ⟨rfl, ⟨_, _, _, (hO6.blk x0 (Lib.lt_of_heap HX5.out) (by omega)).trans HX5.out, fun _ => ⟨tb, ts, w4.heap.size, cn + 1, table6, ents6, rfl, rfl, k1, k4, k2, k5, rfl, ht1, ht2, by omega, fun i t hi => by have := k3 i t hi; omega, k6⟩⟩, ?_⟩
  have o3 : Off w _ (fun k => k = x0) := (HO1.out.mono (S2 := fun k => k = x0) (fun _ _ h => h.elim)).trans (Off.setS (Off.setS (Off.refl w1 (fun k => k = x0)) x0 2 (.int .i64 M) rfl) x0 0 (.slice (some ⟨tb, 0, none⟩) ts ts) rfl) (fun _ _ h => h)
  have o4 := o3.trans HO4.out (fun k hk h => by unfold Four at h; omega)
  have o5 := o4.trans HO5.out (fun k hk h => h)
  exact o5.trans hO6 (fun k hk h => by omega)
end Go.Proofs.YtlboochpbplhlaaDoor.HandU

set_option linter.unusedVariables false
set_option linter.unusedSimpArgs false
namespace Go.Proofs.YtlboochpbplhlaaDoor.HandV
open Go.RowKit Go.Proofs.YtlboochpbplhlaaDoorW.PrintWords Go.Proofs.YtlboochpbplhlaaDoor.QAll PureD HandA HandB HandC HandD HandE HandK HandL HandN HandP HandQ HandR HandT HandU PureC
open Go.Proofs.YtlboochpbplhlaaDoorW.PrintLast Go.Proofs.YtlboochpbplhlaaDoorW.PrintMore

/-- What a match says. -/
def Match (src tgt : List Int) (p : Nat) (o l : Int) : Prop :=
  l = -1 ∨ ∃ M : Nat, l = (M : Int) ∧ p + M ≤ tgt.length ∧ (16 ≤ M → ∃ O : Nat, o = (O : Int) ∧ O + M ≤ src.length ∧ (src.drop O).take M = (tgt.drop p).take M)

set_option maxHeartbeats 8000000 in
set_option maxRecDepth 100000 in
theorem find (B x0 p : Nat) (As At : Option Addr) (cs ct : Nat) (src tgt : List Int) (w : World) (hX : Idx w x0 src.length) (hT : TabT w) (hS : Sd w B As cs src) (hG : Sd w B At ct tgt) (hs : src.length ≤ 1000000) (ht : tgt.length ≤ 2000000) (hp : p < tgt.length) :
    Calls Tryd.prog 39 #[.pointer (some ⟨x0, 0, none⟩), .slice As src.length cs, .slice At tgt.length ct, .int .i64 (p : Int)] w fun e w' => ∃ o l : Int, e = .returned (.tuple #[.int .i64 o, .int .i64 l]) ∧ Match src tgt p o l ∧ ∃ q, w' = w.drewN q := by
  obtain ⟨N, hN⟩ : ∃ N, N = src.length := ⟨_, rfl⟩
  obtain ⟨L, hL⟩ : ∃ L, L = tgt.length := ⟨_, rfl⟩
  have HN := Aside0.mk hN
  have HL := Aside0.mk hL
  have HS := Aside0.mk hS
  have HG := Aside0.mk hG
  have HT := Aside0.mk hT
  have HM : Aside0 (∀ q q1 : Nat, q ≤ 1000000 → Calls Tryd.prog 50 #[.slice As src.length cs, .slice At tgt.length ct, .int .i64 (p : Int), .int .i64 (q : Int)] (w.drewN q1) fun e w' => ∃ M : Nat, e = .returned (.int .i64 (M : Int)) ∧ p + M ≤ tgt.length ∧ (M = 0 ∨ q + M ≤ src.length) ∧ (src.drop q).take M = (tgt.drop p).take M ∧ ∃ d, w' = (w.drewN q1).drewN d) :=
    ⟨fun q q1 hq => HandR.matched B p q As At cs ct src tgt (w.drewN q1) hS hG (by omega) (by omega) (by omega) (by omega)⟩
  have HH := Aside0.mk (fun (h : p + 16 ≤ tgt.length) => HandN.hash p B At ct tgt w hG hT h)
  by_cases h1 : tgt.length < p + 16
  · have HR : Aside0 (Match src tgt p 0 ((L : Int) - p)) := ⟨Or.inr ⟨tgt.length - p, by omega, by omega, fun h => by omega⟩⟩
    rw [← hN] at hs ⊢
    rw [← hL] at ht hp h1 ⊢
    clear hX hT hS hG hN hL HM HH
    go_enter Tryd.func39, Tryd.ntmps39
    go_wp2_with fail
    go_ret2
    exact ⟨_, _, rfl, HR.out, 0, rfl⟩
  · by_cases h2 : src.length < 16
    · have HR : Aside0 (Match src tgt p 0 (-1)) := ⟨Or.inl rfl⟩
      rw [← hN] at hs h2 ⊢
      rw [← hL] at ht hp h1 ⊢
      clear hX hT hS hG hN hL HM HH
      go_enter Tryd.func39, Tryd.ntmps39
      go_wp2_with fail
      go_ret2
      exact ⟨_, _, rfl, HR.out, 0, rfl⟩
    · obtain ⟨tv, ev, m, hx, hr⟩ := hX
      obtain ⟨tb, ts, eb, es, table, entries, rfl, rfl, ht3, he3, htl, hel, rfl, hts1, hts2, hes, htlow, helow⟩ := hr (by omega)
      have HHH := Aside0.mk (HH.out (by omega))
      have c0 : w.cell? ⟨x0, 0, none⟩ = some (.slice (some ⟨tb, 0, none⟩) ts ts) := by rw [Lib.cell_of_heap hx]; rfl
      have c1 : w.cell? ⟨x0, 1, none⟩ = some (.slice (some ⟨eb, 0, none⟩) es es) := by rw [Lib.cell_of_heap hx]; rfl
      have c2 : w.cell? ⟨x0, 2, none⟩ = some (.int .i64 ((ts - 1 : Nat) : Int)) := by rw [Lib.cell_of_heap hx]; rfl
      obtain ⟨mm, hmm⟩ : ∃ mm, mm = ts - 1 := ⟨_, rfl⟩
      rw [← hmm] at c2
      have hmm1 : mm + 1 = ts := by omega
      have HTR := Aside0.mk (⟨ht3, he3, htl, hel, htlow, helow⟩ : _ ∧ _ ∧ _ ∧ _ ∧ _ ∧ _)
      rw [← hN] at hs h2 HM ⊢
      rw [← hL] at ht hp h1 HHH HM ⊢
      clear hx hT hS hG hN hL HH ht3 he3 htl hel htlow helow hmm hr
      go_enter Tryd.func39, Tryd.ntmps39
      go_wp2_with (first
        | (go_at_call 49
           (with_reducible refine HHH.out.mono ?_)
           rintro e w1 ⟨H, rfl, hH, q, rfl⟩
           have hand := and_i64 H mm (by omega) (by omega)
           have hti : H &&& mm ≤ mm := Nat.and_le_right
           generalize H &&& mm = ti at hand hti
           obtain ⟨t, htt⟩ : ∃ x, table[ti]? = some x := ⟨_, List.getElem?_eq_getElem (by rw [HTR.out.2.2.1]; omega)⟩
           have ct0 := HTR.out.1.cell _ _ htt
           have htes := HTR.out.2.2.2.2.1 _ _ htt
           obtain ⟨ee, hee⟩ : ∃ x, entries[t]? = some x := ⟨_, List.getElem?_eq_getElem (by rw [HTR.out.2.2.2.1]; omega)⟩
           have ce0 := HTR.out.2.1.cell _ _ hee
           have hel0 := HTR.out.2.2.2.2.2 _ _ hee
           clear htt hee
           by_cases ht0 : t = 0
           (subst ht0)
           rotate_left
           have hb0 : ((t : Int) == 0) = false := beq_eq_false_iff_ne.2 (by omega)
           rotate_left)
        | (go_at_call 50
           (with_reducible refine (HM.out ee q hel0).mono ?_)
           rintro e w2 ⟨M, rfl, m1, m2, m3, d, rfl⟩
           have HMM := Aside0.mk (⟨m1, m2, m3⟩ : _ ∧ _ ∧ _)
           clear m1 m2 m3))
      · go_ret2
        exact ⟨0, 0, rfl, Or.inr ⟨0, rfl, by have := HL.out; omega, fun h => by omega⟩, q, rfl⟩
      · go_ret2
        exact ⟨ee, M, rfl, Or.inr ⟨M, rfl, by have := HL.out; have := HMM.out.1; omega, fun h => ⟨ee, rfl, by have := HN.out; rcases HMM.out.2.1 with h | h <;> omega, HMM.out.2.2⟩⟩, q + d, rfl⟩
end Go.Proofs.YtlboochpbplhlaaDoor.HandV
