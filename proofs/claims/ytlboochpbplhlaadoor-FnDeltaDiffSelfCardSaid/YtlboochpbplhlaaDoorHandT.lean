/- Chains of places, how long they are and what cutting them does. Plain Lean. countEntries and copyEntries, walked. -/
import Derived.WalkKit
import Derived.Test.YtlboochpbplhlaaDoorHandP
set_option linter.unusedVariables false
set_option linter.unusedSimpArgs false
namespace Go.Proofs.YtlboochpbplhlaaDoor.PureC

/-- A chain of k places from h on. -/
inductive Ch (next : List Nat) : Nat → Nat → Prop where
  | nil : Ch next 0 0
  | cons {h x k : Nat} (h0 : h ≠ 0) (hx : next[h]? = some x) (c : Ch next x k) : Ch next h (k + 1)
/-- A way of s steps from t to h. -/
inductive Path (next : List Nat) (t : Nat) : Nat → Nat → Prop where
  | here : Path next t t 0
  | step {h x s : Nat} (p : Path next t h s) (h0 : h ≠ 0) (hx : next[h]? = some x) : Path next t x (s + 1)
theorem Path.chain {next : List Nat} {t h s : Nat} (p : Path next t h s) : ∀ {k : Nat}, Ch next h k → Ch next t (s + k) := by
  induction p with
  | here => intro k c; rw [Nat.zero_add]; exact c
  | step p h0 hx ih =>
    intro k c
    have := ih (.cons h0 hx c)
    rwa [Nat.add_assoc, Nat.add_comm 1 k]
theorem Path.close {next : List Nat} {t s : Nat} (p : Path next t 0 s) : Ch next t s := p.chain .nil
theorem Ch.cut {next : List Nat} {t k h : Nat} (hl : h < next.length) (c : Ch next t k) : ∃ k', k' ≤ k ∧ Ch (next.set h 0) t k' := by
  induction c with
  | nil => exact ⟨0, Nat.le_refl _, .nil⟩
  | @cons g x k h0 hx c ih =>
    by_cases hg : g = h
    · subst hg
      exact ⟨1, by omega, .cons h0 (by rw [List.getElem?_set_self hl]) .nil⟩
    · obtain ⟨k', h1, h2⟩ := ih
      exact ⟨k' + 1, by omega, .cons h0 (by rw [List.getElem?_set_ne (fun e => hg e.symm)]; exact hx) h2⟩
theorem Path.pass {next : List Nat} {t g s h : Nat} (hl : h < next.length) (p : Path next t g s) : ∀ {k : Nat}, Ch (next.set h 0) g k → ∃ k', k' ≤ s + k ∧ Ch (next.set h 0) t k' := by
  induction p with
  | here => intro k c; exact ⟨k, by omega, c⟩
  | @step g x s p h0 hx ih =>
    intro k c
    by_cases hg : g = h
    · subst hg
      obtain ⟨k', h1, h2⟩ := ih (.cons h0 (by rw [List.getElem?_set_self hl]) .nil)
      exact ⟨k', by omega, h2⟩
    · obtain ⟨k', h1, h2⟩ := ih (.cons h0 (by rw [List.getElem?_set_ne (fun e => hg e.symm)]; exact hx) c)
      exact ⟨k', by omega, h2⟩
theorem Path.cut {next : List Nat} {t h s : Nat} (hl : h < next.length) (h0 : h ≠ 0) (p : Path next t h s) : ∃ k, k ≤ s + 1 ∧ Ch (next.set h 0) t k :=
  p.pass hl (.cons h0 (by rw [List.getElem?_set_self hl]) .nil)
/-- The chains from all of l are together no longer than c. -/
def Fits (next : List Nat) : List Nat → Nat → Prop
  | [], _ => True
  | t :: ts, c => ∃ k, k ≤ c ∧ Ch next t k ∧ Fits next ts (c - k)
theorem Fits.mono {next : List Nat} : ∀ {l : List Nat} {c c' : Nat}, Fits next l c → c ≤ c' → Fits next l c'
  | [], _, _, _, _ => trivial
  | t :: ts, c, c', ⟨k, h1, h2, h3⟩, h => ⟨k, by omega, h2, Fits.mono h3 (by omega)⟩
theorem Fits.snoc {next : List Nat} {t k : Nat} (ht : Ch next t k) : ∀ {l : List Nat} {c : Nat}, Fits next l c → Fits next (l ++ [t]) (c + k)
  | [], c, _ => ⟨k, by omega, ht, trivial⟩
  | u :: us, c, ⟨j, h1, h2, h3⟩ => ⟨j, by omega, h2, by have := Fits.snoc ht h3; rwa [show c - j + k = c + k - j by omega] at this⟩
theorem Fits.cut {next : List Nat} {h : Nat} (hl : h < next.length) : ∀ {l : List Nat} {c : Nat}, Fits next l c → Fits (next.set h 0) l c
  | [], _, _ => trivial
  | t :: ts, c, ⟨k, h1, h2, h3⟩ => by
    obtain ⟨k', h4, h5⟩ := h2.cut hl
    exact ⟨k', by omega, h5, (Fits.cut hl h3).mono (by omega)⟩
theorem Ch.zero {next : List Nat} {k : Nat} (h : Ch next 0 k) : k = 0 := by
  cases h with
  | nil => rfl
  | cons h0 _ _ => exact absurd rfl h0
theorem Ch.more {next : List Nat} {h k : Nat} (h0 : h ≠ 0) (c : Ch next h k) : ∃ x j, k = j + 1 ∧ next[h]? = some x ∧ Ch next x j := by
  cases c with
  | nil => exact absurd rfl h0
  | cons _ hx c => exact ⟨_, _, rfl, hx, c⟩
end Go.Proofs.YtlboochpbplhlaaDoor.PureC

set_option linter.unusedVariables false
set_option linter.unusedSimpArgs false
namespace Go.Proofs.YtlboochpbplhlaaDoor.HandT
open Go.RowKit Go.Proofs.YtlboochpbplhlaaDoorW.PrintWords Go.Proofs.YtlboochpbplhlaaDoor.QAll PureD HandA HandB HandC HandD HandK HandN HandP PureC

theorem held_cut {table next : List Nat} {cnt h : Nat} (hh : Held table next cnt) : Held table (next.set h 0) cnt := by
  refine ⟨hh.1, fun i x hi => ?_⟩
  rw [List.getElem?_set] at hi
  split at hi
  · split at hi
    · cases hi; omega
    · cases hi
  · exact hh.2 i x hi
theorem scan_cut {w : World} {s tb eb xb ts n m cnt : Nat} {table entries next : List Nat} (h : Scan w s tb eb xb ts n m cnt table entries next) (i : Nat) :
    Scan (w.setCell ⟨xb, i, none⟩ (.int .i64 0)) s tb eb xb ts n m cnt table entries (next.set i 0) ∧ Off w (w.setCell ⟨xb, i, none⟩ (.int .i64 0)) (Four s tb eb xb) := by
  obtain ⟨hs, ht, he, hx, n1, n2, n3, n4, n5, n6, l1, l2, l3⟩ := h
  exact ⟨⟨(Below.heap_setCell _ _ _ _ n3).trans hs, ht.other xb _ _ n5, he.other xb _ _ n6, hx.set i 0, n1, n2, n3, n4, n5, n6, l1, l2, by rw [List.length_set]; exact l3⟩, (Off.set w xb _ _).mono (fun _ _ h => Or.inr (Or.inr (Or.inr h)))⟩
theorem take_snoc (l : List Nat) (i t : Nat) (h : l[i]? = some t) : l.take (i + 1) = l.take i ++ [t] := by
  rw [List.take_add_one, h]; rfl

set_option maxHeartbeats 8000000 in
set_option maxRecDepth 100000 in
theorem count (s tb eb xb ts n m cnt : Nat) (table entries next : List Nat) (w : World) (h : Scan w s tb eb xb ts n m cnt table entries next) (hH : Held table next cnt) (hcn : cnt < n) (hts : ts ≤ 131072) (hn : n ≤ 62501) :
    Calls Tryd.prog 47 #[.pointer (some ⟨s, 0, none⟩)] w fun e w' => ∃ (c : Nat) (next' : List Nat), e = .returned (.int .i64 (c : Int)) ∧ c ≤ 8388608 ∧ Scan w' s tb eb xb ts n m cnt table entries next' ∧ Held table next' cnt ∧ Fits next' table c ∧ Off w w' (Four s tb eb xb) := by
  have h0 := Aside0.mk h
  have h1 := Aside0.mk hH
  clear h hH
  go_enter Tryd.func47, Tryd.ntmps47
  go_wp2_with fail
  go_loopg [2, 3, 4, 5] ts (fun g0 v2 v3 v4 v5 w' => ∃ (i c : Nat) (next1 : List Nat), v2 = .int .i64 (c : Int) ∧ v3 = .int .i64 (i : Int) ∧ i + g0 = ts ∧ c ≤ 64 * i ∧ Aside0 (Scan w' s tb eb xb ts n m cnt table entries next1) ∧ Aside0 (Held table next1 cnt) ∧ Aside0 (Fits next1 (table.take i) c) ∧ Aside0 (Off w w' (Four s tb eb xb)))
  case atStart => exact ⟨0, 0, next, rfl, rfl, by omega, by omega, h0, h1, ⟨trivial⟩, ⟨Off.refl _ _⟩⟩
  case round =>
    obtain ⟨i, c, next1, rfl, rfl, hig, hc64, HSc, HH, HF, HO⟩ := hrel
    have hsc := HSc.out.sc
    have c0 : wr.cell? ⟨s, 0, none⟩ = some (.slice (some ⟨tb, 0, none⟩) ts ts) := by rw [Lib.cell_of_heap hsc]; rfl
    have c2 : wr.cell? ⟨s, 2, none⟩ = some (.slice (some ⟨xb, 0, none⟩) n n) := by rw [Lib.cell_of_heap hsc]; rfl
    clear hsc
    by_cases hi : i < ts
    · obtain ⟨t, hti⟩ : ∃ x, table[i]? = some x := ⟨_, List.getElem?_eq_getElem (by rw [HSc.out.tl]; exact hi)⟩
      have ct := HSc.out.t.cell _ _ hti
      have htc := HH.out.1 _ _ hti
      have HTS := Aside0.mk (take_snoc table i t hti)
      clear hti
      by_cases ht0 : t = 0
      · subst ht0
        go_wp2_with fail
        go_roundg (gk - 1)
        case measure => omega
        case rel => exact ⟨i + 1, c, next1, rfl, rfl, by omega, by omega, HSc, HH, ⟨by rw [HTS.out]; exact HF.out.snoc .nil⟩, HO⟩
      · have hb0 : ((t : Int) == 0) = false := beq_eq_false_iff_ne.2 (by omega)
        go_wp2_with fail
        go_loopg [4, 5] 64 (fun g1 v4 v5 w' => ∃ (h z : Nat), v4 = .int .i64 (h : Int) ∧ v5 = .int .i64 (z : Int) ∧ z + g1 = 64 ∧ z < 64 ∧ h ≠ 0 ∧ h ≤ cnt ∧ w' = wr ∧ Aside0 (Path next1 t h z))
        case atStart => exact ⟨t, 0, rfl, rfl, rfl, by omega, ht0, htc, rfl, ⟨.here⟩⟩
        case round =>
          obtain ⟨h, z, rfl, rfl, hz, hz64, hh0, hhc, rfl, HP⟩ := hrel
          obtain ⟨x, hx⟩ : ∃ x, next1[h]? = some x := ⟨_, List.getElem?_eq_getElem (by rw [HSc.out.xl]; omega)⟩
          have cx := HSc.out.x.cell _ _ hx
          have fx := HSc.out.x.frozen h
          have hxc := (HH.out.2 _ _ hx).1
          by_cases hz1 : z + 1 = 64
          · have HCU := Aside0.mk (scan_cut HSc.out h)
            have hz1' : ((z : Int) + 1 == 64) = true := by rw [beq_iff_eq]; omega
            have HFF : Aside0 (Fits (next1.set h 0) (table.take (i + 1)) (c + 64)) := ⟨by
              obtain ⟨k, hk1, hk2⟩ := HP.out.cut (by rw [HSc.out.xl]; omega) hh0
              rw [HTS.out]
              exact ((HF.out.cut (h := h) (by rw [HSc.out.xl]; omega)).snoc hk2).mono (by omega)⟩
            have hcz : (c : Int) + ((z : Int) + 1) = ((c + 64 : Nat) : Int) := by omega
            clear hx
            go_wp2_with fail
            go_roundg (ts - (i + 1))
            case measure => omega
            case rel => exact ⟨i + 1, c + 64, _, by first | rfl | (congr 1; omega), rfl, by omega, by omega, ⟨HCU.out.1⟩, ⟨held_cut HH.out⟩, HFF, ⟨HO.out.trans HCU.out.2 (fun _ _ h => h)⟩⟩
          · have hz1' : ((z : Int) + 1 == 64) = false := beq_eq_false_iff_ne.2 (by omega)
            have HPN := Aside0.mk (HP.out.step hh0 hx)
            clear hx
            by_cases hx0 : x = 0
            · subst hx0
              have HFF : Aside0 (Fits next1 (table.take (i + 1)) (c + (z + 1))) := ⟨by rw [HTS.out]; exact HF.out.snoc HPN.out.close⟩
              go_wp2_with fail
              go_roundg (ts - (i + 1))
              case measure => omega
              case rel => exact ⟨i + 1, c + (z + 1), next1, by first | rfl | (congr 1; omega), rfl, by omega, by omega, HSc, HH, HFF, HO⟩
            · have hb1 : ((x : Int) == 0) = false := beq_eq_false_iff_ne.2 (by omega)
              go_wp2_with fail
              go_roundg (64 - (z + 1))
              case measure => omega
              case rel => exact ⟨x, z + 1, rfl, rfl, by omega, by omega, hx0, hxc, rfl, HPN⟩
    · obtain rfl : i = ts := by omega
      go_wp2_with fail
      go_ret
      refine ⟨c, next1, rfl, by omega, HSc.out, HH.out, ?_, HO.out⟩
      have := HF.out
      rwa [List.take_of_length_le (by rw [HSc.out.tl]; omega)] at this

set_option maxHeartbeats 8000000 in
set_option maxRecDepth 100000 in
theorem copy (x0 nb s tb eb xb ts n m mm cnt c : Nat) (table entries next ents : List Nat) (w : World) (h : Scan w s tb eb xb ts n m cnt table entries next) (hH : Held table next cnt) (hE : Low entries 1000000) (hcn : cnt < n) (hts : ts ≤ 131072) (hn : n ≤ 62501) (hc : c ≤ 8388608)
    (hF : Fits next table c) (hx : w.heap[x0]? = some (.cells #[.slice (some ⟨tb, 0, none⟩) ts ts, .slice (some ⟨nb, 0, none⟩) (c + 1) (c + 1), .int .i64 (mm : Int)] 59 (0, 0))) (hnb : Nats w nb ents) (hnl : ents.length = c + 1) (hEn : Low ents 1000000)
    (hd : nb ≠ x0 ∧ nb ≠ s ∧ nb ≠ tb ∧ nb ≠ eb ∧ nb ≠ xb ∧ x0 ≠ s ∧ x0 ≠ tb ∧ x0 ≠ eb ∧ x0 ≠ xb) :
    Calls Tryd.prog 48 #[.pointer (some ⟨x0, 0, none⟩), .pointer (some ⟨s, 0, none⟩)] w fun e w' => e = .returned (.tuple #[]) ∧ ∃ table' ents', Nats w' tb table' ∧ table'.length = ts ∧ Low table' c ∧ Nats w' nb ents' ∧ ents'.length = c + 1 ∧ Low ents' 1000000 ∧ Off w w' (fun k => k = tb ∨ k = nb) := by
  have h0 := Aside0.mk h
  have hsc := h.sc
  have d1 : w.cell? ⟨s, 1, none⟩ = some (.slice (some ⟨eb, 0, none⟩) n n) := by rw [Lib.cell_of_heap hsc]; rfl
  have d2 : w.cell? ⟨s, 2, none⟩ = some (.slice (some ⟨xb, 0, none⟩) n n) := by rw [Lib.cell_of_heap hsc]; rfl
  have e0 : w.cell? ⟨x0, 0, none⟩ = some (.slice (some ⟨tb, 0, none⟩) ts ts) := by rw [Lib.cell_of_heap hx]; rfl
  have e1 : w.cell? ⟨x0, 1, none⟩ = some (.slice (some ⟨nb, 0, none⟩) (c + 1) (c + 1)) := by rw [Lib.cell_of_heap hx]; rfl
  have hxl := Lib.lt_of_heap hx
  have hsl := Lib.lt_of_heap hsc
  have HD := Aside0.mk (⟨d1, d2, e0, e1, hxl, hsl⟩ : _ ∧ _ ∧ _ ∧ _ ∧ _ ∧ _)
  have HH := Aside0.mk hH
  have HE := Aside0.mk hE
  have HX := Aside0.mk (⟨h.e.lt, h.x.lt, h.t.lt, hnb.lt⟩ : _ ∧ _ ∧ _ ∧ _)
  have HDD := Aside0.mk hd
  have HFW := Aside0.mk hF
  have HN0 := Aside0.mk (⟨hnb, hnl, hEn⟩ : _ ∧ _ ∧ _)
  have hfrom : ∀ W, Off w W (fun k => k = tb ∨ k = nb) → W.cell? ⟨s, 1, none⟩ = some (.slice (some ⟨eb, 0, none⟩) n n) ∧ W.cell? ⟨s, 2, none⟩ = some (.slice (some ⟨xb, 0, none⟩) n n) ∧ W.cell? ⟨x0, 0, none⟩ = some (.slice (some ⟨tb, 0, none⟩) ts ts) ∧ W.cell? ⟨x0, 1, none⟩ = some (.slice (some ⟨nb, 0, none⟩) (c + 1) (c + 1)) ∧ Nats W eb entries ∧ Nats W xb next := by
    intro W ho
    have a1 : ¬ (s = tb ∨ s = nb) := by rintro (e | e); exact h.ne1 e; exact hd.2.1 e.symm
    have a2 : ¬ (x0 = tb ∨ x0 = nb) := by rintro (e | e); exact hd.2.2.2.2.2.2.1 e; exact hd.1 e.symm
    refine ⟨(World.cell?_of_block (ho.blk s hsl a1)).trans d1, (World.cell?_of_block (ho.blk s hsl a1)).trans d2, (World.cell?_of_block (ho.blk x0 hxl a2)).trans e0, (World.cell?_of_block (ho.blk x0 hxl a2)).trans e1, h.e.off ho (by rintro (e | e); exact h.ne4 e.symm; exact hd.2.2.2.1 e.symm), h.x.off ho (by rintro (e | e); exact h.ne5 e.symm; exact hd.2.2.2.2.1 e.symm)⟩
  have HFR := Aside0.mk hfrom
  have n1 := h.ne1
  have n4 := h.ne4
  have n5 := h.ne5
  clear hfrom hsc h hH hE hF hx hnb hnl hEn hd d1 d2 e0 e1 hxl hsl
  obtain ⟨m1, m2, m3, m4, m5, m6, m7, m8, m9⟩ := HDD.out
  have m1' := m1.symm
  have m2' := m2.symm
  have m3' := m3.symm
  have m4' := m4.symm
  have m5' := m5.symm
  have m7' := m7.symm
  have n1' := n1.symm
  have n4' := n4.symm
  have n5' := n5.symm
  go_enter Tryd.func48, Tryd.ntmps48
  go_wp2_with fail
  go_loopg [4, 5, 6] ts (fun g0 v4 v5 v6 w' => ∃ (i nx : Nat) (table1 ents1 : List Nat), v4 = .int .i64 (nx : Int) ∧ v5 = .int .i64 (i : Int) ∧ i + g0 = ts ∧ 1 ≤ nx ∧ nx ≤ c + 1 ∧ Aside0 (Nats w' tb table1 ∧ table1.length = ts ∧ (∀ j t, j < i → table1[j]? = some t → t ≤ c) ∧ (∀ j, i ≤ j → table1[j]? = table[j]?)) ∧ Aside0 (Nats w' nb ents1 ∧ ents1.length = c + 1 ∧ Low ents1 1000000) ∧ Aside0 (Fits next (table.drop i) (c + 1 - nx)) ∧ Aside0 (Off w w' (fun k => k = tb ∨ k = nb)))
  case atStart => exact ⟨0, 1, table, ents, rfl, rfl, by omega, by omega, by omega, ⟨h0.out.t, h0.out.tl, fun j t hj => absurd hj (Nat.not_lt_zero j), fun _ _ => rfl⟩, HN0, ⟨by rw [List.drop_zero]; exact HFW.out⟩, ⟨Off.refl _ _⟩⟩
  case round =>
    obtain ⟨i, nx, table1, ents1, rfl, rfl, hig, hnx1, hnx2, HT1, HN1, HF, HO⟩ := hrel
    obtain ⟨d1, d2, e0, e1, qe, qx⟩ := HFR.out wr HO.out
    by_cases hi : i < ts
    · obtain ⟨t, hti⟩ : ∃ x, table[i]? = some x := ⟨_, List.getElem?_eq_getElem (by rw [h0.out.tl]; exact hi)⟩
      have htc := HH.out.1 _ _ hti
      have ct := HT1.out.1.cell i t (by rw [HT1.out.2.2.2 i (Nat.le_refl _)]; exact hti)
      have ft := HT1.out.1.frozen i
      have hdrop : table.drop i = t :: table.drop (i + 1) := by
        have hl : i < table.length := by rw [h0.out.tl]; exact hi
        rw [List.drop_eq_getElem_cons hl, (List.getElem?_eq_some_iff.1 hti).2]
      have hf := HF.out
      rw [hdrop] at hf
      obtain ⟨k, hk1, hk2, hk3⟩ := hf
      have HK := Aside0.mk hk2
      have HK3 := Aside0.mk hk3
      clear hdrop hk2 hk3
      by_cases ht0 : t = 0
      · subst ht0
        have hk0 : k = 0 := HK.out.zero
        have hf3 : Aside0 (Fits next (table.drop (i + 1)) (c + 1 - nx)) := ⟨by have := HK3.out; rwa [hk0, Nat.sub_zero] at this⟩
        have HT2 : Aside0 (Nats wr tb table1 ∧ table1.length = ts ∧ (∀ j t, j < i + 1 → table1[j]? = some t → t ≤ c) ∧ (∀ j, i + 1 ≤ j → table1[j]? = table[j]?)) := ⟨HT1.out.1, HT1.out.2.1, fun j t hj ht => by
          rcases Nat.lt_or_ge j i with h | h
          · exact HT1.out.2.2.1 j t h ht
          · obtain rfl : j = i := by omega
            rw [HT1.out.2.2.2 j (Nat.le_refl _), hti] at ht
            cases ht
            omega, fun j hj => HT1.out.2.2.2 j (by omega)⟩
        clear hti
        go_wp2_with fail
        go_roundg (ts - (i + 1))
        case measure => omega
        case rel => exact ⟨i + 1, nx, table1, ents1, rfl, rfl, by omega, hnx1, hnx2, HT2, HN1, hf3, HO⟩
      · have hb0 : ((t : Int) == 0) = false := beq_eq_false_iff_ne.2 (by omega)
        have hkp : 1 ≤ k := by
          obtain ⟨x, j, rfl, _, _⟩ := HK.out.more ht0
          omega
        have HT2 : Aside0 (Nats (wr.setCell ⟨tb, i, none⟩ (.int .i64 (nx : Int))) tb (table1.set i nx) ∧ (table1.set i nx).length = ts ∧ (∀ j t, j < i + 1 → (table1.set i nx)[j]? = some t → t ≤ c) ∧ (∀ j, i + 1 ≤ j → (table1.set i nx)[j]? = table[j]?)) := ⟨HT1.out.1.set i nx, by rw [List.length_set]; exact HT1.out.2.1, fun j t hj ht => by
          rw [List.getElem?_set] at ht
          split at ht
          · split at ht
            · cases ht; omega
            · cases ht
          · exact HT1.out.2.2.1 j t (by omega) ht, fun j hj => by rw [List.getElem?_set_ne (by omega)]; exact HT1.out.2.2.2 j (by omega)⟩
        have HO2 : Aside0 (Off w (wr.setCell ⟨tb, i, none⟩ (.int .i64 (nx : Int))) (fun k => k = tb ∨ k = nb)) := ⟨HO.out.trans (Off.set wr tb i _) (fun _ _ h => Or.inl h)⟩
        have HN2 : Aside0 (Nats (wr.setCell ⟨tb, i, none⟩ (.int .i64 (nx : Int))) nb ents1 ∧ ents1.length = c + 1 ∧ Low ents1 1000000) := ⟨HN1.out.1.other tb i _ m3, HN1.out.2⟩
        clear hti
        go_wp2_with fail
        go_loopg [4, 6] k (fun g1 v4 v6 w' => ∃ (h nx1 : Nat) (ents2 : List Nat), v4 = .int .i64 (nx1 : Int) ∧ v6 = .int .i64 (h : Int) ∧ h ≠ 0 ∧ h ≤ cnt ∧ 1 ≤ nx1 ∧ nx1 + g1 ≤ c + 1 ∧ Aside0 (Ch next h g1) ∧ Aside0 (Fits next (table.drop (i + 1)) (c + 1 - nx1 - g1)) ∧ Aside0 (Nats w' tb (table1.set i nx)) ∧ Aside0 (Nats w' nb ents2 ∧ ents2.length = c + 1 ∧ Low ents2 1000000) ∧ Aside0 (Off w w' (fun k => k = tb ∨ k = nb)))
        case atStart => exact ⟨t, nx, ents1, rfl, rfl, ht0, htc, hnx1, by omega, HK, HK3, ⟨HT2.out.1⟩, HN2, HO2⟩
        case round =>
          obtain ⟨h, nx1, ents2, rfl, rfl, hh0, hhc, hn1, hn2, HC, HF2, HT3, HN3, HO3⟩ := hrel
          clear d1 d2 e0 e1 qe qx ct ft
          obtain ⟨d1, d2, e0, e1, qe, qx⟩ := HFR.out wr HO3.out
          obtain ⟨x, k1, hk1e, hx, hch⟩ := HC.out.more hh0
          subst hk1e
          obtain ⟨ev, hev⟩ : ∃ x, entries[h]? = some x := ⟨_, List.getElem?_eq_getElem (by rw [h0.out.el]; omega)⟩
          obtain ⟨ov, hov⟩ : ∃ x, ents2[nx1]? = some x := ⟨_, List.getElem?_eq_getElem (by rw [HN3.out.2.1]; omega)⟩
          have ce := qe.cell _ _ hev
          have cx := qx.cell _ _ hx
          have co := HN3.out.1.cell _ _ hov
          have fo := HN3.out.1.frozen nx1
          have hevl := HE.out _ _ hev
          have HCH := Aside0.mk hch
          have hxc := (HH.out.2 _ _ hx).1
          clear hev hov hx hch qe qx
          have HTN : Aside0 (Nats (wr.setCell ⟨nb, nx1, none⟩ (.int .i64 (ev : Int))) tb (table1.set i nx)) := ⟨HT3.out.other nb nx1 _ m3'⟩
          have HNN : Aside0 (Nats (wr.setCell ⟨nb, nx1, none⟩ (.int .i64 (ev : Int))) nb (ents2.set nx1 ev) ∧ (ents2.set nx1 ev).length = c + 1 ∧ Low (ents2.set nx1 ev) 1000000) := ⟨HN3.out.1.set nx1 ev, by rw [List.length_set]; exact HN3.out.2.1, HN3.out.2.2.set nx1 ev hevl⟩
          have HON : Aside0 (Off w (wr.setCell ⟨nb, nx1, none⟩ (.int .i64 (ev : Int))) (fun k => k = tb ∨ k = nb)) := ⟨HO3.out.trans (Off.set wr nb nx1 _) (fun _ _ h => Or.inr h)⟩
          go_wp2_with fail
          go_region
          by_cases hx0 : x = 0
          · subst hx0
            have hk0 : k1 = 0 := HCH.out.zero
            subst hk0
            go_wp2_with fail
            go_roundg (ts - (i + 1))
            case measure => omega
            case rel => exact ⟨i + 1, nx1 + 1, table1.set i nx, _, rfl, rfl, by omega, by omega, by omega, ⟨HTN.out, HT2.out.2.1, HT2.out.2.2.1, HT2.out.2.2.2⟩, ⟨HNN.out⟩, ⟨by have := HF2.out; rwa [show c + 1 - nx1 - (0 + 1) = c + 1 - (nx1 + 1) by omega] at this⟩, ⟨HON.out.trans (Off.of_below (below_drew (Below.refl _ _)) (fun _ => False)) (fun _ _ h => h.elim)⟩⟩
          · have hb1 : ((x : Int) == 0) = false := beq_eq_false_iff_ne.2 (by omega)
            go_wp2_with fail
            go_roundg k1
            case measure => omega
            case rel => exact ⟨x, nx1 + 1, _, rfl, rfl, hx0, hxc, by omega, by omega, HCH, ⟨by have := HF2.out; rwa [show c + 1 - nx1 - (k1 + 1) = c + 1 - (nx1 + 1) - k1 by omega] at this⟩, ⟨HTN.out⟩, ⟨HNN.out⟩, ⟨HON.out.trans (Off.of_below (below_drew (Below.refl _ _)) (fun _ => False)) (fun _ _ h => h.elim)⟩⟩
    · obtain rfl : i = ts := by omega
      go_wp2_with fail
      go_end0
      exact ⟨rfl, table1, ents1, HT1.out.1, HT1.out.2.1, fun j t hj => HT1.out.2.2.1 j t (by have := (List.getElem?_eq_some_iff.1 hj).1; rw [HT1.out.2.1] at this; exact this) hj, HN1.out.1, HN1.out.2.1, HN1.out.2.2, HO.out⟩
end Go.Proofs.YtlboochpbplhlaaDoor.HandT
