/- sort.order2, median, medianAdjacent, choosePivot, walked over any state that holds an array. -/
import Derived.Test.YthjgfdjihlciaaaDoorSrtA
set_option linter.unusedVariables false
set_option linter.unusedSimpArgs false
namespace Go.Proofs.YthjgfdjihlciaaaDoor.SrtF
open Go.RowKit Go.Proofs.YthjgfdjihlciaaaDoorW.PrintWords Go.Proofs.YthjgfdjihlciaaaDoorW.PrintLast Go.Proofs.YthjgfdjihlciaaaDoorW.PrintMore Go.Proofs.YthjgfdjihlciaaaDoor.QAll SrtA Go.Sort
section
variable {α : Type} [Inhabited α] {A : Option Addr} {n c : Nat} {lt : α → α → Bool} {blk : Nat} {St : World → Array α → Prop}
/-- A counter that lies in a block of its own, beside the state. -/
structure Ct (St : World → Array α → Prop) (blk : Nat) (w : World) (d : Array α) (g : Nat) (k : Nat) : Prop where
  st : St w d
  ne : blk < g
  ct : w.heap[g]? = some (.cells #[.int .i64 (k : Int)] 3 (0, 0))
theorem Ct.below {w w' : World} {d : Array α} {g k : Nat} (S : Sorter A n c lt blk St) (h : Ct St blk w d g k) (hb : Below w.heap.size w w') : Ct St blk w' d g k := ⟨S.below h.st hb, h.ne, blk_below h.ct hb⟩
set_option maxHeartbeats 4000000 in
set_option maxRecDepth 100000 in
theorem order2 (S : Sorter A n c lt blk St) (a b g k : Nat) (d : Array α) (w : World) (h : Ct St blk w d g k) (ha : a < n) (hb : b < n) (hk : k ≤ 1000) :
    Calls Tryd.prog 43 #[.iface 34 (.slice A n c), .int .i64 (a : Int), .int .i64 (b : Int), .pointer (some ⟨g, 0, none⟩)] w fun e w' => e = .returned (.tuple #[.int .i64 ((Sort.order2 lt d a b k).1 : Nat), .int .i64 ((Sort.order2 lt d a b k).2.1 : Nat)]) ∧ Ct St blk w' d g (Sort.order2 lt d a b k).2.2 := by
  have hmL := fun W => method34 foundLess 212 A n c W
  have hnL := fun W => nilAhead34 foundLess 212 A n c W
  have hl := S.less b a h.st hb ha
  have H := Aside0.mk h
  clear h
  cases hv : lt d[b]! d[a]! with
  | true =>
    rw [hv] at hl
    have HL := Aside0.mk hl
    have HR : Aside0 (Sort.order2 lt d a b k = (b, a, k + 1)) := ⟨by unfold Sort.order2; rw [hv]; rfl⟩
    clear hv hl
    go_enter Tryd.func43, Tryd.ntmps43
    go_upto_region 2 with (first
      | (go_at_call 61; (with_reducible refine HL.out.mono ?_); rintro e w2 ⟨rfl, hb2⟩; have H2 := Aside0.mk (H.out.below S hb2); have hc2 : w2.cell? ⟨g, 0, none⟩ = some (.int .i64 (k : Int)) := (blk_cell H2.out.ct 0).trans rfl; have hz2 := blk_frozen H2.out.ct 0; clear hb2))
    go_wp2
    go_ret2
    rw [HR.out]
    exact ⟨rfl, S.put g 0 _ H2.out.st H2.out.ne, H2.out.ne, by have := blk_put H2.out.ct 0 (.int .i64 ((k + 1 : Nat) : Int)) rfl; simpa using this⟩
  | false =>
    rw [hv] at hl
    have HL := Aside0.mk hl
    have HR : Aside0 (Sort.order2 lt d a b k = (a, b, k)) := ⟨by unfold Sort.order2; rw [hv]; rfl⟩
    clear hv hl
    go_enter Tryd.func43, Tryd.ntmps43
    go_wp2_with (first
      | (go_at_call 61; (with_reducible refine HL.out.mono ?_); rintro e w2 ⟨rfl, hb2⟩; have H2 := Aside0.mk (H.out.below S hb2); clear hb2))
    go_ret2
    rw [HR.out]
    exact ⟨rfl, H2.out⟩
theorem o2_lt {d : Array α} {a b k : Nat} (ha : a < n) (hb : b < n) : (Sort.order2 lt d a b k).1 < n ∧ (Sort.order2 lt d a b k).2.1 < n ∧ (Sort.order2 lt d a b k).2.2 ≤ k + 1 := by
  unfold Sort.order2
  split
  · exact ⟨hb, ha, Nat.le_refl _⟩
  · exact ⟨ha, hb, Nat.le_succ _⟩
theorem median_lt {d : Array α} {a b x k : Nat} (ha : a < n) (hb : b < n) (hx : x < n) : (Sort.median lt d a b x k).1 < n ∧ (Sort.median lt d a b x k).2 ≤ k + 3 := by
  have h1 := o2_lt (lt := lt) (d := d) (k := k) ha hb
  have h2 := o2_lt (lt := lt) (d := d) (k := (Sort.order2 lt d a b k).2.2) h1.2.1 hx
  have h3 := o2_lt (lt := lt) (d := d) (k := (Sort.order2 lt d (Sort.order2 lt d a b k).2.1 x (Sort.order2 lt d a b k).2.2).2.2) h1.1 h2.1
  unfold Sort.median
  refine ⟨h3.2.1, ?_⟩
  dsimp only
  omega
set_option maxHeartbeats 4000000 in
set_option maxRecDepth 100000 in
theorem median (S : Sorter A n c lt blk St) (a b x g k : Nat) (d : Array α) (w : World) (h : Ct St blk w d g k) (ha : a < n) (hb : b < n) (hx : x < n) (hk : k ≤ 900) :
    Calls Tryd.prog 40 #[.iface 34 (.slice A n c), .int .i64 (a : Int), .int .i64 (b : Int), .int .i64 (x : Int), .pointer (some ⟨g, 0, none⟩)] w fun e w' => e = .returned (.int .i64 ((Sort.median lt d a b x k).1 : Nat)) ∧ Ct St blk w' d g (Sort.median lt d a b x k).2 := by
  have h1 := o2_lt (lt := lt) (d := d) (k := k) ha hb
  have HO1 := Aside0.mk (order2 S a b g k d w h ha hb (by omega))
  obtain ⟨r1, hr1⟩ : ∃ r1, r1 = Sort.order2 lt d a b k := ⟨_, rfl⟩
  rw [← hr1] at h1 HO1
  have h2 := o2_lt (lt := lt) (d := d) (k := r1.2.2) h1.2.1 hx
  have HO2 : Aside0 (∀ W, Ct St blk W d g r1.2.2 → _) := ⟨fun W hW => order2 S r1.2.1 x g r1.2.2 d W hW h1.2.1 hx (by omega)⟩
  obtain ⟨r2, hr2⟩ : ∃ r2, r2 = Sort.order2 lt d r1.2.1 x r1.2.2 := ⟨_, rfl⟩
  rw [← hr2] at h2 HO2
  have HO3 : Aside0 (∀ W, Ct St blk W d g r2.2.2 → _) := ⟨fun W hW => order2 S r1.1 r2.1 g r2.2.2 d W hW h1.1 h2.1 (by omega)⟩
  obtain ⟨r3, hr3⟩ : ∃ r3, r3 = Sort.order2 lt d r1.1 r2.1 r2.2.2 := ⟨_, rfl⟩
  rw [← hr3] at HO3
  have HM : Aside0 (Sort.median lt d a b x k = (r3.2.1, r3.2.2)) := ⟨by unfold Sort.median; rw [← hr1]; dsimp only; rw [← hr2, ← hr3]⟩
  rw [HM.out]
  obtain ⟨x1, y1, k1⟩ := r1
  obtain ⟨x2, y2, k2⟩ := r2
  obtain ⟨x3, y3, k3⟩ := r3
  dsimp only at HO1 HO2 HO3 ⊢
  clear hr1 hr2 hr3 h1 h2 h HM
  go_enter Tryd.func40, Tryd.ntmps40
  go_upto_region 2 with (first
    | (go_at_call 43; (with_reducible refine HO1.out.mono ?_); rintro e w2 ⟨rfl, hc2⟩; have HC2 := Aside0.mk hc2; clear hc2))
  go_upto_region 3 with (first
    | (go_at_call 43; (with_reducible refine (HO2.out _ HC2.out).mono ?_); rintro e w3 ⟨rfl, hc3⟩; have HC3 := Aside0.mk hc3; clear hc3))
  go_wp2_with (first
    | (go_at_call 43; (with_reducible refine (HO3.out _ HC3.out).mono ?_); rintro e w4 ⟨rfl, hc4⟩; have HC4 := Aside0.mk hc4; clear hc4))
  go_ret
  exact ⟨rfl, HC4.out⟩
set_option maxHeartbeats 4000000 in
set_option maxRecDepth 100000 in
theorem medianAdjacent (S : Sorter A n c lt blk St) (a g k : Nat) (d : Array α) (w : World) (h : Ct St blk w d g k) (ha : 1 ≤ a) (hb : a + 1 < n) (hk : k ≤ 900) :
    Calls Tryd.prog 39 #[.iface 34 (.slice A n c), .int .i64 (a : Int), .pointer (some ⟨g, 0, none⟩)] w fun e w' => e = .returned (.int .i64 ((Sort.medianAdjacent lt d a k).1 : Nat)) ∧ Ct St blk w' d g (Sort.medianAdjacent lt d a k).2 := by
  have hm := median S (a - 1) a (a + 1) g k d w h (by omega) (by omega) hb hk
  rw [show ((a - 1 : Nat) : Int) = (a : Int) - 1 by omega, show ((a + 1 : Nat) : Int) = (a : Int) + 1 by omega] at hm
  change Calls _ _ _ _ (fun e w' => e = .returned (.int .i64 ((Sort.medianAdjacent lt d a k).1 : Nat)) ∧ Ct St blk w' d g (Sort.medianAdjacent lt d a k).2) at hm
  have HM := Aside0.mk hm
  have hn := S.small
  clear hm h
  generalize Sort.medianAdjacent lt d a k = r at HM ⊢
  obtain ⟨x, y⟩ := r
  dsimp only at HM ⊢
  go_enter Tryd.func39, Tryd.ntmps39
  go_wp2_with (first
    | (go_at_call 40; (with_reducible refine HM.out.mono ?_); rintro e w4 ⟨rfl, hc4⟩; have HC4 := Aside0.mk hc4; clear hc4))
  go_ret
  exact ⟨rfl, HC4.out⟩
def code : Hint → Int
  | .unknown => 0
  | .increasing => 1
  | .decreasing => 2
theorem new_ct {w : World} {d : Array α} (S : Sorter A n c lt blk St) (h : St w d) : Ct St blk (w.alloc (.cells #[.int .i64 0] 3)) d w.heap.size 0 := ⟨S.below h (below_alloc (Below.refl _ _) _), S.pos h, blk_new _ _⟩
set_option maxHeartbeats 8000000 in
set_option maxRecDepth 100000 in
theorem choosePivot (S : Sorter A n c lt blk St) (a b : Nat) (d : Array α) (w : World) (h : St w d) (hab : a + 12 < b) (hb : b ≤ n) :
    Calls Tryd.prog 28 #[.iface 34 (.slice A n c), .int .i64 (a : Int), .int .i64 (b : Int)] w fun e w' => e = .returned (.tuple #[.int .i64 ((Sort.choosePivot lt d a b).1 : Nat), .int .i64 (code (Sort.choosePivot lt d a b).2)]) ∧ St w' d := by
  have hn := S.small
  obtain ⟨m, hm⟩ : ∃ m, m = b - a := ⟨_, rfl⟩
  obtain ⟨q, hq⟩ : ∃ q, q = m / 4 := ⟨_, rfl⟩
  have hm1 : 12 < m := by omega
  have hm2 : a + m ≤ n := by omega
  have hq1 : 4 * q ≤ m := by omega
  have hq3 : 3 ≤ q := by omega
  have hsub : (b : Int) - (a : Int) = (m : Int) := by omega
  have hq2 : (m : Int).tdiv 4 = (q : Int) := by rw [Int.tdiv_eq_ediv_of_nonneg (by omega)]; omega
  have H0 := Aside0.mk (new_ct S h)
  obtain ⟨g, hg⟩ : ∃ g, g = w.heap.size := ⟨_, rfl⟩
  rw [← hg] at H0
  have ei : ((a + q * 1 : Nat) : Int) = (a : Int) + (q : Int) := by push_cast; omega
  have ej : ((a + q * 2 : Nat) : Int) = (a : Int) + (q : Int) * 2 := by push_cast; rfl
  have ek : ((a + q * 3 : Nat) : Int) = (a : Int) + (q : Int) * 3 := by push_cast; rfl
  have HEND : Aside0 (∀ (r : Nat × Nat), r.1 < n → (if 8 ≤ m then (if 50 ≤ m then Sort.median lt d (Sort.medianAdjacent lt d (a + q * 1) 0).1 (Sort.medianAdjacent lt d (a + q * 2) (Sort.medianAdjacent lt d (a + q * 1) 0).2).1 (Sort.medianAdjacent lt d (a + q * 3) (Sort.medianAdjacent lt d (a + q * 2) (Sort.medianAdjacent lt d (a + q * 1) 0).2).2).1 (Sort.medianAdjacent lt d (a + q * 3) (Sort.medianAdjacent lt d (a + q * 2) (Sort.medianAdjacent lt d (a + q * 1) 0).2).2).2 else Sort.median lt d (a + q * 1) (a + q * 2) (a + q * 3) 0) else (a + q * 2, 0)) = r →
      Sort.choosePivot lt d a b = (r.1, if r.2 = 0 then .increasing else if r.2 = 12 then .decreasing else .unknown)) := ⟨fun r _ hr => by
    unfold Sort.choosePivot
    simp only [← hm, ← hq]
    simp only [ge_iff_le] at *
    rw [hr]⟩
  by_cases h50 : 50 ≤ m
  · obtain ⟨ri, hri⟩ : ∃ ri, ri = Sort.medianAdjacent lt d (a + q * 1) 0 := ⟨_, rfl⟩
    have li := median_lt (lt := lt) (n := n) (d := d) (a := a + q * 1 - 1) (b := a + q * 1) (x := a + q * 1 + 1) (k := 0) (by omega) (by omega) (by omega)
    change (Sort.medianAdjacent lt d (a + q * 1) 0).1 < n ∧ (Sort.medianAdjacent lt d (a + q * 1) 0).2 ≤ 0 + 3 at li
    rw [← hri] at li
    obtain ⟨rj, hrj⟩ : ∃ rj, rj = Sort.medianAdjacent lt d (a + q * 2) ri.2 := ⟨_, rfl⟩
    have lj := median_lt (lt := lt) (n := n) (d := d) (a := a + q * 2 - 1) (b := a + q * 2) (x := a + q * 2 + 1) (k := ri.2) (by omega) (by omega) (by omega)
    change (Sort.medianAdjacent lt d (a + q * 2) ri.2).1 < n ∧ (Sort.medianAdjacent lt d (a + q * 2) ri.2).2 ≤ ri.2 + 3 at lj
    rw [← hrj] at lj
    obtain ⟨rk, hrk⟩ : ∃ rk, rk = Sort.medianAdjacent lt d (a + q * 3) rj.2 := ⟨_, rfl⟩
    have lk := median_lt (lt := lt) (n := n) (d := d) (a := a + q * 3 - 1) (b := a + q * 3) (x := a + q * 3 + 1) (k := rj.2) (by omega) (by omega) (by omega)
    change (Sort.medianAdjacent lt d (a + q * 3) rj.2).1 < n ∧ (Sort.medianAdjacent lt d (a + q * 3) rj.2).2 ≤ rj.2 + 3 at lk
    rw [← hrk] at lk
    have lm := median_lt (lt := lt) (d := d) (k := rk.2) li.1 lj.1 lk.1
    obtain ⟨rm, hrm⟩ : ∃ rm, rm = Sort.median lt d ri.1 rj.1 rk.1 rk.2 := ⟨_, rfl⟩
    rw [← hrm] at lm
    have HI : Aside0 (∀ W, Ct St blk W d g 0 → Calls Tryd.prog 39 #[.iface 34 (.slice A n c), .int .i64 ((a : Int) + (q : Int)), .pointer (some ⟨g, 0, none⟩)] W fun e w' => e = .returned (.int .i64 (ri.1 : Nat)) ∧ Ct St blk w' d g ri.2) := ⟨fun W hW => by
      have := medianAdjacent S (a + q * 1) g 0 d W hW (by omega) (by omega) (by omega)
      rw [← hri, ei] at this
      exact this⟩
    have HJ : Aside0 (∀ W, Ct St blk W d g ri.2 → Calls Tryd.prog 39 #[.iface 34 (.slice A n c), .int .i64 ((a : Int) + (q : Int) * 2), .pointer (some ⟨g, 0, none⟩)] W fun e w' => e = .returned (.int .i64 (rj.1 : Nat)) ∧ Ct St blk w' d g rj.2) := ⟨fun W hW => by
      have := medianAdjacent S (a + q * 2) g ri.2 d W hW (by omega) (by omega) (by omega)
      rw [← hrj, ej] at this
      exact this⟩
    have HK : Aside0 (∀ W, Ct St blk W d g rj.2 → Calls Tryd.prog 39 #[.iface 34 (.slice A n c), .int .i64 ((a : Int) + (q : Int) * 3), .pointer (some ⟨g, 0, none⟩)] W fun e w' => e = .returned (.int .i64 (rk.1 : Nat)) ∧ Ct St blk w' d g rk.2) := ⟨fun W hW => by
      have := medianAdjacent S (a + q * 3) g rj.2 d W hW (by omega) (by omega) (by omega)
      rw [← hrk, ek] at this
      exact this⟩
    have HMD : Aside0 (∀ W, Ct St blk W d g rk.2 → Calls Tryd.prog 40 #[.iface 34 (.slice A n c), .int .i64 (ri.1 : Nat), .int .i64 (rj.1 : Nat), .int .i64 (rk.1 : Nat), .pointer (some ⟨g, 0, none⟩)] W fun e w' => e = .returned (.int .i64 (rm.1 : Nat)) ∧ Ct St blk w' d g rm.2) := ⟨fun W hW => by
      have := median S ri.1 rj.1 rk.1 g rk.2 d W hW li.1 lj.1 lk.1 (by omega)
      rw [← hrm] at this
      exact this⟩
    have HCP := Aside0.mk (HEND.out rm lm.1 (by rw [if_pos (by omega), if_pos h50, ← hri, ← hrj, ← hrk, ← hrm]))
    rw [HCP.out]
    have HLM := Aside0.mk lm
    have HH := Aside0.mk h50
    obtain ⟨xi, ki⟩ := ri
    obtain ⟨xj, kj⟩ := rj
    obtain ⟨xk, kk⟩ := rk
    obtain ⟨xm, km⟩ := rm
    dsimp only at HI HJ HK HMD HLM ⊢
    obtain ⟨cv, hcv⟩ : ∃ cv, cv = code (if km = 0 then Hint.increasing else if km = 12 then Hint.decreasing else Hint.unknown) := ⟨_, rfl⟩
    rw [← hcv]
    have HCV := Aside0.mk hcv
    clear hcv
    clear hri hrj hrk hrm li lj lk lm HEND HCP ei ej ek hm hq h
    have z8 : (8 : Int) ≤ (m : Int) := by omega
    have z50 : (50 : Int) ≤ (m : Int) := by omega
    go_enter Tryd.func28, Tryd.ntmps28
    go_upto_region 8 with fail
    simp only [← hg]
    clear hg
    go_upto_region 9 with (first | (go_at_call 39; (with_reducible refine (HI.out _ H0.out).mono ?_); rintro e w2 ⟨rfl, hc2⟩; have HC2 := Aside0.mk hc2; clear hc2))
    go_upto_region 10 with (first | (go_at_call 39; (with_reducible refine (HJ.out _ HC2.out).mono ?_); rintro e w3 ⟨rfl, hc3⟩; have HC3 := Aside0.mk hc3; clear hc3))
    go_upto_region 11 with (first | (go_at_call 39; (with_reducible refine (HK.out _ HC3.out).mono ?_); rintro e w4 ⟨rfl, hc4⟩; have HC4 := Aside0.mk hc4; clear hc4))
    go_upto_region 12 with (first | (go_at_call 40; (with_reducible refine (HMD.out _ HC4.out).mono ?_); rintro e w5 ⟨rfl, hc5⟩; have HC5 := Aside0.mk hc5; have hcc : w5.cell? ⟨g, 0, none⟩ = some (.int .i64 (km : Int)) := (blk_cell hc5.ct 0).trans rfl; clear hc5))
    by_cases k0 : km = 0
    · subst k0
      go_wp2
      go_ret2
      exact ⟨by rw [HCV.out]; rfl, HC5.out.st⟩
    · by_cases k12 : km = 12
      · subst k12
        go_wp2
        go_ret2
        exact ⟨by rw [HCV.out]; rfl, HC5.out.st⟩
      · have y0 : ((km : Int) == 0) = false := by rw [beq_eq_false_iff_ne]; omega
        have y1 : ((km : Int) == 12) = false := by rw [beq_eq_false_iff_ne]; omega
        have y2 : ¬ (km : Int) = 0 := by omega
        have y3 : ¬ (km : Int) = 12 := by omega
        go_wp2
        go_ret2
        exact ⟨by rw [HCV.out, if_neg k0, if_neg k12]; rfl, HC5.out.st⟩
  · have lm := median_lt (lt := lt) (n := n) (d := d) (a := a + q * 1) (b := a + q * 2) (x := a + q * 3) (k := 0) (by omega) (by omega) (by omega)
    obtain ⟨rm, hrm⟩ : ∃ rm, rm = Sort.median lt d (a + q * 1) (a + q * 2) (a + q * 3) 0 := ⟨_, rfl⟩
    rw [← hrm] at lm
    have HMD : Aside0 (∀ W, Ct St blk W d g 0 → Calls Tryd.prog 40 #[.iface 34 (.slice A n c), .int .i64 ((a : Int) + (q : Int)), .int .i64 ((a : Int) + (q : Int) * 2), .int .i64 ((a : Int) + (q : Int) * 3), .pointer (some ⟨g, 0, none⟩)] W fun e w' => e = .returned (.int .i64 (rm.1 : Nat)) ∧ Ct St blk w' d g rm.2) := ⟨fun W hW => by
      have := median S (a + q * 1) (a + q * 2) (a + q * 3) g 0 d W hW (by omega) (by omega) (by omega) (by omega)
      rw [← hrm, ei, ej, ek] at this
      exact this⟩
    have HCP := Aside0.mk (HEND.out rm lm.1 (by rw [if_pos (by omega), if_neg h50, ← hrm]))
    rw [HCP.out]
    have HLM := Aside0.mk lm
    obtain ⟨xm, km⟩ := rm
    dsimp only at HMD HLM ⊢
    obtain ⟨cv, hcv⟩ : ∃ cv, cv = code (if km = 0 then Hint.increasing else if km = 12 then Hint.decreasing else Hint.unknown) := ⟨_, rfl⟩
    rw [← hcv]
    have HCV := Aside0.mk hcv
    clear hcv
    have z8 : (8 : Int) ≤ (m : Int) := by omega
    have z50 : ¬ (50 : Int) ≤ (m : Int) := by omega
    clear hrm lm HEND HCP ei ej ek hm hq h h50
    go_enter Tryd.func28, Tryd.ntmps28
    go_upto_region 11 with fail
    simp only [← hg]
    clear hg
    go_upto_region 12 with (first | (go_at_call 40; (with_reducible refine (HMD.out _ H0.out).mono ?_); rintro e w5 ⟨rfl, hc5⟩; have HC5 := Aside0.mk hc5; have hcc : w5.cell? ⟨g, 0, none⟩ = some (.int .i64 (km : Int)) := (blk_cell hc5.ct 0).trans rfl; clear hc5))
    by_cases k0 : km = 0
    · subst k0
      go_wp2
      go_ret2
      exact ⟨by rw [HCV.out]; rfl, HC5.out.st⟩
    · by_cases k12 : km = 12
      · subst k12
        go_wp2
        go_ret2
        exact ⟨by rw [HCV.out]; rfl, HC5.out.st⟩
      · have y0 : ((km : Int) == 0) = false := by rw [beq_eq_false_iff_ne]; omega
        have y1 : ((km : Int) == 12) = false := by rw [beq_eq_false_iff_ne]; omega
        have y2 : ¬ (km : Int) = 0 := by omega
        have y3 : ¬ (km : Int) = 12 := by omega
        go_wp2
        go_ret2
        exact ⟨by rw [HCV.out, if_neg k0, if_neg k12]; rfl, HC5.out.st⟩
#print axioms choosePivot
end
end Go.Proofs.YthjgfdjihlciaaaDoor.SrtF
