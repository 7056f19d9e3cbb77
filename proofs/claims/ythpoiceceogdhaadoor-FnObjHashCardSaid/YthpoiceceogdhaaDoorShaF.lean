/- spec.Sha1 walked. -/
import Derived.Test.YthpoiceceogdhaaDoorShaE
set_option linter.unusedVariables false
set_option linter.unusedSimpArgs false
namespace Go.Proofs.YthpoiceceogdhaaDoor.ShaF
open Go.RowKit Go.Proofs.YthpoiceceogdhaaDoorW.PrintWords Go.Proofs.YthpoiceceogdhaaDoor.QAll ShaA ShaP ShaB ShaC ShaD ShaE

/-- Five words in a block. -/
def Hh (W : World) (g : Nat) (S : S5) : Prop := W.heap[g]? = some (.cells #[.int .u32 (S.a : Int), .int .u32 (S.b : Int), .int .u32 (S.c : Int), .int .u32 (S.d : Int), .int .u32 (S.e : Int)] 51 (0, 0))
theorem set5h {w : World} {g t : Nat} {x0 x1 x2 x3 x4 : Value} (h : w.heap[g]? = some (.cells #[x0, x1, x2, x3, x4] t (0, 0))) (y0 y1 y2 y3 y4 : Value) :
    (w.setCells g 0 [y0, y1, y2, y3, y4]).heap[g]? = some (.cells #[y0, y1, y2, y3, y4] t (0, 0)) := by
  have h0 := (Lib.heap_setCell_same (i := 0) h y0).trans (b := _) rfl
  have h1 := Lib.heap_setCell_same (i := 1) h0 y1
  have h2 := Lib.heap_setCell_same (i := 2) h1 y2
  have h3 := Lib.heap_setCell_same (i := 3) h2 y3
  have h4 := Lib.heap_setCell_same (i := 4) h3 y4
  exact h4.trans rfl
theorem info75z : (Tryd.prog.info? 51).bind (fun i => i.zero) = some (.agg #[.int .u32 0, .int .u32 0, .int .u32 0, .int .u32 0, .int .u32 0]) := by kernel_rfl
/-- The state between two blocks. -/
structure Bk (w W : World) (hB : Nat) (S : S5) (V : Value) (X : List Nat) : Prop where
  hh : Hh W hB S
  row : BQ W w.heap.size V X
  bel : Below w.heap.size w W
  ge : w.heap.size ≤ hB
theorem ne_type {W : World} {a b s t : Nat} {xs ys : Array Value} (h1 : W.heap[a]? = some (.cells xs s (0, 0))) (h2 : W.heap[b]? = some (.cells ys t (0, 0))) (hst : s ≠ t) : a ≠ b := fun e => by
  subst e
  rw [h1] at h2
  injection h2 with h2
  injection h2 with _ h3
  exact hst h3
theorem Bk.below {w W W' : World} {hB : Nat} {S : S5} {V : Value} {X : List Nat} (h : Bk w W hB S V X) (hb : Below W.heap.size W W') : Bk w W' hB S V X :=
  ⟨(hb.block hB (Lib.lt_of_heap h.hh)).trans h.hh, h.row.off (Off.of_below hb (fun _ => False)) (fun _ _ h => h), h.bel.trans (hb.mono h.bel.size), h.ge⟩
theorem Bk.drewN {w W : World} {hB : Nat} {S : S5} {V : Value} {X : List Nat} (h : Bk w W hB S V X) (q : Nat) : Bk w (W.drewN q) hB S V X := h.below (pw_below_drewN (Below.refl _ _) q)
theorem Bk.setz {w W : World} {hB zb : Nat} {S : S5} {V : Value} {X L : List Nat} (h : Bk w W hB S V X) (hz : W32 W zb 52 L) (hg : w.heap.size ≤ zb) (i : Nat) (v : Value) : Bk w (W.setCell ⟨zb, i, none⟩ v) hB S V X := by
  have hne : hB ≠ zb := ne_type h.hh hz (by decide)
  refine ⟨(Below.heap_setCell W ⟨zb, i, none⟩ v hB hne).trans h.hh, h.row.off (Off.set W zb i v) (fun k hk e => h.row.ne hz (by decide) (by rw [hk]; exact congrArg some e)), h.bel.trans ((Off.set W zb i v).below h.bel.size (fun k hk => by rw [show k = zb from hk]; exact hg)), h.ge⟩
theorem Bk.all5 {w W : World} {hB : Nat} {S : S5} {V : Value} {X : List Nat} (h : Bk w W hB S V X) (T : S5) :
    Bk w (((((W.setCell ⟨hB, 0, none⟩ (.int .u32 (T.a : Int))).setCell ⟨hB, 1, none⟩ (.int .u32 (T.b : Int))).setCell ⟨hB, 2, none⟩ (.int .u32 (T.c : Int))).setCell ⟨hB, 3, none⟩ (.int .u32 (T.d : Int))).setCell ⟨hB, 4, none⟩ (.int .u32 (T.e : Int))) hB T V X := by
  have e : (((((W.setCell ⟨hB, 0, none⟩ (.int .u32 (T.a : Int))).setCell ⟨hB, 1, none⟩ (.int .u32 (T.b : Int))).setCell ⟨hB, 2, none⟩ (.int .u32 (T.c : Int))).setCell ⟨hB, 3, none⟩ (.int .u32 (T.d : Int))).setCell ⟨hB, 4, none⟩ (.int .u32 (T.e : Int))) = W.setCells hB 0 [.int .u32 (T.a : Int), .int .u32 (T.b : Int), .int .u32 (T.c : Int), .int .u32 (T.d : Int), .int .u32 (T.e : Int)] := rfl
  rw [e]
  have ho := Off.setCells W hB [.int .u32 (T.a : Int), .int .u32 (T.b : Int), .int .u32 (T.c : Int), .int .u32 (T.d : Int), .int .u32 (T.e : Int)] 0
  exact ⟨set5h h.hh _ _ _ _ _, h.row.off ho (fun k hk e => h.row.ne h.hh (by decide) (by rw [hk]; exact congrArg some e)), h.bel.trans (ho.below h.bel.size (fun k hk => by rw [show k = hB from hk]; exact h.ge)), h.ge⟩

set_option maxHeartbeats 16000000 in
set_option maxRecDepth 100000 in
theorem shaOne (A0 : Option Addr) (c0 : Nat) (m : List Nat) (w : World) (h : Rd8 w (.slice A0 m.length c0) m) (hl : m.length ≤ 1000000000000) :
    Calls Tryd.prog 13 #[.slice A0 m.length c0] w fun e w' => ∃ v, e = .returned v ∧ BR w' w.heap.size v (sha1 m) ∧ Below w.heap.size w w' := by
  obtain ⟨M, hM⟩ : ∃ M, M = m.length := ⟨_, rfl⟩
  have HM := Aside0.mk hM
  have HMEM := Aside0.mk h.1
  rw [← hM] at hl h ⊢
  have HR0 : Aside0 (∀ o, Rd8 (w.alloc o) (.slice A0 M c0) m) := ⟨fun o => h.below (below_alloc (Below.refl _ _) o)⟩
  have HS0 : Aside0 (∀ o, w.heap.size ≤ (w.alloc o).heap.size) := ⟨fun o => by show _ ≤ (w.heap.push _).size; simp⟩
  have HZ := Aside0.mk info75z
  have HI := Aside0.mk info76z
  obtain ⟨Z, hZ⟩ : ∃ Z, Z = ((List.replicate 80 0).map (fun n : Nat => Value.int .u32 (n : Int))).toArray := ⟨_, rfl⟩
  rw [← hZ] at HI
  have HZZ := Aside0.mk hZ
  have hm8 : IntKind.u64.wrap ((M : Int) * 8) = ((M * 8 : Nat) : Int) := by rw [IntKind.wrap_u64]; omega
  obtain ⟨M8, hM8⟩ : ∃ M8, M8 = M * 8 := ⟨_, rfl⟩
  rw [← hM8] at hm8
  have HM8 := Aside0.mk hM8
  have hzl : zc M ≤ 63 := by unfold zc; omega
  clear h hM hM8 hZ
  go_enter Tryd.func13, Tryd.ntmps13
  go_wp2_with (first
    | ((with_reducible refine gate_dst (N := 24) rfl ?_)
       refine appr_op rfl (.tmp 22) (.tmp 23) rfl _ w.heap.size (.slice (some ⟨w.heap.size, 0, none⟩) 0 0) (.slice A0 M c0) [] m rfl rfl (BQ.empty w w.heap.size (Nat.le_refl _)) (HR0.out _) (by rw [← HM.out]; simp only [List.length_nil]; omega) (HS0.out _) ?_
       intro v2 w2 hq hg hat
       rw [List.nil_append] at hq
       obtain ⟨A2, c2, rfl, hc2⟩ := hq.form
       rw [← HM.out] at hq hc2 ⊢
       have HQ := Aside0.mk hq
       have HB : Aside0 (Below w.heap.size w w2) := ⟨(below_alloc (Below.refl _ _) _).grown hg (HS0.out _) (fun k hk => by have h9 : some w.heap.size = some k := hk; injection h9 with h9; omega)⟩
       have HLEN : Aside0 ((m).length = M) := ⟨HM.out.symm⟩
       have HQA : Aside0 (∀ o, BQ (w2.alloc o) w.heap.size (.slice A2 M c2) (m)) := ⟨fun o => HQ.out.off (Off.of_below (below_alloc (Below.refl _ _) o) (fun _ => False)) (fun _ _ h => h)⟩
       have HA8 : Aside0 (At8 (w2.alloc (.cells #[.int .u8 (128)] 5)) w2.heap.size 0 [128]) := ⟨by rw [show (128 : Int) = ((128 : Nat) : Int) by omega]; exact at8_new w2 _ (by omega)⟩
       have HSZ : Aside0 (∀ o, w.heap.size ≤ (w2.alloc o).heap.size) := ⟨fun o => Nat.le_trans HB.out.size (by show _ ≤ (w2.heap.push _).size; simp)⟩
       clear hq hg hat HR0 HS0)
    | ((with_reducible refine gate_dst (N := 27) rfl ?_)
       refine app_op rfl (.tmp 25) (.tmp 26) rfl _ w.heap.size (.slice A2 M c2) (m) [128] w2.heap.size 0 1 1 rfl rfl (HQA.out _) HA8.out rfl (by decide) (by rw [HLEN.out]; omega) (HSZ.out _) ?_
       intro v1 w1 hq hg hat
       obtain ⟨A1, c1, rfl, hc1⟩ := hq.form
       have hlen : ((m) ++ [128]).length = M + 1 := by rw [List.length_append, HLEN.out]; rfl
       rw [hlen] at hq hc1 ⊢
       have HQ1 := Aside0.mk hq
       have HB1 : Aside0 (Below w.heap.size w w1) := ⟨(below_alloc HB.out _).grown hg (HSZ.out _) (fun k hk => (q_typed HQ.out k hk).1)⟩
       clear hq hg hat hlen)
    | fail)
  go_loopg [3] (zc M) (fun g0 v3 w' => ∃ (z n : Nat) (A : Option Addr) (c : Nat), v3 = .slice A n c ∧ n ≤ c ∧ n ≤ 1000000000100 ∧ z + g0 = zc M ∧ Aside0 (n = M + 1 + z) ∧ Aside0 ((m ++ 128 :: List.replicate z 0).length = n) ∧ Aside0 (BQ w' w.heap.size (.slice A n c) (m ++ 128 :: List.replicate z 0)) ∧ Aside0 (Below w.heap.size w w'))
  case atStart => exact ⟨0, M + 1, A1, c1, rfl, hc1, by omega, by omega, ⟨by omega⟩, ⟨by rw [HM.out]; simp⟩, HQ1, HB1⟩
  case round =>
    clear HQ HB HQ1 HB1 HQA HA8 HSZ HLEN hc1 hc2
    obtain ⟨z, n, A, c, rfl, hnc, hn1, hzg, HNE, HLEN, HQ, HB⟩ := hrel
    obtain ⟨q, hq⟩ : ∃ q, q = n % 64 := ⟨_, rfl⟩
    have ht : Int.tmod (n : Int) 64 = (q : Int) := by rw [Int.tmod_eq_emod_of_nonneg (by omega)]; omega
    have hq64 : q < 64 := by omega
    have HQQ := Aside0.mk hq
    clear hq
    by_cases hz : z < zc M
    · have hne : ((q : Int) != 56) = true := bne_iff_ne.2 (by have h1 := HNE.out; have h3 := HQQ.out; unfold zc at hz; omega)
      have HQA : Aside0 (∀ o, BQ (wr.alloc o) w.heap.size (.slice A n c) (m ++ 128 :: List.replicate z 0)) := ⟨fun o => HQ.out.off (Off.of_below (below_alloc (Below.refl _ _) o) (fun _ => False)) (fun _ _ h => h)⟩
      have HA8 : Aside0 (At8 (wr.alloc (.cells #[.int .u8 (0)] 5)) wr.heap.size 0 [0]) := ⟨by rw [show (0 : Int) = ((0 : Nat) : Int) by omega]; exact at8_new wr _ (by omega)⟩
      have HSZ : Aside0 (∀ o, w.heap.size ≤ (wr.alloc o).heap.size) := ⟨fun o => Nat.le_trans HB.out.size (by show _ ≤ (wr.heap.push _).size; simp)⟩
      go_wp2_with (first
        | ((with_reducible refine gate_dst (N := 34) rfl ?_)
           refine app_op rfl (.tmp 32) (.tmp 33) rfl _ w.heap.size (.slice A n c) (m ++ 128 :: List.replicate z 0) [0] wr.heap.size 0 1 1 rfl rfl (HQA.out _) HA8.out rfl (by decide) (by rw [HLEN.out]; omega) (HSZ.out _) ?_
           intro v1 w1 hq hg hat
           obtain ⟨A1, c1, rfl, hc1⟩ := hq.form
           have hlen : ((m ++ 128 :: List.replicate z 0) ++ [0]).length = n + 1 := by rw [List.length_append, HLEN.out]; rfl
           rw [hlen] at hq hc1 ⊢
           have HQ1 := Aside0.mk hq
           have HB1 : Aside0 (Below w.heap.size w w1) := ⟨(below_alloc HB.out _).grown hg (HSZ.out _) (fun k hk => (q_typed HQ.out k hk).1)⟩
           clear hq hg hat hlen)
        | fail)
      go_roundg (zc M - (z + 1))
      case measure => omega
      case rel =>
        have e1 : (m ++ 128 :: List.replicate z 0) ++ [0] = m ++ 128 :: List.replicate (z + 1) 0 := by rw [List.replicate_succ']; simp
        have h1 := HQ1.out
        rw [e1] at h1
        exact ⟨z + 1, n + 1, A1, c1, rfl, hc1, by have h1 := HNE.out; omega, by omega, ⟨by have := HNE.out; omega⟩, ⟨by rw [← e1, List.length_append, HLEN.out]; rfl⟩, ⟨h1⟩, HB1⟩
    · obtain rfl : z = zc M := by omega
      have hne : ((q : Int) != 56) = false := by
        have : q = 56 := by have h1 := HNE.out; have h3 := HQQ.out; unfold zc at h1; omega
        rw [this]; rfl
      clear hz
      go_wp2_with fail
      obtain ⟨L0, hL0⟩ : ∃ L0, L0 = m ++ 128 :: List.replicate (zc M) 0 := ⟨_, rfl⟩
      rw [← hL0] at HQ HLEN
      have HL0 := Aside0.mk hL0
      have HN0 : Aside0 (n = M + 1 + zc M ∧ L0.length = n) := ⟨HNE.out, HLEN.out⟩
      clear hL0 ht hne hq64 HQQ hzg
      go_loopg [3, 5] 8 (fun g0 v3 v5 w' => ∃ (k n1 : Nat) (i : Int) (A : Option Addr) (c : Nat), v3 = .slice A n1 c ∧ v5 = .int .i64 i ∧ k + g0 = 8 ∧ n1 ≤ c ∧ n1 ≤ 1000000000200 ∧ Aside0 (i = 56 - 8 * (k : Int)) ∧ Aside0 (n1 = n + k) ∧ Aside0 ((L0 ++ (be8 M8).take k).length = n1) ∧ Aside0 (BQ w' w.heap.size (.slice A n1 c) (L0 ++ (be8 M8).take k)) ∧ Aside0 (Below w.heap.size w w'))
      case atStart => exact ⟨0, n, 56, A, c, rfl, rfl, by omega, hnc, by omega, ⟨by omega⟩, ⟨by omega⟩, ⟨by simpa using HLEN.out⟩, ⟨by simpa using HQ.out⟩, HB⟩
      case round =>
        clear HQ HB HLEN hnc HNE
        obtain ⟨k, n1, i, A, c, rfl, rfl, hkg, hnc, hn2, HI8, HNE, HLEN, HQ, HB⟩ := hrel
        obtain rfl | rfl | rfl | rfl | rfl | rfl | rfl | rfl | rfl : k = 0 ∨ k = 1 ∨ k = 2 ∨ k = 3 ∨ k = 4 ∨ k = 5 ∨ k = 6 ∨ k = 7 ∨ k = 8 := by omega
        · obtain rfl : i = 56 := by have := HI8.out; omega
          have HQA : Aside0 (∀ o, BQ (wr.alloc o) w.heap.size (.slice A n1 c) (L0 ++ (be8 M8).take 0)) := ⟨fun o => HQ.out.off (Off.of_below (below_alloc (Below.refl _ _) o) (fun _ => False)) (fun _ _ h => h)⟩
          have HA8 : Aside0 (At8 (wr.alloc (.cells #[.int .u8 ((M8 : Int) / 72057594037927936 % 256)] 5)) wr.heap.size 0 [M8 / 72057594037927936 % 256]) := ⟨by rw [show ((M8 : Int) / 72057594037927936 % 256 : Int) = ((M8 / 72057594037927936 % 256 : Nat) : Int) by omega]; exact at8_new wr _ (by omega)⟩
          have HSZ : Aside0 (∀ o, w.heap.size ≤ (wr.alloc o).heap.size) := ⟨fun o => Nat.le_trans HB.out.size (by show _ ≤ (wr.heap.push _).size; simp)⟩
          go_wp2_with (first
            | ((with_reducible refine gate_dst (N := 50) rfl ?_)
               refine app_op rfl (.tmp 43) (.tmp 49) rfl _ w.heap.size (.slice A n1 c) (L0 ++ (be8 M8).take 0) [M8 / 72057594037927936 % 256] wr.heap.size 0 1 1 rfl rfl (HQA.out _) HA8.out rfl (by decide) (by rw [HLEN.out]; omega) (HSZ.out _) ?_
               intro v1 w1 hq hg hat
               obtain ⟨A1, c1, rfl, hc1⟩ := hq.form
               have hlen : ((L0 ++ (be8 M8).take 0) ++ [M8 / 72057594037927936 % 256]).length = n1 + 1 := by rw [List.length_append, HLEN.out]; rfl
               rw [hlen] at hq hc1 ⊢
               have HQ1 := Aside0.mk hq
               have HB1 : Aside0 (Below w.heap.size w w1) := ⟨(below_alloc HB.out _).grown hg (HSZ.out _) (fun k hk => (q_typed HQ.out k hk).1)⟩
               clear hq hg hat hlen)
            | fail)
          go_roundg (8 - 1)
          case measure => omega
          case rel =>
            have e1 : (L0 ++ (be8 M8).take 0) ++ [M8 / 72057594037927936 % 256] = L0 ++ (be8 M8).take 1 := by rw [List.append_assoc]; rfl
            have h1 := HQ1.out
            rw [e1] at h1
            exact ⟨1, n1 + 1, _, A1, c1, rfl, rfl, by omega, hc1, by have h1 := HNE.out; omega, ⟨by omega⟩, ⟨by have := HNE.out; omega⟩, ⟨by rw [← e1, List.length_append, HLEN.out]; rfl⟩, ⟨h1⟩, HB1⟩
        · obtain rfl : i = 48 := by have := HI8.out; omega
          have HQA : Aside0 (∀ o, BQ (wr.alloc o) w.heap.size (.slice A n1 c) (L0 ++ (be8 M8).take 1)) := ⟨fun o => HQ.out.off (Off.of_below (below_alloc (Below.refl _ _) o) (fun _ => False)) (fun _ _ h => h)⟩
          have HA8 : Aside0 (At8 (wr.alloc (.cells #[.int .u8 ((M8 : Int) / 281474976710656 % 256)] 5)) wr.heap.size 0 [M8 / 281474976710656 % 256]) := ⟨by rw [show ((M8 : Int) / 281474976710656 % 256 : Int) = ((M8 / 281474976710656 % 256 : Nat) : Int) by omega]; exact at8_new wr _ (by omega)⟩
          have HSZ : Aside0 (∀ o, w.heap.size ≤ (wr.alloc o).heap.size) := ⟨fun o => Nat.le_trans HB.out.size (by show _ ≤ (wr.heap.push _).size; simp)⟩
          go_wp2_with (first
            | ((with_reducible refine gate_dst (N := 50) rfl ?_)
               refine app_op rfl (.tmp 43) (.tmp 49) rfl _ w.heap.size (.slice A n1 c) (L0 ++ (be8 M8).take 1) [M8 / 281474976710656 % 256] wr.heap.size 0 1 1 rfl rfl (HQA.out _) HA8.out rfl (by decide) (by rw [HLEN.out]; omega) (HSZ.out _) ?_
               intro v1 w1 hq hg hat
               obtain ⟨A1, c1, rfl, hc1⟩ := hq.form
               have hlen : ((L0 ++ (be8 M8).take 1) ++ [M8 / 281474976710656 % 256]).length = n1 + 1 := by rw [List.length_append, HLEN.out]; rfl
               rw [hlen] at hq hc1 ⊢
               have HQ1 := Aside0.mk hq
               have HB1 : Aside0 (Below w.heap.size w w1) := ⟨(below_alloc HB.out _).grown hg (HSZ.out _) (fun k hk => (q_typed HQ.out k hk).1)⟩
               clear hq hg hat hlen)
            | fail)
          go_roundg (8 - 2)
          case measure => omega
          case rel =>
            have e1 : (L0 ++ (be8 M8).take 1) ++ [M8 / 281474976710656 % 256] = L0 ++ (be8 M8).take 2 := by rw [List.append_assoc]; rfl
            have h1 := HQ1.out
            rw [e1] at h1
            exact ⟨2, n1 + 1, _, A1, c1, rfl, rfl, by omega, hc1, by have h1 := HNE.out; omega, ⟨by omega⟩, ⟨by have := HNE.out; omega⟩, ⟨by rw [← e1, List.length_append, HLEN.out]; rfl⟩, ⟨h1⟩, HB1⟩
        · obtain rfl : i = 40 := by have := HI8.out; omega
          have HQA : Aside0 (∀ o, BQ (wr.alloc o) w.heap.size (.slice A n1 c) (L0 ++ (be8 M8).take 2)) := ⟨fun o => HQ.out.off (Off.of_below (below_alloc (Below.refl _ _) o) (fun _ => False)) (fun _ _ h => h)⟩
          have HA8 : Aside0 (At8 (wr.alloc (.cells #[.int .u8 ((M8 : Int) / 1099511627776 % 256)] 5)) wr.heap.size 0 [M8 / 1099511627776 % 256]) := ⟨by rw [show ((M8 : Int) / 1099511627776 % 256 : Int) = ((M8 / 1099511627776 % 256 : Nat) : Int) by omega]; exact at8_new wr _ (by omega)⟩
          have HSZ : Aside0 (∀ o, w.heap.size ≤ (wr.alloc o).heap.size) := ⟨fun o => Nat.le_trans HB.out.size (by show _ ≤ (wr.heap.push _).size; simp)⟩
          go_wp2_with (first
            | ((with_reducible refine gate_dst (N := 50) rfl ?_)
               refine app_op rfl (.tmp 43) (.tmp 49) rfl _ w.heap.size (.slice A n1 c) (L0 ++ (be8 M8).take 2) [M8 / 1099511627776 % 256] wr.heap.size 0 1 1 rfl rfl (HQA.out _) HA8.out rfl (by decide) (by rw [HLEN.out]; omega) (HSZ.out _) ?_
               intro v1 w1 hq hg hat
               obtain ⟨A1, c1, rfl, hc1⟩ := hq.form
               have hlen : ((L0 ++ (be8 M8).take 2) ++ [M8 / 1099511627776 % 256]).length = n1 + 1 := by rw [List.length_append, HLEN.out]; rfl
               rw [hlen] at hq hc1 ⊢
               have HQ1 := Aside0.mk hq
               have HB1 : Aside0 (Below w.heap.size w w1) := ⟨(below_alloc HB.out _).grown hg (HSZ.out _) (fun k hk => (q_typed HQ.out k hk).1)⟩
               clear hq hg hat hlen)
            | fail)
          go_roundg (8 - 3)
          case measure => omega
          case rel =>
            have e1 : (L0 ++ (be8 M8).take 2) ++ [M8 / 1099511627776 % 256] = L0 ++ (be8 M8).take 3 := by rw [List.append_assoc]; rfl
            have h1 := HQ1.out
            rw [e1] at h1
            exact ⟨3, n1 + 1, _, A1, c1, rfl, rfl, by omega, hc1, by have h1 := HNE.out; omega, ⟨by omega⟩, ⟨by have := HNE.out; omega⟩, ⟨by rw [← e1, List.length_append, HLEN.out]; rfl⟩, ⟨h1⟩, HB1⟩
        · obtain rfl : i = 32 := by have := HI8.out; omega
          have HQA : Aside0 (∀ o, BQ (wr.alloc o) w.heap.size (.slice A n1 c) (L0 ++ (be8 M8).take 3)) := ⟨fun o => HQ.out.off (Off.of_below (below_alloc (Below.refl _ _) o) (fun _ => False)) (fun _ _ h => h)⟩
          have HA8 : Aside0 (At8 (wr.alloc (.cells #[.int .u8 ((M8 : Int) / 4294967296 % 256)] 5)) wr.heap.size 0 [M8 / 4294967296 % 256]) := ⟨by rw [show ((M8 : Int) / 4294967296 % 256 : Int) = ((M8 / 4294967296 % 256 : Nat) : Int) by omega]; exact at8_new wr _ (by omega)⟩
          have HSZ : Aside0 (∀ o, w.heap.size ≤ (wr.alloc o).heap.size) := ⟨fun o => Nat.le_trans HB.out.size (by show _ ≤ (wr.heap.push _).size; simp)⟩
          go_wp2_with (first
            | ((with_reducible refine gate_dst (N := 50) rfl ?_)
               refine app_op rfl (.tmp 43) (.tmp 49) rfl _ w.heap.size (.slice A n1 c) (L0 ++ (be8 M8).take 3) [M8 / 4294967296 % 256] wr.heap.size 0 1 1 rfl rfl (HQA.out _) HA8.out rfl (by decide) (by rw [HLEN.out]; omega) (HSZ.out _) ?_
               intro v1 w1 hq hg hat
               obtain ⟨A1, c1, rfl, hc1⟩ := hq.form
               have hlen : ((L0 ++ (be8 M8).take 3) ++ [M8 / 4294967296 % 256]).length = n1 + 1 := by rw [List.length_append, HLEN.out]; rfl
               rw [hlen] at hq hc1 ⊢
               have HQ1 := Aside0.mk hq
               have HB1 : Aside0 (Below w.heap.size w w1) := ⟨(below_alloc HB.out _).grown hg (HSZ.out _) (fun k hk => (q_typed HQ.out k hk).1)⟩
               clear hq hg hat hlen)
            | fail)
          go_roundg (8 - 4)
          case measure => omega
          case rel =>
            have e1 : (L0 ++ (be8 M8).take 3) ++ [M8 / 4294967296 % 256] = L0 ++ (be8 M8).take 4 := by rw [List.append_assoc]; rfl
            have h1 := HQ1.out
            rw [e1] at h1
            exact ⟨4, n1 + 1, _, A1, c1, rfl, rfl, by omega, hc1, by have h1 := HNE.out; omega, ⟨by omega⟩, ⟨by have := HNE.out; omega⟩, ⟨by rw [← e1, List.length_append, HLEN.out]; rfl⟩, ⟨h1⟩, HB1⟩
        · obtain rfl : i = 24 := by have := HI8.out; omega
          have HQA : Aside0 (∀ o, BQ (wr.alloc o) w.heap.size (.slice A n1 c) (L0 ++ (be8 M8).take 4)) := ⟨fun o => HQ.out.off (Off.of_below (below_alloc (Below.refl _ _) o) (fun _ => False)) (fun _ _ h => h)⟩
          have HA8 : Aside0 (At8 (wr.alloc (.cells #[.int .u8 ((M8 : Int) / 16777216 % 256)] 5)) wr.heap.size 0 [M8 / 16777216 % 256]) := ⟨by rw [show ((M8 : Int) / 16777216 % 256 : Int) = ((M8 / 16777216 % 256 : Nat) : Int) by omega]; exact at8_new wr _ (by omega)⟩
          have HSZ : Aside0 (∀ o, w.heap.size ≤ (wr.alloc o).heap.size) := ⟨fun o => Nat.le_trans HB.out.size (by show _ ≤ (wr.heap.push _).size; simp)⟩
          go_wp2_with (first
            | ((with_reducible refine gate_dst (N := 50) rfl ?_)
               refine app_op rfl (.tmp 43) (.tmp 49) rfl _ w.heap.size (.slice A n1 c) (L0 ++ (be8 M8).take 4) [M8 / 16777216 % 256] wr.heap.size 0 1 1 rfl rfl (HQA.out _) HA8.out rfl (by decide) (by rw [HLEN.out]; omega) (HSZ.out _) ?_
               intro v1 w1 hq hg hat
               obtain ⟨A1, c1, rfl, hc1⟩ := hq.form
               have hlen : ((L0 ++ (be8 M8).take 4) ++ [M8 / 16777216 % 256]).length = n1 + 1 := by rw [List.length_append, HLEN.out]; rfl
               rw [hlen] at hq hc1 ⊢
               have HQ1 := Aside0.mk hq
               have HB1 : Aside0 (Below w.heap.size w w1) := ⟨(below_alloc HB.out _).grown hg (HSZ.out _) (fun k hk => (q_typed HQ.out k hk).1)⟩
               clear hq hg hat hlen)
            | fail)
          go_roundg (8 - 5)
          case measure => omega
          case rel =>
            have e1 : (L0 ++ (be8 M8).take 4) ++ [M8 / 16777216 % 256] = L0 ++ (be8 M8).take 5 := by rw [List.append_assoc]; rfl
            have h1 := HQ1.out
            rw [e1] at h1
            exact ⟨5, n1 + 1, _, A1, c1, rfl, rfl, by omega, hc1, by have h1 := HNE.out; omega, ⟨by omega⟩, ⟨by have := HNE.out; omega⟩, ⟨by rw [← e1, List.length_append, HLEN.out]; rfl⟩, ⟨h1⟩, HB1⟩
        · obtain rfl : i = 16 := by have := HI8.out; omega
          have HQA : Aside0 (∀ o, BQ (wr.alloc o) w.heap.size (.slice A n1 c) (L0 ++ (be8 M8).take 5)) := ⟨fun o => HQ.out.off (Off.of_below (below_alloc (Below.refl _ _) o) (fun _ => False)) (fun _ _ h => h)⟩
          have HA8 : Aside0 (At8 (wr.alloc (.cells #[.int .u8 ((M8 : Int) / 65536 % 256)] 5)) wr.heap.size 0 [M8 / 65536 % 256]) := ⟨by rw [show ((M8 : Int) / 65536 % 256 : Int) = ((M8 / 65536 % 256 : Nat) : Int) by omega]; exact at8_new wr _ (by omega)⟩
          have HSZ : Aside0 (∀ o, w.heap.size ≤ (wr.alloc o).heap.size) := ⟨fun o => Nat.le_trans HB.out.size (by show _ ≤ (wr.heap.push _).size; simp)⟩
          go_wp2_with (first
            | ((with_reducible refine gate_dst (N := 50) rfl ?_)
               refine app_op rfl (.tmp 43) (.tmp 49) rfl _ w.heap.size (.slice A n1 c) (L0 ++ (be8 M8).take 5) [M8 / 65536 % 256] wr.heap.size 0 1 1 rfl rfl (HQA.out _) HA8.out rfl (by decide) (by rw [HLEN.out]; omega) (HSZ.out _) ?_
               intro v1 w1 hq hg hat
               obtain ⟨A1, c1, rfl, hc1⟩ := hq.form
               have hlen : ((L0 ++ (be8 M8).take 5) ++ [M8 / 65536 % 256]).length = n1 + 1 := by rw [List.length_append, HLEN.out]; rfl
               rw [hlen] at hq hc1 ⊢
               have HQ1 := Aside0.mk hq
               have HB1 : Aside0 (Below w.heap.size w w1) := ⟨(below_alloc HB.out _).grown hg (HSZ.out _) (fun k hk => (q_typed HQ.out k hk).1)⟩
               clear hq hg hat hlen)
            | fail)
          go_roundg (8 - 6)
          case measure => omega
          case rel =>
            have e1 : (L0 ++ (be8 M8).take 5) ++ [M8 / 65536 % 256] = L0 ++ (be8 M8).take 6 := by rw [List.append_assoc]; rfl
            have h1 := HQ1.out
            rw [e1] at h1
            exact ⟨6, n1 + 1, _, A1, c1, rfl, rfl, by omega, hc1, by have h1 := HNE.out; omega, ⟨by omega⟩, ⟨by have := HNE.out; omega⟩, ⟨by rw [← e1, List.length_append, HLEN.out]; rfl⟩, ⟨h1⟩, HB1⟩
        · obtain rfl : i = 8 := by have := HI8.out; omega
          have HQA : Aside0 (∀ o, BQ (wr.alloc o) w.heap.size (.slice A n1 c) (L0 ++ (be8 M8).take 6)) := ⟨fun o => HQ.out.off (Off.of_below (below_alloc (Below.refl _ _) o) (fun _ => False)) (fun _ _ h => h)⟩
          have HA8 : Aside0 (At8 (wr.alloc (.cells #[.int .u8 ((M8 : Int) / 256 % 256)] 5)) wr.heap.size 0 [M8 / 256 % 256]) := ⟨by rw [show ((M8 : Int) / 256 % 256 : Int) = ((M8 / 256 % 256 : Nat) : Int) by omega]; exact at8_new wr _ (by omega)⟩
          have HSZ : Aside0 (∀ o, w.heap.size ≤ (wr.alloc o).heap.size) := ⟨fun o => Nat.le_trans HB.out.size (by show _ ≤ (wr.heap.push _).size; simp)⟩
          go_wp2_with (first
            | ((with_reducible refine gate_dst (N := 50) rfl ?_)
               refine app_op rfl (.tmp 43) (.tmp 49) rfl _ w.heap.size (.slice A n1 c) (L0 ++ (be8 M8).take 6) [M8 / 256 % 256] wr.heap.size 0 1 1 rfl rfl (HQA.out _) HA8.out rfl (by decide) (by rw [HLEN.out]; omega) (HSZ.out _) ?_
               intro v1 w1 hq hg hat
               obtain ⟨A1, c1, rfl, hc1⟩ := hq.form
               have hlen : ((L0 ++ (be8 M8).take 6) ++ [M8 / 256 % 256]).length = n1 + 1 := by rw [List.length_append, HLEN.out]; rfl
               rw [hlen] at hq hc1 ⊢
               have HQ1 := Aside0.mk hq
               have HB1 : Aside0 (Below w.heap.size w w1) := ⟨(below_alloc HB.out _).grown hg (HSZ.out _) (fun k hk => (q_typed HQ.out k hk).1)⟩
               clear hq hg hat hlen)
            | fail)
          go_roundg (8 - 7)
          case measure => omega
          case rel =>
            have e1 : (L0 ++ (be8 M8).take 6) ++ [M8 / 256 % 256] = L0 ++ (be8 M8).take 7 := by rw [List.append_assoc]; rfl
            have h1 := HQ1.out
            rw [e1] at h1
            exact ⟨7, n1 + 1, _, A1, c1, rfl, rfl, by omega, hc1, by have h1 := HNE.out; omega, ⟨by omega⟩, ⟨by have := HNE.out; omega⟩, ⟨by rw [← e1, List.length_append, HLEN.out]; rfl⟩, ⟨h1⟩, HB1⟩
        · obtain rfl : i = 0 := by have := HI8.out; omega
          have HQA : Aside0 (∀ o, BQ (wr.alloc o) w.heap.size (.slice A n1 c) (L0 ++ (be8 M8).take 7)) := ⟨fun o => HQ.out.off (Off.of_below (below_alloc (Below.refl _ _) o) (fun _ => False)) (fun _ _ h => h)⟩
          have HA8 : Aside0 (At8 (wr.alloc (.cells #[.int .u8 ((M8 : Int) % 256)] 5)) wr.heap.size 0 [M8 % 256]) := ⟨by rw [show ((M8 : Int) % 256 : Int) = ((M8 % 256 : Nat) : Int) by omega]; exact at8_new wr _ (by omega)⟩
          have HSZ : Aside0 (∀ o, w.heap.size ≤ (wr.alloc o).heap.size) := ⟨fun o => Nat.le_trans HB.out.size (by show _ ≤ (wr.heap.push _).size; simp)⟩
          go_wp2_with (first
            | ((with_reducible refine gate_dst (N := 50) rfl ?_)
               refine app_op rfl (.tmp 43) (.tmp 49) rfl _ w.heap.size (.slice A n1 c) (L0 ++ (be8 M8).take 7) [M8 % 256] wr.heap.size 0 1 1 rfl rfl (HQA.out _) HA8.out rfl (by decide) (by rw [HLEN.out]; omega) (HSZ.out _) ?_
               intro v1 w1 hq hg hat
               obtain ⟨A1, c1, rfl, hc1⟩ := hq.form
               have hlen : ((L0 ++ (be8 M8).take 7) ++ [M8 % 256]).length = n1 + 1 := by rw [List.length_append, HLEN.out]; rfl
               rw [hlen] at hq hc1 ⊢
               have HQ1 := Aside0.mk hq
               have HB1 : Aside0 (Below w.heap.size w w1) := ⟨(below_alloc HB.out _).grown hg (HSZ.out _) (fun k hk => (q_typed HQ.out k hk).1)⟩
               clear hq hg hat hlen)
            | fail)
          go_roundg (8 - 8)
          case measure => omega
          case rel =>
            have e1 : (L0 ++ (be8 M8).take 7) ++ [M8 % 256] = L0 ++ (be8 M8).take 8 := by rw [List.append_assoc]; rfl
            have h1 := HQ1.out
            rw [e1] at h1
            exact ⟨8, n1 + 1, _, A1, c1, rfl, rfl, by omega, hc1, by have h1 := HNE.out; omega, ⟨by omega⟩, ⟨by have := HNE.out; omega⟩, ⟨by rw [← e1, List.length_append, HLEN.out]; rfl⟩, ⟨h1⟩, HB1⟩
        · obtain rfl : i = -8 := by have := HI8.out; omega
          obtain ⟨X, hX⟩ : ∃ X, X = m ++ padding m := ⟨_, rfl⟩
          have hXe : L0 ++ (be8 M8).take 8 = X := by
            rw [hX, HL0.out, HM8.out, HM.out]
            exact List.append_assoc _ _ _
          rw [hXe] at HQ HLEN
          have HX := Aside0.mk hX
          have hXm : ∀ x ∈ X, x < 256 := fun x hx => by
            rw [hX] at hx
            rcases List.mem_append.1 hx with h1 | h1
            · exact HMEM.out x h1
            · exact padding_lt m x h1
          have HXM := Aside0.mk hXm
          have HMD : Aside0 (n1 % 64 = 0 ∧ 64 ≤ n1) := ⟨by rw [← HLEN.out, hX, List.length_append]; have h1 := padded_len m; have h2 := padding_len m; omega⟩
          clear hXe hX hXm hkg HNE
          go_wp2_with (first
            | ((with_reducible refine gate_dst (N := 6) rfl ?_); refine box_event ?hg (N := 6) ?hd (cs := #[.int .u32 0, .int .u32 0, .int .u32 0, .int .u32 0, .int .u32 0]) (t := 51) ?hr ?_; (case hd => rfl); (case hg => rfl); (case hr => exact exec_alloc HZ.out rfl _ _); intro hB hgB wb hbox hbel
               have HGE : Aside0 (w.heap.size ≤ hB) := ⟨by rw [hgB]; exact HB.out.size⟩
               have HBX := Aside0.mk hbox
               have HQb : Aside0 (BQ wb w.heap.size (.slice A n1 c) X) := ⟨HQ.out.off (Off.of_below hbel (fun _ => False)) (fun _ _ h => h)⟩
               have HBb : Aside0 (Below w.heap.size w wb) := ⟨HB.out.trans (hbel.mono HB.out.size)⟩
               have HT : Aside0 (wb.there hB 0 5) := ⟨there5 hbox (by simp)⟩
               clear hbox hbel hgB)
            | ((with_reducible refine gate_op (x := .store 51 (.tmp 6) (.tmp 51)) rfl ?_)
               refine wpList_store_mid rfl 51 (.tmp 6) (.tmp 51) rfl hB 0 init5 rfl rfl HT.out info75 init5_all ?_
               have HBK : Aside0 (Bk w (wb.setCells hB 0 init5.toList) hB init (.slice A n1 c) X) := ⟨⟨set5h HBX.out _ _ _ _ _, HQb.out.off (Off.setCells wb hB _ 0) (fun k hk e => HQb.out.ne HBX.out (by decide) (by rw [hk]; exact congrArg some e)), HBb.out.trans ((Off.setCells wb hB _ 0).below HBb.out.size (fun k hk => by rw [show k = hB from hk]; exact HGE.out)), HGE.out⟩⟩
               generalize wb.setCells hB 0 init5.toList = wc at HBK ⊢
               clear HBX HQb HBb HT)
            | fail)
          clear HQ HB
          go_loopg [7] n1 (fun g0 v7 w' => ∃ (j a : Nat), v7 = .int .i64 (a : Int) ∧ a ≤ n1 ∧ a + g0 = n1 ∧ Aside0 (a = 64 * j) ∧ Aside0 (Bk w w' hB (blocks j init X) (.slice A n1 c) X))
          case atStart => exact ⟨0, 0, rfl, by omega, by omega, ⟨rfl⟩, HBK⟩
          case round =>
            clear HBK
            obtain ⟨j, ao, rfl, han, hag, HAJ, HBK⟩ := hrel
            by_cases ha : ao < n1
            · obtain ⟨S, hS⟩ : ∃ S, S = blocks j init X := ⟨_, rfl⟩
              rw [← hS] at HBK
              have hSok : S.Ok := by rw [hS]; exact blocks_ok init_ok _ _
              have HSK := Aside0.mk hSok
              have HSE := Aside0.mk hS
              obtain ⟨g, o, c2, hv, hnc2, hgl, hgo, hat⟩ := HBK.out.row.at (by rw [HLEN.out]; omega) HXM.out
              rw [HLEN.out] at hv
              injection hv with hv1 hv2 hv3
              subst hv1
              subst hv3
              have HAT : Aside0 (∀ W S', Bk w W hB S' (.slice (some ⟨g, o, none⟩) n1 c) X → At8 W g o X) := ⟨fun W S' hb => by
                obtain ⟨g', o', c', hv', _, _, _, hat'⟩ := hb.row.at (by rw [HLEN.out]; omega) HXM.out
                injection hv' with hv1 _ _
                injection hv1 with hv1
                injection hv1 with hv1 hv2
                subst hv1
                subst hv2
                exact hat'⟩
              have ha64 : ao + 64 ≤ n1 := by have h1 := HMD.out.1; have h2 := HAJ.out; omega
              obtain ⟨p, hp⟩ : ∃ p, p = (X.drop ao).take 64 := ⟨_, rfl⟩
              have HP : Aside0 (p.length = 64 ∧ ∀ k, k < 64 → p[k]? = X[ao + k]?) := ⟨by rw [hp, List.length_take, List.length_drop, HLEN.out]; omega, fun k hk => by rw [hp, List.getElem?_take, if_pos hk, List.getElem?_drop]⟩
              have HPM : Aside0 (∀ x ∈ p, x < 256) := ⟨fun x hx => HXM.out x (by rw [hp] at hx; exact List.mem_of_mem_drop (List.mem_of_mem_take hx))⟩
              have HPE := Aside0.mk hp
              clear hS hSok hgl hgo hat hnc2 hp
              go_wp2_with (first
                | ((with_reducible refine gate_dst (N := 8) rfl ?_); refine box_event ?hg (N := 8) ?hd (cs := Z) (t := 52) ?hr ?_; (case hd => rfl); (case hg => rfl); (case hr => exact exec_alloc HI.out rfl _ _); intro zb hgz wz hbox hbel
                   have HZG : Aside0 (w.heap.size ≤ zb) := ⟨by rw [hgz]; exact HBK.out.bel.size⟩
                   have HW : Aside0 (W32 wz zb 52 (ws1 p 0)) := ⟨by rw [HZZ.out] at hbox; exact hbox⟩
                   have HBZ : Aside0 (Bk w wz hB S (.slice (some ⟨g, o, none⟩) n1 c) X) := ⟨HBK.out.below hbel⟩
                   clear hbox hbel hgz HBK)
                | fail)
              go_loopg [58] 16 (fun g0 v58 w' => ∃ (i : Nat), v58 = .int .i64 (i : Int) ∧ i + g0 = 16 ∧ Aside0 (W32 w' zb 52 (ws1 p i)) ∧ Aside0 (Bk w w' hB S (.slice (some ⟨g, o, none⟩) n1 c) X))
              case atStart => exact ⟨0, rfl, by omega, HW, HBZ⟩
              case round =>
                clear HW HBZ
                obtain ⟨i, rfl, hig, HW, HBZ⟩ := hrel
                by_cases hi : i < 16
                · obtain ⟨k, hk⟩ : ∃ k, k = ao + 4 * i := ⟨_, rfl⟩
                  have hsl : ∀ W, (Instr.slice 22 (.slice (some ⟨g, o, none⟩) n1 c) (some (.int .i64 ((ao : Int) + 4 * (i : Int)))) none none).run Tryd.prog W = .ok (.slice (some ⟨g, o + k, none⟩) (n1 - k) (c - k)) W := fun W => by
                    have h1 := cutfrom (some ⟨g, o, none⟩) n1 c k (by omega) W
                    rw [if_neg (by omega), show ((k : Nat) : Int) = (ao : Int) + 4 * (i : Int) by omega] at h1
                    rw [h1, Option.map_some, Lib.addr_add]
                    simp
                  have hgx : ∀ t, t < 4 → ∃ x : Nat, wr.cell? ⟨g, o + k + t, none⟩ = some (.int .u8 (x : Int)) ∧ x < 256 ∧ p.getD (4 * i + t) 0 = x := fun t ht => by
                    have hlt : k + t < X.length := by rw [HLEN.out]; omega
                    have h1 : X[k + t]? = some X[k + t] := List.getElem?_eq_getElem hlt
                    have h2 := HP.out.2 (4 * i + t) (by omega)
                    rw [show ao + (4 * i + t) = k + t by omega, h1] at h2
                    refine ⟨X[k + t], ?_, HXM.out _ (List.getElem_mem hlt), by rw [List.getD_eq_getElem?_getD, h2]; rfl⟩
                    rw [Nat.add_assoc]
                    exact (HAT.out wr S HBZ.out).2 _ _ h1
                  obtain ⟨x0, d0, b0, e0⟩ := hgx 0 (by omega)
                  obtain ⟨x1, d1, b1, e1⟩ := hgx 1 (by omega)
                  obtain ⟨x2, d2, b2, e2⟩ := hgx 2 (by omega)
                  obtain ⟨x3, d3, b3, e3⟩ := hgx 3 (by omega)
                  have hword : word p i = be4 x0 x1 x2 x3 := by unfold word; rw [show 4 * i = 4 * i + 0 by omega, e0, e1, e2, e3]
                  have HWD := Aside0.mk hword
                  have HB32 : Aside0 (Calls Tryd.prog 17 #[.slice (some ⟨g, o + k, none⟩) (n1 - k) (c - k)] wr _) := ⟨big32 g (o + k) (n1 - k) (c - k) x0 x1 x2 x3 wr d0 d1 d2 d3 b0 b1 b2 b3 (by omega)⟩
                  have hzi := idx76 zb 0 i (i : Int) rfl (by omega)
                  rw [Nat.zero_add] at hzi
                  have hck : ¬ c = k := by omega
                  have HKK := Aside0.mk hk
                  obtain ⟨ov, hov, -, -⟩ := (ws1_all HPM.out i).get i (by omega)
                  clear hgx d0 d1 d2 d3 e0 e1 e2 e3 hword hk
                  go_wp2_with (first
                    | (go_at_call 17
                       (with_reducible refine HB32.out.mono ?_)
                       rintro e w1 ⟨rfl, q, rfl⟩
                       have HW1 : Aside0 (W32 (wr.drewN q) zb 52 (ws1 p i)) := ⟨HW.out⟩
                       have HBZ1 : Aside0 (Bk w (wr.drewN q) hB S (.slice (some ⟨g, o, none⟩) n1 c) X) := ⟨HBZ.out.drewN q⟩
                       generalize wr.drewN q = wd at HW1 HBZ1 ⊢
                       have ct := HW1.out.cell i ov hov
                       have ft := HW1.out.frozen i
                       clear hov)
                    | fail)
                  go_roundg (16 - (i + 1))
                  case measure => omega
                  case rel =>
                    refine ⟨i + 1, rfl, by omega, ⟨?_⟩, ⟨HBZ1.out.setz HW1.out HZG.out i _⟩⟩
                    show W32 _ zb 52 ((ws1 p i).set i (word p i))
                    rw [HWD.out]
                    exact HW1.out.set i _
                · obtain rfl : i = 16 := by omega
                  go_wp2_with fail
                  have hA0 := ws1_all HPM.out 16
                  go_loopg [10] 64 (fun g0 v10 w' => ∃ (j m : Nat), v10 = .int .i64 (m : Int) ∧ j + g0 = 64 ∧ Aside0 (m = 16 + j) ∧ Aside0 (W32 w' zb 52 (ws2 p j)) ∧ Aside0 (Bk w w' hB S (.slice (some ⟨g, o, none⟩) n1 c) X))
                  case atStart => exact ⟨0, 16, rfl, by omega, ⟨by omega⟩, HW, HBZ⟩
                  case round =>
                    clear HW HBZ hA0
                    obtain ⟨j2, mi, rfl, hjg, HMJ, HW, HBZ⟩ := hrel
                    by_cases hj : j2 < 64
                    · have hm := HMJ.out
                      have hm80 : (mi : Int) < 80 := by omega
                      obtain ⟨m3, hm3⟩ : ∃ k : Nat, k = 13 + j2 := ⟨_, rfl⟩
                      obtain ⟨m8, hm8'⟩ : ∃ k : Nat, k = 8 + j2 := ⟨_, rfl⟩
                      obtain ⟨m14, hm14⟩ : ∃ k : Nat, k = 2 + j2 := ⟨_, rfl⟩
                      have hw3 : IntKind.i64.wrap ((mi : Int) - 3) = (m3 : Int) := by rw [IntKind.wrap_i64]; omega
                      have hw8 : IntKind.i64.wrap ((mi : Int) - 8) = (m8 : Int) := by rw [IntKind.wrap_i64]; omega
                      have hw14 : IntKind.i64.wrap ((mi : Int) - 14) = (m14 : Int) := by rw [IntKind.wrap_i64]; omega
                      have hw16 : IntKind.i64.wrap ((mi : Int) - 16) = (j2 : Int) := by rw [IntKind.wrap_i64]; omega
                      have hA := ws2_all HPM.out j2
                      obtain ⟨ov, hov, -, -⟩ := hA.get mi (by omega)
                      obtain ⟨x3, q3, b3, g3⟩ := hA.get m3 (by omega)
                      obtain ⟨x8, q8, b8, g8⟩ := hA.get m8 (by omega)
                      obtain ⟨x14, q14, b14, g14⟩ := hA.get m14 (by omega)
                      obtain ⟨x16, q16, b16, g16⟩ := hA.get j2 (by omega)
                      have c3 := HW.out.cell m3 x3 q3
                      have c8 := HW.out.cell m8 x8 q8
                      have c14 := HW.out.cell m14 x14 q14
                      have c16 := HW.out.cell j2 x16 q16
                      have i3 := idx76 zb 0 m3 (m3 : Int) rfl (by omega)
                      have i8 := idx76 zb 0 m8 (m8 : Int) rfl (by omega)
                      have i14 := idx76 zb 0 m14 (m14 : Int) rfl (by omega)
                      have i16 := idx76 zb 0 j2 (j2 : Int) rfl (by omega)
                      have im := idx76 zb 0 mi (mi : Int) rfl (by omega)
                      rw [Nat.zero_add] at i3 i8 i14 i16 im
                      have hx := xor4_eq x3 x8 x14 x16 b3 b8 b14 b16
                      have hxl := xor4_lt b3 b8 b14 b16
                      have hstep : ws2 p (j2 + 1) = (ws2 p j2).set mi (rot1 (xor4 x3 x8 x14 x16)) := by
                        show (ws2 p j2).set (16 + j2) _ = _
                        rw [← hm3, ← hm8', ← hm14, g3, g8, g14, g16, ← hm]
                      have HST := Aside0.mk hstep
                      generalize xor4 x3 x8 x14 x16 = Y at hx hxl HST
                      clear hm hstep hA q3 q8 q14 q16 g3 g8 g14 g16 hm3 hm8' hm14
                      go_wp2_with fail
                      refine wp_region_still_tail 21 (by kernel_rfl) (by kernel_rfl) ?_
                      simp only [List.take_succ_cons, List.take_zero, List.drop_succ_cons, List.drop_zero]
                      repeat still_step
                      still_call (turn1 Y hxl _)
                      repeat still_step
                      refine wpStill_nil ?_
                      change wpList _ _ _ _ _ wr.drew
                      have HW' : Aside0 (W32 wr.drew zb 52 (ws2 p j2)) := ⟨HW.out⟩
                      have HBZ' : Aside0 (Bk w wr.drew hB S (.slice (some ⟨g, o, none⟩) n1 c) X) := ⟨HBZ.out.below (below_drew (Below.refl _ _))⟩
                      clear HW HBZ c3 c8 c14 c16
                      generalize wr.drew = wd at HW' HBZ' ⊢
                      have ct := HW'.out.cell mi ov hov
                      have ft := HW'.out.frozen mi
                      clear hov
                      go_wp2_with fail
                      go_roundg (64 - (j2 + 1))
                      case measure => omega
                      case rel =>
                        refine ⟨j2 + 1, mi + 1, by first | rfl | (congr 1; omega), by omega, ⟨by have := HMJ.out; omega⟩, ⟨?_⟩, ⟨HBZ'.out.setz HW'.out HZG.out mi _⟩⟩
                        rw [HST.out]
                        exact HW'.out.set mi _
                    · obtain rfl : j2 = 64 := by omega
                      obtain rfl : mi = 80 := by have := HMJ.out; omega
                      have hA := ws2_all HPM.out 64
                      obtain ⟨WS, hWS⟩ : ∃ l, l = ws2 p 64 := ⟨_, rfl⟩
                      rw [← hWS] at hA HW
                      have HWS := Aside0.mk hWS
                      have HA := Aside0.mk hA
                      have hh := HBZ.out.hh
                      have c0 : ∀ n, (wr.drewN n).cell? ⟨hB, 0, none⟩ = some (.int .u32 (S.a : Int)) := fun n => (Lib.cell_of_heap hh 0).trans rfl
                      have c1 : ∀ n, (wr.drewN n).cell? ⟨hB, 1, none⟩ = some (.int .u32 (S.b : Int)) := fun n => (Lib.cell_of_heap hh 1).trans rfl
                      have c2 : ∀ n, (wr.drewN n).cell? ⟨hB, 2, none⟩ = some (.int .u32 (S.c : Int)) := fun n => (Lib.cell_of_heap hh 2).trans rfl
                      have c3 : ∀ n, (wr.drewN n).cell? ⟨hB, 3, none⟩ = some (.int .u32 (S.d : Int)) := fun n => (Lib.cell_of_heap hh 3).trans rfl
                      have c4 : ∀ n, (wr.drewN n).cell? ⟨hB, 4, none⟩ = some (.int .u32 (S.e : Int)) := fun n => (Lib.cell_of_heap hh 4).trans rfl
                      have i0 := idx75 hB 0 0 0 rfl (by omega)
                      have i1 := idx75 hB 0 1 1 rfl (by omega)
                      have i2 := idx75 hB 0 2 2 rfl (by omega)
                      have i3 := idx75 hB 0 3 3 rfl (by omega)
                      have i4 := idx75 hB 0 4 4 rfl (by omega)
                      rw [Nat.zero_add] at i0 i1 i2 i3 i4
                      clear hA hWS hjg hj hh HMJ
                      go_wp2_with fail
                      go_quiet (fail)
                      have HW' : Aside0 (W32 (wr.drewN nq) zb 52 WS) := ⟨HW.out⟩
                      have HBZ' : Aside0 (Bk w (wr.drewN nq) hB S (.slice (some ⟨g, o, none⟩) n1 c) X) := ⟨HBZ.out.drewN nq⟩
                      clear HW HBZ c0 c1 c2 c3 c4
                      generalize wr.drewN nq = wd at HW' HBZ' ⊢
                      obtain ⟨cp, hcp⟩ : ∃ cp, cp = c := ⟨_, rfl⟩
                      rw [← hcp] at HBZ'
                      have HCP := Aside0.mk hcp
                      clear hcp
                      obtain ⟨sa, sb, sc, sd, se⟩ := S
                      go_wp2_with fail
                      go_loopg [11, 12, 13, 14, 15, 107] 80 (fun g0 v11 v12 v13 v14 v15 v107 w' => ∃ (i a b c d e : Nat), v11 = .int .u32 (a : Int) ∧ v12 = .int .u32 (b : Int) ∧ v13 = .int .u32 (c : Int) ∧ v14 = .int .u32 (d : Int) ∧ v15 = .int .u32 (e : Int) ∧ v107 = .int .i64 (i : Int) ∧ i + g0 = 80 ∧ Aside0 (W32 w' zb 52 WS) ∧ Aside0 (Bk w w' hB ⟨sa, sb, sc, sd, se⟩ (.slice (some ⟨g, o, none⟩) n1 cp) X) ∧ Aside0 (rnds WS ⟨sa, sb, sc, sd, se⟩ i = ⟨a, b, c, d, e⟩))
                      case atStart => exact ⟨0, sa, sb, sc, sd, se, rfl, rfl, rfl, rfl, rfl, rfl, by omega, HW', HBZ', ⟨rfl⟩⟩
                      case round =>
                        clear HW' HBZ'
                        obtain ⟨i, a, b, c, d, e, rfl, rfl, rfl, rfl, rfl, rfl, hig, HW, HBZ, HR⟩ := hrel
                        by_cases hi : i < 80
                        · obtain ⟨ha, hb', hcc, hd, he⟩ : a < 4294967296 ∧ b < 4294967296 ∧ c < 4294967296 ∧ d < 4294967296 ∧ e < 4294967296 := by
                            have := rnds_ok HSK.out WS i
                            rw [HR.out] at this
                            exact this
                          obtain ⟨x, hx, hxl, hxg⟩ := HA.out.get i hi
                          have cx : ∀ n, (wr.drewN n).cell? ⟨zb, i, none⟩ = some (.int .u32 (x : Int)) := fun n => HW.out.cell i x hx
                          have iz := idx76 zb 0 i (i : Int) rfl hi
                          rw [Nat.zero_add] at iz
                          have r5l := rot5_lt ha
                          clear hx
                          by_cases h20 : i < 20
                          · skip
                            have hF := f20 i b c d h20 hb' hcc hd
                            obtain ⟨F, hFe⟩ : ∃ k, k = fk i b c d := ⟨_, rfl⟩
                            rw [← hFe] at hF
                            have HN := Aside0.mk (rnds_next HR.out hxg hFe rfl rfl (k20 h20))
                            clear hFe hxg
                            go_wp2_with fail
                            go_quiet (first | (go_at_call 18; with_reducible refine Calls.quiet_of_same (turn5 a ha _)) | (go_at_call 18; with_reducible refine Calls.quiet_of_same (turn30 b hb' _)))
                            have HW' : Aside0 (W32 (wr.drewN nq) zb 52 WS) := ⟨HW.out⟩
                            have HBZ' : Aside0 (Bk w (wr.drewN nq) hB ⟨sa, sb, sc, sd, se⟩ (.slice (some ⟨g, o, none⟩) n1 cp) X) := ⟨HBZ.out.drewN nq⟩
                            go_wp2_with fail
                            go_roundg (80 - (i + 1))
                            case measure => omega
                            case rel => exact ⟨i + 1, _, a, rot30 b, c, d, congrArg (Value.int .u32) (by omega), rfl, rfl, rfl, rfl, by first | rfl | exact congrArg (Value.int .i64) (by omega), by omega, HW', HBZ', HN⟩
                          · by_cases h40 : i < 40
                            · skip
                              have hF := f40 i b c d h20 h40 hb' hcc hd
                              obtain ⟨F, hFe⟩ : ∃ k, k = fk i b c d := ⟨_, rfl⟩
                              rw [← hFe] at hF
                              have HN := Aside0.mk (rnds_next HR.out hxg hFe rfl rfl (k40 h20 h40))
                              clear hFe hxg
                              go_wp2_with fail
                              go_quiet (first | (go_at_call 18; with_reducible refine Calls.quiet_of_same (turn5 a ha _)) | (go_at_call 18; with_reducible refine Calls.quiet_of_same (turn30 b hb' _)))
                              have HW' : Aside0 (W32 (wr.drewN nq) zb 52 WS) := ⟨HW.out⟩
                              have HBZ' : Aside0 (Bk w (wr.drewN nq) hB ⟨sa, sb, sc, sd, se⟩ (.slice (some ⟨g, o, none⟩) n1 cp) X) := ⟨HBZ.out.drewN nq⟩
                              go_wp2_with fail
                              go_roundg (80 - (i + 1))
                              case measure => omega
                              case rel => exact ⟨i + 1, _, a, rot30 b, c, d, congrArg (Value.int .u32) (by omega), rfl, rfl, rfl, rfl, by first | rfl | exact congrArg (Value.int .i64) (by omega), by omega, HW', HBZ', HN⟩
                            · by_cases h60 : i < 60
                              · skip
                                have hF := f60 i b c d h20 h40 h60 hb' hcc hd
                                obtain ⟨F, hFe⟩ : ∃ k, k = fk i b c d := ⟨_, rfl⟩
                                rw [← hFe] at hF
                                have HN := Aside0.mk (rnds_next HR.out hxg hFe rfl rfl (k60 h20 h40 h60))
                                clear hFe hxg
                                go_wp2_with fail
                                go_quiet (first | (go_at_call 18; with_reducible refine Calls.quiet_of_same (turn5 a ha _)) | (go_at_call 18; with_reducible refine Calls.quiet_of_same (turn30 b hb' _)))
                                have HW' : Aside0 (W32 (wr.drewN nq) zb 52 WS) := ⟨HW.out⟩
                                have HBZ' : Aside0 (Bk w (wr.drewN nq) hB ⟨sa, sb, sc, sd, se⟩ (.slice (some ⟨g, o, none⟩) n1 cp) X) := ⟨HBZ.out.drewN nq⟩
                                go_wp2_with fail
                                go_roundg (80 - (i + 1))
                                case measure => omega
                                case rel => exact ⟨i + 1, _, a, rot30 b, c, d, congrArg (Value.int .u32) (by omega), rfl, rfl, rfl, rfl, by first | rfl | exact congrArg (Value.int .i64) (by omega), by omega, HW', HBZ', HN⟩
                              · skip
                                have hF := f80 i b c d h20 h40 h60 hb' hcc hd
                                obtain ⟨F, hFe⟩ : ∃ k, k = fk i b c d := ⟨_, rfl⟩
                                rw [← hFe] at hF
                                have HN := Aside0.mk (rnds_next HR.out hxg hFe rfl rfl (k80 h20 h40 h60))
                                clear hFe hxg
                                go_wp2_with fail
                                go_quiet (first | (go_at_call 18; with_reducible refine Calls.quiet_of_same (turn5 a ha _)) | (go_at_call 18; with_reducible refine Calls.quiet_of_same (turn30 b hb' _)))
                                have HW' : Aside0 (W32 (wr.drewN nq) zb 52 WS) := ⟨HW.out⟩
                                have HBZ' : Aside0 (Bk w (wr.drewN nq) hB ⟨sa, sb, sc, sd, se⟩ (.slice (some ⟨g, o, none⟩) n1 cp) X) := ⟨HBZ.out.drewN nq⟩
                                go_wp2_with fail
                                go_roundg (80 - (i + 1))
                                case measure => omega
                                case rel => exact ⟨i + 1, _, a, rot30 b, c, d, congrArg (Value.int .u32) (by omega), rfl, rfl, rfl, rfl, by first | rfl | exact congrArg (Value.int .i64) (by omega), by omega, HW', HBZ', HN⟩
                        · obtain rfl : i = 80 := by omega
                          have HADD : Aside0 (∃ na nb nc nd ne : Nat, stepW ⟨sa, sb, sc, sd, se⟩ p = ⟨na, nb, nc, nd, ne⟩ ∧ ((sa : Int) + (a : Int)) % 4294967296 = (na : Int) ∧ ((sb : Int) + (b : Int)) % 4294967296 = (nb : Int) ∧ ((sc : Int) + (c : Int)) % 4294967296 = (nc : Int) ∧ ((sd : Int) + (d : Int)) % 4294967296 = (nd : Int) ∧ ((se : Int) + (e : Int)) % 4294967296 = (ne : Int)) := ⟨by
                            refine ⟨(sa + a) % 4294967296, (sb + b) % 4294967296, (sc + c) % 4294967296, (sd + d) % 4294967296, (se + e) % 4294967296, ?_, ?_, ?_, ?_, ?_, ?_⟩
                            · show add5 _ (rnds (ws2 p 64) _ 80) = _
                              rw [← HWS.out, HR.out]
                              rfl
                            all_goals omega⟩
                          obtain ⟨na, nb, nc, nd, ne, hst, s0, s1, s2, s3, s4⟩ := HADD.out
                          have HST := Aside0.mk hst
                          have hh := HBZ.out.hh
                          have d0 : wr.cell? ⟨hB, 0, none⟩ = some (.int .u32 (sa : Int)) := (Lib.cell_of_heap hh 0).trans rfl
                          have d1 : wr.cell? ⟨hB, 1, none⟩ = some (.int .u32 (sb : Int)) := (Lib.cell_of_heap hh 1).trans rfl
                          have d2 : wr.cell? ⟨hB, 2, none⟩ = some (.int .u32 (sc : Int)) := (Lib.cell_of_heap hh 2).trans rfl
                          have d3 : wr.cell? ⟨hB, 3, none⟩ = some (.int .u32 (sd : Int)) := (Lib.cell_of_heap hh 3).trans rfl
                          have d4 : wr.cell? ⟨hB, 4, none⟩ = some (.int .u32 (se : Int)) := (Lib.cell_of_heap hh 4).trans rfl
                          have f0 := Lib.frozen_of_heap hh 0
                          have f1 := Lib.frozen_of_heap hh 1
                          have f2 := Lib.frozen_of_heap hh 2
                          have f3 := Lib.frozen_of_heap hh 3
                          have f4 := Lib.frozen_of_heap hh 4
                          have HNX := Aside0.mk (HBZ.out.all5 ⟨na, nb, nc, nd, ne⟩)
                          clear hst hh HADD HR hi
                          have HAG : Aside0 (ao + 64 ≤ n1) := ⟨ha64⟩
                          go_wp2_with fail
                          go_roundg (n1 - (ao + 64))
                          case measure => omega
                          case rel =>
                            refine ⟨j + 1, ao + 64, by first | rfl | exact congrArg (Value.int .i64) (by omega), ha64, by omega, ⟨by have := HAJ.out; omega⟩, ⟨?_⟩⟩
                            rw [blocks_succ, ← HSE.out, ← HAJ.out, ← HPE.out, HST.out, ← HCP.out]
                            exact HNX.out
            · have hj : j = (m ++ padding m).length / 64 := by rw [← HX.out, HLEN.out]; have h1 := HAJ.out; have h2 := HMD.out; omega
              obtain ⟨S, hS⟩ : ∃ S, S = stOf (m ++ padding m) := ⟨_, rfl⟩
              have hst : blocks j init X = S := by rw [hS]; unfold stOf; rw [← hj, HX.out]
              rw [hst] at HBK
              have HS := Aside0.mk hS
              obtain ⟨b0, b1, b2, b3, b4⟩ : S.Ok := by rw [hS]; exact stOf_ok _
              have hh := HBK.out.hh
              have s0 : wr.cell? ⟨hB, 0, none⟩ = some (.int .u32 (S.a : Int)) := (Lib.cell_of_heap hh 0).trans rfl
              have s1 : wr.cell? ⟨hB, 1, none⟩ = some (.int .u32 (S.b : Int)) := (Lib.cell_of_heap hh 1).trans rfl
              have s2 : wr.cell? ⟨hB, 2, none⟩ = some (.int .u32 (S.c : Int)) := (Lib.cell_of_heap hh 2).trans rfl
              have s3 : wr.cell? ⟨hB, 3, none⟩ = some (.int .u32 (S.d : Int)) := (Lib.cell_of_heap hh 3).trans rfl
              have s4 : wr.cell? ⟨hB, 4, none⟩ = some (.int .u32 (S.e : Int)) := (Lib.cell_of_heap hh 4).trans rfl
              have HB1 := Aside0.mk HBK.out.bel
              clear hst hS hj hh
              go_wp2_with fail
              go_loopg [19, 192] 5 (fun g0 v19 v192 w' => ∃ (k n : Nat) (A : Option Addr) (c : Nat), v19 = .slice A n c ∧ v192 = .int .i64 (k : Int) ∧ k + g0 = 5 ∧ n ≤ c ∧ Aside0 (n = 4 * k) ∧ Aside0 (BR w' w.heap.size (.slice A n c) ((outOf S).take (4 * k))) ∧ Aside0 (Below w.heap.size w w'))
              case atStart => exact ⟨0, 0, none, 0, rfl, rfl, by omega, Nat.le_refl _, ⟨by omega⟩, ⟨BR.nil _ _⟩, HB1⟩
              case round =>
                clear HB1 s0 s1 s2 s3 s4 HBK
                obtain ⟨k, n, A, c, rfl, rfl, hkg, hnc, HNK, HQ, HB⟩ := hrel
                obtain rfl | rfl | rfl | rfl | rfl | rfl : k = 0 ∨ k = 1 ∨ k = 2 ∨ k = 3 ∨ k = 4 ∨ k = 5 := by omega
                · obtain rfl : n = 0 := by have := HNK.out; omega
                  have hix := index5 #[.int .u32 (S.a : Int), .int .u32 (S.b : Int), .int .u32 (S.c : Int), .int .u32 (S.d : Int), .int .u32 (S.e : Int)] 0 0 rfl _ (by decide) rfl
                  have HLEN2 : Aside0 (((outOf S).take (4 * 0)).length = 0) := ⟨rfl⟩
                  go_wp2_with (first
                    | (go_at_call 19
                       (with_reducible refine (put32 S.a b0 wr).mono ?_)
                       rintro e w1 ⟨rfl, h8, hbel, hsz⟩
                       have H8 := Aside0.mk h8
                       have HQ1 : Aside0 (BR w1 w.heap.size (.slice A 0 c) ((outOf S).take (4 * 0))) := ⟨HQ.out.below hbel⟩
                       have HB1 : Aside0 (Below w.heap.size w w1) := ⟨HB.out.trans (hbel.mono HB.out.size)⟩
                       clear h8 hbel hsz)
                    | ((with_reducible refine gate_dst (N := 198) rfl ?_)
                       refine appo_op rfl (.tmp 195) (.tmp 197) rfl w1 w.heap.size (.slice A 0 c) ((outOf S).take (4 * 0)) (be32 S.a) wr.heap.size 0 4 4 rfl rfl HQ1.out H8.out rfl (by rw [HLEN2.out]; omega) HB1.out.size ?_
                       intro v1 w2 hq hg
                       obtain ⟨A1, c1, rfl, hc1⟩ := hq.form
                       have hlen : ((outOf S).take (4 * 0) ++ be32 S.a).length = 4 := rfl
                       rw [hlen] at hq hc1 ⊢
                       have HQ2 := Aside0.mk hq
                       have HB2 : Aside0 (Below w.heap.size w w2) := ⟨HB1.out.grown hg HB1.out.size (fun k hk => own_base HQ1.out k hk)⟩
                       clear hq hg hlen)
                    | fail)
                  go_roundg (5 - 1)
                  case measure => omega
                  case rel => exact ⟨1, 4, A1, c1, rfl, rfl, by omega, hc1, ⟨rfl⟩, HQ2, HB2⟩
                · obtain rfl : n = 4 := by have := HNK.out; omega
                  have hix := index5 #[.int .u32 (S.a : Int), .int .u32 (S.b : Int), .int .u32 (S.c : Int), .int .u32 (S.d : Int), .int .u32 (S.e : Int)] 1 1 rfl _ (by decide) rfl
                  have HLEN2 : Aside0 (((outOf S).take (4 * 1)).length = 4) := ⟨rfl⟩
                  go_wp2_with (first
                    | (go_at_call 19
                       (with_reducible refine (put32 S.b b1 wr).mono ?_)
                       rintro e w1 ⟨rfl, h8, hbel, hsz⟩
                       have H8 := Aside0.mk h8
                       have HQ1 : Aside0 (BR w1 w.heap.size (.slice A 4 c) ((outOf S).take (4 * 1))) := ⟨HQ.out.below hbel⟩
                       have HB1 : Aside0 (Below w.heap.size w w1) := ⟨HB.out.trans (hbel.mono HB.out.size)⟩
                       clear h8 hbel hsz)
                    | ((with_reducible refine gate_dst (N := 198) rfl ?_)
                       refine appo_op rfl (.tmp 195) (.tmp 197) rfl w1 w.heap.size (.slice A 4 c) ((outOf S).take (4 * 1)) (be32 S.b) wr.heap.size 0 4 4 rfl rfl HQ1.out H8.out rfl (by rw [HLEN2.out]; omega) HB1.out.size ?_
                       intro v1 w2 hq hg
                       obtain ⟨A1, c1, rfl, hc1⟩ := hq.form
                       have hlen : ((outOf S).take (4 * 1) ++ be32 S.b).length = 8 := rfl
                       rw [hlen] at hq hc1 ⊢
                       have HQ2 := Aside0.mk hq
                       have HB2 : Aside0 (Below w.heap.size w w2) := ⟨HB1.out.grown hg HB1.out.size (fun k hk => own_base HQ1.out k hk)⟩
                       clear hq hg hlen)
                    | fail)
                  go_roundg (5 - 2)
                  case measure => omega
                  case rel => exact ⟨2, 8, A1, c1, rfl, rfl, by omega, hc1, ⟨rfl⟩, HQ2, HB2⟩
                · obtain rfl : n = 8 := by have := HNK.out; omega
                  have hix := index5 #[.int .u32 (S.a : Int), .int .u32 (S.b : Int), .int .u32 (S.c : Int), .int .u32 (S.d : Int), .int .u32 (S.e : Int)] 2 2 rfl _ (by decide) rfl
                  have HLEN2 : Aside0 (((outOf S).take (4 * 2)).length = 8) := ⟨rfl⟩
                  go_wp2_with (first
                    | (go_at_call 19
                       (with_reducible refine (put32 S.c b2 wr).mono ?_)
                       rintro e w1 ⟨rfl, h8, hbel, hsz⟩
                       have H8 := Aside0.mk h8
                       have HQ1 : Aside0 (BR w1 w.heap.size (.slice A 8 c) ((outOf S).take (4 * 2))) := ⟨HQ.out.below hbel⟩
                       have HB1 : Aside0 (Below w.heap.size w w1) := ⟨HB.out.trans (hbel.mono HB.out.size)⟩
                       clear h8 hbel hsz)
                    | ((with_reducible refine gate_dst (N := 198) rfl ?_)
                       refine appo_op rfl (.tmp 195) (.tmp 197) rfl w1 w.heap.size (.slice A 8 c) ((outOf S).take (4 * 2)) (be32 S.c) wr.heap.size 0 4 4 rfl rfl HQ1.out H8.out rfl (by rw [HLEN2.out]; omega) HB1.out.size ?_
                       intro v1 w2 hq hg
                       obtain ⟨A1, c1, rfl, hc1⟩ := hq.form
                       have hlen : ((outOf S).take (4 * 2) ++ be32 S.c).length = 12 := rfl
                       rw [hlen] at hq hc1 ⊢
                       have HQ2 := Aside0.mk hq
                       have HB2 : Aside0 (Below w.heap.size w w2) := ⟨HB1.out.grown hg HB1.out.size (fun k hk => own_base HQ1.out k hk)⟩
                       clear hq hg hlen)
                    | fail)
                  go_roundg (5 - 3)
                  case measure => omega
                  case rel => exact ⟨3, 12, A1, c1, rfl, rfl, by omega, hc1, ⟨rfl⟩, HQ2, HB2⟩
                · obtain rfl : n = 12 := by have := HNK.out; omega
                  have hix := index5 #[.int .u32 (S.a : Int), .int .u32 (S.b : Int), .int .u32 (S.c : Int), .int .u32 (S.d : Int), .int .u32 (S.e : Int)] 3 3 rfl _ (by decide) rfl
                  have HLEN2 : Aside0 (((outOf S).take (4 * 3)).length = 12) := ⟨rfl⟩
                  go_wp2_with (first
                    | (go_at_call 19
                       (with_reducible refine (put32 S.d b3 wr).mono ?_)
                       rintro e w1 ⟨rfl, h8, hbel, hsz⟩
                       have H8 := Aside0.mk h8
                       have HQ1 : Aside0 (BR w1 w.heap.size (.slice A 12 c) ((outOf S).take (4 * 3))) := ⟨HQ.out.below hbel⟩
                       have HB1 : Aside0 (Below w.heap.size w w1) := ⟨HB.out.trans (hbel.mono HB.out.size)⟩
                       clear h8 hbel hsz)
                    | ((with_reducible refine gate_dst (N := 198) rfl ?_)
                       refine appo_op rfl (.tmp 195) (.tmp 197) rfl w1 w.heap.size (.slice A 12 c) ((outOf S).take (4 * 3)) (be32 S.d) wr.heap.size 0 4 4 rfl rfl HQ1.out H8.out rfl (by rw [HLEN2.out]; omega) HB1.out.size ?_
                       intro v1 w2 hq hg
                       obtain ⟨A1, c1, rfl, hc1⟩ := hq.form
                       have hlen : ((outOf S).take (4 * 3) ++ be32 S.d).length = 16 := rfl
                       rw [hlen] at hq hc1 ⊢
                       have HQ2 := Aside0.mk hq
                       have HB2 : Aside0 (Below w.heap.size w w2) := ⟨HB1.out.grown hg HB1.out.size (fun k hk => own_base HQ1.out k hk)⟩
                       clear hq hg hlen)
                    | fail)
                  go_roundg (5 - 4)
                  case measure => omega
                  case rel => exact ⟨4, 16, A1, c1, rfl, rfl, by omega, hc1, ⟨rfl⟩, HQ2, HB2⟩
                · obtain rfl : n = 16 := by have := HNK.out; omega
                  have hix := index5 #[.int .u32 (S.a : Int), .int .u32 (S.b : Int), .int .u32 (S.c : Int), .int .u32 (S.d : Int), .int .u32 (S.e : Int)] 4 4 rfl _ (by decide) rfl
                  have HLEN2 : Aside0 (((outOf S).take (4 * 4)).length = 16) := ⟨rfl⟩
                  go_wp2_with (first
                    | (go_at_call 19
                       (with_reducible refine (put32 S.e b4 wr).mono ?_)
                       rintro e w1 ⟨rfl, h8, hbel, hsz⟩
                       have H8 := Aside0.mk h8
                       have HQ1 : Aside0 (BR w1 w.heap.size (.slice A 16 c) ((outOf S).take (4 * 4))) := ⟨HQ.out.below hbel⟩
                       have HB1 : Aside0 (Below w.heap.size w w1) := ⟨HB.out.trans (hbel.mono HB.out.size)⟩
                       clear h8 hbel hsz)
                    | ((with_reducible refine gate_dst (N := 198) rfl ?_)
                       refine appo_op rfl (.tmp 195) (.tmp 197) rfl w1 w.heap.size (.slice A 16 c) ((outOf S).take (4 * 4)) (be32 S.e) wr.heap.size 0 4 4 rfl rfl HQ1.out H8.out rfl (by rw [HLEN2.out]; omega) HB1.out.size ?_
                       intro v1 w2 hq hg
                       obtain ⟨A1, c1, rfl, hc1⟩ := hq.form
                       have hlen : ((outOf S).take (4 * 4) ++ be32 S.e).length = 20 := rfl
                       rw [hlen] at hq hc1 ⊢
                       have HQ2 := Aside0.mk hq
                       have HB2 : Aside0 (Below w.heap.size w w2) := ⟨HB1.out.grown hg HB1.out.size (fun k hk => own_base HQ1.out k hk)⟩
                       clear hq hg hlen)
                    | fail)
                  go_roundg (5 - 5)
                  case measure => omega
                  case rel => exact ⟨5, 20, A1, c1, rfl, rfl, by omega, hc1, ⟨rfl⟩, HQ2, HB2⟩
                · obtain rfl : n = 20 := by have := HNK.out; omega
                  go_wp2_with fail
                  go_ret
                  refine ⟨_, rfl, ?_, HB.out⟩
                  unfold sha1
                  rw [← HS.out]
                  exact HQ.out
end Go.Proofs.YthpoiceceogdhaaDoor.ShaF
