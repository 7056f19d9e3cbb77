/- What holds while a delta is found: the two buffers, what they make, and the steps between. diffDelta, walked. DiffDelta and impl.Diff, walked. -/
import Derived.Test.YtlboochpbplhlaaDoorHandU
import Derived.Test.YtlboochpbplhlaaDoorHandR
import Derived.Test.YtlboochpbplhlaaDoorHandF
set_option linter.unusedVariables false
set_option linter.unusedSimpArgs false
namespace Go.Proofs.YtlboochpbplhlaaDoor.HandW
open Go.RowKit Go.Proofs.YtlboochpbplhlaaDoorW.PrintWords Go.Proofs.YtlboochpbplhlaaDoor.QAll PureD HandA HandB HandC HandD HandE HandK HandL HandN HandP HandQ HandR HandS HandT HandU HandV PureC
open Go.Proofs.YtlboochpbplhlaaDoorW.PrintLast Go.Proofs.YtlboochpbplhlaaDoorW.PrintMore

structure St (w w' : World) (x0 b1 b2 : Nat) (r1 r2 : Option Nat) (hdr src tgt : List Int) (i : Nat) (pend bs : List Int) (is : List Ins) : Prop where
  enc : Encs src.length is bs
  mkd : made src is ++ pend = tgt.take i
  rng : ∀ x ∈ bs, 0 ≤ x ∧ x ≤ 255
  len : bs.length ≤ 8 * (made src is).length
  f1 : Buf w' b1 r1 (nums .u8 (hdr ++ bs))
  f2 : Buf w' b2 r2 (nums .u8 pend)
  ne : b1 ≠ b2
  sep : ∀ g, r1 = some g → r2 ≠ some g
  lo1 : ∀ g, r1 = some g → w.heap.size ≤ g
  lo2 : ∀ g, r2 = some g → w.heap.size ≤ g
  lb1 : w.heap.size ≤ b1
  lb2 : w.heap.size ≤ b2
  off : Off w w' (fun k => k = x0)
  idx : Idx w' x0 src.length
theorem St.drewN {w w' : World} {x0 b1 b2 : Nat} {r1 r2 : Option Nat} {hdr src tgt : List Int} {i : Nat} {pend bs : List Int} {is : List Ins} (h : St w w' x0 b1 b2 r1 r2 hdr src tgt i pend bs is) (q : Nat) : St w (w'.drewN q) x0 b1 b2 r1 r2 hdr src tgt i pend bs is :=
  ⟨h.enc, h.mkd, h.rng, h.len, h.f1.drewN q, h.f2.drewN q, h.ne, h.sep, h.lo1, h.lo2, h.lb1, h.lb2, h.off.trans (Off.drewN w' q (fun _ => False)) (fun _ _ h => h.elim), h.idx.off (Off.drewN w' q (fun _ => False)) (fun _ h => h.elim)⟩
theorem St.below {w w' w2 : World} {x0 b1 b2 : Nat} {r1 r2 : Option Nat} {hdr src tgt : List Int} {i : Nat} {pend bs : List Int} {is : List Ins} (h : St w w' x0 b1 b2 r1 r2 hdr src tgt i pend bs is) (hb : Below w'.heap.size w' w2) : St w w2 x0 b1 b2 r1 r2 hdr src tgt i pend bs is := by
  have ho := Off.of_below hb (fun _ => False)
  exact ⟨h.enc, h.mkd, h.rng, h.len, h.f1.off ho id (fun _ _ => id), h.f2.off ho id (fun _ _ => id), h.ne, h.sep, h.lo1, h.lo2, h.lb1, h.lb2, h.off.trans ho (fun _ _ h => h.elim), h.idx.off ho (fun _ h => h.elim)⟩
/-- The types of what a write turns. -/
theorem wrote_types {w : World} {b : Nat} {r : Option Nat} {bs : List Value} (h : Buf w b r bs) : ∀ k, (k = b ∨ r = some k) → k < w.heap.size → ∃ a t, w.heap[k]? = some (.cells a t (0, 0)) ∧ (t = 5 ∨ t = 52) := by
  rintro k (rfl | rfl) _
  · obtain ⟨a, ha⟩ := h.type
    exact ⟨a, 52, ha, Or.inr rfl⟩
  · obtain ⟨_, _, cur, hc⟩ := h.rlt
    exact ⟨cur, 5, hc, Or.inl rfl⟩
/-- Something has been written into the second buffer. -/
theorem St.put2 {w w' w2 : World} {x0 b1 b2 : Nat} {r1 r2 : Option Nat} {hdr src tgt : List Int} {i : Nat} {pend bs : List Int} {is : List Ins} (h : St w w' x0 b1 b2 r1 r2 hdr src tgt i pend bs is) (x : Int) (hx : tgt[i]? = some x)
    (hW : Wrote w' w2 b2 r2 (nums .u8 (pend ++ [x]))) : ∃ r2', St w w2 x0 b1 b2 r1 r2' hdr src tgt (i + 1) (pend ++ [x]) bs is := by
  have hk := hW.keeps h.f2 h.f1 (Ne.symm h.ne) (fun g hg e => h.sep g e hg)
  obtain ⟨r', hB, hO, hr⟩ := hW
  have hsz := h.off.zero.size
  refine ⟨r', h.enc, ?_, h.rng, h.len, hk, hB, h.ne, fun g hg e => ?_, h.lo1, fun g hg => ?_, h.lb1, h.lb2, h.off.trans hO (fun k hk hs => ?_), h.idx.off hO (wrote_types h.f2)⟩
  · rw [← List.append_assoc, h.mkd, List.take_add_one, hx]; rfl
  · rcases hr with rfl | ⟨N, rfl, hN⟩
    · exact h.sep g hg e
    · cases e
      subst hg
      have := h.f1.rlt.1
      omega
  · rcases hr with rfl | ⟨N, rfl, hN⟩
    · exact h.lo2 g hg
    · cases hg; omega
  · rcases hs with rfl | hs
    · have := h.lb2; omega
    · have := h.lo2 k hs; omega
/-- Something has been written into the first. -/
theorem St.put1 {w w' w2 : World} {x0 b1 b2 : Nat} {r1 r2 : Option Nat} {hdr src tgt : List Int} {i j : Nat} {pend bs ins pend' : List Int} {is js : List Ins} (h : St w w' x0 b1 b2 r1 r2 hdr src tgt i pend bs is)
    (hE : Encs src.length js ins) (hm : made src (is ++ js) ++ pend' = tgt.take j) (hr : ∀ x ∈ ins, 0 ≤ x ∧ x ≤ 255) (hl : ins.length ≤ 8 * (made src js).length) (hW : Wrote w' w2 b1 r1 (nums .u8 (hdr ++ bs ++ ins))) :
    ∃ r1', Buf w2 b1 r1' (nums .u8 (hdr ++ (bs ++ ins))) ∧ Buf w2 b2 r2 (nums .u8 pend) ∧ (Buf w2 b2 r2 (nums .u8 pend') → St w w2 x0 b1 b2 r1' r2 hdr src tgt j pend' (bs ++ ins) (is ++ js)) := by
  have hk := hW.keeps h.f1 h.f2 h.ne h.sep
  obtain ⟨r', hB, hO, hr'⟩ := hW
  have hsz := h.off.zero.size
  rw [List.append_assoc] at hB
  refine ⟨r', hB, hk, fun hp => ⟨h.enc.append hE, hm, fun x hx => ?_, ?_, hB, hp, h.ne, fun g hg e => ?_, fun g hg => ?_, h.lo2, h.lb1, h.lb2, h.off.trans hO (fun k hk hs => ?_), h.idx.off hO (wrote_types h.f1)⟩⟩
  · rcases List.mem_append.1 hx with hx | hx
    · exact h.rng x hx
    · exact hr x hx
  · rw [made_append, List.length_append, List.length_append]; have := h.len; omega
  · rcases hr' with rfl | ⟨N, rfl, hN⟩
    · exact h.sep g hg e
    · cases hg
      subst e
      have := h.f2.rlt.1
      omega
  · rcases hr' with rfl | ⟨N, rfl, hN⟩
    · exact h.lo1 g hg
    · cases hg; omega
  · rcases hs with rfl | hs
    · have := h.lb1; omega
    · have := h.lo1 k hs; omega
/-- What waits has been written as insertions, and the second buffer emptied. -/
theorem St.flush {w w' w1 w2 : World} {x0 b1 b2 : Nat} {r1 r2 : Option Nat} {hdr src tgt : List Int} {i : Nat} {pend bs ins : List Int} {is : List Ins} (h : St w w' x0 b1 b2 r1 r2 hdr src tgt i pend bs is)
    (hI : Inserts pend ins) (hW : Wrote w' w1 b1 r1 (nums .u8 (hdr ++ bs ++ ins))) (hO : Off w1 w2 (fun k => k = b2)) (hB : Buf w2 b2 r2 []) : ∃ r1' bs' is', St w w2 x0 b1 b2 r1' r2 hdr src tgt i [] bs' is' := by
  obtain ⟨js, k1, k2, k3, k4⟩ := hI
  obtain ⟨r', hB1, hB2, hst⟩ := h.put1 (pend' := pend) (j := i) (js := []) (ins := []) .nil (by rw [List.append_nil]; exact h.mkd) (by simp) (by simp) (Wrote.refl (by rw [List.append_nil]; exact h.f1))
  have hmk : made src (is ++ js) ++ [] = tgt.take i := by rw [made_append, k2, List.append_nil]; exact h.mkd
  obtain ⟨r1', c1, c2, _⟩ := h.put1 (pend' := []) (j := i) (k1 src.length) hmk k4 (by rw [k2]; omega) hW
  have hk := hW.keeps h.f1 h.f2 h.ne h.sep
  obtain ⟨r9, hB9, hO9, hr9⟩ := hW
  have hsz := h.off.zero.size
  have hsz1 := hO9.zero.size
  have e1 : Buf w2 b1 r9 (nums .u8 (hdr ++ (bs ++ ins))) := by
    rw [List.append_assoc] at hB9
    exact hB9.off hO h.ne (fun g hg e => by subst hg; exact row_ne hk hB9 e)
  refine ⟨r9, bs ++ ins, is ++ js, h.enc.append (k1 _), hmk, fun x hx => ?_, ?_, e1, hB, h.ne, fun g hg e => ?_, fun g hg => ?_, h.lo2, h.lb1, h.lb2, (h.off.trans hO9 (fun k hk hs => ?_)).trans hO (fun k hk hs => ?_), (h.idx.off hO9 (wrote_types h.f1)).off hO (fun k hs hk2 => ?_)⟩
  · rcases List.mem_append.1 hx with hx | hx
    · exact h.rng x hx
    · exact k4 x hx
  · rw [made_append, List.length_append, List.length_append, k2]; have := h.len; omega
  · rcases hr9 with rfl | ⟨N, rfl, hN⟩
    · exact h.sep g hg e
    · cases hg
      subst e
      have := h.f2.rlt.1
      omega
  · rcases hr9 with rfl | ⟨N, rfl, hN⟩
    · exact h.lo1 g hg
    · cases hg; omega
  · rcases hs with rfl | hs
    · have := h.lb1; omega
    · have := h.lo1 k hs; omega
  · have := h.lb2; omega
  · subst hs
    obtain ⟨a, ha⟩ := hk.type
    exact ⟨a, 52, ha, Or.inr rfl⟩
theorem St.pend_mem {w w' : World} {x0 b1 b2 : Nat} {r1 r2 : Option Nat} {hdr src tgt : List Int} {i : Nat} {pend bs : List Int} {is : List Ins} (h : St w w' x0 b1 b2 r1 r2 hdr src tgt i pend bs is) : ∀ x ∈ pend, x ∈ tgt := fun x hx => List.mem_of_mem_take (by rw [← h.mkd]; exact List.mem_append_right _ hx : x ∈ tgt.take i)
theorem St.lens {w w' : World} {x0 b1 b2 : Nat} {r1 r2 : Option Nat} {hdr src tgt : List Int} {i : Nat} {pend bs : List Int} {is : List Ins} (h : St w w' x0 b1 b2 r1 r2 hdr src tgt i pend bs is) : (made src is).length + pend.length ≤ tgt.length := by
  have := congrArg List.length h.mkd
  rw [List.length_append, List.length_take] at this
  omega

set_option maxHeartbeats 4000000 in
set_option maxRecDepth 100000 in
theorem get (w : World) : Calls Tryd.prog 35 #[] w fun e w' => e = .returned (.pointer (some ⟨w.heap.size, 0, none⟩)) ∧ w' = w.alloc (.cells #[.slice none 0 0, .int .i64 0, .int .i8 0] 52) := by
  go_enter Tryd.func35, Tryd.ntmps35
  go_wp2
  go_ret
  exact ⟨rfl, rfl⟩
set_option maxHeartbeats 4000000 in
set_option maxRecDepth 100000 in
theorem putback (p : Value) (w : World) : CallsD Tryd.prog 36 #[p] .returning w fun e u' w' => u' = .returning ∧ (e = .returned (.tuple #[]) ∧ w' = w) := by
  go_enter_d Tryd.func36, Tryd.ntmps36
  go_wp2
  go_end0
  exact ⟨rfl, rfl⟩
end Go.Proofs.YtlboochpbplhlaaDoor.HandW

set_option linter.unusedVariables false
set_option linter.unusedSimpArgs false
namespace Go.Proofs.YtlboochpbplhlaaDoor.HandX
open Go.RowKit Go.Proofs.YtlboochpbplhlaaDoorW.PrintWords Go.Proofs.YtlboochpbplhlaaDoor.QAll PureD HandA HandB HandC HandD HandE HandK HandL HandN HandP HandQ HandR HandS HandT HandU HandV HandW PureC
open Go.Proofs.YtlboochpbplhlaaDoorW.PrintLast Go.Proofs.YtlboochpbplhlaaDoorW.PrintMore

theorem init_any (B x0 : Nat) (A : Option Addr) (c : Nat) (l : List Int) (w : World) (hBw : B ≤ w.heap.size) (hT : ∀ W, Below B w W → TabT W) (h8 : Tab8 w) (hS : Sd w B A c l) (hl : l.length ≤ 1000000)
    (hx : w.heap[x0]? = some (.cells #[.slice none 0 0, .slice none 0 0, .int .i64 0] 59 (0, 0))) :
    Calls Tryd.prog 38 #[.pointer (some ⟨x0, 0, none⟩), .slice A l.length c] w fun e w' => e = .returned (.tuple #[]) ∧ Idx w' x0 l.length ∧ Off w w' (fun k => k = x0) := by
  by_cases h : l.length < 16
  · exact init_small x0 A c l.length w h hx
  · exact init_big B x0 A c l w hBw hT h8 hS (by omega) hl hx
theorem _root_.Go.Proofs.YtlboochpbplhlaaDoor.HandW.St.bound {w w' : World} {x0 b1 b2 : Nat} {r1 r2 : Option Nat} {hdr src tgt : List Int} {i : Nat} {pend bs : List Int} {is : List Ins} (h : St w w' x0 b1 b2 r1 r2 hdr src tgt i pend bs is) : (hdr ++ bs).length ≤ hdr.length + 8 * tgt.length ∧ pend.length ≤ tgt.length := by
  have h1 := h.lens
  have h2 := h.len
  rw [List.length_append]
  omega
theorem hdr_le (N L : Nat) (h1 : N ≤ 1000000) (h2 : L ≤ 2000000) : (enc7 N ++ enc7 L).length ≤ 16 := by
  have h3 := enc7_le N 8 (by omega) (by omega)
  have h4 := enc7_le L 8 (by omega) (by omega)
  rw [List.length_append]; omega
theorem seg {α : Type} (s t : List α) (O i M j z : Nat) (h : (s.drop O).take M = (t.drop i).take M) (hz : j + z ≤ M) : (s.drop (O + j)).take z = (t.drop (i + j)).take z := by
  have h1 := congrArg (fun l => (l.drop j).take z) h
  simp only [List.drop_take, List.drop_drop, List.take_take] at h1
  rwa [Nat.min_eq_left (by omega)] at h1

set_option maxHeartbeats 16000000 in
set_option maxRecDepth 100000 in
theorem diff (x0 : Nat) (As At : Option Addr) (cs ct : Nat) (src tgt : List Int) (w : World) (hx0 : x0 ≤ w.heap.size) (hT : ∀ W, Below x0 w W → TabT W) (h8 : ∀ W, Below x0 w W → Tab8 W) (hS : Sd w x0 As cs src) (hG : Sd w x0 At ct tgt)
    (hx : w.heap[x0]? = some (.cells #[.slice none 0 0, .slice none 0 0, .int .i64 0] 59 (0, 0))) (hs : src.length ≤ 1000000) (ht : tgt.length ≤ 2000000) (ht1 : 1 ≤ tgt.length) :
    Calls Tryd.prog 25 #[.pointer (some ⟨x0, 0, none⟩), .slice As src.length cs, .slice At tgt.length ct] w fun e w' => ∃ v bs is, e = .returned v ∧ Encs src.length is bs ∧ made src is = tgt ∧ is ≠ [] ∧ (∀ x ∈ bs, 0 ≤ x ∧ x ≤ 255) ∧ bs.length ≤ 8 * tgt.length ∧
      Kd.R (Kd.int .u8) 5 w' w.heap.size (fun _ => True) v (enc7 src.length ++ (enc7 tgt.length ++ bs)) ∧ Off w w' (fun k => k = x0) := by
  obtain ⟨gt, ot, rfl, hgt, hct⟩ := hG.2.2.2 (by omega)
  have HTC : Aside0 (∀ W, Below x0 w W → ∀ j x, tgt[j]? = some x → W.cell? ⟨gt, ot + j, none⟩ = some (.int .u8 x)) := ⟨fun W hb j x hj => (hb.cell (p := ⟨gt, ot + j, none⟩) hgt).trans (hct j x hj)⟩
  have HRG := Aside0.mk hG.2.2.1
  clear hct
  obtain ⟨N, hN⟩ : ∃ N, N = src.length := ⟨_, rfl⟩
  obtain ⟨L, hL⟩ : ∃ L, L = tgt.length := ⟨_, rfl⟩
  have HN := Aside0.mk hN
  have HL := Aside0.mk hL
  have HS := Aside0.mk hS
  have HG := Aside0.mk hG
  have HT := Aside0.mk hT
  have H8 := Aside0.mk h8
  have HX := Aside0.mk hx
  have hxl := Lib.lt_of_heap hx
  have HLI : Aside0 (∀ W, Off w W (fun _ => False) → Calls Tryd.prog 38 #[.pointer (some ⟨x0, 0, none⟩), .slice As src.length cs] W _) := ⟨fun W ho => by
    have hb := ho.below hx0 (fun k hk => hk.elim)
    exact init_any x0 x0 As cs src W (Nat.le_trans hx0 ho.zero.size) (fun W2 hW2 => hT W2 (hb.trans hW2)) (h8 W hb) (hS.below hb) hs ((ho.blk x0 hxl id).trans hx)⟩
  have HC0 : Aside0 (∀ W, Off w W (fun _ => False) → W.cell? ⟨x0, 1, none⟩ = some (.slice none 0 0)) := ⟨fun W ho => by rw [Lib.cell_of_heap ((ho.blk x0 hxl id).trans hx)]; rfl⟩
  rw [← hN] at hs HLI ⊢
  rw [← hL] at ht ht1 ⊢
  clear hT h8 hS hG hx hN hL
  go_enter_defers Tryd.func25, Tryd.ntmps25
  go_upto_region 3 with (
    go_at_call 35
    (with_reducible refine (HandW.get w).mono ?_)
    rintro e wA ⟨rfl, hA⟩
    have HA : Aside0 (Buf wA w.heap.size none (nums .u8 []) ∧ Off w wA (fun _ => False) ∧ wA.heap.size = w.heap.size + 1) := ⟨by
      subst hA
      exact ⟨⟨rfl, 0, heap_alloc_new w _⟩, Off.alloc (Off.refl w _) _, sz w _⟩⟩
    clear hA)
  go_upto_region 4 with (first
    | (go_at_call 37
       (with_reducible refine (HandR.esize N (by omega) _).mono ?_)
       rintro e w1 ⟨A1, c1, rfl, ⟨g1, rfl, hg1, hg1', hc1, hcell1⟩, hb1⟩
       have ho1 := HA.out.2.1.trans (Off.of_below hb1 (fun _ => False)) (fun _ _ h => h)
       have hW1 := bwrote w.heap.size none [] (enc7 N) g1 0 c1 w1 (HA.out.1.off (Off.of_below hb1 (fun _ => False)) id (fun _ _ => id)) (enc7_pos N) (by have := HA.out.2.2; omega) (fun j x hj => by rw [Nat.zero_add]; exact hcell1 j x hj) (by have := enc7_le N 8 (by omega) (by omega); simp; omega)
       have HW1 := Aside0.mk hW1
       have HO1 := Aside0.mk ho1
       clear hW1 ho1 hb1 hcell1 hg1 hg1' hc1)
    | (go_at_call 33
       (with_reducible refine HW1.out.mono ?_)
       rintro e w2 ⟨rfl, hW2⟩
       have HB2 : Aside0 (∃ r2, Buf w2 w.heap.size r2 (nums .u8 (enc7 N)) ∧ Off w w2 (fun _ => False) ∧ ∀ g, r2 = some g → w.heap.size ≤ g) := ⟨by
         obtain ⟨r2, hB, hO, hr⟩ := hW2
         refine ⟨r2, hB, HO1.out.trans hO (fun k hk h => by rcases h with rfl | h; omega; cases h), fun g hg => ?_⟩
         have := HO1.out.zero.size
         rcases hr with rfl | ⟨M, rfl, hM⟩
         · cases hg
         · cases hg; omega⟩
       clear hW2))
  obtain ⟨r2, hB2, hO2, hlo2⟩ := HB2.out
  have HB2 := Aside0.mk (⟨hB2, hO2, hlo2⟩ : _ ∧ _ ∧ _)
  clear hB2 hO2 hlo2
  go_upto_region 5 with (first
    | (go_at_call 37
       (with_reducible refine (HandR.esize L (by omega) _).mono ?_)
       rintro e w3 ⟨A1, c1, rfl, ⟨g1, rfl, hg1, hg1', hc1, hcell1⟩, hb1⟩
       have ho1 := HB2.out.2.1.trans (Off.of_below hb1 (fun _ => False)) (fun _ _ h => h)
       have hb0 := HB2.out.1.lt
       have hW1 := bwrote w.heap.size r2 (enc7 N) (enc7 L) g1 0 c1 w3 (HB2.out.1.off (Off.of_below hb1 (fun _ => False)) id (fun _ _ => id)) (enc7_pos L) (by omega) (fun j x hj => by rw [Nat.zero_add]; exact hcell1 j x hj) (by have := enc7_le N 8 (by omega) (by omega); have := enc7_le L 8 (by omega) (by omega); omega)
       have HW3 := Aside0.mk hW1
       have HO3 := Aside0.mk ho1
       clear hW1 ho1 hb1 hcell1 hg1 hg1' hc1 hb0)
    | (go_at_call 33
       (with_reducible refine HW3.out.mono ?_)
       rintro e w4 ⟨rfl, hW2⟩
       have HB4 : Aside0 (∃ r4, Buf w4 w.heap.size r4 (nums .u8 (enc7 N ++ enc7 L)) ∧ Off w w4 (fun _ => False) ∧ ∀ g, r4 = some g → w.heap.size ≤ g) := ⟨by
         obtain ⟨r4, hB, hO, hr⟩ := hW2
         refine ⟨r4, hB, HO3.out.trans hO (fun k hk h => by rcases h with rfl | h; omega; have := HB2.out.2.2 k h; omega), fun g hg => ?_⟩
         have := HO3.out.zero.size
         rcases hr with rfl | ⟨M, rfl, hM⟩
         · exact HB2.out.2.2 g hg
         · cases hg; omega⟩
       clear hW2))
  obtain ⟨r4, hB4, hO4, hlo4⟩ := HB4.out
  have HB4 := Aside0.mk (⟨hB4, hO4, hlo4⟩ : _ ∧ _ ∧ _)
  have c1 := HC0.out w4 hO4
  have HI4 := Aside0.mk (HLI.out w4 hO4)
  clear hB4 hO4 hlo4
  go_upto_region 7 with (
    go_at_call 38
    (with_reducible refine HI4.out.mono ?_)
    rintro e w5 ⟨rfl, hI5, hO5⟩)
  have HI5 := Aside0.mk (⟨hI5, hO5⟩ : _ ∧ _)
  clear hI5 hO5 c1
  go_upto_region 9 with (
    go_at_call 35
    (with_reducible refine (HandW.get w5).mono ?_)
    rintro e w6 ⟨rfl, hA⟩
    have HST : Aside0 (St w w6 x0 w.heap.size w5.heap.size r4 none (enc7 N ++ enc7 L) src tgt 0 [] [] []) := ⟨by
      subst hA
      have hb1 := HB4.out.1.off HI5.out.2 (by omega) (fun g hg => by have := HB4.out.2.2 g hg; omega)
      have ho := Off.alloc (Off.refl w5 (fun _ => False)) (.cells #[.slice none 0 0, .int .i64 0, .int .i8 0] 52)
      have hlt := hb1.lt
      have hsz := HI5.out.2.zero.size
      exact ⟨.nil, by simp [made], by simp, by simp, by rw [List.append_nil]; exact hb1.off ho id (fun _ _ => id), ⟨rfl, 0, heap_alloc_new w5 _⟩, by omega, (fun g hg => by simp), HB4.out.2.2, (fun g hg => by cases hg), Nat.le_refl _, by omega, ((HB4.out.2.1.mono (S2 := fun k => k = x0) (fun _ _ h => h.elim)).trans HI5.out.2 (fun _ _ h => h)).trans ho (fun _ _ h => h.elim), by rw [← HN.out]; exact HI5.out.1.off ho (fun _ h => h.elim)⟩⟩
    clear hA)
  have hb2 : w5.heap.size = w5.heap.size := rfl
  generalize w5.heap.size = b2 at HST hb2 ⊢
  clear hb2
  generalize hb1e : w.heap.size = b1 at HST ⊢
  have HB1E := Aside0.mk hb1e
  clear hb1e
  go_wp2_with fail
  go_loopg [9, 10, 11, 12, 13, 14] (L + 1) (fun g0 v9 v10 v11 v12 v13 v14 w' => ∃ (i iv : Nat) (pend bs : List Int) (is : List Ins) (r1 r2 : Option Nat), v9 = .int .i64 (iv : Int) ∧ iv + g0 = L + 1 ∧ (iv = i ∨ (i = L ∧ iv = L + 1)) ∧ i ≤ L ∧ Aside0 (St w w' x0 b1 b2 r1 r2 (enc7 N ++ enc7 L) src tgt i pend bs is))
  case atStart => exact ⟨0, 0, [], [], [], r4, none, rfl, by omega, Or.inl rfl, by omega, HST⟩
  case round =>
    obtain ⟨i, iv, pend, bs, is, r1, r2', rfl, hig, hii, hiL, HSt⟩ := hrel
    have hbw : Below x0 w wr := HSt.out.off.below hx0 (fun k hk => by omega)
    have HBW := Aside0.mk hbw
    have hhdr := Aside0.mk (hdr_le N L hs ht)
    by_cases hiv : iv < L
    · obtain rfl : iv = i := by omega
      have HF : Aside0 (Calls Tryd.prog 39 #[.pointer (some ⟨x0, 0, none⟩), .slice As N cs, .slice (some ⟨gt, ot, none⟩) L ct, .int .i64 (iv : Int)] wr _) := ⟨by
        have h := HandV.find x0 x0 iv As (some ⟨gt, ot, none⟩) cs ct src tgt wr HSt.out.idx (HT.out wr hbw) (HS.out.below hbw) (HG.out.below hbw) (by rw [← HN.out]; exact hs) (by rw [← HL.out]; exact ht) (by rw [← HL.out]; exact hiv)
        rw [← HN.out, ← HL.out] at h
        exact h⟩
      obtain ⟨x, hx⟩ : ∃ x, tgt[iv]? = some x := ⟨_, List.getElem?_eq_getElem (by rw [← HL.out]; exact hiv)⟩
      have cx := HTC.out wr hbw iv x hx
      have HXI := Aside0.mk hx
      clear hbw hx
      go_wp2_with (first
        | (go_at_call 39
           (with_reducible refine HF.out.mono ?_)
           rintro e w1 ⟨o, l, rfl, hM, q, rfl⟩
           have HQ := Aside0.mk (HSt.out.drewN q)
           rcases hM with rfl | ⟨M, rfl, hM1, hM2⟩
           rotate_left
           rw [← HL.out] at hM1
           by_cases hM0 : M = 0
           (subst hM0
            have HY := Aside0.mk (bbyte b2 r2' pend x (wr.drewN q) HQ.out.f2 (by have := HQ.out.bound.2; rw [← HL.out] at this; omega))
            clear hM2)
           rotate_left
           have hb0 : ((M : Int) == 0) = false := beq_eq_false_iff_ne.2 (by omega)
           by_cases hM16 : M < 16
           (have hb16 : decide ((M : Int) < 16) = true := decide_eq_true (by omega)
            have HM16 := Aside0.mk hM16
            clear hM2 hM16)
           rotate_left
           (obtain ⟨O, rfl, hO1, hO2⟩ := hM2 (by omega)
            have HOO := Aside0.mk (⟨hO1, hO2⟩ : _ ∧ _)
            have HIN := Aside0.mk (HandS.insert b1 b2 r1 r2' (enc7 N ++ enc7 L ++ bs) pend (wr.drewN q) HQ.out.f1 HQ.out.f2 HQ.out.ne HQ.out.sep (fun x hx => HRG.out x (HQ.out.pend_mem x hx)) (by have h1 := HQ.out.bound; have h2 := hhdr.out; rw [← HL.out] at h1; omega))
            clear hO1 hO2))
        | (go_at_call 40
           (with_reducible refine HY.out.mono ?_)
           rintro e w2 ⟨rfl, hW2⟩
           have HN2 := Aside0.mk (HQ.out.put2 x HXI.out hW2)
           clear hW2)
        | (go_at_call 41
           (with_reducible refine HIN.out.mono ?_)
           rintro e w2 ⟨rfl, ins, w1, hI, hW, hOff, hB⟩
           have HN2 := Aside0.mk (HQ.out.flush hI hW hOff hB)
           clear hI hW hOff hB))
      · obtain ⟨r3, bs3, is3, hS3⟩ := HN2.out
        have HS3 := Aside0.mk hS3
        clear hS3
        go_loopg [13, 14] M (fun g1 v13 v14 w' => ∃ (j a : Nat) (z : Int) (r5 : Option Nat) (bs5 : List Int) (is5 : List Ins), v13 = .int .i64 z ∧ Aside0 (z = (g1 : Int)) ∧ v14 = .int .i64 (a : Int) ∧ Aside0 (a = O + j) ∧ j + g1 = M ∧ Aside0 (St w w' x0 b1 b2 r5 r2' (enc7 N ++ enc7 L) src tgt (iv + j) [] bs5 is5))
        case atStart => exact ⟨0, O, (M : Int), r3, bs3, is3, rfl, ⟨rfl⟩, rfl, ⟨rfl⟩, by omega, HS3⟩
        case round =>
          obtain ⟨j, a, z, r5, bs5, is5, rfl, HZ, rfl, HAO, hjM, HS5⟩ := hrel
          have ha1 : a ≤ 1000000 := by have := HAO.out; have := HOO.out.1; have := HN.out; omega
          by_cases hz : gk = 0
          · have HS6 : Aside0 (St w wr x0 b1 b2 r5 r2' (enc7 N ++ enc7 L) src tgt (iv + M) [] bs5 is5) := ⟨by have := HS5.out; rwa [show iv + j = iv + M by omega] at this⟩
            obtain rfl : z = 0 := by have := HZ.out; omega
            subst hz
            go_wp2_with fail
            go_roundg (L + 1 - (iv + M))
            case measure => omega
            case rel => exact ⟨iv + M, iv + M, [], bs5, is5, r5, r2', by first | rfl | (congr 1; omega), by omega, Or.inl rfl, by omega, HS6⟩
          · have hz0 : 0 < z := by have := HZ.out; omega
            have hz1 : z ≤ 1000000 := by have := HZ.out; have := HOO.out.1; have := HN.out; omega
            by_cases hg : (gk : Int) < 65536
            · obtain ⟨b, hE, hb8, hb1, hbr, hcall⟩ := HandR.ecopy a gk N (by have := HAO.out; have := HOO.out.1; have := HN.out; omega) (by omega) (by omega) (by omega)
              have HC : Aside0 (Calls Tryd.prog 42 #[.int .i64 (a : Int), .int .i64 z] wr _) := ⟨by rw [HZ.out]; exact hcall wr⟩
              have HBB := Aside0.mk (⟨hE, hb8, hb1, hbr⟩ : _ ∧ _ ∧ _ ∧ _)
              have hgb : decide (z < 65536) = true := decide_eq_true (by rw [HZ.out]; exact hg)
              have HGG := Aside0.mk hg
              have HHZ := Aside0.mk hz
              clear hcall hE hb8 hb1 hbr hg hz
              go_wp2_with (first
                | (go_at_call 42
                   (with_reducible refine HC.out.mono ?_)
                   rintro e w5 ⟨A1, c1, rfl, ⟨g5, rfl, hg5, hg5', hc5, hcell5⟩, hb5⟩
                   have hlt := HS5.out.f1.lt
                   have HS6 := Aside0.mk (HS5.out.below hb5)
                   have HW5 := Aside0.mk (bwrote b1 r5 (enc7 N ++ enc7 L ++ bs5) b g5 0 c1 w5 HS6.out.f1 HBB.out.2.2.1 (by omega) (fun j x hj => by rw [Nat.zero_add]; exact hcell5 j x hj) (by have h1 := HS6.out.bound.1; have h2 := hhdr.out; have h3 := HBB.out.2.1; rw [← HL.out] at h1; omega))
                   clear hb5 hcell5 hlt)
                | (go_at_call 33
                   (with_reducible refine HW5.out.mono ?_)
                   rintro e w6 ⟨rfl, hW6⟩
                   have HN6 : Aside0 (∃ r6 bs6 is6, St w w6 x0 b1 b2 r6 r2' (enc7 N ++ enc7 L) src tgt (iv + M) [] bs6 is6) := ⟨by
                     have hm : made src is5 = tgt.take (iv + j) := by have := HS6.out.mkd; rwa [List.append_nil] at this
                     have hml : made src [.copy a gk] = (src.drop a).take gk := by simp [made, Ins.made]
                     have hsg := seg src tgt O iv M j gk HOO.out.2 (by have := HGG.out; omega)
                     rw [← HAO.out] at hsg
                     have hll : ((src.drop a).take gk).length = gk := by rw [List.length_take, List.length_drop]; have := HAO.out; have := HOO.out.1; have := HGG.out; omega
                     obtain ⟨r6, hB6, _, hst⟩ := HS6.out.put1 (pend' := []) (j := iv + M) (js := [.copy a gk]) (ins := b) (by have := Encs.cons HBB.out.1 .nil; rw [List.append_nil] at this; rw [← HN.out]; exact this)
                       (by rw [made_append, hm, hml, List.append_nil, hsg, ← List.take_add, show iv + j + gk = iv + M by omega]) HBB.out.2.2.2 (by rw [hml, hll]; have := HBB.out.2.1; have := HHZ.out; omega) hW6
                     exact ⟨r6, _, _, hst (by assumption)⟩⟩
                   clear hW6))
              obtain ⟨r6, bs6, is6, hS6⟩ := HN6.out
              have hz := HHZ.out
              have hg := HGG.out
              go_roundg (L + 1 - (iv + M))
              case measure => omega
              case rel => exact ⟨iv + M, iv + M, [], bs6, is6, r6, r2', by first | rfl | (congr 1; omega), by omega, Or.inl rfl, by omega, ⟨hS6⟩⟩
            · obtain ⟨b, hE, hb8, hb1, hbr, hcall⟩ := HandR.ecopy a 65536 N (by have := HAO.out; have := HOO.out.1; have := HN.out; omega) (by omega) (by omega) (by omega)
              have hcall2 : Calls Tryd.prog 42 #[.int .i64 (a : Int), .int .i64 65536] wr _ := hcall wr
              have HC := Aside0.mk hcall2
              have HBB := Aside0.mk (⟨hE, hb8, hb1, hbr⟩ : _ ∧ _ ∧ _ ∧ _)
              have hgb : decide (z < 65536) = false := decide_eq_false (by rw [HZ.out]; exact hg)
              have HGG := Aside0.mk hg
              have HHZ := Aside0.mk hz
              clear hcall hcall2 hE hb8 hb1 hbr hg hz
              go_wp2_with (first
                | (go_at_call 42
                   (with_reducible refine HC.out.mono ?_)
                   rintro e w5 ⟨A1, c1, rfl, ⟨g5, rfl, hg5, hg5', hc5, hcell5⟩, hb5⟩
                   have hlt := HS5.out.f1.lt
                   have HS6 := Aside0.mk (HS5.out.below hb5)
                   have HW5 := Aside0.mk (bwrote b1 r5 (enc7 N ++ enc7 L ++ bs5) b g5 0 c1 w5 HS6.out.f1 HBB.out.2.2.1 (by omega) (fun j x hj => by rw [Nat.zero_add]; exact hcell5 j x hj) (by have h1 := HS6.out.bound.1; have h2 := hhdr.out; have h3 := HBB.out.2.1; rw [← HL.out] at h1; omega))
                   clear hb5 hcell5 hlt)
                | (go_at_call 33
                   (with_reducible refine HW5.out.mono ?_)
                   rintro e w6 ⟨rfl, hW6⟩
                   have HN6 : Aside0 (∃ r6 bs6 is6, St w w6 x0 b1 b2 r6 r2' (enc7 N ++ enc7 L) src tgt (iv + (j + 65536)) [] bs6 is6) := ⟨by
                     have hm : made src is5 = tgt.take (iv + j) := by have := HS6.out.mkd; rwa [List.append_nil] at this
                     have hml : made src [.copy a 65536] = (src.drop a).take 65536 := by simp [made, Ins.made]
                     have hsg := seg src tgt O iv M j 65536 HOO.out.2 (by have := HGG.out; omega)
                     rw [← HAO.out] at hsg
                     have hll : ((src.drop a).take 65536).length = 65536 := by rw [List.length_take, List.length_drop]; have := HAO.out; have := HOO.out.1; have := HGG.out; omega
                     obtain ⟨r6, hB6, _, hst⟩ := HS6.out.put1 (pend' := []) (j := iv + (j + 65536)) (js := [.copy a 65536]) (ins := b) (by have := Encs.cons HBB.out.1 .nil; rw [List.append_nil] at this; rw [← HN.out]; exact this)
                       (by rw [made_append, hm, hml, List.append_nil, hsg, ← List.take_add, Nat.add_assoc]) HBB.out.2.2.2 (by rw [hml, hll]; have := HBB.out.2.1; have := HHZ.out; omega) hW6
                     exact ⟨r6, _, _, hst (by assumption)⟩⟩
                   clear hW6))
              obtain ⟨r6, bs6, is6, hS6⟩ := HN6.out
              have hz := HHZ.out
              have hg := HGG.out
              go_roundg (gk - 65536)
              case measure => omega
              case rel => exact ⟨j + 65536, a + 65536, _, r6, bs6, is6, rfl, ⟨by have := HZ.out; omega⟩, by first | rfl | (congr 1; omega), ⟨by have := HAO.out; omega⟩, by omega, ⟨hS6⟩⟩
      · go_loopg [9] (L + 1 - iv) (fun g1 v9 w' => ∃ (jj : Nat) (pend3 : List Int) (r3 : Option Nat), v9 = .int .i64 (jj : Int) ∧ jj + g1 = L + 1 ∧ jj ≤ L ∧ Aside0 (St w w' x0 b1 b2 r1 r3 (enc7 N ++ enc7 L) src tgt jj pend3 bs is))
        case atStart => exact ⟨iv, pend, r2', rfl, by omega, by omega, HQ⟩
        case round =>
          obtain ⟨jj, pend3, r3, rfl, hjg, hjL, HS3⟩ := hrel
          by_cases hj : jj < L
          · obtain ⟨x3, hx3⟩ : ∃ x, tgt[jj]? = some x := ⟨_, List.getElem?_eq_getElem (by rw [← HL.out]; exact hj)⟩
            have cx3 := HTC.out wr (HS3.out.off.below hx0 (fun k hk => by omega)) jj x3 hx3
            have HX3 := Aside0.mk hx3
            have HY := Aside0.mk (bbyte b2 r3 pend3 x3 wr HS3.out.f2 (by have := HS3.out.bound.2; rw [← HL.out] at this; omega))
            clear hx3 cx
            go_wp2_with (
              go_at_call 40
              (with_reducible refine HY.out.mono ?_)
              rintro e w2 ⟨rfl, hW2⟩
              have HN2 := Aside0.mk (HS3.out.put2 x3 HX3.out hW2)
              clear hW2)
            obtain ⟨r4', hS4⟩ := HN2.out
            go_roundg (gk - 1)
            case measure => omega
            case rel => exact ⟨jj + 1, pend3 ++ [x3], r4', rfl, by omega, by omega, ⟨hS4⟩⟩
          · have hjL2 : jj = L := by omega
            subst hjL2
            clear cx
            go_wp2_with fail
            go_roundg 0
            case measure => omega
            case rel => exact ⟨jj, jj + 1, pend3, bs, is, r1, r3, rfl, by omega, Or.inr ⟨rfl, rfl⟩, by omega, HS3⟩
      · obtain ⟨r4', hS4⟩ := HN2.out
        go_roundg (gk - 1)
        case measure => omega
        case rel => exact ⟨iv + 1, iv + 1, pend ++ [x], bs, is, r1, r4', rfl, by omega, Or.inl rfl, by omega, ⟨hS4⟩⟩
      · go_loopg [12] M (fun g1 v12 w' => ∃ (jj : Nat) (pend3 : List Int) (r3 : Option Nat), v12 = .int .i64 (jj : Int) ∧ jj + g1 = iv + M ∧ Aside0 (St w w' x0 b1 b2 r1 r3 (enc7 N ++ enc7 L) src tgt jj pend3 bs is))
        case atStart => exact ⟨iv, pend, r2', rfl, by omega, HQ⟩
        case round =>
          obtain ⟨jj, pend3, r3, rfl, hjg, HS3⟩ := hrel
          by_cases hj : jj < iv + M
          · obtain ⟨x3, hx3⟩ : ∃ x, tgt[jj]? = some x := ⟨_, List.getElem?_eq_getElem (by rw [← HL.out]; omega)⟩
            have cx3 := HTC.out wr (HS3.out.off.below hx0 (fun k hk => by omega)) jj x3 hx3
            have HX3 := Aside0.mk hx3
            have HY := Aside0.mk (bbyte b2 r3 pend3 x3 wr HS3.out.f2 (by have := HS3.out.bound.2; rw [← HL.out] at this; omega))
            clear hx3 cx
            go_wp2_with (
              go_at_call 40
              (with_reducible refine HY.out.mono ?_)
              rintro e w2 ⟨rfl, hW2⟩
              have HN2 := Aside0.mk (HS3.out.put2 x3 HX3.out hW2)
              clear hW2)
            obtain ⟨r4', hS4⟩ := HN2.out
            go_roundg (gk - 1)
            case measure => omega
            case rel => exact ⟨jj + 1, pend3 ++ [x3], r4', rfl, by omega, ⟨hS4⟩⟩
          · have hjL2 : jj = iv + M := by omega
            subst hjL2
            clear cx
            go_wp2_with fail
            go_roundg (L + 1 - (iv + M))
            case measure => omega
            case rel => exact ⟨iv + M, iv + M, pend3, bs, is, r1, r3, by first | rfl | (congr 1; omega), by omega, Or.inl rfl, by omega, HS3⟩
    · obtain rfl : i = L := by omega
      have HIN := Aside0.mk (HandS.insert b1 b2 r1 r2' (enc7 N ++ enc7 i ++ bs) pend wr HSt.out.f1 HSt.out.f2 HSt.out.ne HSt.out.sep (fun x hx => HRG.out x (HSt.out.pend_mem x hx)) (by have h1 := HSt.out.bound; have h2 := hhdr.out; rw [← HL.out] at h1; omega))
      go_upto_region 36 with (
        go_at_call 41
        (with_reducible refine HIN.out.mono ?_)
        rintro e w2 ⟨rfl, ins, w1, hI, hW, hOff, hB⟩
        have HN2 := Aside0.mk (HSt.out.flush hI hW hOff hB)
        clear hI hW hOff hB)
      obtain ⟨r3, bs3, is3, hS3⟩ := HN2.out
      have hmk := hS3.mkd
      rw [List.append_nil, List.take_of_length_le (by rw [← HL.out]; exact Nat.le_refl _)] at hmk
      have HE := Aside0.mk (⟨hS3.enc, hmk, hS3.rng, hS3.len⟩ : _ ∧ _ ∧ _ ∧ _)
      obtain ⟨Z, hZ⟩ : ∃ Z, Z = enc7 N ++ enc7 i ++ bs3 := ⟨_, rfl⟩
      have hf1 := hS3.f1
      rw [← hZ] at hf1
      have HZ := Aside0.mk hZ
      have hZl : 1 ≤ Z.length ∧ Z.length ≤ 20000000 := by
        have h1 := enc7_pos N
        have h2 := hhdr.out
        have h3 := hS3.bound.1
        rw [← HL.out, ← hZ] at h3
        have h4 := congrArg List.length hZ
        rw [List.length_append, List.length_append] at h4
        omega
      have HZL := Aside0.mk hZl
      obtain ⟨g3, rfl⟩ : ∃ g3, r3 = some g3 := by
        cases r3 with
        | none =>
          have h1 := hf1.1
          have h2 := congrArg List.length h1
          rw [nums_length] at h2
          have h3 : Z.length = 0 := h2
          omega
        | some g3 => exact ⟨g3, rfl⟩
      have HF1 := Aside0.mk hf1
      have HOF := Aside0.mk hS3.off
      clear hS3 hmk hZ hf1 hZl
      go_wp2_with (first
        | ((with_reducible refine gate_dst (N := 123) rfl ?_)
           refine Kd.R_lit (Kd.int .u8) _ 5 ?hg (N := 123) ?hd (xs := ([] : List Int)) (inner := []) (ok := fun _ => True) (okp := fun _ => True) ?hr ?hp (fun _ hk => hk) trivial (Below.refl _ _) (Nat.le_refl _) (by simp) ?_
           (case hd => rfl)
           (case hg => rfl)
           (case hr => first | (go_simp; done) | (go_simp; rfl))
           (case hp => exact Reps.none _ _)
           intro v9 w9 ho hb hg_ hnew_
           have HO9 := Aside0.mk ho
           have HB9 := Aside0.mk hb
           have hf9 := HF1.out.off (Off.of_below hb (fun _ => False)) id (fun _ _ => id)
           have hY := HandL.bytes b1 g3 (nums .u8 Z) w9 hf9 (by rw [nums_length]; exact HZL.out.1)
           rw [nums_length] at hY
           have HY := Aside0.mk hY
           have HF9 := Aside0.mk hf9
           clear ho hb hg_ hnew_ hf9 hY)
        | (go_at_call 24
           (with_reducible refine HY.out.mono ?_)
           rintro e w10 ⟨cap, rfl, hcap, q10, rfl⟩
           have HCAP := Aside0.mk hcap
           clear hcap)
        | ((with_reducible refine gate_builtin (b := .append) (xs := #[.tmp 123, .tmp 125]) rfl ?_)
           at_builtin
           refine Kd.R_append_rows (Kd.int .u8) (w0 := w2) w2.heap.size rfl (.tmp 123) (.tmp 125) 22 5 (.int .u8 0) 1 rfl Tryd.underlying22 info5 rfl (by decide) (by omega) v9 ([] : List Int) Z _ _ _ (fun _ => True) (fun _ => False) rfl rfl ?aO ?aR (fun _ _ h => h) (fun _ h => h.elim) ?aF ?aB ?aS ?aL ?_
           (case aR => exact C_of_Sd (B := g3 + 1) (c := cap) ⟨HCAP.out, by have := HZL.out.2; omega, by
              rw [HZ.out]
              intro x hx
              rcases List.mem_append.1 hx with hx | hx
              · rcases List.mem_append.1 hx with hx | hx
                · exact enc7_range _ x hx
                · exact enc7_range _ x hx
              · exact HE.out.2.2.1 x hx, fun _ => ⟨g3, 0, rfl, Nat.lt_succ_self _, fun j x hj => by rw [Nat.zero_add]; exact Buf.bytes HF9.out j x hj⟩⟩)
           (case aB => exact pw_below_drewN HB9.out _)
           (case aF => exact fun _ _ => trivial)
           (case aO => exact Kd.R_drewN HO9.out _)
           (case aS => exact HB9.out.size)
           (case aL => have := HZL.out; simp; omega)
           intro v11 w11 ho hb hg hat
           rw [List.nil_append] at ho
           have HO11 := Aside0.mk ho
           have HB11 := Aside0.mk hb
           clear ho hb hg hat))
      refine leaves_cons (f := 36) (args := #[.pointer (some ⟨b2, 0, none⟩)]) (by simp) (enters_of Tryd.func36 (by kernel_rfl) rfl _ _) ?_
      refine (HandW.putback _ _).mono ?_
      rintro e u' wz ⟨rfl, rfl, rfl⟩
      refine leaves_cons (f := 36) (args := #[.pointer (some ⟨b1, 0, none⟩)]) (by intro h; cases h) (enters_of Tryd.func36 (by kernel_rfl) rfl _ _) ?_
      refine (HandW.putback _ _).mono ?_
      rintro e u' wy ⟨rfl, rfl, rfl⟩
      refine ⟨_, results_tmp rfl _ _ _, ?_⟩
      refine ⟨v11, bs3, is3, rfl, by rw [HN.out]; exact HE.out.1, HE.out.2.1, fun he => ?_, HE.out.2.2.1, by have h1 := HE.out.2.2.2; rw [HE.out.2.1, ← HL.out] at h1; exact h1, ?_, ?_⟩
      · have h1 := HE.out.2.1
        rw [he] at h1
        have h2 := congrArg List.length h1
        rw [← HL.out] at h2
        simp [made] at h2
        omega
      · have h1 := HO11.out
        rw [HZ.out, List.append_assoc] at h1
        exact Kd.R_lower h1 HOF.out.zero.size
      · exact HOF.out.trans (Off.of_below HB11.out (fun _ => False)) (fun _ _ h => h.elim)
end Go.Proofs.YtlboochpbplhlaaDoor.HandX

set_option linter.unusedVariables false
set_option linter.unusedSimpArgs false
namespace Go.Proofs.YtlboochpbplhlaaDoor.HandY
open Go.RowKit Go.Proofs.YtlboochpbplhlaaDoorW.PrintWords Go.Proofs.YtlboochpbplhlaaDoor.QAll PureD HandA HandB HandC HandD HandE HandK HandN HandQ HandX
open Go.Proofs.YtlboochpbplhlaaDoorW.PrintLast Go.Proofs.YtlboochpbplhlaaDoorW.PrintMore

/-- What a found delta is. -/
def Found (src tgt bs : List Int) (is : List Ins) : Prop := Encs src.length is bs ∧ made src is = tgt ∧ is ≠ [] ∧ (∀ x ∈ bs, 0 ≤ x ∧ x ≤ 255) ∧ bs.length ≤ 8 * tgt.length
set_option maxHeartbeats 8000000 in
set_option maxRecDepth 100000 in
theorem diffDelta (As At : Option Addr) (cs ct : Nat) (src tgt : List Int) (w : World) (hT : TabT w) (h8 : Tab8 w) (hS : Sd w w.heap.size As cs src) (hG : Sd w w.heap.size At ct tgt) (hs : src.length ≤ 1000000) (ht : tgt.length ≤ 2000000) (ht1 : 1 ≤ tgt.length) :
    Calls Tryd.prog 22 #[.slice As src.length cs, .slice At tgt.length ct] w fun e w' => ∃ v bs is, e = .returned v ∧ Found src tgt bs is ∧ Kd.R (Kd.int .u8) 5 w' w.heap.size (fun _ => True) v (enc7 src.length ++ (enc7 tgt.length ++ bs)) ∧ Below w.heap.size w w' := by
  have hb0 : Below w.heap.size w (w.alloc (.cells #[.slice none 0 0, .slice none 0 0, .int .i64 0] 59)) := (Below.refl _ _).alloc (Nat.le_refl _) _
  have HD := Aside0.mk (HandX.diff w.heap.size As At cs ct src tgt (w.alloc (.cells #[.slice none 0 0, .slice none 0 0, .int .i64 0] 59)) hb0.size (fun W hW => hT.below (hb0.trans hW)) (fun W hW => h8.below (hb0.trans hW)) (hS.below hb0) (hG.below hb0) (heap_alloc_new w _) hs ht ht1)
  have HB0 := Aside0.mk hb0
  clear hT h8 hS hG hb0
  go_enter Tryd.func22, Tryd.ntmps22
  go_wp2_with (
    go_at_call 25
    (with_reducible refine HD.out.mono ?_)
    rintro e w2 ⟨v, bs, is, rfl, h1, h2, h3, h4, h5, hR, hO⟩
    have HF : Aside0 (Found src tgt bs is) := ⟨⟨h1, h2, h3, h4, h5⟩⟩
    have HR := Aside0.mk hR
    have HO := Aside0.mk hO
    clear h1 h2 h3 h4 h5 hR hO)
  go_ret
  exact ⟨v, bs, is, rfl, HF.out, Kd.R_lower HR.out HB0.out.size, HB0.out.trans (HO.out.below HB0.out.size (fun k hk => by omega))⟩

set_option maxHeartbeats 8000000 in
set_option maxRecDepth 100000 in
theorem implDiff (A0 A1 : Option Addr) (c0 c1 : Nat) (l0 l1 : List Int) (w : World) (hT : TabT w) (h8 : Tab8 w) (hr0 : Kd.C (Kd.int .u8) w A0 l0.length l0) (hr1 : Kd.C (Kd.int .u8) w A1 l1.length l1)
    (h0 : ∀ x ∈ l0, 0 ≤ x ∧ x ≤ 255) (h1 : ∀ x ∈ l1, 0 ≤ x ∧ x ≤ 255) (hs : l0.length ≤ 1000000) (ht : l1.length ≤ 2000000) (ht1 : 1 ≤ l1.length) :
    Calls Tryd.prog 16 #[.slice A0 l0.length c0, .slice A1 l1.length c1] w fun e w' => ∃ v bs is, e = .returned v ∧ Found l0 l1 bs is ∧ Kd.R (Kd.int .u8) 5 w' w.heap.size (fun _ => True) v (enc7 l0.length ++ (enc7 l1.length ++ bs)) ∧ Below w.heap.size w w' := by
  have hl0 : l0.length ≤ 140737488351232 := by omega
  have hl1 : l1.length ≤ 140737488351232 := by omega
  have HH := Aside0.mk (fun (W : World) (As Ad : Option Addr) (cs cd : Nat) (hb : Below w.heap.size w W) (hS : Sd W W.heap.size As cs l0) (hD : Sd W W.heap.size Ad cd l1) => diffDelta As Ad cs cd l0 l1 W (hT.below hb) (h8.below hb) hS hD hs ht ht1)
  have hu42 := Tryd.underlying42
  have HR0 := Aside0.mk hr0
  have HR1 := Aside0.mk hr1
  have HX0 := Aside0.mk h0
  have HX1 := Aside0.mk h1
  have HL0 := Aside0.mk hl0
  have HL1 := Aside0.mk hl1
  have HB := Aside0.mk (Below.refl w.heap.size w)
  clear hr0 hr1 h0 h1 hT h8 hl0 hl1
  go_enter Tryd.func16, Tryd.ntmps16
  go_wp2_with (first
    | ((with_reducible refine gate_dst (N := 5) rfl ?_); refine Kd.R_lit (Kd.int .u8) _ 5 ?hg (N := 5) ?hd (xs := ([] : List Int)) (inner := []) (ok := fun _ => True) (okp := fun _ => True) ?hr ?hp (fun _ hk => hk) trivial (Below.refl _ _) (Nat.le_refl _) (by simp) ?_; (case hd => rfl); (case hg => rfl); (case hr => first | (go_simp; done) | (go_simp; rfl)); (case hp => exact Reps.none _ _); intro v9 w9 ho hb hg_ hnew_; have n0_ := Aside0.mk (Kd.R_lower ho (below_size (by repeat (first | (with_reducible first | exact HB.out | apply below_alloc | apply pw_below_drewN | apply below_drew1) | exact HB.out)))); have n1_ := Aside0.mk (below_step (by repeat (first | (with_reducible first | exact HB.out | apply below_alloc | apply pw_below_drewN | apply below_drew1) | exact HB.out)) hb); clear HB; have HO9 := n0_; have HB := n1_; clear n0_ n1_ hg_ hnew_ ho hb)
    | ((with_reducible refine gate_builtin (b := .append) (xs := #[.tmp 5, .tmp 6]) rfl ?_); at_builtin; refine Kd.R_append_rows (Kd.int .u8) (w0 := w) w.heap.size rfl (.tmp 5) (.tmp 6) 22 5 (.int .u8 0) 1 rfl Tryd.underlying22 info5 rfl (by decide) (by omega) v9 ([] : List Int) l0 _ _ _ (fun _ => True) (fun _ => False) rfl rfl ?aO ?aR (fun _ _ h => h) (fun _ h => h.elim) ?aF ?aB ?aS ?aL ?_; (case aR => exact Kd.C_below HR0.out (by repeat (first | (with_reducible first | exact HB.out | apply below_alloc | apply pw_below_drewN | apply below_drew1) | exact HB.out))); (case aB => exact (by repeat (first | (with_reducible first | exact HB.out | apply below_alloc | apply pw_below_drewN | apply below_drew1) | exact HB.out))); (case aF => exact fun _ _ => trivial); (case aO => exact (by (with_reducible repeat (first | apply Kd.R_alloc | apply Kd.R_drewN | apply Kd.R_drew)); exact HO9.out)); (case aS => exact (below_size (by repeat (first | (with_reducible first | exact HB.out | apply below_alloc | apply pw_below_drewN | apply below_drew1) | exact HB.out)))); (case aL => have := HL0.out; simp; omega); intro v11 w11 ho hb hg hat; rw [List.nil_append] at ho; have n0_ := Aside0.mk hb; have HO11 := Aside0.mk ho; clear HB HO9; have HB := n0_; clear n0_ ho hb hg hat)
    | ((with_reducible refine gate_dst (N := 8) rfl ?_); refine Kd.R_lit (Kd.int .u8) _ 5 ?hg (N := 8) ?hd (xs := ([] : List Int)) (inner := []) (ok := fun _ => True) (okp := fun _ => True) ?hr ?hp (fun _ hk => hk) trivial (Below.refl _ _) (Nat.le_refl _) (by simp) ?_; (case hd => rfl); (case hg => rfl); (case hr => first | (go_simp; done) | (go_simp; rfl)); (case hp => exact Reps.none _ _); intro v12 w12 ho hb hg_ hnew_; have n2_ := Aside0.mk (Kd.R_elder' (by (with_reducible repeat (first | apply Kd.R_alloc | apply Kd.R_drewN | apply Kd.R_drew)); exact HO11.out) (Kd.R_base ho) hb); have n0_ := Aside0.mk (Kd.R_lower (Kd.R_new' ho (Kd.R_lt (by (with_reducible repeat (first | apply Kd.R_alloc | apply Kd.R_drewN | apply Kd.R_drew)); exact HO11.out))) (below_size (by repeat (first | (with_reducible first | exact HB.out | apply below_alloc | apply pw_below_drewN | apply below_drew1) | exact HB.out)))); have n1_ := Aside0.mk (below_step (by repeat (first | (with_reducible first | exact HB.out | apply below_alloc | apply pw_below_drewN | apply below_drew1) | exact HB.out)) hb); clear HB HO11; have HO12 := n0_; have HB := n1_; have HO11 := n2_; clear n0_ n1_ n2_ hg_ hnew_ ho hb)
    | ((with_reducible refine gate_builtin (b := .append) (xs := #[.tmp 8, .tmp 9]) rfl ?_); at_builtin; refine Kd.R_append_rows (Kd.int .u8) (w0 := w) w.heap.size rfl (.tmp 8) (.tmp 9) 22 5 (.int .u8 0) 1 rfl Tryd.underlying22 info5 rfl (by decide) (by omega) v12 ([] : List Int) l1 _ _ _ (fun k_ => True ∧ some k_ ≠ v11.ownBlock) (fun _ => False) rfl rfl ?aO ?aR (fun _ _ h => h) (fun _ h => h.elim) ?aF ?aB ?aS ?aL ?_; (case aR => exact Kd.C_below HR1.out (by repeat (first | (with_reducible first | exact HB.out | apply below_alloc | apply pw_below_drewN | apply below_drew1) | exact HB.out))); (case aB => exact (by repeat (first | (with_reducible first | exact HB.out | apply below_alloc | apply pw_below_drewN | apply below_drew1) | exact HB.out))); (case aF => exact (fun k_ hk => ⟨trivial, Kd.fresh' (Kd.R_lt (by (with_reducible repeat (first | apply Kd.R_alloc | apply Kd.R_drewN | apply Kd.R_drew)); exact HO11.out)) k_ hk⟩)); (case aO => exact (by (with_reducible repeat (first | apply Kd.R_alloc | apply Kd.R_drewN | apply Kd.R_drew)); exact HO12.out)); (case aS => exact (below_size (by repeat (first | (with_reducible first | exact HB.out | apply below_alloc | apply pw_below_drewN | apply below_drew1) | exact HB.out)))); (case aL => have := HL1.out; simp; omega); intro v14 w14 ho hb hg hat; rw [List.nil_append] at ho; have n2_ := Aside0.mk (Kd.R_after (ok := fun _ => True) (by (with_reducible repeat (first | apply Kd.R_alloc | apply Kd.R_drewN | apply Kd.R_drew)); exact HO11.out) hg hat); have n0_ := Aside0.mk hb; have HO14 := Aside0.mk ho; clear HB HO12 HO11; have HB := n0_; have HO11 := n2_; clear n0_ n2_ ho hb hg hat))
  obtain ⟨As, cs, rfl, hS⟩ := Sd_of_R HO11.out HX0.out (by have := HL0.out; omega)
  obtain ⟨Ad, cd, rfl, hD⟩ := Sd_of_R HO14.out HX1.out (by have := HL1.out; omega)
  have HC := Aside0.mk (HH.out _ As Ad cs cd HB.out hS hD)
  clear hS hD
  (with_reducible refine HC.out.mono ?_)
  rintro e w2 ⟨v, bs, is, rfl, hF, hR, hb⟩
  have HB2 : Aside0 (Below w.heap.size w w2) := ⟨below_step HB.out hb⟩
  have HV : Aside0 (Kd.R (Kd.int .u8) 5 w2 w.heap.size (fun _ => True) v (enc7 l0.length ++ (enc7 l1.length ++ bs))) := ⟨Kd.R_lower hR HB.out.size⟩
  have HF := Aside0.mk hF
  clear hR hb hF
  go_wp2
  go_ret
  exact ⟨v, bs, is, rfl, HF.out, HV.out, HB2.out⟩
end Go.Proofs.YtlboochpbplhlaaDoor.HandY
