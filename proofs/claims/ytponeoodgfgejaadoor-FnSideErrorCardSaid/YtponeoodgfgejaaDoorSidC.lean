/- sideband.Muxer over a bytes.Buffer: Encode of one payload, doWrite. sideband.Muxer: WriteChannel, Write. -/
import Derived.Test.YtponeoodgfgejaaDoorSidB
import Derived.Test.YtponeoodgfgejaaDoorHandF
import Derived.Test.YtponeoodgfgejaaDoorHandL
import Derived.Test.YtponeoodgfgejaaDoorQAllx
set_option linter.unusedVariables false
set_option linter.unusedSimpArgs false
namespace Go.Proofs.YtponeoodgfgejaaDoor.SidC
open Go.RowKit Go.Proofs.YtponeoodgfgejaaDoorW.PrintWords Go.Proofs.YtponeoodgfgejaaDoor.QAll PureA PureP HandF PbkA BufA BufB SidB

theorem Off.cell {W W' : World} {S : Nat → Prop} (h : Off W W' S) {a : Addr} {v : Value} (hc : W.cell? a = some v) (hn : ¬ S a.block) : W'.cell? a = some v := by
  rw [← hc]
  exact World.cell?_of_block (h.blk _ (World.block_lt_of_cell? W _ hc) hn)
theorem at_of_C {W : World} {A : Option Addr} {p : List Int} (h : Kd.C (Kd.int .u8) W A p.length p) (hp : 0 < p.length) : ∃ ad, A = some ad ∧ At W ad p := C_cells h hp

set_option maxHeartbeats 8000000 in
set_option maxRecDepth 100000 in
/-- Encode of one payload, which lies behind a slice's one place. -/
theorem encode1 {W : World} {b e : Nat} {r : Option Nat} {l : List Int} (h : Es W b r e l) (hl : l.length ≤ 900000000) (p : List Int) (ad : Addr) (qb n c : Nat) (hn : n = p.length) (hp0 : p ≠ []) (hp : p.length ≤ 65516) (hS : At W ad p) (hab : ad.block ≠ b) (har : r ≠ some ad.block)
    (hq : W.cell? ⟨qb, 0, none⟩ = some (.slice (some ad) n c)) :
    Calls Tryd.prog 46 #[.pointer (some ⟨e, 0, none⟩), .slice (some ⟨qb, 0, none⟩) 1 1] W fun x w' => x = .returned .nilIface ∧ ∃ r', Wr W w' b r e (l ++ lineOf p) r' := by
  have HEL := Aside0.mk (encodeLine h hl p ad n c hn hp0 hp hS hab har)
  clear h hl hn hp0 hp hS hab har
  have ha0 : W.cell? (Addr.add ⟨qb, 0, none⟩ 0) = some (.slice (some ad) n c) := hq
  go_enter Tryd.func46, Tryd.ntmps46
  go_wp2
  go_loopg [10] 1 (fun gk v10 w' => ∃ i : Nat, v10 = .int .i64 (i : Int) ∧ gk + i = 1 ∧ Aside0 ((i = 0 ∧ w' = W) ∨ (i = 1 ∧ ∃ r', Wr W w' b r e (l ++ lineOf p) r')))
  case atStart => exact ⟨0, rfl, rfl, ⟨.inl ⟨rfl, rfl⟩⟩⟩
  case round =>
    obtain ⟨i, rfl, hi, HS⟩ := hrel
    rcases HS.out with ⟨rfl, rfl⟩ | ⟨rfl, r', hr⟩
    · clear HS
      go_wp2_with (first
        | (go_at_call 59
           (with_reducible refine HEL.out.mono ?_)
           rintro x w2 ⟨rfl, r2, hb2⟩
           have HB2 := Aside0.mk hb2
           clear hb2)
        | fail)
      go_roundg (gk - 1)
      case measure => omega
      case rel => exact ⟨1, rfl, by omega, ⟨.inr ⟨rfl, r2, HB2.out⟩⟩⟩
    · clear HS
      have HR := Aside0.mk hr
      clear hr
      go_wp2
      go_ret
      exact ⟨rfl, r', HR.out⟩

/-- A Muxer over the buffer. -/
structure Mu (W : World) (b : Nat) (r : Option Nat) (e m mx : Nat) (l : List Int) : Prop where
  es : Es W b r e l
  mux : W.heap[m]? = some (.cells #[.int .i64 (mx : Int), .pointer (some ⟨e, 0, none⟩)] 84 (0, 0))
  ne : m ≠ b
  nr : r ≠ some m
theorem Mu.cell0 {W : World} {b e m mx : Nat} {r : Option Nat} {l : List Int} (h : Mu W b r e m mx l) : W.cell? ⟨m, 0, none⟩ = some (.int .i64 (mx : Int)) := (Lib.cell_of_heap h.mux 0).trans rfl
theorem Mu.cell1 {W : World} {b e m mx : Nat} {r : Option Nat} {l : List Int} (h : Mu W b r e m mx l) : W.cell? ⟨m, 1, none⟩ = some (.pointer (some ⟨e, 0, none⟩)) := (Lib.cell_of_heap h.mux 1).trans rfl
theorem Mu.below {W W' : World} {b e m mx : Nat} {r : Option Nat} {l : List Int} (h : Mu W b r e m mx l) (hb : Below W.heap.size W W') : Mu W' b r e m mx l :=
  ⟨h.es.below hb, (hb.block m (Lib.lt_of_heap h.mux)).trans h.mux, h.ne, h.nr⟩
theorem Mu.wr {W W' : World} {b e m mx : Nat} {r r' : Option Nat} {l l' : List Int} (h : Mu W b r e m mx l) (k : Wr W W' b r e l' r') : Mu W' b r' e m mx l' := by
  refine ⟨k.es, (k.off.blk m (Lib.lt_of_heap h.mux) (by rintro (q | q); exact h.ne q; exact h.nr q)).trans h.mux, h.ne, ?_⟩
  rcases k.row with rfl | ⟨N, rfl, hN⟩
  · exact h.nr
  · intro q
    have := Option.some.inj q
    have := Lib.lt_of_heap h.mux
    omega
theorem C_take {W : World} {A : Option Addr} {p : List Int} (h : Kd.C (Kd.int .u8) W A p.length p) (k : Nat) (hk : k ≤ p.length) : Kd.C (Kd.int .u8) W A (p.take k).length (p.take k) := by
  have h1 := (Kd.reads_of_C (d := (0 : Int)) h).take_ k hk
  rw [List.length_take, Nat.min_eq_left hk]
  exact Kd.C_of_reads (h1 := fun _ => rfl) h1

theorem row_of_R {w : World} {base : Nat} {ok : Nat → Prop} {v : Value} {xs : List Int} (h : Kd.R (Kd.int .u8) 5 w base ok v xs) (hp : 0 < xs.length) : ∃ g c, v = .slice (some ⟨g, 0, none⟩) xs.length c ∧ xs.length ≤ c ∧ base ≤ g ∧ g < w.heap.size ∧ At w ⟨g, 0, none⟩ xs := by
  obtain ⟨A, c, rfl, hc, hC⟩ := Kd.R_reads h
  obtain ⟨ad, rfl, hat⟩ := C_cells hC hp
  obtain ⟨g, rfl⟩ := Kd.R_head h
  have hb := (Kd.R_bound h).1 g rfl
  exact ⟨g, c, rfl, hc, hb.2.1, hb.2.2.1, hat⟩
set_option maxHeartbeats 8000000 in
set_option maxRecDepth 100000 in
theorem doWrite {w0 W : World} {b e m mx : Nat} {r : Option Nat} {l : List Int} (h : Mu W b r e m mx l) (hw : Below w0.heap.size w0 W) (hl : l.length ≤ 900000000) (ch : Int) (p : List Int) (A : Option Addr) (n c : Nat) (hn : n = p.length) (hp0 : p ≠ []) (hm0 : 1 ≤ mx) (hp : (p.take mx).length ≤ 65515) (hnm : n ≤ 1000000000) (hmm : mx ≤ 65519) (hcc : n ≤ c) (hC : Kd.C (Kd.int .u8) w0 A n p) :
    Calls Tryd.prog 34 #[.pointer (some ⟨m, 0, none⟩), .int .u8 ch, .slice A n c] W fun x w' => x = .returned (.tuple #[.int .i64 ((p.take mx).length : Nat), .nilIface]) ∧ ∃ r', Wr W w' b r e (l ++ lineOf (ch :: p.take mx)) r' := by
  subst hn
  have c0 := h.cell0
  have c1 := (h.below (below_drew (Below.refl _ _))).cell1
  have HM := Aside0.mk h
  have HW := Aside0.mk hw
  have HL := Aside0.mk hl
  have HP := Aside0.mk hp
  obtain ⟨k, hk⟩ : ∃ k, k = (p.take mx).length := ⟨_, rfl⟩
  have hkm : k = min mx p.length := by rw [hk, List.length_take]
  have hkp : k ≤ p.length := by omega
  have htk : p.take mx = p.take k := by
    rw [hkm]
    by_cases q : mx ≤ p.length
    · rw [Nat.min_eq_left q]
    · rw [Nat.min_eq_right (by omega), List.take_of_length_le (by omega), List.take_of_length_le (by omega)]
  have hCt := C_take hC k hkp
  have hkl : (p.take k).length = k := by rw [List.length_take]; omega
  have hcut := toA A p.length c k (by omega)
  have HC : Aside0 (∀ W1, Below w0.heap.size w0 W1 → Calls Tryd.prog 47 #[.int .u8 ch, .slice A k c] W1 fun x w' => ∃ v0_ : Value, x = .returned v0_ ∧ Kd.R (Kd.int .u8) 5 w' W1.heap.size (fun _ => True) v0_ (ch :: p.take k) ∧ Below W1.heap.size W1 w') := ⟨fun W1 hb => by
    have := sideband_Channel_WithPayload.calls ch A c (p.take k) (ch :: p.take k) W1 (Kd.C_below hCt hb) (by omega) (by unfold sideband_Channel_WithPayload.f; rw [Option.bind_some, if_pos (by simp; omega)]; rfl)
    rw [hkl] at this
    exact this⟩
  rw [htk] at hp ⊢
  rw [htk] at HP
  rw [hkl] at HP hp ⊢
  have HKL := Aside0.mk hkl
  have HT := Aside0.mk htk
  have HK := Aside0.mk (show k ≤ 65515 by omega)
  have HEN : Aside0 (∀ (W1 : World) (g1 c1x : Nat), Mu W1 b r e m mx l → At W1 ⟨g1, 0, none⟩ (ch :: p.take k) → b < g1 → (∀ g, r = some g → g < g1) → Calls Tryd.prog 46 #[.pointer (some ⟨e, 0, none⟩), .slice (some ⟨W1.heap.size, 0, none⟩) 1 1] (W1.alloc (.cells #[.slice (some ⟨g1, 0, none⟩) (k + 1) c1x] 25)) fun x w' => x = .returned .nilIface ∧ ∃ r', Wr W1 w' b r e (l ++ lineOf (ch :: p.take k)) r') := ⟨fun W1 g1 c1x hM hA hb hr => by
    have hbl := below_alloc (Below.refl W1.heap.size W1) (.cells #[.slice (some ⟨g1, 0, none⟩) (k + 1) c1x] 25)
    refine (encode1 (hM.es.below hbl) hl (ch :: p.take k) ⟨g1, 0, none⟩ W1.heap.size (k + 1) c1x (by simp; omega) (by simp) (by simp; omega) (At.keep hA (Off.of_below hbl (fun _ => False)) (fun h => h)) (by show g1 ≠ b; omega) (by intro q; have := hr _ q; have : g1 < g1 := this; omega) ?_).mono ?_
    · exact (Lib.cell_of_heap (heap_alloc_new W1 _) 0).trans rfl
    · rintro x w' ⟨rfl, r', hw⟩
      exact ⟨rfl, r', Wr.pre hbl hM.es.lt (fun g hg => hM.es.rlt hg) hw⟩⟩
  clear h hw hl hC hCt htk hk hkl hp HP hp0 hm0
  by_cases q : mx < p.length
  · have d0 : decide ((mx : Int) < (p.length : Int)) = true := decide_eq_true (by omega)
    have hkx : k = mx := by omega
    subst hkx
    have HMM := Aside0.mk hmm
    clear hmm hkm
    go_enter Tryd.func34, Tryd.ntmps34
    go_wp2
    go_region_law (first
      | (go_simp
         go_at_call 47
         (with_reducible refine (HC.out _ (below_drew HW.out)).mono ?_)
         rintro x w1 ⟨v1, rfl, hr, hb⟩
         have HB1 := Aside0.mk ((below_drew (Below.refl _ _)).trans hb)
         have HM1 := Aside0.mk (HM.out.below HB1.out)
         have c2 := HM1.out.cell1
         obtain ⟨g1, c1x, rfl, hc1x, hg1, hg2, hat⟩ := row_of_R hr (by simp)
         have c3 := (HM1.out.below (below_alloc (Below.refl _ _) (.cells #[.slice (some ⟨g1, 0, none⟩) (k + 1) c1x] 25))).cell1
         have HAT := Aside0.mk hat
         have HG1 : Aside0 (W.heap.size ≤ g1 ∧ g1 < w1.heap.size) := ⟨hg1, hg2⟩
         clear hr hb hat hc1x hg1 hg2)
      | (go_simp
         go_at_call 46
         (with_reducible refine (HEN.out _ _ _ HM1.out HAT.out (by have := HM.out.es.lt; have := HG1.out; omega) (fun g hg => by have := HM.out.es.rlt hg; have := HG1.out; omega)).mono ?_)
         rintro x w2 ⟨rfl, r2, hw2⟩
         have HW2 := Aside0.mk (Wr.pre HB1.out HM.out.es.lt (fun g hg => HM.out.es.rlt hg) hw2)
         clear hw2)
      | fail)
    all_goals (go_wp2; go_ret2; exact ⟨rfl, r2, HW2.out⟩)
  · have d0 : decide ((mx : Int) < (p.length : Int)) = false := decide_eq_false (by omega)
    have hkx : k = p.length := by omega
    subst hkx
    have HMM := Aside0.mk hmm
    clear hmm hkm
    go_enter Tryd.func34, Tryd.ntmps34
    go_wp2
    go_region_law (first
      | (go_simp
         go_at_call 47
         (with_reducible refine (HC.out _ (below_drew HW.out)).mono ?_)
         rintro x w1 ⟨v1, rfl, hr, hb⟩
         have HB1 := Aside0.mk ((below_drew (Below.refl _ _)).trans hb)
         have HM1 := Aside0.mk (HM.out.below HB1.out)
         have c2 := HM1.out.cell1
         obtain ⟨g1, c1x, rfl, hc1x, hg1, hg2, hat⟩ := row_of_R hr (by simp)
         have c3 := (HM1.out.below (below_alloc (Below.refl _ _) (.cells #[.slice (some ⟨g1, 0, none⟩) (p.length + 1) c1x] 25))).cell1
         have HAT := Aside0.mk hat
         have HG1 : Aside0 (W.heap.size ≤ g1 ∧ g1 < w1.heap.size) := ⟨hg1, hg2⟩
         clear hr hb hat hc1x hg1 hg2)
      | (go_simp
         go_at_call 46
         (with_reducible refine (HEN.out _ _ _ HM1.out HAT.out (by have := HM.out.es.lt; have := HG1.out; omega) (fun g hg => by have := HM.out.es.rlt hg; have := HG1.out; omega)).mono ?_)
         rintro x w2 ⟨rfl, r2, hw2⟩
         have HW2 := Aside0.mk (Wr.pre HB1.out HM.out.es.lt (fun g hg => HM.out.es.rlt hg) hw2)
         clear hw2)
      | fail)
    all_goals (go_wp2; go_ret2; exact ⟨rfl, r2, HW2.out⟩)
end Go.Proofs.YtponeoodgfgejaaDoor.SidC

set_option linter.unusedVariables false
set_option linter.unusedSimpArgs false
namespace Go.Proofs.YtponeoodgfgejaaDoor.SidD
open Go.RowKit Go.Proofs.YtponeoodgfgejaaDoorW.PrintWords Go.Proofs.YtponeoodgfgejaaDoor.QAll PureA PureP HandF PbkA BufA BufB SidB SidC

/-- The bytes of a channel within payloads. -/
def txt (c : Int) (qs : List (List Int)) : List Int := (qs.map (fun q => if q.head? = some c then q.tail else [])).flatten
theorem txt_nil (c : Int) : txt c [] = [] := rfl
theorem txt_append (c : Int) (a b : List (List Int)) : txt c (a ++ b) = txt c a ++ txt c b := by unfold txt; simp
theorem txt_one (c ch : Int) (t : List Int) : txt c [ch :: t] = if ch = c then t else [] := by unfold txt; simp
theorem enc_append (a b : List (List Int)) : enc (a ++ b) = enc a ++ enc b := by unfold enc; simp
theorem enc_one (q : List Int) : enc [q] = lineOf q := by unfold enc; simp
/-- A payload of the side band. -/
def Pc (mx : Nat) (q : List Int) : Prop := ∃ c t, q = c :: t ∧ (c = 1 ∨ c = 2) ∧ t ≠ [] ∧ t.length ≤ mx ∧ t.length ≤ 60000
/-- Payloads with the first i bytes of a text. -/
structure Cut (mx : Nat) (ch : Int) (p : List Int) (i : Nat) (qs : List (List Int)) : Prop where
  pc : ∀ q ∈ qs, Pc mx q
  tx : ∀ c, txt c qs = if ch = c then p.take i else []
  n : qs.length ≤ i
  e : (enc qs).length ≤ 6 * i
theorem Cut.nil (mx : Nat) (ch : Int) (p : List Int) : Cut mx ch p 0 [] := ⟨by simp, fun c => by rw [txt_nil]; simp, Nat.le_refl _, by simp [enc]⟩
theorem take_len (l : List Int) (m : Nat) : l.take (l.take m).length = l.take m := by
  rw [List.length_take]
  by_cases q : m ≤ l.length
  · rw [Nat.min_eq_left q]
  · rw [Nat.min_eq_right (by omega), List.take_of_length_le (Nat.le_refl _), List.take_of_length_le (by omega)]
theorem Cut.snoc {mx i : Nat} {ch : Int} {p : List Int} {qs : List (List Int)} (h : Cut mx ch p i qs) (hch : ch = 1 ∨ ch = 2) (hm : 1 ≤ mx) (hi : i < p.length) (hp : p.length ≤ 60000) : Cut mx ch p (i + ((p.drop i).take mx).length) (qs ++ [ch :: (p.drop i).take mx]) := by
  have hl : ((p.drop i).take mx).length = min mx (p.length - i) := by rw [List.length_take, List.length_drop]
  refine ⟨?_, fun c => ?_, by rw [List.length_append, List.length_singleton]; have := h.n; omega, ?_⟩
  · intro q hq
    rcases List.mem_append.1 hq with hq | hq
    · exact h.pc q hq
    · obtain rfl := List.mem_singleton.1 hq
      exact ⟨ch, _, rfl, hch, fun k => by rw [k] at hl; simp at hl; omega, by omega, by omega⟩
  · rw [txt_append, txt_one, h.tx c]
    by_cases q : ch = c
    · rw [if_pos q, if_pos q, if_pos q, List.take_add, take_len]
    · rw [if_neg q, if_neg q, if_neg q]; rfl
  · rw [enc_append, enc_one, List.length_append, lineOf_len, List.length_cons]
    have := h.e
    omega

/-- A Muxer over a buffer that was made in a call that began at w0. -/
structure Ms (w0 W : World) (b : Nat) (r : Option Nat) (e m mx : Nat) (l : List Int) : Prop where
  mu : Mu W b r e m mx l
  bel : Below w0.heap.size w0 W
  b0 : w0.heap.size ≤ b
  r0 : ∀ g, r = some g → w0.heap.size ≤ g
theorem Ms.below {w0 W W' : World} {b e m mx : Nat} {r : Option Nat} {l : List Int} (h : Ms w0 W b r e m mx l) (k : Below W.heap.size W W') : Ms w0 W' b r e m mx l :=
  ⟨h.mu.below k, h.bel.trans (k.mono h.bel.size), h.b0, h.r0⟩
theorem Ms.wr {w0 W W' : World} {b e m mx : Nat} {r r' : Option Nat} {l l' : List Int} (h : Ms w0 W b r e m mx l) (k : Wr W W' b r e l' r') : Ms w0 W' b r' e m mx l' := by
  refine ⟨h.mu.wr k, h.bel.trans (k.off.below h.bel.size ?_), h.b0, ?_⟩
  · rintro i (rfl | q)
    · exact h.b0
    · exact h.r0 i q
  · intro g hg
    rcases k.row with rfl | ⟨N, rfl, hN⟩
    · exact h.r0 g hg
    · have := Option.some.inj hg
      have := h.bel.size
      omega

set_option maxHeartbeats 8000000 in
set_option maxRecDepth 100000 in
theorem writeChannel {w0 W : World} {b e m mx : Nat} {r : Option Nat} {l : List Int} (h : Ms w0 W b r e m mx l) (hl : l.length ≤ 800000000) (ch : Int) (hch : ch = 1 ∨ ch = 2) (p : List Int) (A : Option Addr) (n c : Nat) (hn : n = p.length) (hm0 : 1 ≤ mx) (hp : p.length ≤ 60000) (hmm : mx ≤ 65519) (hcc : n ≤ c) (hC : Kd.C (Kd.int .u8) w0 A n p) :
    Calls Tryd.prog 21 #[.pointer (some ⟨m, 0, none⟩), .int .u8 ch, .slice A n c] W fun x w' => x = .returned (.tuple #[.int .i64 (n : Nat), .nilIface]) ∧ ∃ qs r', Cut mx ch p p.length qs ∧ Ms w0 w' b r' e m mx (l ++ enc qs) ∧ Wr W w' b r e (l ++ enc qs) r' := by
  subst hn
  have HM := Aside0.mk h
  have HL := Aside0.mk hl
  have HCH := Aside0.mk hch
  have HM0 := Aside0.mk hm0
  have HP := Aside0.mk hp
  have HMM := Aside0.mk hmm
  have HCC := Aside0.mk hcc
  have HC := Aside0.mk hC
  clear h hl hch hm0 hp hmm hC hcc
  go_enter Tryd.func21, Tryd.ntmps21
  go_wp2
  go_loopg [8] p.length (fun gk v8 w' => ∃ (i : Nat) (qs : List (List Int)) (r' : Option Nat), v8 = .int .i64 (i : Int) ∧ i ≤ p.length ∧ gk = p.length - i ∧ Aside0 (Cut mx ch p i qs) ∧ Aside0 (Ms w0 w' b r' e m mx (l ++ enc qs)) ∧ Aside0 (Wr W w' b r e (l ++ enc qs) r'))
  case atStart => exact ⟨0, [], r, rfl, Nat.zero_le _, rfl, ⟨Cut.nil _ _ _⟩, ⟨by simp only [enc, List.map_nil, List.flatten_nil, List.append_nil]; exact HM.out⟩, ⟨by simp only [enc, List.map_nil, List.flatten_nil, List.append_nil]; exact Wr.refl HM.out.mu.es⟩⟩
  case round =>
    obtain ⟨i, qs, r', rfl, hi, hgk, HCU, HMS, HWR⟩ := hrel
    by_cases q : i < p.length
    · have d0 : decide ((i : Int) < (p.length : Int)) = true := decide_eq_true (by omega)
      obtain ⟨A', hcut, hC'⟩ := cutD A c p i (by omega) HCC.out
      have HCC' := Aside0.mk (hC' _ HC.out)
      have HDW := Aside0.mk (doWrite HMS.out.mu HMS.out.bel (by have := HCU.out.e; have := HL.out; have := HP.out; rw [List.length_append]; omega) ch (p.drop i) A' (p.length - i) (c - i) (by rw [List.length_drop]) (by intro k; have := congrArg List.length k; rw [List.length_drop] at this; simp at this; omega) HM0.out (by rw [List.length_take, List.length_drop]; have := HP.out; omega) (by have := HP.out; omega) HMM.out (by have := HCC.out; omega) HCC'.out)
      have HSN := Aside0.mk (HCU.out.snoc HCH.out HM0.out q HP.out)
      obtain ⟨k, hk⟩ : ∃ k, k = ((p.drop i).take mx).length := ⟨_, rfl⟩
      have hk0 : 1 ≤ k := by rw [hk, List.length_take, List.length_drop]; have := HM0.out; omega
      have hkp : i + k ≤ p.length := by rw [hk, List.length_take, List.length_drop]; omega
      rw [← hk] at HDW HSN
      have HK := Aside0.mk hk
      have hw : wrap64 ((i : Int) + (k : Int)) = ((i + k : Nat) : Int) := by have := HP.out; unfold wrap64; omega
      have HW := Aside0.mk hw
      have hple : (p.length : Int) ≤ 60000 := by have := HP.out; omega
      clear hC' hk hw
      go_wp2_with (first
        | (go_at_call 34
           (with_reducible refine HDW.out.mono ?_)
           rintro x w2 ⟨rfl, r2, hb2⟩
           have HB2 := Aside0.mk (HMS.out.wr hb2)
           have HB3 := Aside0.mk (HWR.out.trans hb2)
           clear hb2)
        | fail)
      go_roundg (gk - k)
      case measure => omega
      case rel => exact ⟨i + k, _, r2, by first | rfl | (rw [HW.out]) | simp, hkp, by omega, HSN, ⟨by rw [enc_append, enc_one, ← List.append_assoc]; exact HB2.out⟩, ⟨by rw [enc_append, enc_one, ← List.append_assoc]; exact HB3.out⟩⟩
    · have d0 : decide ((i : Int) < (p.length : Int)) = false := decide_eq_false (by omega)
      have hip : i = p.length := by omega
      subst hip
      go_wp2
      go_ret2
      exact ⟨rfl, qs, r', HCU.out, HMS.out, HWR.out⟩

set_option maxHeartbeats 8000000 in
set_option maxRecDepth 100000 in
theorem writeData {w0 W : World} {b e m mx : Nat} {r : Option Nat} {l : List Int} (h : Ms w0 W b r e m mx l) (hl : l.length ≤ 800000000) (p : List Int) (A : Option Addr) (n c : Nat) (hn : n = p.length) (hm0 : 1 ≤ mx) (hp : p.length ≤ 60000) (hmm : mx ≤ 65519) (hcc : n ≤ c) (hC : Kd.C (Kd.int .u8) w0 A n p) :
    Calls Tryd.prog 20 #[.pointer (some ⟨m, 0, none⟩), .slice A n c] W fun x w' => x = .returned (.tuple #[.int .i64 (n : Nat), .nilIface]) ∧ ∃ qs r', Cut mx 1 p p.length qs ∧ Ms w0 w' b r' e m mx (l ++ enc qs) ∧ Wr W w' b r e (l ++ enc qs) r' := by
  have HW := Aside0.mk (writeChannel h hl 1 (.inl rfl) p A n c hn hm0 hp hmm hcc hC)
  clear h hl hn hm0 hp hmm hcc hC
  go_enter Tryd.func20, Tryd.ntmps20
  go_wp2_with (first
    | (go_at_call 21
       (with_reducible refine HW.out.mono ?_)
       rintro x w2 ⟨rfl, qs, r2, h1, h2, h3⟩
       have H3 := Aside0.mk h3
       have H1 := Aside0.mk h1
       have H2 := Aside0.mk h2
       clear h1 h2 h3)
    | fail)
  go_ret2
  exact ⟨rfl, qs, r2, H1.out, H2.out, H3.out⟩
end Go.Proofs.YtponeoodgfgejaaDoor.SidD
