/- pktline.Encoder over a bytes.Buffer of which the row is named: a line written, wherever its payload lies. -/
import Derived.Test.YtponeoodgfgejaaDoorPbkA
import Derived.Test.YtponeoodgfgejaaDoorBufA
set_option linter.unusedVariables false
set_option linter.unusedSimpArgs false
namespace Go.Proofs.YtponeoodgfgejaaDoor.SidB
open Go.RowKit Go.Proofs.YtponeoodgfgejaaDoorW.PrintWords Go.Proofs.YtponeoodgfgejaaDoor.QAll PureA PureP PbkA BufA BufB

theorem found55 : (Tryd.prog.info? 55).map (fun i => (i.methods.find? (fun m => m.name == "Write")).map (fun m => (m.path, m.func))) = some (some (#[], some (28, true))) := by kernel_rfl
theorem und55 : Tryd.prog.underlying 55 = some (.pointer 50) := by kernel_rfl
theorem methodW (n g : Nat) (W : World) : (method (n + 1) 55 (.pointer (some ⟨g, 0, none⟩)) "Write").run Tryd.prog W = .ok (28, .pointer (some ⟨g, 0, none⟩)) W := by
  have h := found55
  obtain ⟨i, hi, h1⟩ := Option.map_eq_some_iff.1 h
  obtain ⟨m, hm, h2⟩ := Option.map_eq_some_iff.1 h1
  simp only [Prod.mk.injEq] at h2
  unfold method
  simp [typeInfo, hi, hm, h2.1, h2.2, follow, receiverAt, Place.get, und55]

/-- A buffer, its row and its encoder; l has been written. -/
structure Es (W : World) (b : Nat) (r : Option Nat) (e : Nat) (l : List Int) : Prop where
  buf : Buf W b r (l.map (Value.int .u8))
  enc : W.heap[e]? = some (.cells #[.iface 55 (.pointer (some ⟨b, 0, none⟩))] 104 (0, 0))
  ne : e ≠ b
  nr : r ≠ some e
theorem Es.off {W W' : World} {S : Nat → Prop} {b e : Nat} {r : Option Nat} {l : List Int} (h : Es W b r e l) (ho : Off W W' S) (hb : ¬ S b) (hr : ∀ g, r = some g → ¬ S g) (he : ¬ S e) : Es W' b r e l :=
  ⟨h.buf.off ho hb hr, (ho.blk e (Lib.lt_of_heap h.enc) he).trans h.enc, h.ne, h.nr⟩
theorem Es.below {W W' : World} {b e : Nat} {r : Option Nat} {l : List Int} (h : Es W b r e l) (hb : Below W.heap.size W W') : Es W' b r e l :=
  h.off (Off.of_below hb (fun _ => False)) (fun h => h) (fun _ _ h => h) (fun h => h)
theorem Es.cell {W : World} {b e : Nat} {r : Option Nat} {l : List Int} (h : Es W b r e l) : W.cell? ⟨e, 0, none⟩ = some (.iface 55 (.pointer (some ⟨b, 0, none⟩))) := (Lib.cell_of_heap h.enc 0).trans rfl
theorem Es.lt {W : World} {b e : Nat} {r : Option Nat} {l : List Int} (h : Es W b r e l) : b < W.heap.size := h.buf.lt
theorem Es.rlt {W : World} {b e g : Nat} {r : Option Nat} {l : List Int} (h : Es W b r e l) (hr : r = some g) : g < W.heap.size := by
  subst hr
  exact h.buf.rlt.1
/-- What a writing tells. -/
structure Wr (W W' : World) (b : Nat) (r : Option Nat) (e : Nat) (l : List Int) (r' : Option Nat) : Prop where
  es : Es W' b r' e l
  off : Off W W' (fun k => k = b ∨ r = some k)
  row : r' = r ∨ ∃ N, r' = some N ∧ W.heap.size ≤ N
theorem Wr.refl {W : World} {b e : Nat} {r : Option Nat} {l : List Int} (h : Es W b r e l) : Wr W W b r e l r := ⟨h, Off.refl _ _, .inl rfl⟩
theorem Wr.size {W W' : World} {b e : Nat} {r r' : Option Nat} {l : List Int} (h : Wr W W' b r e l r') : W.heap.size ≤ W'.heap.size := h.off.zero.size
theorem Wr.trans {W W1 W2 : World} {b e : Nat} {r r1 r2 : Option Nat} {l l2 : List Int} (h : Wr W W1 b r e l r1) (k : Wr W1 W2 b r1 e l2 r2) : Wr W W2 b r e l2 r2 := by
  refine ⟨k.es, h.off.trans k.off ?_, ?_⟩
  · rintro i hi (rfl | h2)
    · exact .inl rfl
    · rcases h.row with h3 | ⟨N, h3, h4⟩
      · exact .inr (h3 ▸ h2)
      · rw [h3] at h2
        have := Option.some.inj h2
        omega
  · rcases k.row with rfl | ⟨N, h3, h4⟩
    · exact h.row
    · exact .inr ⟨N, h3, Nat.le_trans h.size h4⟩
theorem Wr.pre {W W1 W2 : World} {b e : Nat} {r r2 : Option Nat} {l2 : List Int} (h : Below W.heap.size W W1) (hb : b < W.heap.size) (hr : ∀ g, r = some g → g < W.heap.size) (k : Wr W1 W2 b r e l2 r2) : Wr W W2 b r e l2 r2 := by
  refine ⟨k.es, (Off.of_below h _).trans k.off (fun _ _ h => h), ?_⟩
  rcases k.row with rfl | ⟨N, h3, h4⟩
  · exact .inl rfl
  · exact .inr ⟨N, h3, Nat.le_trans h.size h4⟩
theorem Wr.post {W W1 W2 : World} {b e : Nat} {r r1 : Option Nat} {l : List Int} (h : Wr W W1 b r e l r1) (k : Below W1.heap.size W1 W2) : Wr W W2 b r e l r1 :=
  ⟨h.es.below k, h.off.trans (Off.of_below k (fun _ => False)) (fun _ _ h => h.elim), h.row⟩
theorem one_u8 (l : List Int) : ∀ v ∈ l.map (Value.int .u8), v.oneCell' = true := by
  intro v hv
  obtain ⟨x, _, rfl⟩ := List.mem_map.1 hv
  rfl
/-- Bytes lie there. -/
def At (W : World) (a : Addr) (p : List Int) : Prop := ∀ (j : Nat) (x : Int), p[j]? = some x → W.cell? (a.add j) = some (.int .u8 x)
theorem At.keep {W W' : World} {a : Addr} {p : List Int} {S : Nat → Prop} (h : At W a p) (ho : Off W W' S) (hs : ¬ S a.block) : At W' a p := fun j x hj => by
  have h1 := h j x hj
  have hl : (a.add j).block < W.heap.size := World.block_lt_of_cell? W _ h1
  have hb : (a.add j).block = a.block := by unfold Addr.add; split <;> rfl
  rw [← h1]
  exact World.cell?_of_block (ho.blk _ hl (by rw [hb]; exact hs))
theorem ewrite {W : World} {b e : Nat} {r : Option Nat} {l : List Int} (h : Es W b r e l) (p : List Int) (a : Addr) (n c : Nat) (hn : n = p.length) (hp : p ≠ []) (hs : At W a p) (hab : a.block ≠ b) (hl : l.length + p.length ≤ 1000000000) :
    Calls Tryd.prog 28 #[.pointer (some ⟨b, 0, none⟩), .slice (some a) n c] W fun x w' => x = .returned (.tuple #[.int .i64 n, .nilIface]) ∧ ∃ r', Wr W w' b r e (l ++ p) r' := by
  subst hn
  have hpos : 0 < p.length := List.length_pos_iff.2 hp
  refine (write b r (l.map (Value.int .u8)) (p.map (Value.int .u8)) a p.length c W h.buf (one_u8 l) (by simp) hpos hab ?_ (one_u8 p) (by rw [List.length_map]; omega)).mono ?_
  · intro j v hj
    rw [List.getElem?_map] at hj
    obtain ⟨x, hx, rfl⟩ := Option.map_eq_some_iff.1 hj
    exact hs j x hx
  · rintro x w' ⟨rfl, r', h1, h2, h3⟩
    have he := (h2.blk e (Lib.lt_of_heap h.enc) (by rintro (k | k); exact h.ne k; exact h.nr k)).trans h.enc
    refine ⟨rfl, r', ⟨by rw [List.map_append]; exact h1, he, h.ne, ?_⟩, h2, h3⟩
    rcases h3 with rfl | ⟨N, rfl, hN⟩
    · exact h.nr
    · intro k
      have := Option.some.inj k
      have := Lib.lt_of_heap h.enc
      omega
theorem row4 {W : World} {g : Nat} {a b c d : Int} {t : Nat} (h : W.heap[g]? = some (.cells #[.int .u8 a, .int .u8 b, .int .u8 c, .int .u8 d] t (0, 0))) : At W ⟨g, 0, none⟩ [a, b, c, d] := by
  intro j x hj
  rw [show Addr.add ⟨g, 0, none⟩ j = ⟨g, j, none⟩ by unfold Addr.add; split <;> simp_all, Lib.cell_of_heap h]
  match j with
  | 0 | 1 | 2 | 3 => injection hj with hj; subst hj; rfl
  | j + 4 => simp at hj

set_option maxHeartbeats 8000000 in
set_option maxRecDepth 100000 in
theorem encodeLine {W : World} {b e : Nat} {r : Option Nat} {l : List Int} (h : Es W b r e l) (hl : l.length ≤ 900000000) (p : List Int) (ad : Addr) (n c : Nat) (hn : n = p.length) (hp0 : p ≠ []) (hp : p.length ≤ 65516) (hS : At W ad p) (hab : ad.block ≠ b) (har : r ≠ some ad.block) :
    Calls Tryd.prog 59 #[.pointer (some ⟨e, 0, none⟩), .slice (some ad) n c] W fun x w' => x = .returned .nilIface ∧ ∃ r', Wr W w' b r e (l ++ lineOf p) r' := by
  have hmw := fun g W => methodW 268/-FUEL-/ g W
  have HB := Aside0.mk h
  have HL := Aside0.mk hl
  have HHS := Aside0.mk hS
  have hpos : 0 < p.length := List.length_pos_iff.2 hp0
  subst hn
  have g0 : decide ((65516 : Int) < ((p.length : Nat) : Int)) = false := decide_eq_false (by omega)
  have c0 := h.cell
  have HNE : Aside0 (ad.block ≠ b ∧ r ≠ some ad.block) := ⟨hab, har⟩
  have HLT : Aside0 (ad.block < W.heap.size) := ⟨by
    obtain ⟨x, hx⟩ : ∃ x, p[0]? = some x := ⟨p[0], List.getElem?_eq_getElem hpos⟩
    have := World.block_lt_of_cell? W _ (hS 0 x hx)
    rwa [show (ad.add 0).block = ad.block by unfold Addr.add; split <;> rfl] at this⟩
  have g1 : decide (((p.length : Nat) : Int) = 0) = false := decide_eq_false (by omega)
  have g2 : ((p.length : Nat) : Int) ≠ 0 := by omega
  have g3 : (((p.length : Nat) : Int) == 0) = false := by simp; exact hp0
  have hw4 : wrap64 (((p.length : Nat) : Int) + 4) = ((p.length + 4 : Nat) : Int) := by unfold wrap64; omega
  have HX : Aside0 (∀ W, Calls Tryd.prog 69 #[.int .i64 (((p.length : Nat) : Int) + 4)] W _) := ⟨fun W => by have := hex16 (p.length + 4) (by omega) W; rw [show (((p.length + 4 : Nat)) : Int) = ((p.length : Nat) : Int) + 4 by omega] at this; exact this⟩
  have HP := Aside0.mk hp
  have HP0 := Aside0.mk hp0
  have HE : Aside0 (lineOf p = hex4 (p.length + 4) ++ p) := ⟨by unfold lineOf; rw [if_neg hp0]⟩
  have c1 := (h.below (below_drew (Below.refl _ _))).cell
  clear h hl hS hp hp0 hab har
  go_enter Tryd.func59, Tryd.ntmps59
  go_wp2
  go_region_law (first
    | (go_simp
       go_at_call 69
       (with_reducible refine (HX.out _).mono ?_)
       rintro x w1 ⟨rfl, hr, hb⟩
       have HB1 := Aside0.mk ((HB.out.below (below_drew (Below.refl _ _))).below hb)
       have HBW : Aside0 (Below W.heap.size W w1) := ⟨(below_drew (Below.refl _ _)).trans hb⟩
       have c2 := HB1.out.cell
       have HW := Aside0.mk (ewrite HB1.out (hex4 (p.length + 4)) ⟨W.heap.size, 0, none⟩ 4 4 rfl (by unfold hex4; simp) (row4 hr) (fun k => by have := HB.out.lt; have : W.heap.size = b := k; omega) (by have := HL.out; show l.length + 4 ≤ _; omega))
       clear hr hb)
    | (go_simp
       go_at_call 28
       (with_reducible refine HW.out.mono ?_)
       rintro x w2 ⟨rfl, r2, hb2⟩
       have HB2 := Aside0.mk (Wr.pre HBW.out HB.out.lt (fun g hg => HB.out.rlt hg) hb2)
       have c3 := hb2.es.cell
       have HW2 := Aside0.mk (ewrite hb2.es p ad p.length c rfl HP0.out (At.keep HHS.out HB2.out.off (by rintro (k | k); exact HNE.out.1 k; exact HNE.out.2 k)) HNE.out.1 (by have := HL.out; have := HP.out; rw [List.length_append]; show l.length + 4 + _ ≤ _; omega))
       clear hb2)
    | fail)
  all_goals (
    go_wp2_with (first
      | (go_at_call 28
         (with_reducible refine HW2.out.mono ?_)
         rintro x w3 ⟨rfl, r3, hb3⟩
         have HB3 := Aside0.mk (HB2.out.trans hb3)
         clear hb3)
      | fail)
    go_ret
    exact ⟨rfl, r3, by rw [HE.out, ← List.append_assoc]; exact HB3.out⟩)
end Go.Proofs.YtponeoodgfgejaaDoor.SidB
