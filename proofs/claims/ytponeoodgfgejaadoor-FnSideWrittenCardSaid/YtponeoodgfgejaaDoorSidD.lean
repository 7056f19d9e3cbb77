/- sideband.Muxer: WriteChannel, Write. -/
import Derived.Test.YtponeoodgfgejaaDoorSidC
set_option linter.unusedVariables false
set_option linter.unusedSimpArgs false
namespace Go.Proofs.YtponeoodgfgejaaDoor.SidD
open Go.RowKit Go.Proofs.YtponeoodgfgejaaDoorW.PrintWords Go.Proofs.YtponeoodgfgejaaDoor.QAll PureA PureP HandF PbkA BufA BufB SidB SidC

/-- The bytes of a channel within payloads. -/
def txt (c : Int) (qs : List (List Int)) : List Int := (qs.map (fun q => if q.head? = some c then q.tail else [])).flatten
theorem txt_nil (c : Int) : txt c [] = [] := rfl
theorem txt_append (c : Int) (a b : List (List Int)) : txt c (a ++ b) = txt c a ++ txt c b := by unfold txt; simp
theorem txt_one (c ch : Int) (t : List Int) : txt c [ch :: t] = if ch = c then t else [] := by unfold txt; simp
theorem enc_append (a b : List (List Int)) : enc (a ++ b) = enc a ++ enc b := by unfold enc; simp
theorem enc_one (q : List Int) : enc [q] = lineOf q := by unfold enc; simp
/-- A payload of the side band. -/
def Pc (mx : Nat) (q : List Int) : Prop := ∃ c t, q = c :: t ∧ (c = 1 ∨ c = 2) ∧ t ≠ [] ∧ t.length ≤ mx ∧ t.length ≤ 60000
/-- Payloads with the first i bytes of a text. -/
structure Cut (mx : Nat) (ch : Int) (p : List Int) (i : Nat) (qs : List (List Int)) : Prop where
  pc : ∀ q ∈ qs, Pc mx q
  tx : ∀ c, txt c qs = if ch = c then p.take i else []
  n : qs.length ≤ i
  e : (enc qs).length ≤ 6 * i
theorem Cut.nil (mx : Nat) (ch : Int) (p : List Int) : Cut mx ch p 0 [] := ⟨by simp, fun c => by rw [txt_nil]; simp, Nat.le_refl _, by simp [enc]⟩
theorem take_len (l : List Int) (m : Nat) : l.take (l.take m).length = l.take m := by
  rw [List.length_take]
  by_cases q : m ≤ l.length
  · rw [Nat.min_eq_left q]
  · rw [Nat.min_eq_right (by omega), List.take_of_length_le (Nat.le_refl _), List.take_of_length_le (by omega)]
theorem Cut.snoc {mx i : Nat} {ch : Int} {p : List Int} {qs : List (List Int)} (h : Cut mx ch p i qs) (hch : ch = 1 ∨ ch = 2) (hm : 1 ≤ mx) (hi : i < p.length) (hp : p.length ≤ 60000) : Cut mx ch p (i + ((p.drop i).take mx).length) (qs ++ [ch :: (p.drop i).take mx]) := by
  have hl : ((p.drop i).take mx).length = min mx (p.length - i) := by rw [List.length_take, List.length_drop]
  refine ⟨?_, fun c => ?_, by rw [List.length_append, List.length_singleton]; have := h.n; omega, ?_⟩
  · intro q hq
    rcases List.mem_append.1 hq with hq | hq
    · exact h.pc q hq
    · obtain rfl := List.mem_singleton.1 hq
      exact ⟨ch, _, rfl, hch, fun k => by rw [k] at hl; simp at hl; omega, by omega, by omega⟩
  · rw [txt_append, txt_one, h.tx c]
    by_cases q : ch = c
    · rw [if_pos q, if_pos q, if_pos q, List.take_add, take_len]
    · rw [if_neg q, if_neg q, if_neg q]; rfl
  · rw [enc_append, enc_one, List.length_append, lineOf_len, List.length_cons]
    have := h.e
    omega

/-- A Muxer over a buffer that was made in a call that began at w0. -/
structure Ms (w0 W : World) (b : Nat) (r : Option Nat) (e m mx : Nat) (l : List Int) : Prop where
  mu : Mu W b r e m mx l
  bel : Below w0.heap.size w0 W
  b0 : w0.heap.size ≤ b
  r0 : ∀ g, r = some g → w0.heap.size ≤ g
theorem Ms.below {w0 W W' : World} {b e m mx : Nat} {r : Option Nat} {l : List Int} (h : Ms w0 W b r e m mx l) (k : Below W.heap.size W W') : Ms w0 W' b r e m mx l :=
  ⟨h.mu.below k, h.bel.trans (k.mono h.bel.size), h.b0, h.r0⟩
theorem Ms.wr {w0 W W' : World} {b e m mx : Nat} {r r' : Option Nat} {l l' : List Int} (h : Ms w0 W b r e m mx l) (k : Wr W W' b r e l' r') : Ms w0 W' b r' e m mx l' := by
  refine ⟨h.mu.wr k, h.bel.trans (k.off.below h.bel.size ?_), h.b0, ?_⟩
  · rintro i (rfl | q)
    · exact h.b0
    · exact h.r0 i q
  · intro g hg
    rcases k.row with rfl | ⟨N, rfl, hN⟩
    · exact h.r0 g hg
    · have := Option.some.inj hg
      have := h.bel.size
      omega

set_option maxHeartbeats 8000000 in
set_option maxRecDepth 100000 in
theorem writeChannel {w0 W : World} {b e m mx : Nat} {r : Option Nat} {l : List Int} (h : Ms w0 W b r e m mx l) (hl : l.length ≤ 800000000) (ch : Int) (hch : ch = 1 ∨ ch = 2) (p : List Int) (A : Option Addr) (n c : Nat) (hn : n = p.length) (hm0 : 1 ≤ mx) (hp : p.length ≤ 60000) (hmm : mx ≤ 65519) (hcc : n ≤ c) (hC : Kd.C (Kd.int .u8) w0 A n p) :
    Calls Tryd.prog 21 #[.pointer (some ⟨m, 0, none⟩), .int .u8 ch, .slice A n c] W fun x w' => x = .returned (.tuple #[.int .i64 (n : Nat), .nilIface]) ∧ ∃ qs r', Cut mx ch p p.length qs ∧ Ms w0 w' b r' e m mx (l ++ enc qs) ∧ Wr W w' b r e (l ++ enc qs) r' := by
  subst hn
  have HM := Aside0.mk h
  have HL := Aside0.mk hl
  have HCH := Aside0.mk hch
  have HM0 := Aside0.mk hm0
  have HP := Aside0.mk hp
  have HMM := Aside0.mk hmm
  have HCC := Aside0.mk hcc
  have HC := Aside0.mk hC
  clear h hl hch hm0 hp hmm hC hcc
  go_enter Tryd.func21, Tryd.ntmps21
  go_wp2
  go_loopg [8] p.length (fun gk v8 w' => ∃ (i : Nat) (qs : List (List Int)) (r' : Option Nat), v8 = .int .i64 (i : Int) ∧ i ≤ p.length ∧ gk = p.length - i ∧ Aside0 (Cut mx ch p i qs) ∧ Aside0 (Ms w0 w' b r' e m mx (l ++ enc qs)) ∧ Aside0 (Wr W w' b r e (l ++ enc qs) r'))
  case atStart => exact ⟨0, [], r, rfl, Nat.zero_le _, rfl, ⟨Cut.nil _ _ _⟩, ⟨by simp only [enc, List.map_nil, List.flatten_nil, List.append_nil]; exact HM.out⟩, ⟨by simp only [enc, List.map_nil, List.flatten_nil, List.append_nil]; exact Wr.refl HM.out.mu.es⟩⟩
  case round =>
    obtain ⟨i, qs, r', rfl, hi, hgk, HCU, HMS, HWR⟩ := hrel
    by_cases q : i < p.length
    · have d0 : decide ((i : Int) < (p.length : Int)) = true := decide_eq_true (by omega)
      obtain ⟨A', hcut, hC'⟩ := cutD A c p i (by omega) HCC.out
      have HCC' := Aside0.mk (hC' _ HC.out)
      have HDW := Aside0.mk (doWrite HMS.out.mu HMS.out.bel (by have := HCU.out.e; have := HL.out; have := HP.out; rw [List.length_append]; omega) ch (p.drop i) A' (p.length - i) (c - i) (by rw [List.length_drop]) (by intro k; have := congrArg List.length k; rw [List.length_drop] at this; simp at this; omega) HM0.out (by rw [List.length_take, List.length_drop]; have := HP.out; omega) (by have := HP.out; omega) HMM.out (by have := HCC.out; omega) HCC'.out)
      have HSN := Aside0.mk (HCU.out.snoc HCH.out HM0.out q HP.out)
      obtain ⟨k, hk⟩ : ∃ k, k = ((p.drop i).take mx).length := ⟨_, rfl⟩
      have hk0 : 1 ≤ k := by rw [hk, List.length_take, List.length_drop]; have := HM0.out; omega
      have hkp : i + k ≤ p.length := by rw [hk, List.length_take, List.length_drop]; omega
      rw [← hk] at HDW HSN
      have HK := Aside0.mk hk
      have hw : wrap64 ((i : Int) + (k : Int)) = ((i + k : Nat) : Int) := by have := HP.out; unfold wrap64; omega
      have HW := Aside0.mk hw
      have hple : (p.length : Int) ≤ 60000 := by have := HP.out; omega
      clear hC' hk hw
      go_wp2_with (first
        | (go_at_call 34
           (with_reducible refine HDW.out.mono ?_)
           rintro x w2 ⟨rfl, r2, hb2⟩
           have HB2 := Aside0.mk (HMS.out.wr hb2)
           have HB3 := Aside0.mk (HWR.out.trans hb2)
           clear hb2)
        | fail)
      go_roundg (gk - k)
      case measure => omega
      case rel => exact ⟨i + k, _, r2, by first | rfl | (rw [HW.out]) | simp, hkp, by omega, HSN, ⟨by rw [enc_append, enc_one, ← List.append_assoc]; exact HB2.out⟩, ⟨by rw [enc_append, enc_one, ← List.append_assoc]; exact HB3.out⟩⟩
    · have d0 : decide ((i : Int) < (p.length : Int)) = false := decide_eq_false (by omega)
      have hip : i = p.length := by omega
      subst hip
      go_wp2
      go_ret2
      exact ⟨rfl, qs, r', HCU.out, HMS.out, HWR.out⟩

set_option maxHeartbeats 8000000 in
set_option maxRecDepth 100000 in
theorem writeData {w0 W : World} {b e m mx : Nat} {r : Option Nat} {l : List Int} (h : Ms w0 W b r e m mx l) (hl : l.length ≤ 800000000) (p : List Int) (A : Option Addr) (n c : Nat) (hn : n = p.length) (hm0 : 1 ≤ mx) (hp : p.length ≤ 60000) (hmm : mx ≤ 65519) (hcc : n ≤ c) (hC : Kd.C (Kd.int .u8) w0 A n p) :
    Calls Tryd.prog 20 #[.pointer (some ⟨m, 0, none⟩), .slice A n c] W fun x w' => x = .returned (.tuple #[.int .i64 (n : Nat), .nilIface]) ∧ ∃ qs r', Cut mx 1 p p.length qs ∧ Ms w0 w' b r' e m mx (l ++ enc qs) ∧ Wr W w' b r e (l ++ enc qs) r' := by
  have HW := Aside0.mk (writeChannel h hl 1 (.inl rfl) p A n c hn hm0 hp hmm hcc hC)
  clear h hl hn hm0 hp hmm hcc hC
  go_enter Tryd.func20, Tryd.ntmps20
  go_wp2_with (first
    | (go_at_call 21
       (with_reducible refine HW.out.mono ?_)
       rintro x w2 ⟨rfl, qs, r2, h1, h2, h3⟩
       have H3 := Aside0.mk h3
       have H1 := Aside0.mk h1
       have H2 := Aside0.mk h2
       clear h1 h2 h3)
    | fail)
  go_ret2
  exact ⟨rfl, qs, r2, H1.out, H2.out, H3.out⟩
end Go.Proofs.YtponeoodgfgejaaDoor.SidD
