/- The contracts of the printed three, in the words of bytes below a block. encodeInsertOperation, walked: what lies in one buffer goes into the other, in pieces. -/
import Derived.Test.YtlboochpbplhlaaDoorHandL
import Derived.Test.YtlboochpbplhlaaDoorHandE
import Derived.Test.YtlboochpbplhlaaDoorPureG
set_option linter.unusedVariables false
set_option linter.unusedSimpArgs false
namespace Go.Proofs.YtlboochpbplhlaaDoor.HandR
open Go.RowKit Go.Proofs.YtlboochpbplhlaaDoorW.PrintWords Go.Proofs.YtlboochpbplhlaaDoor.QAll PureD HandA HandB HandC HandD HandE HandK HandL PureG
open Go.Proofs.YtlboochpbplhlaaDoorW.PrintLast Go.Proofs.YtlboochpbplhlaaDoorW.PrintMore

theorem C_of_Sd {w : World} {B : Nat} {A : Option Addr} {c : Nat} {l : List Int} (h : Sd w B A c l) : Kd.C (Kd.int .u8) w A l.length l := by
  refine ⟨rfl, by have := h.2.1; omega, fun hl => ?_⟩
  obtain ⟨g, o, rfl, hg, hc⟩ := h.2.2.2 hl
  refine ⟨_, rfl, fun j p hj => ⟨[.int .u8 p], rfl, rfl, fun i u hu => ?_⟩⟩
  obtain rfl : i = 0 := by have := (List.getElem?_eq_some_iff.1 hu).1; simp at this; exact this
  simp only [List.getElem?_cons_zero, Option.some.injEq] at hu
  subst hu
  show World.cell? _ ((⟨g, o, none⟩ : Addr).add (j * 1 + 0)) = _
  have : ((⟨g, o, none⟩ : Addr).add (j * 1 + 0)) = ⟨g, o + j, none⟩ := by rw [Lib.addr_add]; simp
  rw [this]
  exact hc j p hj

/-- Fresh bytes that a callee has made. -/
def Fresh (w w' : World) (A : Option Addr) (c : Nat) (l : List Int) : Prop := ∃ g, A = some ⟨g, 0, none⟩ ∧ w.heap.size ≤ g ∧ g < w'.heap.size ∧ l.length ≤ c ∧ ∀ j x, l[j]? = some x → w'.cell? ⟨g, j, none⟩ = some (.int .u8 x)
theorem Fresh.of_R {w w' : World} {v : Value} {l : List Int} (h : Kd.R (Kd.int .u8) 5 w' w.heap.size (fun _ => True) v l) (hl : 1 ≤ l.length) : ∃ A c, v = .slice A l.length c ∧ Fresh w w' A c l := by
  have ho := Kd.own_of_R h
  rcases ho.2 with ⟨rfl, h0⟩ | ⟨g, cap, cur, rfl, hB, hg, h1, h2, h3, h4⟩
  · omega
  · refine ⟨_, cap, rfl, g, rfl, hB, Lib.lt_of_heap hg, h1, fun j x hj => ?_⟩
    have hc := ho.cells (g := g) rfl j (.int .u8 x) (by simp [encs, hj])
    rw [add_plain] at hc
    exact hc
theorem esize (n : Nat) (hn : n ≤ 2147483647) (w : World) :
    Calls Tryd.prog 37 #[.int .i64 (n : Int)] w fun e w' => ∃ A c, e = .returned (.slice A (enc7 n).length c) ∧ Fresh w w' A c (enc7 n) ∧ Below w.heap.size w w' := by
  obtain ⟨K, hK⟩ := esize_ok n hn
  refine (QDif.packfile_deltaEncodeSize.calls K n _ w (hK K (Nat.le_refl _))).mono ?_
  rintro e w' ⟨v, rfl, hR, hb⟩
  obtain ⟨A, c, rfl, hF⟩ := Fresh.of_R hR (enc7_pos n)
  exact ⟨A, c, rfl, hF, hb⟩
theorem ecopy (o z n : Nat) (ho : o + z ≤ n) (hn : n ≤ 16777216) (hz : 1 ≤ z) (hz2 : z ≤ 65536) : ∃ b : List Int, Enc n (.copy o z) b ∧ b.length ≤ 8 ∧ 1 ≤ b.length ∧ (∀ x ∈ b, 0 ≤ x ∧ x ≤ 255) ∧ ∀ w,
    Calls Tryd.prog 42 #[.int .i64 (o : Int), .int .i64 (z : Int)] w fun e w' => ∃ A c, e = .returned (.slice A b.length c) ∧ Fresh w w' A c b ∧ Below w.heap.size w w' := by
  obtain ⟨b, ⟨K, hK⟩, h1, h2, h3, h4⟩ := ecopy_ok o z n ho hn hz hz2
  refine ⟨b, h1, h2, h3, h4, fun w => (QDif.packfile_encodeCopyOperation.calls K o z _ w (hK K (Nat.le_refl _))).mono ?_⟩
  rintro e w' ⟨v, rfl, hR, hb⟩
  obtain ⟨A, c, rfl, hF⟩ := Fresh.of_R hR h3
  exact ⟨A, c, rfl, hF, hb⟩
theorem matched (B p q : Nat) (As At : Option Addr) (cs ct : Nat) (src tgt : List Int) (w : World) (hS : Sd w B As cs src) (hT : Sd w B At ct tgt) (hs : src.length ≤ 2147483647) (ht : tgt.length ≤ 2147483647) (hq : q ≤ 4611686014132420609) (hp : p ≤ tgt.length) :
    Calls Tryd.prog 50 #[.slice As src.length cs, .slice At tgt.length ct, .int .i64 (p : Int), .int .i64 (q : Int)] w fun e w' => ∃ M : Nat, e = .returned (.int .i64 (M : Int)) ∧ p + M ≤ tgt.length ∧ (M = 0 ∨ q + M ≤ src.length) ∧ (src.drop q).take M = (tgt.drop p).take M ∧ ∃ d, w' = w.drewN d := by
  obtain ⟨M, ⟨K, hK⟩, h1⟩ := match_ok src tgt p q hs ht hq hp
  refine (QDif.packfile_matchLength.calls K As cs src At ct tgt p q M w (C_of_Sd hS) hS.1 (C_of_Sd hT) hT.1 (hK K (Nat.le_refl _))).mono ?_
  rintro e w' ⟨rfl, hD⟩
  exact ⟨M, rfl, h1.1, h1.2.1, h1.2.2, hD.out⟩

/-- A buffer's bytes come by a fresh slice. -/
theorem bwrote (b : Nat) (r : Option Nat) (bs l : List Int) (g o c : Nat) (w : World) (h : Buf w b r (nums .u8 bs)) (hl : 1 ≤ l.length) (hg : g ≠ b) (hc : ∀ j x, l[j]? = some x → w.cell? ⟨g, o + j, none⟩ = some (.int .u8 x)) (hlim : bs.length + l.length ≤ 140737488355328) :
    Calls Tryd.prog 33 #[.pointer (some ⟨b, 0, none⟩), .slice (some ⟨g, o, none⟩) l.length c] w fun e w' => e = .returned (.tuple #[.int .i64 (l.length : Int), .nilIface]) ∧ Wrote w w' b r (nums .u8 (bs ++ l)) := by
  rw [nums_append]
  refine HandL.write b r (nums .u8 bs) (nums .u8 l) ⟨g, o, none⟩ l.length c w h (nums_one _ _) (nums_length _ _) hl hg (fun j v hj => ?_) (nums_one _ _) (by rw [nums_length]; exact hlim)
  unfold nums at hj
  rw [List.getElem?_map] at hj
  obtain ⟨x, hx, rfl⟩ := Option.map_eq_some_iff.1 hj
  rw [Lib.addr_add]
  exact hc j x hx
theorem bbyte (b : Nat) (r : Option Nat) (bs : List Int) (x : Int) (w : World) (h : Buf w b r (nums .u8 bs)) (hlim : bs.length + 1 ≤ 140737488355328) :
    Calls Tryd.prog 40 #[.pointer (some ⟨b, 0, none⟩), .int .u8 x] w fun e w' => e = .returned .nilIface ∧ Wrote w w' b r (nums .u8 (bs ++ [x])) := by
  rw [nums_append]
  exact HandL.writeByte b r (nums .u8 bs) x w h (nums_one _ _) (by rw [nums_length]; exact hlim)
theorem Buf.bytes {w : World} {b g : Nat} {bs : List Int} (h : Buf w b (some g) (nums .u8 bs)) : ∀ j x, bs[j]? = some x → w.cell? ⟨g, j, none⟩ = some (.int .u8 x) := by
  obtain ⟨cap, lr, cur, h1, h2, h3, h4, h5, h6, h7⟩ := h
  intro j x hj
  have hl := (List.getElem?_eq_some_iff.1 hj).1
  rw [Lib.cell_of_heap h2]
  have e : cur.toList[j]? = some (Value.int .u8 x) := by
    have h8 : (cur.toList.take (nums .u8 bs).length)[j]? = (nums .u8 bs)[j]? := by rw [h6]
    rw [List.getElem?_take_of_lt (by rw [nums_length]; exact hl)] at h8
    rw [h8]
    simp [nums, hj]
  simpa using e
end Go.Proofs.YtlboochpbplhlaaDoor.HandR

set_option linter.unusedVariables false
set_option linter.unusedSimpArgs false
namespace Go.Proofs.YtlboochpbplhlaaDoor.HandS
open Go.RowKit Go.Proofs.YtlboochpbplhlaaDoorW.PrintWords Go.Proofs.YtlboochpbplhlaaDoor.QAll PureD HandA HandB HandC HandD HandE HandK HandL HandR
open Go.Proofs.YtlboochpbplhlaaDoorW.PrintLast Go.Proofs.YtlboochpbplhlaaDoorW.PrintMore

theorem _root_.Go.Proofs.YtlboochpbplhlaaDoor.HandL.Wrote.refl {w : World} {b : Nat} {r : Option Nat} {bs : List Value} (h : Buf w b r bs) : Wrote w w b r bs := ⟨r, h, Off.refl _ _, Or.inl rfl⟩
theorem _root_.Go.Proofs.YtlboochpbplhlaaDoor.HandK.Buf.drewN {w : World} {b : Nat} {r : Option Nat} {bs : List Value} (h : Buf w b r bs) (q : Nat) : Buf (w.drewN q) b r bs := h.off (Off.drewN w q (fun _ => False)) id (fun _ _ => id)
theorem _root_.Go.Proofs.YtlboochpbplhlaaDoor.HandL.Wrote.drewN {w w1 : World} {b : Nat} {r : Option Nat} {bs : List Value} (h : Wrote w w1 b r bs) (q : Nat) : Wrote w (w1.drewN q) b r bs := by
  obtain ⟨r', h1, h2, h3⟩ := h
  exact ⟨r', Buf.drewN h1 q, h2.trans (Off.drewN w1 q (fun _ => False)) (fun _ _ h => h.elim), h3⟩
theorem _root_.Go.Proofs.YtlboochpbplhlaaDoor.HandL.Wrote.pre {w w1 : World} {b : Nat} {r : Option Nat} {bs : List Value} {q : Nat} (h : Wrote (w.drewN q) w1 b r bs) : Wrote w w1 b r bs := by
  obtain ⟨r', h1, h2, h3⟩ := h
  exact ⟨r', h1, (Off.drewN w q (fun _ => False)).mono (fun _ _ h => h.elim) |>.trans h2 (fun _ _ h => h), h3⟩
theorem _root_.Go.Proofs.YtlboochpbplhlaaDoor.HandL.Wrote.trans {w w1 w2 : World} {b : Nat} {r r1 : Option Nat} {bs2 : List Value} (ho : Off w w1 (fun k => k = b ∨ r = some k)) (hr : r1 = r ∨ ∃ N, r1 = some N ∧ w.heap.size ≤ N) (h2 : Wrote w1 w2 b r1 bs2) : Wrote w w2 b r bs2 := by
  obtain ⟨r2, h3, h4, h5⟩ := h2
  refine ⟨r2, h3, ho.trans h4 (fun k hk h => ?_), ?_⟩
  · rcases h with h | h
    · exact Or.inl h
    · rcases hr with rfl | ⟨N, rfl, hN⟩
      · exact Or.inr h
      · cases h; omega
  · rcases h5 with rfl | ⟨N, rfl, hN⟩
    · exact hr
    · exact Or.inr ⟨N, rfl, Nat.le_trans ho.zero.size hN⟩
/-- A callee between two writes that leaves every old block alone. -/
theorem _root_.Go.Proofs.YtlboochpbplhlaaDoor.HandL.Wrote.then_below {w w1 w2 : World} {b : Nat} {r : Option Nat} {bs : List Value} (h : Wrote w w1 b r bs) (hb : Below w1.heap.size w1 w2) : Wrote w w2 b r bs := by
  obtain ⟨r', h1, h2, h3⟩ := h
  exact ⟨r', h1.off (Off.of_below hb (fun _ => False)) id (fun _ _ => id), h2.trans (Off.of_below hb (fun _ => False)) (fun _ _ h => h.elim), h3⟩
/-- The other buffer stays. -/
theorem _root_.Go.Proofs.YtlboochpbplhlaaDoor.HandL.Wrote.keeps {w w1 : World} {b b2 : Nat} {r r2 : Option Nat} {bs bs2 bs0 : List Value} (h : Wrote w w1 b r bs) (h0 : Buf w b r bs0) (h2 : Buf w b2 r2 bs2) (hb : b ≠ b2) (hr : ∀ g, r = some g → r2 ≠ some g) : Buf w1 b2 r2 bs2 := by
  refine Wrote.other h h2 (Ne.symm hb) (fun g hg => ⟨fun e => ?_, fun e => hr g e hg⟩) (fun e => ?_)
  · subst e
    subst hg
    obtain ⟨_, _, cur, hc⟩ := h2.rlt
    cases r with
    | none => obtain ⟨_, lr, h3⟩ := h0; exact absurd (blk_type hc h3) (by decide)
    | some g => obtain ⟨cap, lr, cur', h3, _⟩ := h0; exact absurd (blk_type hc h3) (by decide)
  · subst e
    obtain ⟨_, _, cur, hc⟩ := h0.rlt
    cases r2 with
    | none => obtain ⟨_, lr, h3⟩ := h2; exact absurd (blk_type hc h3) (by decide)
    | some g => obtain ⟨cap, lr, cur', h3, _⟩ := h2; exact absurd (blk_type hc h3) (by decide)

/-- Insertions that make t, whatever the base is. -/
def Inserts (t ins : List Int) : Prop := ∃ is, (∀ n, Encs n is ins) ∧ (∀ src, made src is = t) ∧ ins.length ≤ 2 * t.length ∧ ∀ x ∈ ins, 0 ≤ x ∧ x ≤ 255
theorem Inserts.nil : Inserts [] [] := ⟨[], fun _ => .nil, fun _ => rfl, by simp, by simp⟩
theorem Inserts.snoc {t ins u : List Int} (h : Inserts t ins) (h1 : 1 ≤ u.length) (h2 : u.length ≤ 127) (hr : ∀ x ∈ u, 0 ≤ x ∧ x ≤ 255) : Inserts (t ++ u) (ins ++ ((u.length : Int) :: u)) := by
  obtain ⟨is, k1, k2, k3, k4⟩ := h
  refine ⟨is ++ [.put u], fun n => (k1 n).append (by have := Encs.cons (Enc.put (n := n) u h1 h2) .nil; rwa [List.append_nil] at this), fun src => by rw [made_append, k2, made_cons]; simp [made, Ins.made], ?_, fun x hx => ?_⟩
  · simp only [List.length_append, List.length_cons]; omega
  · rcases List.mem_append.1 hx with hx | hx
    · exact k4 x hx
    · rcases List.mem_cons.1 hx with rfl | hx
      · omega
      · exact hr x hx

theorem _root_.Go.Proofs.YtlboochpbplhlaaDoor.HandK.Buf.type {w : World} {b : Nat} {r : Option Nat} {bs : List Value} (h : Buf w b r bs) : ∃ a, w.heap[b]? = some (.cells a 52 (0, 0)) := by
  cases r with
  | none => obtain ⟨_, lr, h3⟩ := h; exact ⟨_, h3⟩
  | some g => obtain ⟨cap, lr, cur', h3, _⟩ := h; exact ⟨_, h3⟩
theorem row_ne {w : World} {b b2 g : Nat} {r : Option Nat} {bs bs2 : List Value} (h : Buf w b r bs) (h2 : Buf w b2 (some g) bs2) : g ≠ b := by
  intro e
  subst e
  obtain ⟨_, _, cur, hc⟩ := h2.rlt
  obtain ⟨a, ha⟩ := Buf.type h
  exact absurd (blk_type hc ha) (by decide)
theorem chunk (b1 b2 g2 o n c : Nat) (r : Option Nat) (Y pend : List Int) (w : World) (h1 : Buf w b1 r (nums .u8 Y)) (h2 : Buf w b2 (some g2) (nums .u8 pend)) (ho : o + n ≤ pend.length) (hn : 1 ≤ n) (hlim : Y.length + n ≤ 140737488355328) :
    Calls Tryd.prog 33 #[.pointer (some ⟨b1, 0, none⟩), .slice (some ⟨g2, o, none⟩) n c] w fun e w' => e = .returned (.tuple #[.int .i64 (n : Int), .nilIface]) ∧ Wrote w w' b1 r (nums .u8 (Y ++ (pend.drop o).take n)) := by
  have hl : ((pend.drop o).take n).length = n := by rw [List.length_take, List.length_drop]; omega
  have h := bwrote b1 r Y ((pend.drop o).take n) g2 o c w h1 (by omega) (row_ne h1 h2) (fun j x hj => by
    rw [List.getElem?_take] at hj
    split at hj
    · rw [List.getElem?_drop] at hj
      exact Buf.bytes h2 (o + j) x hj
    · cases hj) (by omega)
  rw [hl] at h
  exact h
theorem mid (g P cap o n : Nat) (ho : o + n ≤ P) (hn : 1 ≤ n) (hc : P ≤ cap) (hP : P ≤ 140737488355328) (W : World) :
    (Instr.slice 22 (.slice (some ⟨g, 0, none⟩) P cap) (some (.int .i64 (o : Int))) (some (.int .i64 ((o : Int) + n))) none).run Tryd.prog W = .ok (.slice (some ⟨g, o, none⟩) n (cap - o)) W := by
  obtain ⟨i0, hi0, _, hsz, _⟩ := info_parts info5
  have hx := cut_mid (P := Tryd.prog) 22 5 .i64 .i64 Tryd.underlying22 hi0 1 hsz (some ⟨g, 0, none⟩) P cap o ((o : Int) + n) (by omega) (by omega) (by omega) (by omega) W
  rw [hx, Int.toNat_natCast, if_neg (by omega), show ((o : Int) + n).toNat - o = n by omega]
  simp [Lib.addr_add]

set_option maxHeartbeats 8000000 in
set_option maxRecDepth 100000 in
theorem insert (b1 b2 : Nat) (r1 r2 : Option Nat) (X pend : List Int) (w : World) (h1 : Buf w b1 r1 (nums .u8 X)) (h2 : Buf w b2 r2 (nums .u8 pend)) (hne : b1 ≠ b2) (hr : ∀ g, r1 = some g → r2 ≠ some g)
    (hpr : ∀ x ∈ pend, 0 ≤ x ∧ x ≤ 255) (hlim : X.length + 2 * pend.length ≤ 140737488355000) :
    Calls Tryd.prog 41 #[.pointer (some ⟨b2, 0, none⟩), .pointer (some ⟨b1, 0, none⟩)] w fun e w' => e = .returned (.tuple #[]) ∧ ∃ ins w1, Inserts pend ins ∧ Wrote w w1 b1 r1 (nums .u8 (X ++ ins)) ∧ Off w1 w' (fun k => k = b2) ∧ Buf w' b2 r2 [] := by
  by_cases hp0 : pend = []
  · subst hp0
    have HL := Aside0.mk (Tryd.Buffer_Len 0 b2 (nums .u8 []) w h2.is)
    have H1 := Aside0.mk h1
    have H2 := Aside0.mk h2
    clear h1 h2 hr
    go_enter Tryd.func41, Tryd.ntmps41
    go_wp2_with (go_at_call 51; (with_reducible refine HL.out.mono ?_); rintro e w1 ⟨rfl, q, rfl⟩)
    (try simp only [Exit.inBlock, Exit.then])
    refine bodyPost_ret (results_none rfl _ _ _) rfl ?_
    exact ⟨rfl, [], w, Inserts.nil, by rw [List.append_nil]; exact Wrote.refl H1.out, Off.drewN _ _ _, Buf.drewN H2.out _⟩
  · obtain ⟨g2, rfl⟩ : ∃ g2, r2 = some g2 := by
      cases r2 with
      | none => exact absurd (by have := h2.1; simpa [nums] using this) hp0
      | some g2 => exact ⟨g2, rfl⟩
    obtain ⟨P, hP⟩ : ∃ P, P = pend.length := ⟨_, rfl⟩
    have hP1 : 1 ≤ P := by
      rcases Nat.eq_zero_or_pos P with h | h
      · rw [hP] at h; exact absurd (List.eq_nil_of_length_eq_zero h) hp0
      · exact h
    have HP := Aside0.mk hP
    have hnl : (nums .u8 pend).length = P := by rw [nums_length]; exact hP.symm
    have HL := Aside0.mk (fun q => Tryd.Buffer_Len 0 b2 (nums .u8 pend) (w.drewN q) (Buf.drewN h2 q).is)
    have HY := Aside0.mk (fun q => HandL.bytes b2 g2 (nums .u8 pend) (w.drewN q) (Buf.drewN h2 q) (by rw [hnl]; exact hP1))
    rw [hnl] at HL HY
    have HL0 : Aside0 (Calls Tryd.prog 51 #[.pointer (some ⟨b2, 0, none⟩)] w _) := ⟨by have := HL.out 0; exact this⟩
    have H1 := Aside0.mk h1
    have H2 := Aside0.mk h2
    have HR := Aside0.mk hr
    have HPR := Aside0.mk hpr
    have HPL : Aside0 (X.length + 2 * P ≤ 140737488355000) := ⟨by rw [hP]; exact hlim⟩
    have hPL2 : P ≤ 140737488355000 := by have := HPL.out; omega
    clear h1 h2 hr hpr hlim hP hnl hp0
    go_enter Tryd.func41, Tryd.ntmps41
    go_wp2_with (first
      | (go_at_call 51; (with_reducible refine HL0.out.mono ?_); rintro e w1 ⟨rfl, q1, rfl⟩)
      | (go_at_call 24; (with_reducible refine (HY.out _).mono ?_); rintro e w1 ⟨cap, rfl, hcap, q2, rfl⟩)
      | (go_at_call 51; (with_reducible refine (HL.out _).mono ?_); rintro e w1 ⟨rfl, q3, rfl⟩))
    have hP3 : P ≤ 140737488355328 := by omega
    go_loopg [5, 6] P (fun g0 v5 v6 w' => ∃ (o : Nat) (ins : List Int), v5 = .int .i64 (g0 : Int) ∧ v6 = .int .i64 (o : Int) ∧ o + g0 = P ∧ 1 ≤ g0 ∧ Aside0 (Inserts (pend.take o) ins) ∧ Aside0 (ins.length ≤ 2 * o) ∧ Aside0 (Wrote w w' b1 r1 (nums .u8 (X ++ ins))))
    case atStart => exact ⟨0, [], rfl, rfl, by omega, hP1, ⟨Inserts.nil⟩, ⟨by simp⟩, ⟨by rw [List.append_nil]; exact (Wrote.refl H1.out).drewN _⟩⟩
    case round =>
      obtain ⟨o, ins, rfl, rfl, hog, hg1, HI, HIL, HW⟩ := hrel
      obtain ⟨r', hB, hO, hr'⟩ := HW.out
      have HB := Aside0.mk hB
      have HOF := Aside0.mk hO
      have HR' := Aside0.mk hr'
      have hxl : (X ++ ins).length ≤ 140737488355000 := by have := HPL.out; have := HIL.out; rw [List.length_append]; omega
      have HXL := Aside0.mk hxl
      have H2a := Aside0.mk (HW.out.keeps H1.out H2.out hne HR.out)
      clear hB hO hr' hxl
      by_cases hs : gk ≤ 127
      · have hm := mid g2 P cap o gk (by omega) hg1 hcap hP3
        have hcv : IntKind.u8.wrap (gk : Int) = gk := by rw [IntKind.wrap_u8]; omega
        have HY1 := Aside0.mk (bbyte b1 r' (X ++ ins) (gk : Int) wr HB.out (by have := HXL.out; omega))
        go_wp2_with (first
          | (go_at_call 40
             (with_reducible refine HY1.out.mono ?_)
             rintro e w2 ⟨rfl, hW2⟩
             have HW2 := Aside0.mk (Wrote.trans HOF.out HR'.out hW2)
             obtain ⟨r2, hB2, hO2, hr2⟩ := HW2.out
             have H2b := Aside0.mk (HW2.out.keeps H1.out H2.out hne HR.out)
             have HC2 := Aside0.mk (chunk b1 b2 g2 o gk (cap - o) r2 (X ++ ins ++ [(gk : Int)]) pend w2 hB2 H2b.out (by rw [← HP.out]; omega) hg1 (by have := HXL.out; rw [List.length_append]; simp at this ⊢; omega))
             have HO2 := Aside0.mk hO2
             have HR2 := Aside0.mk hr2
             clear hW2 hB2 hO2 hr2)
          | (go_at_call 33
             (with_reducible refine HC2.out.mono ?_)
             rintro e w3 ⟨rfl, hW3⟩
             have HW3 := Aside0.mk (Wrote.trans HO2.out HR2.out hW3)
             have H2c := Aside0.mk (HW3.out.keeps H1.out H2.out hne HR.out)
             have HRS := Aside0.mk (HandL.reset b2 (some g2) (nums .u8 pend) w3 H2c.out)
             clear hW3)
          | (go_at_call 52
             (with_reducible refine HRS.out.mono ?_)
             rintro e w4 ⟨rfl, hB4, hO4⟩))
        go_end0
        have hl : ((pend.drop o).take gk).length = gk := by rw [List.length_take, List.length_drop, ← HP.out]; omega
        have hI := HI.out.snoc (u := (pend.drop o).take gk) (by omega) (by omega) (fun x hx => HPR.out x (List.mem_of_mem_drop (List.mem_of_mem_take hx)))
        rw [← List.take_add, hl, hog, List.take_of_length_le (by rw [← HP.out]; omega)] at hI
        refine ⟨rfl, _, w3, hI, ?_, hO4, hB4⟩
        have := HW3.out
        rw [List.append_assoc, List.append_assoc] at this
        exact this
      · have hm := mid g2 P cap o 127 (by omega) (by omega) hcap hP3
        have HY1 := Aside0.mk (bbyte b1 r' (X ++ ins) 127 wr HB.out (by have := HXL.out; omega))
        go_wp2_with (first
          | (go_at_call 40
             (with_reducible refine HY1.out.mono ?_)
             rintro e w2 ⟨rfl, hW2⟩
             have HW2 := Aside0.mk (Wrote.trans HOF.out HR'.out hW2)
             obtain ⟨r2, hB2, hO2, hr2⟩ := HW2.out
             have H2b := Aside0.mk (HW2.out.keeps H1.out H2.out hne HR.out)
             have HC2 := Aside0.mk (chunk b1 b2 g2 o 127 (cap - o) r2 (X ++ ins ++ [127]) pend w2 hB2 H2b.out (by rw [← HP.out]; omega) (by omega) (by have := HXL.out; rw [List.length_append]; simp at this ⊢; omega))
             have HO2 := Aside0.mk hO2
             have HR2 := Aside0.mk hr2
             clear hW2 hB2 hO2 hr2)
          | (go_at_call 33
             (with_reducible refine HC2.out.mono ?_)
             rintro e w3 ⟨rfl, hW3⟩
             have HW3 := Aside0.mk (Wrote.trans HO2.out HR2.out hW3)
             clear hW3))
        have hl : ((pend.drop o).take 127).length = 127 := by rw [List.length_take, List.length_drop, ← HP.out]; omega
        have hI := HI.out.snoc (u := (pend.drop o).take 127) (by omega) (by omega) (fun x hx => HPR.out x (List.mem_of_mem_drop (List.mem_of_mem_take hx)))
        rw [← List.take_add, hl] at hI
        have hgi : ((gk : Int) - 127) = ((gk - 127 : Nat) : Int) := by omega
        rw [hgi]
        go_roundg (gk - 127)
        case measure => omega
        case rel =>
          refine ⟨o + 127, _, rfl, rfl, by omega, by omega, ⟨hI⟩, ⟨by have := HIL.out; simp [hl]; omega⟩, ⟨?_⟩⟩
          have := HW3.out
          rw [List.append_assoc, List.append_assoc] at this
          exact this
end Go.Proofs.YtlboochpbplhlaaDoor.HandS
