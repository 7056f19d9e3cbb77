/- The method Match of a pattern of gitignore with no domain, walked. -/
import Derived.Test.YtlnfkpmmnennbaaHandG
set_option linter.unusedVariables false
set_option linter.unusedSimpArgs false
namespace Go.Proofs.Ytlnfkpmmnennbaa.HandM
open Go.RowKit Go.Proofs.YtlnfkpmmnennbaaW.PrintWords Go.Proofs.Ytlnfkpmmnennbaa.QAll Txt PureG HandG

/-- What a pattern says of a path. -/
def takes (gl dir isDir : Bool) (p : ByteArray) (ps l : List ByteArray) : Bool := if gl = true then gm dir isDir (p :: ps) l false false else simp1 p.toList dir isDir l
def mres (inc gl dir isDir : Bool) (p : ByteArray) (ps l : List ByteArray) : Int := if takes gl dir isDir p ps l = true then (if inc = true then 2 else 1) else 0

theorem cut0 {w : World} {A : Option Addr} {c n : Nat} (hA : A ≠ none ∨ n = 0) : ∀ W, (Instr.slice 22 (.slice A n c) (some (.int .i64 0)) none none).run Try.prog W = .ok (.slice A n c) W := by
  obtain ⟨i0, hi0, _, hsz, _⟩ := info_parts info9
  intro W
  have hx := cut_from (P := Try.prog) 22 9 .i64 Try.underlying22 hi0 1 hsz A n c 0 (by omega) (by omega) W
  rw [hx]
  congr 1
  split
  · simp_all
  · cases A <;> simp [Addr.add_zero']

set_option maxHeartbeats 2000000 in
set_option maxRecDepth 100000 in
theorem takesP (g : Nat) (p : ByteArray) (ps : List ByteArray) (inc dir gl isDir : Bool) (A : Option Addr) (c : Nat) (e : ByteArray) (l : List ByteArray) (w : World)
    (hP : Pat w g [] (p :: ps) inc dir gl) (hC : Kd.C Kd.string w A (e :: l).length (e :: l)) (hc : (e :: l).length ≤ c) (hl : (e :: l).length ≤ 1000) (hn : (p :: ps).length ≤ 100000) (hp : ∀ q ∈ p :: ps, GoodP q ∧ (stars2 q).isSome = true) (hq : ∀ q ∈ e :: l, GoodN q) :
    Calls Try.prog 44 #[.pointer (some ⟨g, 0, none⟩), .slice A (e :: l).length c, .bool isDir] w fun e' w' => e' = .returned (.int .i64 (mres inc gl dir isDir p ps (e :: l))) ∧ Below w.heap.size w w' := by
  have HP := Aside0.mk hP
  have HQ := Aside0.mk hq
  have HH := Aside0.mk hp
  have HC := Aside0.mk hC
  have HCl := Aside0.mk hc
  have Hn := Aside0.mk hn
  have Hl := Aside0.mk hl
  obtain ⟨A0, c0, A1, c1, h1, h2, h3, h4, h5⟩ := hP
  obtain ⟨ad, hA, _⟩ := hC.2.2 (by simp)
  subst hA
  have f0 : w.cell? ⟨g, 0, none⟩ = some (.slice A0 0 c0) := by rw [blk_cell h1]; rfl
  have f2 : w.cell? ⟨g, 2, none⟩ = some (.bool inc) := by rw [blk_cell h1]; rfl
  have f4 : w.cell? ⟨g, 4, none⟩ = some (.bool gl) := by rw [blk_cell h1]; rfl
  have F2 : Aside0 (∀ w', Below w.heap.size w w' → w'.cell? ⟨g, 2, none⟩ = some (.bool inc)) := ⟨fun w' hb => by rw [blk_cell ((hb.block g HP.out.lt).trans h1)]; rfl⟩
  have F4 : Aside0 (∀ w', Below w.heap.size w w' → w'.cell? ⟨g, 4, none⟩ = some (.bool gl)) := ⟨fun w' hb => by rw [blk_cell ((hb.block g HP.out.lt).trans h1)]; rfl⟩
  have hcut : ∀ W, (Instr.slice 22 (.slice (some ad) (l.length + 1) c) (some (.int .i64 0)) none none).run Try.prog W = .ok (.slice (some ad) (l.length + 1) c) W := cut0 (w := w) (.inl (by simp))
  clear hC hq hp h4 h5 h1 hc hn hl h2 h3
  go_enter Try.func44, Try.ntmps44
  cases gl with
  | true =>
    have HZ : Aside0 (Calls Try.prog 45 #[.pointer (some ⟨g, 0, none⟩), .slice (some ad) (l.length + 1) c, .bool isDir] w fun e' w' => e' = .returned (.bool (gm dir isDir (p :: ps) (e :: l) false false)) ∧ Below w.heap.size w w') := ⟨glob g [] (p :: ps) inc dir true isDir (some ad) c (e :: l) _ HP.out HC.out HCl.out Hl.out Hn.out HH.out HQ.out⟩
    cases ht : gm dir isDir (p :: ps) (e :: l) false false with
    | true =>
      have HT := Aside0.mk ht
      have HM : Aside0 (mres inc true dir isDir p ps (e :: l) = if inc = true then 2 else 1) := ⟨by unfold mres takes; rw [if_pos (by first | (rw [if_pos rfl]; exact ht) | (rw [if_neg (by decide)]; exact ht))]⟩
      clear ht
      go_wp2
      go_loopg [22] 0 (fun g0 v22 w' => v22 = .int .i64 0 ∧ w' = w)
      case atStart => exact ⟨rfl, rfl⟩
      case round =>
        obtain ⟨rfl, rfl⟩ := hrel
        cases inc with
        | true =>
          go_wp2_with (first | (go_at_call 45; (with_reducible refine HZ.out.mono ?_); rintro e' w' ⟨rfl, hb⟩; rw [HT.out]; have f5 := F2.out w' hb; have f6 := F4.out w' hb; have HB := Aside0.mk hb; clear hb))
          go_ret
          exact ⟨by rw [HM.out]; rfl, HB.out⟩
        | false =>
          go_wp2_with (first | (go_at_call 45; (with_reducible refine HZ.out.mono ?_); rintro e' w' ⟨rfl, hb⟩; rw [HT.out]; have f5 := F2.out w' hb; have f6 := F4.out w' hb; have HB := Aside0.mk hb; clear hb))
          go_ret
          exact ⟨by rw [HM.out]; rfl, HB.out⟩
    | false =>
      have HT := Aside0.mk ht
      have HM : Aside0 (mres inc true dir isDir p ps (e :: l) = 0) := ⟨by unfold mres takes; rw [if_neg (by first | (rw [if_pos rfl, ht]; decide) | (rw [if_neg (by decide), ht]; decide))]⟩
      clear ht
      go_wp2
      go_loopg [22] 0 (fun g0 v22 w' => v22 = .int .i64 0 ∧ w' = w)
      case atStart => exact ⟨rfl, rfl⟩
      case round =>
        obtain ⟨rfl, rfl⟩ := hrel
        go_wp2_with (first | (go_at_call 45; (with_reducible refine HZ.out.mono ?_); rintro e' w' ⟨rfl, hb⟩; rw [HT.out]; have f5 := F2.out w' hb; have f6 := F4.out w' hb; have HB := Aside0.mk hb; clear hb))
        go_ret
        exact ⟨by rw [HM.out]; rfl, HB.out⟩
  | false =>
    have HZ : Aside0 (Calls Try.prog 46 #[.pointer (some ⟨g, 0, none⟩), .slice (some ad) (l.length + 1) c, .bool isDir] w fun e' w' => e' = .returned (.bool (simp1 p.toList dir isDir (e :: l))) ∧ Below w.heap.size w w') := ⟨simple g [] p ps inc dir false isDir (some ad) c (e :: l) _ HP.out HC.out HCl.out Hl.out (HH.out _ (List.mem_cons_self ..)).1 HQ.out⟩
    cases ht : simp1 p.toList dir isDir (e :: l) with
    | true =>
      have HT := Aside0.mk ht
      have HM : Aside0 (mres inc false dir isDir p ps (e :: l) = if inc = true then 2 else 1) := ⟨by unfold mres takes; rw [if_pos (by first | (rw [if_pos rfl]; exact ht) | (rw [if_neg (by decide)]; exact ht))]⟩
      clear ht
      go_wp2
      go_loopg [22] 0 (fun g0 v22 w' => v22 = .int .i64 0 ∧ w' = w)
      case atStart => exact ⟨rfl, rfl⟩
      case round =>
        obtain ⟨rfl, rfl⟩ := hrel
        cases inc with
        | true =>
          go_wp2_with (first | (go_at_call 46; (with_reducible refine HZ.out.mono ?_); rintro e' w' ⟨rfl, hb⟩; rw [HT.out]; have f5 := F2.out w' hb; have f6 := F4.out w' hb; have HB := Aside0.mk hb; clear hb))
          go_ret
          exact ⟨by rw [HM.out]; rfl, HB.out⟩
        | false =>
          go_wp2_with (first | (go_at_call 46; (with_reducible refine HZ.out.mono ?_); rintro e' w' ⟨rfl, hb⟩; rw [HT.out]; have f5 := F2.out w' hb; have f6 := F4.out w' hb; have HB := Aside0.mk hb; clear hb))
          go_ret
          exact ⟨by rw [HM.out]; rfl, HB.out⟩
    | false =>
      have HT := Aside0.mk ht
      have HM : Aside0 (mres inc false dir isDir p ps (e :: l) = 0) := ⟨by unfold mres takes; rw [if_neg (by first | (rw [if_pos rfl, ht]; decide) | (rw [if_neg (by decide), ht]; decide))]⟩
      clear ht
      go_wp2
      go_loopg [22] 0 (fun g0 v22 w' => v22 = .int .i64 0 ∧ w' = w)
      case atStart => exact ⟨rfl, rfl⟩
      case round =>
        obtain ⟨rfl, rfl⟩ := hrel
        go_wp2_with (first | (go_at_call 46; (with_reducible refine HZ.out.mono ?_); rintro e' w' ⟨rfl, hb⟩; rw [HT.out]; have f5 := F2.out w' hb; have f6 := F4.out w' hb; have HB := Aside0.mk hb; clear hb))
        go_ret
        exact ⟨by rw [HM.out]; rfl, HB.out⟩

end Go.Proofs.Ytlnfkpmmnennbaa.HandM
