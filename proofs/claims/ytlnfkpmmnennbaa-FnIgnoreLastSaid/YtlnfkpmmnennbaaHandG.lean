/- The methods of a pattern of gitignore, walked: simpleNameMatch, globMatch, Match. -/
import Derived.Test.YtlnfkpmmnennbaaPureG
import Derived.Test.YtlnfkpmmnennbaaQAllx3
import Derived.Outline
set_option linter.unusedVariables false
set_option linter.unusedSimpArgs false
namespace Go.Proofs.Ytlnfkpmmnennbaa.HandG
open Go.RowKit Go.Proofs.YtlnfkpmmnennbaaW.PrintWords Go.Proofs.Ytlnfkpmmnennbaa.QAll Txt PureG

/-- A pattern at block g: its domain, its parts, and what it is. -/
def Pat (W : World) (g : Nat) (ds ps : List ByteArray) (inc dir glob : Bool) : Prop :=
  ∃ A0 c0 A1 c1, W.heap[g]? = some (.cells #[.slice A0 ds.length c0, .slice A1 ps.length c1, .bool inc, .bool dir, .bool glob] 49 (0, 0)) ∧ ds.length ≤ c0 ∧ ps.length ≤ c1 ∧ Kd.C Kd.string W A0 ds.length ds ∧ Kd.C Kd.string W A1 ps.length ps
theorem Pat.below {W W1 : World} {g : Nat} {ds ps : List ByteArray} {inc dir glob : Bool} (h : Pat W g ds ps inc dir glob) (hb : Below W.heap.size W W1) : Pat W1 g ds ps inc dir glob := by
  obtain ⟨A0, c0, A1, c1, h1, h2, h3, h4, h5⟩ := h
  exact ⟨A0, c0, A1, c1, (hb.block g (blk_lt h1)).trans h1, h2, h3, Kd.C_below h4 hb, Kd.C_below h5 hb⟩
theorem Pat.lt {W : World} {g : Nat} {ds ps : List ByteArray} {inc dir glob : Bool} (h : Pat W g ds ps inc dir glob) : g < W.heap.size := by
  obtain ⟨A0, c0, A1, c1, h1, _⟩ := h
  exact blk_lt h1

def GoodP (p : ByteArray) : Prop := p.size ≤ 10000 ∧ ∀ c ∈ p.toList, Gc c
def GoodN (q : ByteArray) : Prop := q.size ≤ 10000 ∧ ∀ c ∈ q.toList, Nc c
/-- path.Match at a good pattern and a good name. -/
theorem pmatch (p q : ByteArray) (hp : GoodP p) (hq : GoodN q) (w : World) :
    Calls Try.prog 47 #[.string p, .string q] w fun e w' => e = .returned (.tuple #[.bool (globs p.toList q.toList), .nilIface]) ∧ Below w.heap.size w w' := by
  obtain ⟨k, hk⟩ := (match_ok p.toList.length p q (Nat.le_refl _) (by have := hp.1; omega) (by have := hq.1; omega) hp.2 hq.2).rounds
  exact path_Match.calls k p q _ none w hk

/-- A name alone. -/
def simp1 (p : List UInt8) (dir isDir : Bool) : List ByteArray → Bool
  | [] => false
  | q :: r => if globs p q.toList = true then !(dir && !isDir && r.isEmpty) else simp1 p dir isDir r

set_option maxHeartbeats 2000000 in
theorem simple (g : Nat) (ds : List ByteArray) (p : ByteArray) (ps : List ByteArray) (inc dir glob isDir : Bool) (A : Option Addr) (c : Nat) (l : List ByteArray) (w : World)
    (hP : Pat w g ds (p :: ps) inc dir glob) (hC : Kd.C Kd.string w A l.length l) (hc : l.length ≤ c) (hl : l.length ≤ 1000) (hp : GoodP p) (hq : ∀ q ∈ l, GoodN q) :
    Calls Try.prog 46 #[.pointer (some ⟨g, 0, none⟩), .slice A l.length c, .bool isDir] w fun e w' => e = .returned (.bool (simp1 p.toList dir isDir l)) ∧ Below w.heap.size w w' := by
  have HP := Aside0.mk hP
  have HC := Aside0.mk hC
  have HQ := Aside0.mk hq
  clear hP hC hq
  go_enter Try.func46, Try.ntmps46
  go_wp2
  go_loopg [13] l.length (fun gk v13 w' => ∃ k : Nat, v13 = .int .i64 (k : Int) ∧ Aside0 (k + gk = l.length) ∧ Aside0 (Below w.heap.size w w') ∧ Aside0 (simp1 p.toList dir isDir l = simp1 p.toList dir isDir (l.drop k)))
  case atStart => exact ⟨0, rfl, ⟨by omega⟩, ⟨Below.refl _ _⟩, ⟨by rw [List.drop_zero]⟩⟩
  case round =>
    obtain ⟨k, rfl, hk, hb, hs⟩ := hrel
    by_cases hlt : k < l.length
    · obtain ⟨g0, rfl⟩ : ∃ m, gk = m + 1 := ⟨gk - 1, by have := hk.out; omega⟩
      obtain ⟨ad, e, hx⟩ := Kd.at_string (Kd.C_below HC.out hb.out) (k : Int) (by omega) (by omega)
      cases e
      rw [Int.toNat_natCast] at hx
      have hgp : l[k]? = some (rdOf ByteArray.empty l (k : Int)) := by
        unfold rdOf
        rw [Int.toNat_natCast, List.getD_eq_getElem?_getD, List.getElem?_eq_getElem hlt]
        rfl
      have hdr : l.drop k = rdOf ByteArray.empty l (k : Int) :: l.drop (k + 1) := by
        rw [List.drop_eq_getElem_cons hlt]
        congr 1
        rw [List.getElem?_eq_getElem hlt] at hgp
        exact Option.some.inj hgp
      have hqk := HQ.out _ (List.mem_of_getElem? hgp)
      generalize rdOf ByteArray.empty l (k : Int) = q at hx hgp hdr hqk
      have hstep : simp1 p.toList dir isDir l = (if globs p.toList q.toList = true then !(dir && !isDir && (l.drop (k + 1)).isEmpty) else simp1 p.toList dir isDir (l.drop (k + 1))) := by
        rw [hs.out, hdr]; rfl
      have hend : (l.drop (k + 1)).isEmpty = decide (k = l.length - 1) := by
        rw [Bool.eq_iff_iff]; simp; omega
      rw [hend] at hstep
      obtain ⟨A0, c0, A1, c1, h1, h2, h3, h4, h5⟩ := HP.out.below hb.out
      have f1 : wr.cell? ⟨g, 1, none⟩ = some (.slice A1 (p :: ps).length c1) := by rw [blk_cell h1]; rfl
      have f3 : wr.cell? ⟨g, 3, none⟩ = some (.bool dir) := by rw [blk_cell h1]; rfl
      obtain ⟨ad1, e1, hx1⟩ := Kd.at_string h5 (0 : Int) (by omega) (by simp)
      cases e1
      have hx1' : wr.cell? ad1 = some (.string p) := by cases ad1; exact hx1
      have hg : g < wr.heap.size := blk_lt h1
      have hz : (0 : Int) < ((p :: ps).length : Int) := by simp
      have Hstep := Aside0.mk hstep
      have Hqk := Aside0.mk hqk
      have H1 := Aside0.mk h1
      clear h4 h5 hx1 h1 hstep hend hdr hgp hqk
      go_wp2_with ((go_at_call 47; with_reducible refine (pmatch _ _ hp Hqk.out _).mono ?_); rintro e w' ⟨rfl, hb1⟩; have f4 : w'.cell? ⟨g, 3, none⟩ = some (.bool dir) := (by rw [blk_cell ((hb1.block g hg).trans H1.out)]; rfl); have HB1 := Aside0.mk hb1; clear hb1)
      · rename_i hcn
        go_roundg g0
        case measure => omega
        case rel =>
          refine ⟨k + 1, by push_cast; rfl, ⟨by have := hk.out; omega⟩, ⟨hb.out.trans (HB1.out.mono hb.out.size)⟩, ⟨?_⟩⟩
          have hn : globs p.toList q.toList = false := by simpa using hcn
          rw [Hstep.out, hn]; rfl
      all_goals (go_ret; refine ⟨?_, hb.out.trans (HB1.out.mono hb.out.size)⟩; rw [Hstep.out])
      · rename_i hd hi
        have hn : globs p.toList q.toList = true := by simpa using ‹(!globs p.toList q.toList) = false›
        simp [hn, hd, hi]
      · rename_i hd hi hk2
        have hn : globs p.toList q.toList = true := by simpa using ‹(!globs p.toList q.toList) = false›
        have hk3 : k = l.length - 1 := by have := eq_of_beq hk2; omega
        simp [hn, hd, hi]
        exact hk3
      · rename_i hd hi hk2
        have hn : globs p.toList q.toList = true := by simpa using ‹(!globs p.toList q.toList) = false›
        have hk3 : k ≠ l.length - 1 := by have := ne_of_beq_false hk2; omega
        simp [hn, hd, hi]
        exact hk3
      · rename_i hd
        have hn : globs p.toList q.toList = true := by simpa using ‹(!globs p.toList q.toList) = false›
        simp [hn, hd]
    · have hend : k = l.length := by have := hk.out; omega
      go_wp2
      go_ret
      refine ⟨?_, hb.out⟩
      rw [hs.out, hend, List.drop_length]
      rfl

/-- Whether a name has two stars beside one another. -/
def stars2 (q : ByteArray) : Option Bool := gitignore_zzContains.f 100000 q ⟨#[42, 42]⟩
def scan (q : List UInt8) : List ByteArray → Bool → Bool × List ByteArray
  | [], m => (m, [])
  | e :: r, m => if globs q e.toList = true then (true, r) else scan q r (if r.isEmpty then false else m)
def fin (dir isDir : Bool) (x : List ByteArray) (m : Bool) : Bool := m && !(dir && !isDir && x.isEmpty)
def gm (dir isDir : Bool) : List ByteArray → List ByteArray → Bool → Bool → Bool
  | [], x, can, m => fin dir isDir x m
  | q :: r, x, can, m =>
    if q.toList = [] then gm dir isDir r x false m
    else if q.toList = [42, 42] then (if r.isEmpty = true then fin dir isDir x m else gm dir isDir r x true m)
    else if (stars2 q).getD false = true then false
    else match x with
      | [] => false
      | e :: t => if can = true then gm dir isDir r (scan q.toList (e :: t) m).2 false (scan q.toList (e :: t) m).1
          else if globs q.toList e.toList = true then gm dir isDir r t can true else false

theorem gm_cons (dir isDir : Bool) (q : ByteArray) (r x : List ByteArray) (can m : Bool) : gm dir isDir (q :: r) x can m = (if q.toList = [] then gm dir isDir r x false m
    else if q.toList = [42, 42] then (if r.isEmpty = true then fin dir isDir x m else gm dir isDir r x true m)
    else if (stars2 q).getD false = true then false
    else match x with
      | [] => false
      | e :: t => if can = true then gm dir isDir r (scan q.toList (e :: t) m).2 false (scan q.toList (e :: t) m).1
          else if globs q.toList e.toList = true then gm dir isDir r t can true else false) := by cases x <;> rfl

theorem cutT {w : World} {A : Option Addr} {c : Nat} {e : ByteArray} {t : List ByteArray} (h : Kd.C Kd.string w A (e :: t).length (e :: t)) (hc : (e :: t).length ≤ c) :
    ∃ A' c', (∀ W, (Instr.slice 22 (.slice A (t.length + 1) c) (some (.int .i64 1)) none none).run Try.prog W = .ok (.slice A' t.length c') W) ∧ Kd.C Kd.string w A' t.length t ∧ t.length ≤ c' := by
  obtain ⟨i0, hi0, _, hsz, _⟩ := info_parts info9
  have hd := Kd.C_drop (m := 1) h (by simp) hc
  refine ⟨_, c - 1, ?_, hd, by simp at hc ⊢; omega⟩
  intro W
  have hx := cut_from (P := Try.prog) 22 9 .i64 Try.underlying22 hi0 1 hsz A (e :: t).length c 1 (by omega) (by simp; omega) W
  exact hx

set_option maxHeartbeats 4000000 in
set_option maxRecDepth 100000 in
theorem glob (g : Nat) (ds ps : List ByteArray) (inc dir gl isDir : Bool) (A : Option Addr) (c : Nat) (l : List ByteArray) (w : World)
    (hP : Pat w g ds ps inc dir gl) (hC : Kd.C Kd.string w A l.length l) (hc : l.length ≤ c) (hl : l.length ≤ 1000) (hn : ps.length ≤ 100000) (hp : ∀ p ∈ ps, GoodP p ∧ (stars2 p).isSome = true) (hq : ∀ q ∈ l, GoodN q) :
    Calls Try.prog 45 #[.pointer (some ⟨g, 0, none⟩), .slice A l.length c, .bool isDir] w fun e w' => e = .returned (.bool (gm dir isDir ps l false false)) ∧ Below w.heap.size w w' := by
  have HP := Aside0.mk hP
  have HQ := Aside0.mk hq
  have HH := Aside0.mk hp
  obtain ⟨A0, c0, A1, c1, h1, h2, h3, h4, h5⟩ := hP
  have f1 : w.cell? ⟨g, 1, none⟩ = some (.slice A1 ps.length c1) := by rw [blk_cell h1]; rfl
  have H1 := Aside0.mk h1
  have H5 := Aside0.mk h5
  have HC := Aside0.mk hC
  have HCl := Aside0.mk hc
  clear hC hq hp h4 h5 h1 hc
  go_enter Try.func45, Try.ntmps45
  go_wp2
  go_loopg [1, 7, 8, 21] ps.length (fun gk v1 v7 v8 v21 w' => ∃ (k : Nat) (x : List ByteArray) (m can : Bool) (A2 : Option Addr) (c2 : Nat), v1 = .slice A2 x.length c2 ∧ v7 = .bool m ∧ v8 = .bool can ∧ v21 = .int .i64 (k : Int) ∧ Aside0 (k + gk = ps.length) ∧ Aside0 (Below w.heap.size w w') ∧ Aside0 (x.length ≤ c2) ∧ Aside0 (x.length ≤ 1000) ∧ Aside0 (Kd.C Kd.string w A2 x.length x) ∧ Aside0 (∀ q ∈ x, GoodN q) ∧ Aside0 (gm dir isDir ps l false false = gm dir isDir (ps.drop k) x can m))
  case atStart => exact ⟨0, l, false, false, A, c, rfl, rfl, rfl, rfl, ⟨by omega⟩, ⟨Below.refl _ _⟩, HCl, ⟨hl⟩, HC, HQ, ⟨by rw [List.drop_zero]⟩⟩
  case round =>
    obtain ⟨k, x, m, can, A2, c2, rfl, rfl, rfl, rfl, hk, hb, hx0, hx1, hxC, hxg, hs⟩ := hrel
    by_cases hlt : k < ps.length
    · obtain ⟨g0, rfl⟩ : ∃ m, gk = m + 1 := ⟨gk - 1, by have := hk.out; omega⟩
      obtain ⟨ad, e, hx⟩ := Kd.at_string (Kd.C_below H5.out hb.out) (k : Int) (by omega) (by omega)
      cases e
      rw [Int.toNat_natCast] at hx
      have hgp : ps[k]? = some (rdOf ByteArray.empty ps (k : Int)) := by
        unfold rdOf
        rw [Int.toNat_natCast, List.getD_eq_getElem?_getD, List.getElem?_eq_getElem hlt]
        rfl
      have hdr : ps.drop k = rdOf ByteArray.empty ps (k : Int) :: ps.drop (k + 1) := by
        rw [List.drop_eq_getElem_cons hlt]
        congr 1
        rw [List.getElem?_eq_getElem hlt] at hgp
        exact Option.some.inj hgp
      have hqk := HH.out _ (List.mem_of_getElem? hgp)
      generalize rdOf ByteArray.empty ps (k : Int) = q at hx hgp hdr hqk
      have hend : (ps.drop (k + 1)).isEmpty = decide (k = ps.length - 1) := by
        rw [Bool.eq_iff_iff]; simp; omega
      have Hend := Aside0.mk hend
      have Hqk := Aside0.mk hqk
      have Hdr := Aside0.mk hdr
      clear hend hdr hgp hqk
      have f3 : wr.cell? ⟨g, 3, none⟩ = some (.bool dir) := by rw [blk_cell ((hb.out.block g HP.out.lt).trans H1.out)]; rfl
      have f4 : wr.cell? ⟨g, 1, none⟩ = some (.slice (some ad) ps.length c1) := by rw [blk_cell ((hb.out.block g HP.out.lt).trans H1.out)]; rfl
      by_cases q1 : q.toList = []
      · have q2 : (q.toList == ([] : List UInt8)) = true := by rw [q1]; rfl
        have hs2 : gm dir isDir ps l false false = gm dir isDir (ps.drop (k + 1)) x false m := by rw [hs.out, Hdr.out, gm_cons, if_pos q1]
        have HS := Aside0.mk hs2
        clear hs2 q1
        go_wp2
        go_roundg g0
        case measure => omega
        case rel => exact ⟨k + 1, x, m, false, A2, c2, rfl, rfl, rfl, by push_cast; rfl, ⟨by have := hk.out; omega⟩, hb, hx0, hx1, hxC, hxg, HS⟩
      · have q2 : (q.toList == ([] : List UInt8)) = false := beq_eq_false_iff_ne.mpr q1
        by_cases q3 : q.toList = [42, 42]
        · have q4 : (q.toList == ([42, 42] : List UInt8)) = true := by rw [q3]; rfl
          have hs2 : gm dir isDir ps l false false = (if decide (k = ps.length - 1) = true then fin dir isDir x m else gm dir isDir (ps.drop (k + 1)) x true m) := by rw [hs.out, Hdr.out, gm_cons, if_neg q1, if_pos q3, Hend.out]
          have HS := Aside0.mk hs2
          clear hs2 q1 q3
          by_cases hlast : k = ps.length - 1
          · have hl2 : ((k : Int) == (ps.length : Int) - 1) = true := by rw [beq_iff_eq]; omega
            have HF : Aside0 (gm dir isDir ps l false false = fin dir isDir x m) := ⟨by rw [HS.out, if_pos (decide_eq_true hlast)]⟩
            clear hlast
            cases m with
            | false => go_wp2; go_ret; exact ⟨by rw [HF.out]; rfl, hb.out⟩
            | true => cases dir with
              | false => go_wp2; go_ret; exact ⟨by rw [HF.out]; rfl, hb.out⟩
              | true => cases isDir with
                | true => go_wp2; go_ret; exact ⟨by rw [HF.out]; rfl, hb.out⟩
                | false => cases x with
                  | nil => go_wp2; go_ret; exact ⟨by rw [HF.out]; rfl, hb.out⟩
                  | cons e t =>
                    have hxl : (((e :: t).length : Int) == 0) = false := by rw [beq_eq_false_iff_ne]; simp; omega
                    go_wp2; go_ret; exact ⟨by rw [HF.out]; rfl, hb.out⟩
          · have hl2 : ((k : Int) == (ps.length : Int) - 1) = false := by rw [beq_eq_false_iff_ne]; omega
            have HF : Aside0 (gm dir isDir ps l false false = gm dir isDir (ps.drop (k + 1)) x true m) := ⟨by rw [HS.out, if_neg (by simpa using hlast)]⟩
            clear hlast
            go_wp2
            go_roundg g0
            case measure => omega
            case rel => exact ⟨k + 1, x, m, true, A2, c2, rfl, rfl, rfl, by push_cast; rfl, ⟨by have := hk.out; omega⟩, hb, hx0, hx1, hxC, hxg, HF⟩
        · have q4 : (q.toList == ([42, 42] : List UInt8)) = false := beq_eq_false_iff_ne.mpr q3
          obtain ⟨st, hst⟩ := Option.isSome_iff_exists.1 Hqk.out.2
          have hst' : gitignore_zzContains.f 100000 q ⟨#[42, 42]⟩ = some st := hst
          have hs2 := hs.out
          rw [Hdr.out, gm_cons, if_neg q1, if_neg q3, hst, Option.getD_some] at hs2
          have HST := Aside0.mk hst'
          have HS := Aside0.mk hs2
          clear hs2 q1 q3 hst hst' hs
          cases st with
          | true =>
            go_wp2_with (first | (go_at_call 24; (with_reducible refine (gitignore_zzContains.calls 100000 q (⟨#[42, 42]⟩ : ByteArray) true _ HST.out).mono ?_); rintro e w' ⟨rfl, ⟨nd, rfl⟩⟩))
            go_ret
            exact ⟨by rw [show gm dir isDir ps l false false = false by rw [HS.out]; rfl]; rfl, pw_below_drewN hb.out _⟩
          | false =>
            cases x with
            | nil =>
              go_wp2_with (first | (go_at_call 24; (with_reducible refine (gitignore_zzContains.calls 100000 q (⟨#[42, 42]⟩ : ByteArray) false _ HST.out).mono ?_); rintro e w' ⟨rfl, ⟨nd, rfl⟩⟩))
              go_ret
              exact ⟨by rw [show gm dir isDir ps l false false = false by rw [HS.out]; rfl]; rfl, pw_below_drewN hb.out _⟩
            | cons e t =>
              have hxl : (((e :: t).length : Int) == 0) = false := by rw [beq_eq_false_iff_ne]; simp; omega
              obtain ⟨ad2, e2, hx2⟩ := Kd.at_string (Kd.C_below hxC.out hb.out) (0 : Int) (by omega) (by simp)
              cases e2
              have hx2' : wr.cell? ad2 = some (.string e) := by cases ad2; exact hx2
              clear hx2
              have Hp : Aside0 (GoodP q) := ⟨Hqk.out.1⟩
              have He : Aside0 (GoodN e) := ⟨hxg.out _ (List.mem_cons_self ..)⟩
              cases can with
              | false =>
                obtain ⟨A3, c3, hcut, hC3, hc3⟩ := cutT hxC.out hx0.out
                have HC3 := Aside0.mk hC3
                have Hc3 := Aside0.mk hc3
                clear hC3 hc3
                cases hgl : globs q.toList e.toList with
                | true =>
                  have HG := Aside0.mk hgl
                  have HS2 : Aside0 (gm dir isDir ps l false false = gm dir isDir (ps.drop (k + 1)) t false true) := ⟨by rw [HS.out]; simp only [hgl]; rfl⟩
                  clear hgl
                  go_wp2_with (first | ((go_at_call 24; (with_reducible refine (gitignore_zzContains.calls 100000 q (⟨#[42, 42]⟩ : ByteArray) false _ HST.out).mono ?_); rintro e w' ⟨rfl, ⟨nd, rfl⟩⟩)) | (go_at_call 47; (with_reducible refine (pmatch _ _ Hp.out He.out _).mono ?_); rintro e' w' ⟨rfl, hb1⟩; rw [HG.out]; have HB1 := Aside0.mk hb1; clear hb1))
                  go_roundg g0
                  case measure => omega
                  case rel => exact ⟨k + 1, t, true, false, A3, c3, rfl, rfl, rfl, by push_cast; rfl, ⟨by have := hk.out; omega⟩, ⟨(pw_below_drewN hb.out _).trans (HB1.out.mono hb.out.size)⟩, Hc3, ⟨by have := hx1.out; simp at this; omega⟩, HC3, ⟨fun q hq => hxg.out q (List.mem_cons_of_mem _ hq)⟩, HS2⟩
                | false =>
                  have HG := Aside0.mk hgl
                  have HS2 : Aside0 (gm dir isDir ps l false false = false) := ⟨by rw [HS.out]; simp only [hgl]; rfl⟩
                  clear hgl
                  go_wp2_with (first | ((go_at_call 24; (with_reducible refine (gitignore_zzContains.calls 100000 q (⟨#[42, 42]⟩ : ByteArray) false _ HST.out).mono ?_); rintro e w' ⟨rfl, ⟨nd, rfl⟩⟩)) | (go_at_call 47; (with_reducible refine (pmatch _ _ Hp.out He.out _).mono ?_); rintro e' w' ⟨rfl, hb1⟩; rw [HG.out]; have HB1 := Aside0.mk hb1; clear hb1))
                  go_ret
                  exact ⟨by rw [HS2.out]; rfl, (pw_below_drewN hb.out _).trans (HB1.out.mono hb.out.size)⟩
              | true =>
                have HS2 : Aside0 (gm dir isDir ps l false false = gm dir isDir (ps.drop (k + 1)) (scan q.toList (e :: t) m).2 false (scan q.toList (e :: t) m).1) := ⟨by rw [HS.out]; rfl⟩
                go_wp2_with (first | ((go_at_call 24; (with_reducible refine (gitignore_zzContains.calls 100000 q (⟨#[42, 42]⟩ : ByteArray) false _ HST.out).mono ?_); rintro e w' ⟨rfl, ⟨nd, rfl⟩⟩)))
                clear hx2' f3 f4 hx hxl
                go_loopg [1, 7] (t.length + 1) (fun gj v1 v7 w' => ∃ (y : List ByteArray) (my : Bool) (A3 : Option Addr) (c3 : Nat), v1 = .slice A3 y.length c3 ∧ v7 = .bool my ∧ Aside0 (y.length = gj) ∧ Aside0 (Below w.heap.size w w') ∧ Aside0 (y.length ≤ c3) ∧ Aside0 (y.length ≤ 1000) ∧ Aside0 (Kd.C Kd.string w A3 y.length y) ∧ Aside0 (∀ q ∈ y, GoodN q) ∧ Aside0 (scan q.toList (e :: t) m = scan q.toList y my))
                case atStart => exact ⟨e :: t, m, _, c2, rfl, rfl, ⟨rfl⟩, ⟨pw_below_drewN hb.out _⟩, hx0, hx1, hxC, hxg, ⟨rfl⟩⟩
                case round =>
                  obtain ⟨y, my, A3, c3, rfl, rfl, hj, hb2, hy0, hy1, hyC, hyg, hsc⟩ := hrel
                  cases y with
                  | nil =>
                    go_wp2
                    go_roundg g0
                    case measure => omega
                    case rel => exact ⟨k + 1, [], my, false, A3, c3, rfl, rfl, rfl, by push_cast; rfl, ⟨by have := hk.out; omega⟩, hb2, hy0, hy1, hyC, hyg, ⟨by rw [HS2.out, hsc.out]; rfl⟩⟩
                  | cons d u =>
                    obtain ⟨g1, rfl⟩ : ∃ m, gk = m + 1 := ⟨gk - 1, by have := hj.out; simp at this; omega⟩
                    obtain ⟨ad2, e2, hx2⟩ := Kd.at_string (Kd.C_below hyC.out hb2.out) (0 : Int) (by omega) (by simp)
                    cases e2
                    have hx2' : wr.cell? ad2 = some (.string d) := by cases ad2; exact hx2
                    clear hx2
                    obtain ⟨A4, c4, hcut, hC4, hc4⟩ := cutT hyC.out hy0.out
                    have HC4 := Aside0.mk hC4
                    have Hc4 := Aside0.mk hc4
                    clear hC4 hc4
                    have Hd : Aside0 (GoodN d) := ⟨hyg.out _ (List.mem_cons_self ..)⟩
                    cases hgl : globs q.toList d.toList with
                    | true =>
                      have HG := Aside0.mk hgl
                      have HS3 : Aside0 (scan q.toList (e :: t) m = (true, u)) := ⟨by rw [hsc.out]; simp only [scan, hgl]; rfl⟩
                      clear hgl
                      go_wp2_with (first | (go_at_call 47; (with_reducible refine (pmatch _ _ Hp.out Hd.out _).mono ?_); rintro e' w' ⟨rfl, hb1⟩; rw [HG.out]; have HB1 := Aside0.mk hb1; clear hb1))
                      go_roundg g0
                      case measure => omega
                      case rel => exact ⟨k + 1, u, true, false, A4, c4, rfl, rfl, rfl, by push_cast; rfl, ⟨by have := hk.out; omega⟩, ⟨hb2.out.trans (HB1.out.mono hb2.out.size)⟩, Hc4, ⟨by have := hy1.out; simp at this; omega⟩, HC4, ⟨fun q hq => hyg.out q (List.mem_cons_of_mem _ hq)⟩, ⟨by rw [HS2.out, HS3.out]⟩⟩
                    | false =>
                      have HG := Aside0.mk hgl
                      have HS3 : Aside0 (scan q.toList (e :: t) m = scan q.toList u (if u.isEmpty then false else my)) := ⟨by rw [hsc.out]; simp only [scan, hgl]; rfl⟩
                      clear hgl
                      cases u with
                      | nil =>
                        have hcut0 : ∀ W, (Instr.slice 22 (.slice (some ad2) 1 c3) (some (.int .i64 1)) none none).run Try.prog W = .ok (.slice A4 0 c4) W := hcut
                        clear hcut
                        go_wp2_with (first | (go_at_call 47; (with_reducible refine (pmatch _ _ Hp.out Hd.out _).mono ?_); rintro e' w' ⟨rfl, hb1⟩; rw [HG.out]; have HB1 := Aside0.mk hb1; clear hb1))
                        go_roundg g1
                        case measure => omega
                        case rel => exact ⟨[], false, A4, c4, rfl, rfl, ⟨by have := hj.out; simp at this ⊢; omega⟩, ⟨hb2.out.trans (HB1.out.mono hb2.out.size)⟩, Hc4, ⟨by simp⟩, HC4, ⟨fun q hq => by simp at hq⟩, HS3⟩
                      | cons d2 u2 =>
                        have hcut0 : ∀ W, (Instr.slice 22 (.slice (some ad2) (u2.length + 1 + 1) c3) (some (.int .i64 1)) none none).run Try.prog W = .ok (.slice A4 (u2.length + 1) c4) W := hcut
                        clear hcut
                        go_wp2_with (first | (go_at_call 47; (with_reducible refine (pmatch _ _ Hp.out Hd.out _).mono ?_); rintro e' w' ⟨rfl, hb1⟩; rw [HG.out]; have HB1 := Aside0.mk hb1; clear hb1))
                        go_roundg g1
                        case measure => omega
                        case rel => exact ⟨d2 :: u2, my, A4, c4, rfl, rfl, ⟨by have := hj.out; simp at this ⊢; omega⟩, ⟨hb2.out.trans (HB1.out.mono hb2.out.size)⟩, Hc4, ⟨by have := hy1.out; simp at this ⊢; omega⟩, HC4, ⟨fun q hq => hyg.out q (List.mem_cons_of_mem _ hq)⟩, HS3⟩
    · have hend : k = ps.length := by have := hk.out; omega
      have f3 : wr.cell? ⟨g, 3, none⟩ = some (.bool dir) := by rw [blk_cell ((hb.out.block g HP.out.lt).trans H1.out)]; rfl
      have hfin : gm dir isDir ps l false false = fin dir isDir x m := by rw [hs.out, hend, List.drop_length]; rfl
      have HF := Aside0.mk hfin
      clear hfin
      cases m with
      | false => go_wp2; go_ret; exact ⟨by rw [HF.out]; rfl, hb.out⟩
      | true => cases dir with
        | false => go_wp2; go_ret; exact ⟨by rw [HF.out]; rfl, hb.out⟩
        | true => cases isDir with
          | true => go_wp2; go_ret; exact ⟨by rw [HF.out]; rfl, hb.out⟩
          | false => cases x with
            | nil => go_wp2; go_ret; exact ⟨by rw [HF.out]; rfl, hb.out⟩
            | cons e t =>
              have hxl : (((e :: t).length : Int) == 0) = false := by rw [beq_eq_false_iff_ne]; simp; omega
              go_wp2; go_ret; exact ⟨by rw [HF.out]; rfl, hb.out⟩

end Go.Proofs.Ytlnfkpmmnennbaa.HandG
