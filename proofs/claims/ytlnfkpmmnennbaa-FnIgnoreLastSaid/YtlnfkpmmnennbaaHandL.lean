/- NewMatcher and the Match of a matcher, walked, for patterns of names. -/
import Derived.Test.YtlnfkpmmnennbaaHandQ
set_option linter.unusedVariables false
set_option linter.unusedSimpArgs false
namespace Go.Proofs.Ytlnfkpmmnennbaa.HandL
open Go.RowKit Go.Proofs.YtlnfkpmmnennbaaW.PrintWords Go.Proofs.YtlnfkpmmnennbaaW.PrintLast Go.Proofs.Ytlnfkpmmnennbaa.QAll Txt PureG HandG HandM HandP HandN

/-- A row of patterns of names: each says whether it includes, and its name's pattern. -/
def Pats (W : World) (A : Option Addr) (l : List (Bool × ByteArray)) : Prop :=
  ∀ i p, l[i]? = some p → ∃ ad g, A = some ad ∧ W.cell? (ad.add i) = some (.iface 52 (.pointer (some ⟨g, 0, none⟩))) ∧ Pat W g [] [p.2] p.1 false false
theorem Pats.below {W W1 : World} {A : Option Addr} {l : List (Bool × ByteArray)} (h : Pats W A l) (hb : Below W.heap.size W W1) : Pats W1 A l := by
  intro i p hi
  obtain ⟨ad, g, h1, h2, h3⟩ := h i p hi
  exact ⟨ad, g, h1, (hb.cell (World.block_lt_of_cell? W _ h2)).trans h2, h3.below hb⟩
/-- Which of the first k patterns decides, the last one first. -/
def dec (isDir : Bool) (x : List ByteArray) (l : List (Bool × ByteArray)) : Nat → Bool
  | 0 => false
  | k + 1 => match l[k]? with
    | none => dec isDir x l k
    | some p => if takes false false isDir p.2 [] x = true then !p.1 else dec isDir x l k

set_option maxHeartbeats 4000000 in
set_option maxRecDepth 100000 in
theorem mmatch (gm : Nat) (A : Option Addr) (c : Nat) (pats : List (Bool × ByteArray)) (isDir : Bool) (A2 : Option Addr) (c2 : Nat) (e0 : ByteArray) (l : List ByteArray) (w : World)
    (hm : w.heap[gm]? = some (.cells #[.slice A pats.length c] 55 (0, 0))) (hP : Pats w A pats) (hlen : pats.length ≤ 1000)
    (hC : Kd.C Kd.string w A2 (e0 :: l).length (e0 :: l)) (hc : (e0 :: l).length ≤ c2) (hl : (e0 :: l).length ≤ 1000) (hp : ∀ p ∈ pats, GoodP p.2 ∧ (stars2 p.2).isSome = true) (hq : ∀ q ∈ e0 :: l, GoodN q) :
    Calls Try.prog 54 #[.pointer (some ⟨gm, 0, none⟩), .slice A2 (e0 :: l).length c2, .bool isDir] w fun e w' => e = .returned (.bool (dec isDir (e0 :: l) pats pats.length)) ∧ Below w.heap.size w w' := by
  have HM := Aside0.mk hm
  have HP := Aside0.mk hP
  have hme := fun g W => method52 201 g W
  have TP : Aside0 (∀ (i : Nat) (p : Bool × ByteArray), pats[i]? = some p → ∀ (g : Nat) (w' : World), Below w.heap.size w w' → Pat w' g [] [p.2] p.1 false false → Calls Try.prog 44 #[.pointer (some ⟨g, 0, none⟩), .slice A2 (l.length + 1) c2, .bool isDir] w' fun e' w'' => e' = .returned (.int .i64 (mres p.1 false false isDir p.2 [] (e0 :: l))) ∧ Below w'.heap.size w' w'') :=
    ⟨fun i p hi g w' hb hP => takesP g p.2 [] p.1 false false isDir A2 c2 e0 l w' hP (Kd.C_below hC hb) hc hl (by simp) (fun q hqm => by (have hqe : q = p.2 := by simpa using hqm); subst hqe; exact hp p (List.mem_of_getElem? hi)) hq⟩
  have f1 : w.cell? ⟨gm, 0, none⟩ = some (.slice A pats.length c) := by rw [blk_cell hm]; rfl
  have HF : Aside0 (∀ w', Below w.heap.size w w' → w'.cell? ⟨gm, 0, none⟩ = some (.slice A pats.length c)) := ⟨fun w' hb => (hb.cell (World.block_lt_of_cell? w _ f1)).trans f1⟩
  clear hm hP hC hc hl hp hq
  go_enter Try.func54, Try.ntmps54
  go_wp2
  go_loopg [8] pats.length (fun gk v8 w' => ∃ k : Nat, k = gk ∧ v8 = .int .i64 ((k : Int) - 1) ∧ Aside0 (k ≤ pats.length) ∧ Aside0 (Below w.heap.size w w') ∧ Aside0 (dec isDir (e0 :: l) pats pats.length = dec isDir (e0 :: l) pats k))
  case atStart =>
    exact ⟨pats.length, rfl, rfl, ⟨Nat.le_refl _⟩, ⟨Below.refl _ _⟩, ⟨rfl⟩⟩
  case round =>
    obtain ⟨k, rfl, rfl, hk, hb, hd⟩ := hrel
    cases k with
    | zero =>
      go_wp2
      go_ret
      exact ⟨by rw [hd.out]; rfl, hb.out⟩
    | succ k =>
      have hlt : k < pats.length := by have := hk.out; omega
      obtain ⟨p, hp⟩ : ∃ p, pats[k]? = some p := ⟨_, List.getElem?_eq_getElem hlt⟩
      obtain ⟨ad, g, hA, hx, hPat⟩ := HP.out.below hb.out k p hp
      have hfw := HF.out _ hb.out
      have hcall := TP.out k p hp g _ hb.out hPat
      have hdk : dec isDir (e0 :: l) pats (k + 1) = (if takes false false isDir p.2 [] (e0 :: l) = true then !p.1 else dec isDir (e0 :: l) pats k) := by rw [dec, hp]
      have hmr : mres p.1 false false isDir p.2 [] (e0 :: l) = (if takes false false isDir p.2 [] (e0 :: l) = true then (if p.1 = true then 2 else 1) else 0) := rfl
      rw [hmr] at hcall
      have hd2 := hd.out
      rw [hdk] at hd2
      rw [hA] at hfw
      have e1 : (((k + 1 : Nat)) : Int) - 1 = (k : Int) := by omega
      rw [e1]
      have hk2 : ((k : Int) < (pats.length : Int)) = True := eq_true (by omega)
      clear hPat hdk hmr hp e1 HF TP HP hA
      generalize takes false false isDir p.2 [] (e0 :: l) = t at hcall hd2
      generalize p.1 = inc at hcall hd2
      cases t with
      | false =>
        rw [if_neg (by decide)] at hcall hd2
        have HC := Aside0.mk hcall
        have HD := Aside0.mk hd2
        clear hcall hd2
        go_wp2_with (first | (go_at_call 44; (with_reducible refine HC.out.mono ?_); rintro e w' ⟨rfl, hb1⟩; have HB1 := Aside0.mk hb1; clear hb1))
        go_roundg k
        case measure => omega
        case rel => exact ⟨k, rfl, rfl, ⟨by have := hk.out; omega⟩, ⟨hb.out.trans (HB1.out.mono hb.out.size)⟩, HD⟩
      | true =>
        rw [if_pos rfl] at hcall hd2
        cases inc with
        | true =>
          rw [if_pos rfl] at hcall
          have HC := Aside0.mk hcall
          have HD := Aside0.mk hd2
          clear hcall hd2
          go_wp2_with (first | (go_at_call 44; (with_reducible refine HC.out.mono ?_); rintro e w' ⟨rfl, hb1⟩; have HB1 := Aside0.mk hb1; clear hb1))
          go_ret
          exact ⟨by rw [HD.out]; rfl, hb.out.trans (HB1.out.mono hb.out.size)⟩
        | false =>
          rw [if_neg (by decide)] at hcall
          have HC := Aside0.mk hcall
          have HD := Aside0.mk hd2
          clear hcall hd2
          go_wp2_with (first | (go_at_call 44; (with_reducible refine HC.out.mono ?_); rintro e w' ⟨rfl, hb1⟩; have HB1 := Aside0.mk hb1; clear hb1))
          go_ret
          exact ⟨by rw [HD.out]; rfl, hb.out.trans (HB1.out.mono hb.out.size)⟩
end Go.Proofs.Ytlnfkpmmnennbaa.HandL
