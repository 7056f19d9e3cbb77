/- What MatchPattern says, where this is proved (no domain; letters, digits, points, stars, question marks and slashes), and its contract. Written by hand. -/
import Derived.Test.YtlnfkpmmnennbaaHandQ
set_option linter.unusedVariables false
set_option linter.unusedSimpArgs false
namespace Go.Proofs.Ytlnfkpmmnennbaa.QAll
open Go.RowKit Go.Proofs.YtlnfkpmmnennbaaW.PrintWords Txt PureG HandG HandM HandP HandQ

/-- What ParsePattern makes of a text. -/
def Parsed (a0 : ByteArray) (inc dir gl : Bool) (ps : List ByteArray) : Prop :=
  ∃ p1 p3, strings_HasPrefix.f a0 ⟨#[33]⟩ = some inc ∧ p1 = (if inc = true then a0.extract 1 a0.size else a0) ∧
    strings_HasSuffix.f p1 ⟨#[92, 32]⟩ = some false ∧ gitignore_zzTrimRight.f 100000 p1 ⟨#[32]⟩ = some p1 ∧
    strings_HasSuffix.f p1 ⟨#[47]⟩ = some dir ∧ p3 = (if dir = true then p1.extract 0 (p1.size - 1) else p1) ∧ a0.size ≤ 100000 ∧ (inc = true → 1 ≤ (a0.size : Int)) ∧ (dir = true → 1 ≤ (p1.size : Int)) ∧
    gitignore_zzContains.f 100000 p3 ⟨#[47]⟩ = some gl ∧ gitignore_zzSplit.f 100000 p3 ⟨#[47]⟩ = some ps
theorem Parsed.one {a0 : ByteArray} {inc dir gl inc' dir' gl' : Bool} {ps ps' : List ByteArray} (h : Parsed a0 inc dir gl ps) (h' : Parsed a0 inc' dir' gl' ps') : inc = inc' ∧ dir = dir' ∧ gl = gl' ∧ ps = ps' := by
  obtain ⟨p1, p3, h1, h2, _, _, h5, h6, _, _, _, h8, h9⟩ := h
  obtain ⟨q1, q3, k1, k2, _, _, k5, k6, _, _, _, k8, k9⟩ := h'
  rw [h1] at k1
  cases k1
  rw [← h2] at k2
  subst k2
  rw [h5] at k5
  cases k5
  rw [← h6] at k6
  subst k6
  rw [h8] at k8
  cases k8
  rw [h9] at k9
  cases k9
  exact ⟨rfl, rfl, rfl, rfl⟩
def Says (a0 : ByteArray) (l1 l2 : List ByteArray) (a3 : Bool) (r : Int) : Prop :=
  l1 = [] ∧ ∃ e l inc dir gl p ps, l2 = e :: l ∧ l2.length ≤ 1000 ∧ (∀ q ∈ l2, GoodN q) ∧ (p :: ps).length ≤ 100000 ∧ (∀ q ∈ p :: ps, GoodP q ∧ (stars2 q).isSome = true) ∧ Parsed a0 inc dir gl (p :: ps) ∧ r = mres inc gl dir a3 p ps l2
theorem Says.one {a0 : ByteArray} {l1 l2 : List ByteArray} {a3 : Bool} {r r' : Int} (h : Says a0 l1 l2 a3 r) (h' : Says a0 l1 l2 a3 r') : r = r' := by
  obtain ⟨_, e, l, inc, dir, gl, p, ps, _, _, _, _, _, h1, rfl⟩ := h
  obtain ⟨_, e', l', inc', dir', gl', p', ps', _, _, _, _, _, h1', rfl⟩ := h'
  obtain ⟨rfl, rfl, rfl, h⟩ := h1.one h1'
  cases h
  rfl
open Classical in
noncomputable def impl_MatchPattern.f (a0 : ByteArray) (l1 l2 : List ByteArray) (a3 : Bool) : Option Int := if h : ∃ r, Says a0 l1 l2 a3 r then some h.choose else none
theorem impl_MatchPattern.f_of {a0 : ByteArray} {l1 l2 : List ByteArray} {a3 : Bool} {r : Int} (h : Says a0 l1 l2 a3 r) : impl_MatchPattern.f a0 l1 l2 a3 = some r := by
  unfold impl_MatchPattern.f
  have hx : ∃ r, Says a0 l1 l2 a3 r := ⟨r, h⟩
  rw [dif_pos hx, hx.choose_spec.one h]
theorem impl_MatchPattern.calls (a0 : ByteArray) (A1 : Option Addr) (c1 : Nat) (l1 : List ByteArray) (A2 : Option Addr) (c2 : Nat) (l2 : List ByteArray) (a3 : Bool) (r : Int) (w : World) (hr1 : Kd.C Kd.string w A1 l1.length l1) (hc1 : l1.length ≤ c1) (hr2 : Kd.C Kd.string w A2 l2.length l2) (hc2 : l2.length ≤ c2) (h : impl_MatchPattern.f a0 l1 l2 a3 = some r) :
    Calls Try.prog 15 #[.string a0, .slice A1 l1.length c1, .slice A2 l2.length c2, .bool a3] w fun e w' => e = .returned (.int .i64 r) ∧ Below w.heap.size w w' := by
  unfold impl_MatchPattern.f at h
  split at h
  · rename_i hx
    injection h with h
    have hs := hx.choose_spec
    rw [h] at hs
    obtain ⟨rfl, e, l, inc, dir, gl, p, ps, rfl, k1, k2, k3, k4, ⟨p1, p3, g1, g2, g3, g4, g5, g6, g7, g8, g9, g10, g11⟩, rfl⟩ := hs
    exact matchP 0 a0 p1 p3 inc dir gl a3 p ps A1 A2 c1 c2 e l w (fun A c w => parse 100000 a0 p1 p3 inc dir gl (p :: ps) A c w g1 g2 g3 g4 g5 g6 g7 g8 g9 g10 g11) hr2 hc2 k1 k3 k4 k2
  · cases h
def impl_Ignored.f (l0 : List ByteArray) (l1 : List (List ByteArray)) (l2 : List ByteArray) (a3 : Bool) : Option Bool := none
end Go.Proofs.Ytlnfkpmmnennbaa.QAll
