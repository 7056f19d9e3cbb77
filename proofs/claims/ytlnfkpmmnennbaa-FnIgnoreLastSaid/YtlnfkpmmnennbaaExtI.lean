/- What Ignored says, where this is proved (patterns of names, no domains), and its contract. Written by hand. -/
import Derived.Test.YtlnfkpmmnennbaaHandI
import Derived.Test.YtlnfkpmmnennbaaExtM
set_option linter.unusedVariables false
set_option linter.unusedSimpArgs false
namespace Go.Proofs.Ytlnfkpmmnennbaa.QAll
open Go.RowKit Go.Proofs.YtlnfkpmmnennbaaW.PrintWords Txt PureG HandG HandM HandP HandL HandR HandI

def SaysI (l0 : List ByteArray) (l1 : List (List ByteArray)) (l2 : List ByteArray) (a3 : Bool) (r : Bool) : Prop :=
  ∃ (pats : List (Bool × ByteArray)) (e : ByteArray) (l : List ByteArray), l2 = e :: l ∧ pats.length = l0.length ∧ l1.length = l0.length ∧ l0.length ≤ 1000 ∧ (∀ d ∈ l1, d = []) ∧
    (∀ (i : Nat) (t : ByteArray) (p : Bool × ByteArray), l0[i]? = some t → pats[i]? = some p → Parsed t p.1 false false [p.2]) ∧ l2.length ≤ 1000 ∧ (∀ p ∈ pats, GoodP p.2 ∧ (stars2 p.2).isSome = true) ∧ (∀ q ∈ l2, GoodN q) ∧ r = dec a3 l2 pats pats.length
theorem SaysI.one {l0 : List ByteArray} {l1 : List (List ByteArray)} {l2 : List ByteArray} {a3 r r' : Bool} (h : SaysI l0 l1 l2 a3 r) (h' : SaysI l0 l1 l2 a3 r') : r = r' := by
  obtain ⟨pats, e, l, _, hn, _, _, _, hp, _, _, _, rfl⟩ := h
  obtain ⟨pats', e', l', _, hn', _, _, _, hp', _, _, _, rfl⟩ := h'
  have : pats = pats' := by
    apply List.ext_getElem?
    intro i
    by_cases hi : i < l0.length
    · have a1 := List.getElem?_eq_getElem hi
      have a2 := List.getElem?_eq_getElem (show i < pats.length by omega)
      have a3 := List.getElem?_eq_getElem (show i < pats'.length by omega)
      obtain ⟨h1, _, _, h4⟩ := (hp i _ _ a1 a2).one (hp' i _ _ a1 a3)
      rw [a2, a3]
      congr 1
      exact Prod.ext h1 (by simpa using h4)
    · rw [List.getElem?_eq_none (by omega), List.getElem?_eq_none (by omega)]
  rw [this]
open Classical in
noncomputable def impl_IgnoredW.f (l0 : List ByteArray) (l1 : List (List ByteArray)) (l2 : List ByteArray) (a3 : Bool) : Option Bool := if h : ∃ r, SaysI l0 l1 l2 a3 r then some h.choose else none
theorem impl_IgnoredW.f_of {l0 : List ByteArray} {l1 : List (List ByteArray)} {l2 : List ByteArray} {a3 r : Bool} (h : SaysI l0 l1 l2 a3 r) : impl_IgnoredW.f l0 l1 l2 a3 = some r := by
  unfold impl_IgnoredW.f
  have hx : ∃ r, SaysI l0 l1 l2 a3 r := ⟨r, h⟩
  rw [dif_pos hx, hx.choose_spec.one h]
theorem impl_IgnoredW.calls (A0 : Option Addr) (c0 : Nat) (l0 : List ByteArray) (A1 : Option Addr) (c1 : Nat) (l1 : List (List ByteArray)) (A2 : Option Addr) (c2 : Nat) (l2 : List ByteArray) (a3 : Bool) (r : Bool) (w : World)
    (hr0 : Kd.C Kd.string w A0 l0.length l0) (hc0 : l0.length ≤ c0) (hr1 : Kd.C (Kd.slice 9 Kd.string) w A1 l1.length l1) (hc1 : l1.length ≤ c1) (hr2 : Kd.C Kd.string w A2 l2.length l2) (hc2 : l2.length ≤ c2) (h : impl_IgnoredW.f l0 l1 l2 a3 = some r) :
    Calls Try.prog 16 #[.slice A0 l0.length c0, .slice A1 l1.length c1, .slice A2 l2.length c2, .bool a3] w fun e w' => e = .returned (.bool r) ∧ Below w.heap.size w w' := by
  unfold impl_IgnoredW.f at h
  split at h
  · rename_i hx
    injection h with h
    have hs := hx.choose_spec
    rw [h] at hs
    obtain ⟨pats, e, l, rfl, k1, k2, k3, k4, k5, k6, k7, k8, rfl⟩ := hs
    refine ignored l0 pats l1 a3 A0 A1 A2 c0 c1 c2 e l w k1 k2 k3 k4 (fun i t p ht hp A c w => ?_) hr0 hc0 hr1 hc1 hr2 hc2 k6 k7 k8
    obtain ⟨p1, p3, g1, g2, g3, g4, g5, g6, g7, g8, g9, g10, g11⟩ := k5 i t p ht hp
    exact parse2 100000 t p1 p3 p.1 false false [p.2] A c w g1 g2 g3 g4 g5 g6 g7 g8 g9 g10 g11
  · cases h
end Go.Proofs.Ytlnfkpmmnennbaa.QAll
