/- The contracts of the laws' helpers, as the laws' walks take them. -/
import Derived.Test.YtlboochpbplhlaaDoorHandG
import Derived.Test.YtlboochpbplhlaaDoorPureF
set_option linter.unusedVariables false
set_option linter.unusedSimpArgs false
namespace Go.Proofs.YtlboochpbplhlaaDoor.HandH
open Go.RowKit Go.Proofs.YtlboochpbplhlaaDoorW.PrintWords Go.Proofs.YtlboochpbplhlaaDoor.QAll PureD HandA HandB HandC HandD HandE HandF HandG PureE PureF
open Go.Proofs.YtlboochpbplhlaaDoorW.PrintLast Go.Proofs.YtlboochpbplhlaaDoorW.PrintMore

theorem wf_u8 {x : Int} (h : (Lit.int .u8 x).wf = true) : 0 ≤ x ∧ x ≤ 255 := by
  have h2 : (decide (IntKind.u8.min ≤ x) && decide (x ≤ IntKind.u8.max)) = true := h
  rw [Bool.and_eq_true, decide_eq_true_iff, decide_eq_true_iff] at h2
  have e1 : IntKind.u8.min = 0 := by decide
  have e2 : IntKind.u8.max = 255 := by decide
  rw [e1, e2] at h2
  exact h2
theorem fitsC (A : Option Addr) (c : Nat) (l : List S38) (w : World) (hr : Kd.C k38 w A l.length l) (hc : l.length ≤ c) (hl : l.length ≤ 140737488351232) :
    ∃ b, ∀ W, Below w.heap.size w W → Calls Tryd.prog 8 #[.slice A l.length c] W fun e w' => e = .returned (.bool b) ∧ Below W.heap.size W w' := by
  obtain ⟨b, K, h⟩ := fits_tot l hl
  exact ⟨b, fun W hb => laws_zzFits7.calls K A c l b W (Kd.C_below hr hb) hc (h K (Nat.le_refl _))⟩
theorem goodC (A A0 : Option Addr) (c c0 : Nat) (l : List S38) (l0 : List Int) (w : World) (hr : Kd.C k38 w A l.length l) (hc : l.length ≤ c) (hl : l.length ≤ 140737488351232) (hr0 : Kd.C (Kd.int .u8) w A0 l0.length l0) (hc0 : l0.length ≤ c0) (hl0 : l0.length ≤ 140737488351232) :
    ∃ b, (b = true → (∀ s ∈ l, GoodS s l0.length) ∧ 1 ≤ l.length ∧ l.length ≤ 500 ∧ l0.length ≤ 1000000) ∧
      ∀ W, Below w.heap.size w W → Calls Tryd.prog 9 #[.slice A l.length c, .slice A0 l0.length c0] W fun e w' => e = .returned (.bool b) ∧ Below W.heap.size W w' := by
  obtain ⟨b, ⟨K, h⟩, hg⟩ := good_tot l l0 hl hl0
  exact ⟨b, hg, fun W hb => spec_GoodSteps.calls K A c l A0 c0 l0 b W (Kd.C_below hr hb) hc (Kd.C_below hr0 hb) hc0 (h K (Nat.le_refl _))⟩
theorem madeC (A A0 : Option Addr) (c c0 : Nat) (l : List S38) (l0 : List Int) (W : World) (hr : Kd.C k38 W A l.length l) (hc : l.length ≤ c) (hr0 : Kd.C (Kd.int .u8) W A0 l0.length l0) (hc0 : l0.length ≤ c0)
    (hg : (∀ s ∈ l, GoodS s l0.length) ∧ 1 ≤ l.length ∧ l.length ≤ 500 ∧ l0.length ≤ 1000000) :
    Calls Tryd.prog 14 #[.slice A0 l0.length c0, .slice A l.length c] W fun e w' => ∃ v, e = .returned v ∧ Kd.R (Kd.int .u8) 5 w' W.heap.size (fun _ => True) v (made l0 (l.map insOf)) ∧ Below W.heap.size W w' := by
  obtain ⟨K, h⟩ := made_ok l0 l hg.2.2.2 (by have := hg.2.2.1; omega) hg.1
  exact spec_Made.calls K A0 c0 l0 A c l _ W hr0 hc0 hr hc (h K (Nat.le_refl _))
theorem deltaC (A A0 : Option Addr) (c c0 : Nat) (l : List S38) (l0 : List Int) (W : World) (hr : Kd.C k38 W A l.length l) (hc : l.length ≤ c) (hr0 : Kd.C (Kd.int .u8) W A0 l0.length l0) (hc0 : l0.length ≤ c0)
    (bs : List Int) (h : Ev (fun k => spec_Delta.f k l0 l) (enc7 l0.length ++ (enc7 (made l0 (l.map insOf)).length ++ bs))) :
    Calls Tryd.prog 12 #[.slice A0 l0.length c0, .slice A l.length c] W fun e w' => ∃ v, e = .returned v ∧ Kd.R (Kd.int .u8) 5 w' W.heap.size (fun _ => True) v (enc7 l0.length ++ (enc7 (made l0 (l.map insOf)).length ++ bs)) ∧ Below W.heap.size W w' := by
  obtain ⟨K, h⟩ := h
  exact spec_Delta.calls K A0 c0 l0 A c l _ W hr0 hc0 hr hc (h K (Nat.le_refl _))
theorem sameC (A A0 : Option Addr) (c c0 : Nat) (l : List Int) (W : World) (hr : Kd.C (Kd.int .u8) W A l.length l) (hc : l.length ≤ c) (hr0 : Kd.C (Kd.int .u8) W A0 l.length l) (hc0 : l.length ≤ c0) :
    Calls Tryd.prog 13 #[.slice A l.length c, .slice A0 l.length c0] W fun e w' => e = .returned (.bool true) ∧ Below W.heap.size W w' :=
  (laws_deltaSame.calls A c l A0 c0 l true W hr hc hr0 hc0 (by unfold laws_deltaSame.f; simp)).mono fun e w' h => ⟨h.1, h.2.below⟩
theorem map_ne {l : List S38} (h : 1 ≤ l.length) : l.map insOf ≠ [] := by
  intro e
  have := congrArg List.length e
  simp at this
  simp [this] at h
theorem delta_len (n m : Nat) (bs : List Int) (hn : n ≤ 2147483647) (hm : m ≤ 2147483647) (hb : bs.length ≤ 128000) : (enc7 n ++ (enc7 m ++ bs)).length ≤ 140737488351232 := by
  have h1 := enc7_le n 8 (by omega) (by omega)
  have h2 := enc7_le m 8 (by omega) (by omega)
  rw [List.length_append, List.length_append]
  omega
theorem delta_range (n m : Nat) (bs : List Int) (hb : ∀ x ∈ bs, 0 ≤ x ∧ x ≤ 255) : ∀ x ∈ enc7 n ++ (enc7 m ++ bs), 0 ≤ x ∧ x ≤ 255 := by
  intro x hx
  rcases List.mem_append.1 hx with hx | hx
  · exact enc7_range n x hx
  · rcases List.mem_append.1 hx with hx | hx
    · exact enc7_range m x hx
    · exact hb x hx
end Go.Proofs.YtlboochpbplhlaaDoor.HandH
