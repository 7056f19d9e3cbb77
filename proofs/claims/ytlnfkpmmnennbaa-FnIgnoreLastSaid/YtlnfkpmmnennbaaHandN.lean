/- The method Match behind an interface value: closed facts. -/
import Derived.Test.YtlnfkpmmnennbaaHandP
set_option linter.unusedVariables false
set_option linter.unusedSimpArgs false
namespace Go.Proofs.Ytlnfkpmmnennbaa.HandN
open Go.RowKit Go.Proofs.YtlnfkpmmnennbaaW.PrintWords

theorem found52 : (Try.prog.info? 52).map (fun i => (i.methods.find? (fun m => m.name == "Match")).map (fun m => (m.path, m.func))) = some (some (#[], some (44, true))) := by kernel_rfl

theorem info52 : ∃ i m, Try.prog.info? 52 = some i ∧ i.methods.find? (fun m => m.name == "Match") = some m ∧ m.path = #[] ∧ m.func = some (44, true) := by
  have h := found52
  obtain ⟨i, hi, h1⟩ := Option.map_eq_some_iff.1 h
  obtain ⟨m, hm, h2⟩ := Option.map_eq_some_iff.1 h1
  simp only [Prod.mk.injEq] at h2
  exact ⟨i, m, hi, hm, h2.1, h2.2⟩

theorem nilAhead52 (n g : Nat) (W : World) : (nilAhead (n + 1) 52 (.pointer (some ⟨g, 0, none⟩)) "Match").run Try.prog W = .ok (some false) W := by
  obtain ⟨i, m, h1, h2, h3, h4⟩ := info52
  unfold nilAhead
  simp [typeInfo, h1, h2, h3, h4, followBlind]

theorem method52 (n g : Nat) (W : World) : (method (n + 1) 52 (.pointer (some ⟨g, 0, none⟩)) "Match").run Try.prog W = .ok (44, .pointer (some ⟨g, 0, none⟩)) W := by
  obtain ⟨i, m, h1, h2, h3, h4⟩ := info52
  unfold method
  simp [typeInfo, h1, h2, h3, h4, follow, receiverAt, Place.get, Try.underlying52]
end Go.Proofs.Ytlnfkpmmnennbaa.HandN
