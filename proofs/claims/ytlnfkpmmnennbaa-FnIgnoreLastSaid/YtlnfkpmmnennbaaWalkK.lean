/- FnIgnoreLast: the walk and the plain law joined. -/
import Derived.Test.YtlnfkpmmnennbaaPureK
set_option linter.unusedVariables false
namespace Go.Proofs.Ytlnfkpmmnennbaa.WalkK
open Go.RowKit Go.Proofs.YtlnfkpmmnennbaaW.PrintWords Go.Proofs.Ytlnfkpmmnennbaa.QAll PureK
theorem last (A0 : Option Addr) (c0 : Nat) (l0 : List ByteArray) (A1 : Option Addr) (c1 : Nat) (l1 : List Bool) (A2 : Option Addr) (c2 : Nat) (l2 : List ByteArray) (a3 : Bool) (w : World) (hr0 : Kd.C Kd.string w A0 l0.length l0) (hc0 : l0.length ≤ c0) (hr1 : Kd.C Kd.bool w A1 l1.length l1) (hc1 : l1.length ≤ c1) (hr2 : Kd.C Kd.string w A2 l2.length l2) (hc2 : l2.length ≤ c2)
    (hl0 : l0.length ≤ 140737488351232) (hs0 : ∀ q ∈ l0, q.size ≤ 140737488351232) (hl : l2.length ≤ 140737488351232) (hs : ∀ q ∈ l2, q.size ≤ 140737488351232) :
    Calls Try.prog 6 #[.slice A0 l0.length c0, .slice A1 l1.length c1, .slice A2 l2.length c2, .bool a3] w fun e w' => e = .returned (.bool true) ∧ Below w.heap.size w w' := by
  obtain ⟨k, hk⟩ := PureK.last_law l0 l1 l2 a3 hl0 hs0 hl hs
  exact laws_FnIgnoreLast.calls k A0 c0 l0 A1 c1 l1 A2 c2 l2 a3 true w hr0 hc0 hr1 hc1 hr2 hc2 hk
end Go.Proofs.Ytlnfkpmmnennbaa.WalkK
