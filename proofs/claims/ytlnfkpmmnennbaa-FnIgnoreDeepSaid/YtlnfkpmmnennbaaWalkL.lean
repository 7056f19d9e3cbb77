/- FnIgnoreName and FnIgnoreDeep: the walks and the plain laws joined. -/
import Derived.Test.YtlnfkpmmnennbaaPureL
set_option linter.unusedVariables false
namespace Go.Proofs.Ytlnfkpmmnennbaa.WalkL
open Go.RowKit Go.Proofs.YtlnfkpmmnennbaaW.PrintWords Go.Proofs.Ytlnfkpmmnennbaa.QAll PureL
theorem name (a0 : ByteArray) (a1 : Bool) (A2 : Option Addr) (c2 : Nat) (l2 : List ByteArray) (a3 : Bool) (w : World) (hr2 : Kd.C Kd.string w A2 l2.length l2) (hc2 : l2.length ≤ c2)
    (h0 : a0.size ≤ 140737488351232) (hl : l2.length ≤ 140737488351232) (hs : ∀ q ∈ l2, q.size ≤ 140737488351232) :
    Calls Try.prog 4 #[.string a0, .bool a1, .slice A2 l2.length c2, .bool a3] w fun e w' => e = .returned (.bool true) ∧ Below w.heap.size w w' := by
  obtain ⟨k, hk⟩ := PureL.name_law a0 a1 l2 a3 h0 hl hs
  exact laws_FnIgnoreName.calls k a0 a1 A2 c2 l2 a3 true w hr2 hc2 hk
theorem deep (a0 : ByteArray) (A1 : Option Addr) (c1 : Nat) (l1 : List ByteArray) (a2 : Bool) (w : World) (hr1 : Kd.C Kd.string w A1 l1.length l1) (hc1 : l1.length ≤ c1)
    (h0 : a0.size ≤ 140737488351232) (hl : l1.length ≤ 140737488351232) (hs : ∀ q ∈ l1, q.size ≤ 140737488351232) :
    Calls Try.prog 3 #[.string a0, .slice A1 l1.length c1, .bool a2] w fun e w' => e = .returned (.bool true) ∧ Below w.heap.size w w' := by
  obtain ⟨k, hk⟩ := PureL.deep_law a0 l1 a2 h0 hl hs
  exact laws_FnIgnoreDeep.calls k a0 A1 c1 l1 a2 true w hr1 hc1 hk
end Go.Proofs.Ytlnfkpmmnennbaa.WalkL
