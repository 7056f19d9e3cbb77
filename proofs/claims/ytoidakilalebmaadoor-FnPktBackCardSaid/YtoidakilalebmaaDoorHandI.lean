/- bytes.NewReader, pktline.NewScanner, Scanner.Bytes, Scanner.Err, walked. -/
import Derived.Test.YtoidakilalebmaaDoorHandH
set_option linter.unusedVariables false
set_option linter.unusedSimpArgs false
namespace Go.Proofs.YtoidakilalebmaaDoor.HandI
open Go.RowKit Go.Proofs.YtoidakilalebmaaDoorW.PrintWords Go.Proofs.YtoidakilalebmaaDoorW.PrintLast Go.Proofs.YtoidakilalebmaaDoorW.PrintMore Go.Proofs.YtoidakilalebmaaDoor.QAll Txt PureA HandA HandB HandC HandD HandE HandF HandG HandH

set_option maxHeartbeats 4000000 in
set_option maxRecDepth 100000 in
theorem newReader (A : Option Addr) (n c : Nat) (w : World) : Calls Tryd.prog 15 #[.slice A n c] w fun e w' => e = .returned (.pointer (some ⟨w.heap.size, 0, none⟩)) ∧ w'.heap[w.heap.size]? = some (.cells #[.slice A n c, .int .i64 0, .int .i64 (-1)] 59 (0, 0)) ∧ Below w.heap.size w w' := by
  go_enter Tryd.func15, Tryd.ntmps15
  go_wp2
  go_ret
  exact ⟨rfl, blk_new _ _, below_alloc (Below.refl _ _) _⟩
set_option maxHeartbeats 4000000 in
set_option maxRecDepth 100000 in
theorem newScanner (rb : Nat) (w : World) : Calls Tryd.prog 14 #[.iface 45 (.pointer (some ⟨rb, 0, none⟩))] w fun e w' => e = .returned (.pointer (some ⟨w.heap.size, 0, none⟩)) ∧ w'.heap[w.heap.size]? = some (.cells (scC rb .nilIface (.slice none 0 0) [.int .u8 0, .int .u8 0, .int .u8 0, .int .u8 0]).toArray 57 (0, 0)) ∧ Below w.heap.size w w' := by
  go_enter Tryd.func14, Tryd.ntmps14
  go_wp2
  go_ret
  exact ⟨rfl, blk_new _ _, below_alloc (Below.refl _ _) _⟩
set_option maxHeartbeats 4000000 in
set_option maxRecDepth 100000 in
theorem bytesOf_ (sc : Nat) (v : Value) (w : World) (h : w.cell? ⟨sc, 2, none⟩ = some v) : Calls Tryd.prog 17 #[.pointer (some ⟨sc, 0, none⟩)] w fun e w' => e = .returned v ∧ w' = w := by
  go_enter Tryd.func17, Tryd.ntmps17
  go_wp2
  go_ret
  exact ⟨rfl, rfl⟩
set_option maxHeartbeats 4000000 in
set_option maxRecDepth 100000 in
theorem errOf (sc : Nat) (v : Value) (w : World) (h : w.cell? ⟨sc, 1, none⟩ = some v) : Calls Tryd.prog 18 #[.pointer (some ⟨sc, 0, none⟩)] w fun e w' => e = .returned v ∧ w' = w := by
  go_enter Tryd.func18, Tryd.ntmps18
  go_wp2
  go_ret
  exact ⟨rfl, rfl⟩
#print axioms newReader
#print axioms newScanner
#print axioms bytesOf_
#print axioms errOf
end Go.Proofs.YtoidakilalebmaaDoor.HandI
