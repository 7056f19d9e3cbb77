/- The functions that FnObjKindUnknown reaches, each with its answer; the sentinel's cell is given. -/
import Derived.Test.YtjhpmmpinkahaaaDoorProg
import Derived.WalkKit
import Derived.Below
import Derived.Outline
import Derived.KernelRfl
import Derived.WalkLawsBesides
import Derived.Deep.LoopGhost
import Derived.Lib.Hide
import Derived.Deep.QuietTactic
import Derived.BigQuiet
import Derived.Deep.Draws
namespace Go.Proofs.YtjhpmmpinkahaaaDoor.WalksK
open Go.RowKit

/-- The world is the old one, some orders having been drawn. -/
structure Dr (w w' : World) : Prop where mk :: (out : ∃ n, w' = w.drewN n)
theorem Dr.refl (w : World) : Dr w w := ⟨⟨0, rfl⟩⟩
theorem Dr.step {w w' : World} (h : Dr w w') (n : Nat) : Dr w (w'.drewN n) := by
  obtain ⟨m, rfl⟩ := h
  exact ⟨⟨m + n, World.drewN_drewN ..⟩⟩
theorem Dr.below {w w' : World} (h : Dr w w') : Below w.heap.size w w' := by
  obtain ⟨n, rfl⟩ := h
  induction n with
  | zero => exact Below.refl _ _
  | succ n ih => rw [← World.drew_drewN]; exact ih.drew

def sBlob : ByteArray := ⟨#[98, 108, 111, 98]⟩
/-- The text is none of the six names. -/
structure Unknown (s : ByteArray) : Prop where
  h1 : (s.toList == [99, 111, 109, 109, 105, 116]) = false
  h2 : (s.toList == [116, 114, 101, 101]) = false
  h3 : (s.toList == [98, 108, 111, 98]) = false
  h4 : (s.toList == [116, 97, 103]) = false
  h5 : (s.toList == [111, 102, 115, 45, 100, 101, 108, 116, 97]) = false
  h6 : (s.toList == [114, 101, 102, 45, 100, 101, 108, 116, 97]) = false

set_option maxHeartbeats 400000 in
theorem parse_unknown (s : ByteArray) (w : World) (a : Addr) (hc : w.cell? ⟨0, 0, none⟩ = some (.iface 31 (.pointer (some a)))) (hu : Unknown s) :
    Calls Tryd.prog 5 #[.string s] w fun e w' => e = .returned (.tuple #[.int .i8 0, .iface 31 (.pointer (some a))]) ∧ w = w' := by
  obtain ⟨h1, h2, h3, h4, h5, h6⟩ := hu
  go_enter Tryd.func5, Tryd.ntmps5
  go_wp2
  go_ret2
  exact ⟨rfl, rfl⟩

set_option maxHeartbeats 400000 in
theorem parse_blob (w : World)  :
    Calls Tryd.prog 5 #[.string ⟨#[98, 108, 111, 98]⟩] w fun e w' => e = .returned (.tuple #[.int .i8 3, .nilIface]) ∧ w = w' := by
  go_enter Tryd.func5, Tryd.ntmps5
  go_wp2
  go_ret2
  exact ⟨rfl, rfl⟩

theorem type_unknown (s : ByteArray) (w : World) (a : Addr) (hc : w.cell? ⟨0, 0, none⟩ = some (.iface 31 (.pointer (some a)))) (hu : Unknown s) :
    Calls Tryd.prog 4 #[.string s] w fun e w' => e = .returned (.tuple #[.int .i64 0, .bool false]) ∧ Dr w w' := by
  go_enter Tryd.func4, Tryd.ntmps4
  go_wp2_with ((go_at_call 5; with_reducible refine (parse_unknown _ _ a (by assumption) (by assumption)).mono ?_); rintro e w' ⟨rfl, rfl⟩)
  go_quiet (fail)
  go_wp2
  go_ret2
  exact ⟨rfl, by repeat (first | exact Dr.refl _ | apply Dr.step)⟩
theorem type_blob (w : World) :
    Calls Tryd.prog 4 #[.string ⟨#[98, 108, 111, 98]⟩] w fun e w' => e = .returned (.tuple #[.int .i64 3, .bool true]) ∧ Dr w w' := by
  go_enter Tryd.func4, Tryd.ntmps4
  go_wp2_with ((go_at_call 5; with_reducible refine (parse_blob _).mono ?_); rintro e w' ⟨rfl, rfl⟩)
  go_quiet (fail)
  go_wp2
  go_ret2
  exact ⟨rfl, by repeat (first | exact Dr.refl _ | apply Dr.step)⟩

set_option maxHeartbeats 1000000 in
theorem law (s : ByteArray) (w : World) (a : Addr) (hc : w.cell? ⟨0, 0, none⟩ = some (.iface 31 (.pointer (some a)))) :
    Calls Tryd.prog 3 #[.string s] w fun e w' => e = .returned (.bool true) ∧ Below w.heap.size w w' := by
  by_cases h1 : (s.toList == [99, 111, 109, 109, 105, 116]) = true
  · go_enter Tryd.func3, Tryd.ntmps3
    go_wp2
    all_goals (go_ret; exact ⟨rfl, Below.refl _ _⟩)
  by_cases h2 : (s.toList == [116, 114, 101, 101]) = true
  · go_enter Tryd.func3, Tryd.ntmps3
    go_wp2
    all_goals (go_ret; exact ⟨rfl, Below.refl _ _⟩)
  by_cases h3 : (s.toList == [98, 108, 111, 98]) = true
  · go_enter Tryd.func3, Tryd.ntmps3
    go_wp2
    all_goals (go_ret; exact ⟨rfl, Below.refl _ _⟩)
  by_cases h4 : (s.toList == [116, 97, 103]) = true
  · go_enter Tryd.func3, Tryd.ntmps3
    go_wp2
    all_goals (go_ret; exact ⟨rfl, Below.refl _ _⟩)
  by_cases h5 : (s.toList == [111, 102, 115, 45, 100, 101, 108, 116, 97]) = true
  · go_enter Tryd.func3, Tryd.ntmps3
    go_wp2
    all_goals (go_ret; exact ⟨rfl, Below.refl _ _⟩)
  by_cases h6 : (s.toList == [114, 101, 102, 45, 100, 101, 108, 116, 97]) = true
  · go_enter Tryd.func3, Tryd.ntmps3
    go_wp2
    all_goals (go_ret; exact ⟨rfl, Below.refl _ _⟩)
  rw [Bool.not_eq_true] at h1 h2 h3 h4 h5 h6
  have hu : Unknown s := ⟨h1, h2, h3, h4, h5, h6⟩
  go_enter Tryd.func3, Tryd.ntmps3
  go_wp2_with (first
    | ((go_at_call 4; with_reducible refine (type_blob _).mono ?_); rintro e w' ⟨rfl, ⟨n, rfl⟩⟩)
    | ((go_at_call 4; with_reducible refine (type_unknown _ _ a (by assumption) (by assumption)).mono ?_); rintro e w' ⟨rfl, ⟨n, rfl⟩⟩))
  all_goals (go_ret; exact ⟨rfl, Dr.below (by repeat (first | exact Dr.refl _ | apply Dr.step))⟩)

end Go.Proofs.YtjhpmmpinkahaaaDoor.WalksK
