/- The functions that FnRefNames reaches, each with its answer; no condition but the sizes of texts. -/
import Derived.Test.YtjhpmmpinkahaaaProg
import Derived.WalkKit
import Derived.Below
import Derived.Outline
import Derived.KernelRfl
import Derived.WalkLawsBesides
import Derived.Deep.LoopGhost
import Derived.Lib.Hide
namespace Go.Proofs.Ytjhpmmpinkahaaa.WalksA
open Go.RowKit

def SomeBool (w : World) (e : Ending) (w' : World) : Prop := ∃ b, e = .returned (.bool b) ∧ w = w'
theorem SomeBool.mk {w : World} {v : Value} (b : Bool) (h : v = .bool b) : SomeBool w (.returned v) w := ⟨b, by rw [h], rfl⟩

set_option maxHeartbeats 400000 in
theorem small_any (s : ByteArray) (w : World) (hs : s.size ≤ 140737488351232) :
    Calls Try.prog 6 #[.string s] w (SomeBool w) := by
  go_enter Try.func6, Try.ntmps6
  go_wp2
  go_loop [7] (fun i => ∃ k : Nat, k ≤ s.size ∧ i = .int .i64 k) (fun i => s.size - (intOf i).toNat)
  case atStart => exact ⟨0, Nat.zero_le _, rfl⟩
  case round =>
    obtain ⟨k, hk, rfl⟩ := hrel
    by_cases hlt : k < s.size
    · go_wp2
      all_goals first
        | (go_ret; exact SomeBool.mk _ rfl)
        | (go_round
           case rel => exact ⟨k + 1, by omega, by go_num⟩
           case measure => simp [intOf]; omega)
    · go_wp2
      go_ret
      exact SomeBool.mk _ rfl

def pHeads : ByteArray := ⟨#[114, 101, 102, 115, 47, 104, 101, 97, 100, 115, 47]⟩
def pNotes : ByteArray := ⟨#[114, 101, 102, 115, 47, 110, 111, 116, 101, 115, 47]⟩
def pRemotes : ByteArray := ⟨#[114, 101, 102, 115, 47, 114, 101, 109, 111, 116, 101, 115, 47]⟩
def pTags : ByteArray := ⟨#[114, 101, 102, 115, 47, 116, 97, 103, 115, 47]⟩
def pSlash : ByteArray := ⟨#[47]⟩
theorem size_remotes (r : ByteArray) : (({ data := #[114, 101, 102, 115, 47, 114, 101, 109, 111, 116, 101, 115, 47] } : ByteArray) ++ r).size = 13 + r.size := by
  rw [ByteArray.size_append]; rfl
theorem size_slash (a : ByteArray) : (a ++ ({ data := #[47] } : ByteArray)).size = a.size + 1 := by
  rw [ByteArray.size_append]; rfl

theorem branch_any (s : ByteArray) (w : World) (hs : s.size ≤ 140737488351232) :
    Calls Try.prog 13 #[.string s] w (fun e w' => e = .returned (.string (pHeads ++ s)) ∧ w = w') := by
  go_enter Try.func13, Try.ntmps13
  go_wp2
  go_ret
  exact ⟨rfl, rfl⟩
theorem note_any (s : ByteArray) (w : World) (hs : s.size ≤ 140737488351232) :
    Calls Try.prog 14 #[.string s] w (fun e w' => e = .returned (.string (pNotes ++ s)) ∧ w = w') := by
  go_enter Try.func14, Try.ntmps14
  go_wp2
  go_ret
  exact ⟨rfl, rfl⟩
theorem remote_any (r s : ByteArray) (w : World) (hr : r.size ≤ 140737488351232) (hs : s.size ≤ 140737488351232) :
    Calls Try.prog 15 #[.string r, .string s] w (fun e w' => e = .returned (.string (pRemotes ++ r ++ pSlash ++ s)) ∧ w = w') := by
  have h1 := size_remotes r
  have h2 := size_slash (({ data := #[114, 101, 102, 115, 47, 114, 101, 109, 111, 116, 101, 115, 47] } : ByteArray) ++ r)
  have h3 : (({ data := #[114, 101, 102, 115, 47, 114, 101, 109, 111, 116, 101, 115, 47] } : ByteArray) ++ r).size ≤ 140737488351300 := by omega
  have h4 : ((({ data := #[114, 101, 102, 115, 47, 114, 101, 109, 111, 116, 101, 115, 47] } : ByteArray) ++ r) ++ ({ data := #[47] } : ByteArray)).size ≤ 140737488351400 := by omega
  clear h1 h2
  go_enter Try.func15, Try.ntmps15
  go_wp2
  go_ret
  exact ⟨rfl, rfl⟩
theorem tag_any (s : ByteArray) (w : World) (hs : s.size ≤ 140737488351232) :
    Calls Try.prog 16 #[.string s] w (fun e w' => e = .returned (.string (pTags ++ s)) ∧ w = w') := by
  go_enter Try.func16, Try.ntmps16
  go_wp2
  go_ret
  exact ⟨rfl, rfl⟩

theorem branch_impl (s : ByteArray) (w : World) (hs : s.size ≤ 140737488351232) :
    Calls Try.prog 7 #[.string s] w (fun e w' => e = .returned (.string (pHeads ++ s)) ∧ w = w') := by
  go_enter Try.func7, Try.ntmps7
  go_wp2_with ((go_at_call 13; with_reducible refine (branch_any _ _ (by assumption)).mono ?_); rintro e w' ⟨rfl, rfl⟩)
  go_ret
  exact ⟨rfl, rfl⟩
theorem note_impl (s : ByteArray) (w : World) (hs : s.size ≤ 140737488351232) :
    Calls Try.prog 8 #[.string s] w (fun e w' => e = .returned (.string (pNotes ++ s)) ∧ w = w') := by
  go_enter Try.func8, Try.ntmps8
  go_wp2_with ((go_at_call 14; with_reducible refine (note_any _ _ (by assumption)).mono ?_); rintro e w' ⟨rfl, rfl⟩)
  go_ret
  exact ⟨rfl, rfl⟩
theorem tag_impl (s : ByteArray) (w : World) (hs : s.size ≤ 140737488351232) :
    Calls Try.prog 10 #[.string s] w (fun e w' => e = .returned (.string (pTags ++ s)) ∧ w = w') := by
  go_enter Try.func10, Try.ntmps10
  go_wp2_with ((go_at_call 16; with_reducible refine (tag_any _ _ (by assumption)).mono ?_); rintro e w' ⟨rfl, rfl⟩)
  go_ret
  exact ⟨rfl, rfl⟩
theorem remote_impl (r s : ByteArray) (w : World) (hr : r.size ≤ 140737488351232) (hs : s.size ≤ 140737488351232) :
    Calls Try.prog 9 #[.string r, .string s] w (fun e w' => e = .returned (.string (pRemotes ++ r ++ pSlash ++ s)) ∧ w = w') := by
  go_enter Try.func9, Try.ntmps9
  go_wp2_with ((go_at_call 15; with_reducible refine (remote_any _ _ _ (by assumption) (by assumption)).mono ?_); rintro e w' ⟨rfl, rfl⟩)
  go_ret
  exact ⟨rfl, rfl⟩

theorem ret_tag (s : ByteArray) : Ending.returned (.bool ((pTags ++ s).toList == (({ data := #[114, 101, 102, 115, 47, 116, 97, 103, 115, 47] } : ByteArray) ++ s).toList)) = .returned (.bool true) := by
  have h : (pTags ++ s).toList == (({ data := #[114, 101, 102, 115, 47, 116, 97, 103, 115, 47] } : ByteArray) ++ s).toList := beq_self_eq_true _
  rw [h]

set_option maxHeartbeats 1000000 in
theorem law (s r : ByteArray) (w : World) (hs : s.size ≤ 140737488351232) (hr : r.size ≤ 140737488351232) :
    Calls Try.prog 4 #[.string s, .string r] w (fun e w' => e = .returned (.bool true) ∧ Below w.heap.size w w') := by
  have h1 := size_remotes r
  have h2 := size_slash (({ data := #[114, 101, 102, 115, 47, 114, 101, 109, 111, 116, 101, 115, 47] } : ByteArray) ++ r)
  have h3 : (({ data := #[114, 101, 102, 115, 47, 114, 101, 109, 111, 116, 101, 115, 47] } : ByteArray) ++ r).size ≤ 140737488351300 := by omega
  have h4 : ((({ data := #[114, 101, 102, 115, 47, 114, 101, 109, 111, 116, 101, 115, 47] } : ByteArray) ++ r) ++ ({ data := #[47] } : ByteArray)).size ≤ 140737488351400 := by omega
  clear h1 h2
  go_enter Try.func4, Try.ntmps4
  go_wp2_with (first
    | ((go_at_call 6; with_reducible refine (small_any _ _ (by assumption)).mono ?_); rintro e w' ⟨b, rfl, rfl⟩; cases b)
    | ((go_at_call 7; with_reducible refine (branch_impl _ _ (by assumption)).mono ?_); rintro e w' ⟨rfl, rfl⟩)
    | ((go_at_call 8; with_reducible refine (note_impl _ _ (by assumption)).mono ?_); rintro e w' ⟨rfl, rfl⟩)
    | ((go_at_call 9; with_reducible refine (remote_impl _ _ _ (by assumption) (by assumption)).mono ?_); rintro e w' ⟨rfl, rfl⟩)
    | ((go_at_call 10; with_reducible refine (tag_impl _ _ (by assumption)).mono ?_); rintro e w' ⟨rfl, rfl⟩))
  all_goals go_ret
  all_goals first | exact ⟨rfl, Below.refl _ _⟩ | exact ⟨ret_tag s, Below.refl _ _⟩

end Go.Proofs.Ytjhpmmpinkahaaa.WalksA
