/- capability.List: NewList, String of a capability, validate, Supports. -/
import Derived.Test.YtbemlaalccoepaaDoorCapB
set_option linter.unusedVariables false
set_option linter.unusedSimpArgs false
namespace Go.Proofs.YtbemlaalccoepaaDoor.CapC
open Go.RowKit Go.Proofs.YtbemlaalccoepaaDoorW.PrintWords Go.Proofs.YtbemlaalccoepaaDoorW.PrintLast Go.Proofs.YtbemlaalccoepaaDoorW.PrintMore Go.Proofs.YtbemlaalccoepaaDoor.QAll Txt SMap CapA Ptr CapB

set_option maxHeartbeats 4000000 in
set_option maxRecDepth 100000 in
theorem capString (c : ByteArray) (w : World) : Calls Tryd.prog 44 #[.string c] w fun e w' => e = .returned (.string c) ∧ w' = w := by
  go_enter Tryd.func44, Tryd.ntmps44
  go_wp2
  go_ret
  exact ⟨rfl, rfl⟩
set_option maxHeartbeats 4000000 in
set_option maxRecDepth 100000 in
theorem supports (lb mb : Nat) (c : ByteArray) (pv : Value) (b : Bool) (V : Value) (w : World) (hl : w.heap[lb]? = some (.cells #[.map (some mb), V] 66 (0, 0))) (hk : (Instr.lookup 64 (.map (some mb)) (.string c) true).run Tryd.prog w = .ok (.tuple #[pv, .bool b]) w) :
    Calls Tryd.prog 32 #[.pointer (some ⟨lb, 0, none⟩), .string c] w fun e w' => e = .returned (.bool b) ∧ w' = w := by
  have hc0 : w.cell? ⟨lb, 0, none⟩ = some (.map (some mb)) := (blk_cell hl 0).trans rfl
  clear hl
  go_enter Tryd.func32, Tryd.ntmps32
  go_wp2
  go_ret
  exact ⟨rfl, rfl⟩
set_option maxHeartbeats 4000000 in
set_option maxRecDepth 100000 in
theorem newList (w : World) : Calls Tryd.prog 19 #[] w fun e w' => e = .returned (.pointer (some ⟨w.heap.size + 1, 0, none⟩)) ∧ w' = (w.alloc (.map #[] 0)).alloc (.cells #[.map (some w.heap.size), .slice none 0 0] 66) := by
  have hmm := @run_makeMap Tryd.prog
  go_enter Tryd.func19, Tryd.ntmps19
  go_wp2
  go_ret
  exact ⟨rfl, rfl⟩
theorem rdOf_nat {α : Type} (d : α) (l : List α) (k : Nat) (hk : k < l.length) : rdOf d l (k : Int) = l[k] := by
  unfold rdOf
  simp [hk]
theorem newLSt (w : World) (G : Nat → Nat) : LSt ((w.alloc (.map #[] 0)).alloc (.cells #[.map (some w.heap.size), .slice none 0 0] 66)) w.heap.size (w.heap.size + 1) w.heap.size G [] (.slice none 0 0) [] := by
  have hz : (w.alloc (.map #[] 0)).heap.size = w.heap.size + 1 := by show (w.heap.push _).size = _; rw [Array.size_push]
  refine ⟨by rw [← hz]; exact blk_new _ _, by omega, Nat.le_refl _, ⟨#[], 0, blk_alloc (blk_new _ _) _, rfl⟩, Kd.R_nil _ _ _ _ _, by simp, by simp, by simp, by simp⟩
set_option maxHeartbeats 4000000 in
set_option maxRecDepth 100000 in
theorem noEmpty (lv : Value) (A : Option Addr) (c : Nat) (l : List ByteArray) (w : World) (hC : Kd.string.C w A l.length l) (hp : ∀ v ∈ l, 0 < v.size) (hn : l.length ≤ 1000) :
    Calls Tryd.prog 57 #[lv, .slice A l.length c] w fun e w' => e = .returned .nilIface ∧ w' = w := by
  have HC := Aside0.mk hC
  have HP := Aside0.mk hp
  clear hC hp
  go_enter Tryd.func57, Tryd.ntmps57
  go_wp2
  go_loopg [9] l.length (fun gk v9 w' => ∃ k : Nat, v9 = .int .i64 (k : Int) ∧ k + gk = l.length ∧ w' = w)
  case atStart => exact ⟨0, rfl, by omega, rfl⟩
  case round =>
    obtain ⟨k, rfl, hk, rfl⟩ := hrel
    by_cases hlt : k < l.length
    · obtain ⟨g0, rfl⟩ : ∃ m, gk = m + 1 := ⟨gk - 1, by omega⟩
      have hk1 : (k : Int) < (l.length : Int) := by omega
      obtain ⟨ad, rfl, hx⟩ := Kd.at_string HC.out (k : Int) (by omega) hk1
      rw [Int.toNat_natCast] at hx
      have hsk : rdOf ByteArray.empty l (k : Int) = l[k] := rdOf_nat _ l k hlt
      rw [hsk] at hx
      obtain ⟨s, hs⟩ : ∃ s, s = l[k] := ⟨_, rfl⟩
      rw [← hs] at hx
      have hpos : 0 < s.size := HP.out s (by rw [hs]; exact List.getElem_mem hlt)
      have e1 : (s.toList == ([] : List UInt8)) = false := by
        rw [beq_eq_false_iff_ne]
        intro e
        rw [← size_list, e] at hpos
        exact absurd hpos (by decide)
      have e3 : decide (s = (⟨#[]⟩ : ByteArray)) = false := decide_eq_false (fun e => by rw [e] at hpos; exact absurd hpos (by decide))
      have HK := Aside0.mk hk
      clear hsk hs hpos
      go_upto_region 6 with fail
      go_wp2
      go_roundg g0
      case measure => omega
      case rel => exact ⟨k + 1, by push_cast; rfl, by have := HK.out; omega, rfl⟩
    · obtain rfl : k = l.length := by omega
      go_wp2
      go_ret
      exact ⟨rfl, rfl⟩
#print axioms noEmpty
end Go.Proofs.YtbemlaalccoepaaDoor.CapC
