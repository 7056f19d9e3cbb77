/- zzIndexAny and zzContainsAny where no character of the text is one of the others: -1 and false; both texts of ASCII. -/
import Derived.Test.YtjeaehefnpjabaaDoorQFnRefValidx1
import Derived.Test.YtjeaehefnpjabaaDoorQFnRefValidx2
import Derived.Outline
import Derived.Lib.OthersKept
import Derived.WalkLawsBesides
set_option linter.unusedVariables false
namespace Go.Proofs.YtjeaehefnpjabaaDoor.Any
open Go.RowKit Go.Lib Go.Proofs.YtjeaehefnpjabaaDoorW.PrintWords

def Asc (s : ByteArray) : Prop := ∀ i, (h : i < s.size) → (s[i]'h).toNat < 128
def Parted (s c : ByteArray) : Prop := ∀ i j, (h : i < s.size) → (h' : j < c.size) → ((s[i]'h).toNat : Int) ≠ ((c[j]'h').toNat : Int)

set_option maxHeartbeats 1000000 in
theorem indexAny_none (s c : ByteArray) (w : World) (hs : s.size ≤ 140737488351232) (hc : c.size ≤ 140737488351232) (hsa : Asc s) (hca : Asc c) (hp : Parted s c) :
    Calls Tryd.prog 19 #[.string s, .string c] w fun e w' => e = .returned (.int .i64 (-1)) ∧ Below w.heap.size w w' := by
  go_enter Tryd.func19, Tryd.ntmps19
  go_wp2
  go_loopg [] s.size (fun g w' => ∃ k : Nat, Aside0 (k + g = s.size) ∧ Aside0 (w'.heap[w.heap.size]? = some (.stringIter s k)) ∧ Aside0 (Below w.heap.size w w'))
  case atStart => exact ⟨0, ⟨by omega⟩, ⟨World.iter_heap w s 0⟩, ⟨(Below.refl _ _).alloc (Nat.le_refl _) _⟩⟩
  case round =>
    obtain ⟨k, hk, hi, hb⟩ := hrel
    by_cases hlt : k < s.size
    · obtain ⟨g0, rfl⟩ : ∃ m, gk = m + 1 := ⟨gk - 1, by have := hk.out; omega⟩
      have hn := fun ty => run_next_ascii_at (P := Tryd.prog) wr w.heap.size s k ty hi.out hlt (hsa k hlt)
      have hb1 := Aside0.mk (below_iterAt hb.out (Nat.le_refl _) s (k + 1))
      have hi1 := Aside0.mk (iterAt_heap wr w.heap.size s k (k + 1) hi.out)
      go_wp2
      generalize wr.iterAt w.heap.size s (k + 1) = W1 at hb1 hi1 ⊢
      go_loopg [8] c.size (fun g v8 w' => ∃ j : Nat, Aside0 (j + g = c.size) ∧ Aside0 (w'.heap[W1.heap.size]? = some (.stringIter c j)) ∧ Aside0 (Below W1.heap.size W1 w'))
      case atStart => exact ⟨0, ⟨by omega⟩, ⟨World.iter_heap W1 c 0⟩, ⟨(Below.refl _ _).alloc (Nat.le_refl _) _⟩⟩
      case round =>
        obtain ⟨j, hj, hi2, hb2⟩ := hrel
        by_cases hlj : j < c.size
        · obtain ⟨g1, rfl⟩ : ∃ m, gk = m + 1 := ⟨gk - 1, by have := hj.out; omega⟩
          have hn2 := fun ty => run_next_ascii_at (P := Tryd.prog) wr W1.heap.size c j ty hi2.out hlj (hca j hlj)
          have hne : (((s[k]'hlt).toNat : Int) == ((c[j]'hlj).toNat : Int)) = false := beq_eq_false_iff_ne.2 (hp k j hlt hlj)
          go_wp2
          go_roundg g1
          case measure => omega
          case rel => exact ⟨j + 1, ⟨by have := hj.out; omega⟩, ⟨iterAt_heap wr _ c j (j + 1) hi2.out⟩, ⟨below_iterAt hb2.out (Nat.le_refl _) c (j + 1)⟩⟩
        · have hn := fun ty => run_next_end_at (P := Tryd.prog) wr W1.heap.size c j ty hi2.out hlj
          have hl1 : w.heap.size < W1.heap.size := (Array.getElem?_eq_some_iff.1 hi1.out).1
          go_wp2
          go_roundg g0
          case measure => omega
          case rel => exact ⟨k + 1, ⟨by have := hk.out; omega⟩, ⟨(hb2.out.block _ hl1).trans hi1.out⟩, ⟨below_then hb1.out (Nat.le_of_lt hl1) hb2.out⟩⟩
    · have hn := fun ty => run_next_end_at (P := Tryd.prog) wr w.heap.size s k ty hi.out hlt
      go_wp2
      go_ret
      exact ⟨rfl, hb.out⟩

theorem containsAny_none (s c : ByteArray) (w : World) (hs : s.size ≤ 140737488351232) (hc : c.size ≤ 140737488351232) (hsa : Asc s) (hca : Asc c) (hp : Parted s c) :
    Calls Tryd.prog 15 #[.string s, .string c] w fun e w' => e = .returned (.bool false) ∧ Below w.heap.size w w' := by
  go_enter Tryd.func15, Tryd.ntmps15
  go_wp2_with ((go_at_call 19; with_reducible refine (indexAny_none _ _ _ hs hc hsa hca hp).mono ?_); rintro e w' ⟨rfl, hb⟩)
  go_ret
  exact ⟨rfl, by assumption⟩

end Go.Proofs.YtjeaehefnpjabaaDoor.Any
