/- impl.ModeOf, where the text is read, and spec.Octal: what they answer, and their contracts. Written by hand. -/
import Derived.Test.YtlfabebbpoipgaaDoorHandO
set_option linter.unusedVariables false
set_option linter.unusedSimpArgs false
namespace Go.Proofs.YtlfabebbpoipgaaDoor.HandM
open Go.RowKit Go.Proofs.YtlfabebbpoipgaaDoorW.PrintWords Go.Proofs.YtlfabebbpoipgaaDoor.QAll HandU HandO

theorem p8_le : ∀ (l : List UInt8) (n v : Nat), n ≤ 4294967295 → p8 l n = some v → v ≤ 4294967295
  | [], n, v, hn, h => by cases h; exact hn
  | c :: l, n, v, hn, h => by
    rw [p8] at h
    split at h
    · rename_i hh
      exact p8_le l _ v hh.2.2 h
    · cases h
theorem q8_le {l : List UInt8} {v : Nat} (h : q8 l = some v) : v ≤ 4294967295 := by
  unfold q8 at h
  split at h
  · cases h
  · exact p8_le l 0 v (by omega) h
theorem reads_ok (s : ByteArray) (v : Nat) (hs : s.size ≤ 140737488351232) (h : q8 s.data.toList = some v) (w : World) :
    Calls Tryd.prog 9 #[.string s, .int .i64 8, .int .i64 32] w fun e w' => e = .returned (.tuple #[.int .u64 (v : Int), .nilIface]) ∧ Below w.heap.size w w' := by
  refine (reads s hs w).mono fun e w' hh => ⟨?_, hh.2⟩
  rcases hh.1 with ⟨v', h1, h2⟩ | ⟨h1, _⟩
  · rw [h] at h1
    cases h1
    exact h2
  · rw [h] at h1
    cases h1
theorem w32 (x : Int) (h0 : 0 ≤ x) (h1 : x ≤ 4294967295) : IntKind.u32.wrap x = x := by simp [IntKind.wrap, IntKind.bits, IntKind.signed]; omega
theorem pub_ok (s : ByteArray) (x : Int) (w : World) (HR : Calls Tryd.prog 9 #[.string s, .int .i64 8, .int .i64 32] w fun e w' => e = .returned (.tuple #[.int .u64 x, .nilIface]) ∧ Below w.heap.size w w') :
    Calls Tryd.prog 8 #[.string s, .int .i64 8, .int .i64 32] w fun e w' => e = .returned (.tuple #[.int .u64 x, .nilIface]) ∧ Below w.heap.size w w' := by
  have HR := Aside0.mk HR
  go_enter Tryd.func8, Tryd.ntmps8
  go_wp2_with (first | (go_at_call 9; (with_reducible refine HR.out.mono ?_); rintro e w' ⟨rfl, hb⟩; have HB := Aside0.mk hb; clear hb))
  go_ret2
  exact ⟨rfl, HB.out⟩
theorem new_ok (s : ByteArray) (x : Int) (w : World) (h0 : 0 ≤ x) (h1 : x ≤ 4294967295) (HR : Calls Tryd.prog 8 #[.string s, .int .i64 8, .int .i64 32] w fun e w' => e = .returned (.tuple #[.int .u64 x, .nilIface]) ∧ Below w.heap.size w w') :
    Calls Tryd.prog 7 #[.string s] w fun e w' => e = .returned (.tuple #[.int .u32 x, .nilIface]) ∧ Below w.heap.size w w' := by
  have HR := Aside0.mk HR
  have hw := w32 x h0 h1
  clear h0 h1
  go_enter Tryd.func7, Tryd.ntmps7
  go_wp2_with (first | (go_at_call 8; (with_reducible refine HR.out.mono ?_); rintro e w' ⟨rfl, hb⟩; have HB := Aside0.mk hb; clear hb))
  go_ret2
  exact ⟨rfl, HB.out⟩
theorem mode_ok (s : ByteArray) (v : Nat) (hs : s.size ≤ 140737488351232) (h : q8 s.data.toList = some v) (w : World) :
    Calls Tryd.prog 5 #[.string s] w fun e w' => e = .returned (.tuple #[.int .u32 (v : Int), .bool true]) ∧ Below w.heap.size w w' := by
  have hv := q8_le h
  have HR := Aside0.mk (new_ok s v w (by omega) (by omega) (pub_ok s v w (reads_ok s v hs h w)))
  generalize (v : Int) = x at HR ⊢
  clear h hv hs
  go_enter Tryd.func5, Tryd.ntmps5
  go_wp2_with (first | (go_at_call 7; (with_reducible refine HR.out.mono ?_); rintro e w' ⟨rfl, hb⟩; have HB := Aside0.mk hb; clear hb))
  go_quiet (fail)
  go_wp2
  go_ret2
  exact ⟨rfl, by first | exact HB.out | exact below_drew HB.out | exact pw_below_drewN HB.out _⟩
end Go.Proofs.YtlfabebbpoipgaaDoor.HandM
namespace Go.Proofs.YtlfabebbpoipgaaDoor.QFnModeRead
open Go.RowKit HandU HandO HandM
def impl_ModeOf.f (a0 : ByteArray) : Option (Int × Bool) := if a0.size ≤ 140737488351232 then (q8 a0.data.toList).map (fun (v : Nat) => (Int.ofNat v, true)) else none
theorem impl_ModeOf.calls (a0 : ByteArray) (r1 : Int) (r2 : Bool) (w : World) (h : impl_ModeOf.f a0 = some (r1, r2)) :
    Calls Tryd.prog 5 #[.string a0] w fun e w' => e = .returned (.tuple #[.int .u32 r1, .bool r2]) ∧ Below w.heap.size w w' := by
  unfold impl_ModeOf.f at h
  split at h
  · rename_i hs
    obtain ⟨v, hv, he⟩ := Option.map_eq_some_iff.1 h
    simp only [Prod.mk.injEq] at he
    obtain ⟨h1, h2⟩ := he
    rw [← h1, ← h2]
    exact mode_ok a0 v hs hv w
  · cases h
def spec_Octal.f (a0 : Int) : Option ByteArray := if 0 ≤ a0 ∧ a0 ≤ 4294967295 then some (ob a0.toNat) else none
theorem spec_Octal.calls (a0 : Int) (r : ByteArray) (w : World) (h : spec_Octal.f a0 = some r) :
    Calls Tryd.prog 6 #[.int .i64 a0] w fun e w' => e = .returned (.string r) ∧ Below w.heap.size w w' := by
  unfold spec_Octal.f at h
  split at h
  · rename_i hh
    cases h
    have h1 := oct a0.toNat (by omega) w
    rwa [Int.toNat_of_nonneg hh.1] at h1
  · cases h
end Go.Proofs.YtlfabebbpoipgaaDoor.QFnModeRead
