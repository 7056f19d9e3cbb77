/- internal/strconv.ParseUint at base 8 and 32 bits, walked: the texts that it reads. -/
import Derived.Test.YtlfabebbpoipgaaDoorQAllx0
import Derived.Lib.ConvBytes
import Derived.Lib.Strings
import Derived.Lib.AtoiErrMem
set_option linter.unusedVariables false
set_option linter.unusedSimpArgs false
namespace Go.Proofs.YtlfabebbpoipgaaDoor.HandU
open Go.RowKit Go.Proofs.YtlfabebbpoipgaaDoorW.PrintWords Go.Proofs.YtlfabebbpoipgaaDoor.QAll

def p8 : List UInt8 → Nat → Option Nat
  | [], n => some n
  | c :: l, n => if 48 ≤ c.toNat ∧ c.toNat ≤ 55 ∧ n * 8 + (c.toNat - 48) ≤ 4294967295 then p8 l (n * 8 + (c.toNat - 48)) else none

def q8 (l : List UInt8) : Option Nat := if l = [] then none else p8 l 0
/-- How it ends: the number, or an error of two kinds. -/
def Ends (s : ByteArray) (e : Ending) : Prop :=
  (∃ v : Nat, q8 s.data.toList = some v ∧ e = .returned (.tuple #[.int .u64 (v : Int), .nilIface])) ∨
    (q8 s.data.toList = none ∧ ∃ x c : Int, (c = 1 ∨ c = 2) ∧ e = .returned (.tuple #[.int .u64 x, .iface 38 (.int .i64 c)]))

theorem drop_at {s : ByteArray} {k : Nat} (hk : k < s.data.size) : s.data.toList.drop k = s.data[k] :: s.data.toList.drop (k + 1) := by
  rw [List.drop_eq_getElem_cons (by simpa using hk)]
  simp
theorem bad1 {s : ByteArray} {k : Nat} {hk : k < s.data.size} {n : Nat} (h : ¬ (48 ≤ (s.data[k].toNat : Int) ∧ (s.data[k].toNat : Int) ≤ 55)) : p8 (s.data.toList.drop k) n = none := by
  rw [drop_at hk, p8, if_neg (fun hh => h ⟨by omega, by omega⟩)]
theorem bad2 {s : ByteArray} {k : Nat} {hk : k < s.data.size} {n : Int} (h0 : 0 ≤ n) (h1 : 48 ≤ (s.data[k].toNat : Int)) (h : 4294967295 < n * 8 + ((s.data[k].toNat : Int) - 48)) : p8 (s.data.toList.drop k) n.toNat = none := by
  rw [drop_at hk, p8, if_neg (fun hh => by omega)]
theorem ok1 {s : ByteArray} {k : Nat} {hk : k < s.data.size} {n : Int} (h0 : 0 ≤ n) (h1 : 48 ≤ (s.data[k].toNat : Int)) (h2 : (s.data[k].toNat : Int) - 48 < 8) (h : n * 8 + ((s.data[k].toNat : Int) - 48) ≤ 4294967295) :
    p8 (s.data.toList.drop k) n.toNat = p8 (s.data.toList.drop (k + 1)) (n * 8 + ((s.data[k].toNat : Int) - 48)).toNat := by
  rw [drop_at hk, p8, if_pos ⟨by omega, by omega, by omega⟩]
  congr 1
  omega
theorem wr (n : Int) (h0 : 0 ≤ n) (h1 : n ≤ 18446744073709551615) : IntKind.u64.wrap n = n := by
  rw [IntKind.wrap_u64]; omega

set_option maxHeartbeats 4000000 in
set_option maxRecDepth 100000 in
theorem reads (s : ByteArray) (hs : s.size ≤ 140737488351232) (w : World) :
    Calls Tryd.prog 9 #[.string s, .int .i64 8, .int .i64 32] w fun e w' => Ends s e ∧ Below w.heap.size w w' := by
  have hconv := Lib.run_convert_string_bytes w 9 25 5 s Tryd.underlying9 Tryd.underlying25 Tryd.underlying5
  have hsz : s.data.toList.length = s.size := by rw [← Lib.size_eq]
  go_enter Tryd.func9, Tryd.ntmps9
  by_cases h0 : s.data.toList = []
  · have hne : (s.toList == ([] : List UInt8)) = true := by rw [beq_iff_eq, Lib.toList_data]; exact h0
    have hq : Aside0 (q8 s.data.toList = none) := ⟨by unfold q8; rw [if_pos h0]⟩
    clear h0
    go_wp2
    go_ret2
    exact ⟨.inr ⟨hq.out, _, _, .inr rfl, rfl⟩, Below.refl _ _⟩
  have hne : (s.toList == ([] : List UInt8)) = false := by rw [beq_eq_false_iff_ne, Lib.toList_data]; exact h0
  have hq : Aside0 (q8 s.data.toList = p8 s.data.toList 0) := ⟨by unfold q8; rw [if_neg h0]⟩
  clear h0
  go_wp2
  go_loopg [12, 13, 101] s.size (fun gk v12 v13 v101 w' => ∃ (k : Nat) (n : Int), v12 = .bool false ∧ v13 = .int .u64 n ∧ v101 = .int .i64 (k : Int) ∧ Aside0 (k + gk = s.size) ∧ Aside0 (0 ≤ n ∧ n ≤ 4294967295 ∧ q8 s.data.toList = p8 (s.data.toList.drop k) n.toNat) ∧ w' = Lib.bytesWorld w 5 s)
  case atStart => exact ⟨0, 0, rfl, rfl, rfl, ⟨by omega⟩, ⟨by omega, by omega, by rw [List.drop_zero]; exact hq.out⟩, rfl⟩
  case round =>
    obtain ⟨k, n, rfl, rfl, rfl, hk, hn, rfl⟩ := hrel
    by_cases hlt : k < s.size
    · obtain ⟨g0, rfl⟩ : ∃ m, gk = m + 1 := ⟨gk - 1, by have := hk.out; omega⟩
      have hx := Lib.bytesWorld_cell w 5 s k hlt
      have hn2 : n < 2305843009213693952 := by have := hn.out.2.1; omega
      have hw8 : IntKind.u64.wrap (n * 8) = n * 8 := wr _ (by have := hn.out.1; omega) (by have := hn.out.2.1; omega)
      have HW8 : Aside0 (∀ y : Nat, y ≤ 255 → 48 ≤ (y : Int) → IntKind.u64.wrap (n * 8 + ((y : Int) - 48)) = n * 8 + ((y : Int) - 48)) := ⟨fun y h1 h2 => wr _ (by have := hn.out.1; omega) (by have := hn.out.2.1; omega)⟩
      go_wp2
      all_goals first
        | (go_ret2; refine ⟨.inr ⟨hn.out.2.2.trans (bad1 (fun hh => by omega)), _, _, ?_, rfl⟩, Lib.bytesWorld_below _ _ _⟩; first | exact .inl rfl | exact .inr rfl)
        | skip
      · have hlt' : k < s.data.size := hlt
        have h48 := ‹48 ≤ ((s.data[k]).toNat : Int)›
        have hor := ‹IntKind.u64.wrap (n * 8 + (((s.data[k]).toNat : Int) - 48)) < n * 8 ∨ 4294967295 < IntKind.u64.wrap (n * 8 + (((s.data[k]).toNat : Int) - 48))›
        rw [HW8.out _ (by have := (s.data[k]).toNat_lt; omega) h48] at hor
        go_ret2
        exact ⟨.inr ⟨hn.out.2.2.trans (bad2 hn.out.1 h48 (by omega)), _, _, .inl rfl, rfl⟩, Lib.bytesWorld_below _ _ _⟩
      · have hlt' : k < s.data.size := hlt
        have h48 := ‹48 ≤ ((s.data[k]).toNat : Int)›
        have h8 := ‹((s.data[k]).toNat : Int) - 48 < 8›
        have hor := ‹n * 8 ≤ IntKind.u64.wrap (n * 8 + (((s.data[k]).toNat : Int) - 48)) ∧ IntKind.u64.wrap (n * 8 + (((s.data[k]).toNat : Int) - 48)) ≤ 4294967295›
        have hw := HW8.out _ (by have := (s.data[k]).toNat_lt; omega) h48
        rw [hw] at hor
        go_roundg g0
        case measure => omega
        case rel => exact ⟨k + 1, n * 8 + (((s.data[k]).toNat : Int) - 48), rfl, by rw [hw], by push_cast; rfl, ⟨by have := hk.out; omega⟩, ⟨by have := hn.out.1; omega, hor.2, hn.out.2.2.trans (ok1 hn.out.1 h48 h8 hor.2)⟩, rfl⟩
      · have hlt' : k < s.data.size := hlt
        have h48 := ‹48 ≤ ((s.data[k]).toNat : Int)›
        have hor := ‹IntKind.u64.wrap (n * 8 + (((s.data[k]).toNat : Int) - 48)) < n * 8›
        rw [HW8.out _ (by have := (s.data[k]).toNat_lt; omega) h48] at hor
        exact absurd hor (by omega)
    · have hend : k = s.size := by have := hk.out; omega
      have hfin : q8 s.data.toList = some n.toNat := by rw [hn.out.2.2, hend, List.drop_eq_nil_of_le (by omega)]; rfl
      have HF := Aside0.mk hfin
      clear hend hfin
      go_wp2
      go_ret2
      refine ⟨.inl ⟨n.toNat, HF.out, ?_⟩, Lib.bytesWorld_below _ _ _⟩
      have : ((n.toNat : Nat) : Int) = n := Int.toNat_of_nonneg hn.out.1
      rw [this]; rfl

end Go.Proofs.YtlfabebbpoipgaaDoor.HandU
