/- Small plain facts on texts: a text and the list of its bytes. For any program. -/
import Derived.Test.YtddnepddilbikaaDoorWWords
import Derived.Lib.Strings
set_option linter.unusedVariables false
namespace Go.Proofs.YtddnepddilbikaaDoor.Txt
open Go.RowKit Go.Proofs.YtddnepddilbikaaDoorW.PrintWords

theorem w64 (x : Int) (h0 : 0 ≤ x) (h1 : x ≤ 9223372036854775807) : wrap64 x = x := by unfold wrap64; omega
theorem size_list (s : ByteArray) : s.toList.length = s.size := by rw [Lib.toList_data, Lib.size_eq]
theorem ba_ext {a b : ByteArray} (h : a.toList = b.toList) : a = b := by
  rw [Lib.toList_data, Lib.toList_data] at h
  cases a; cases b; simp at h; exact congrArg _ h
theorem toList_append (a b : ByteArray) : (a ++ b).toList = a.toList ++ b.toList := by
  rw [Lib.toList_data, Lib.toList_data, Lib.toList_data, ByteArray.data_append, Array.toList_append]
theorem toList_lit (a : Array UInt8) : (⟨a⟩ : ByteArray).toList = a.toList := Lib.toList_data _
theorem bt_get (s : ByteArray) (i : Nat) (c : UInt8) (h : s.toList[i]? = some c) : bt s i = (c.toNat : Int) := by
  have hl : i < s.toList.length := (List.getElem?_eq_some_iff.1 h).1
  have hi : i < s.size := by rw [← size_list]; exact hl
  unfold bt
  rw [dif_pos (by simpa using hi)]
  have h' : s.data.toList[i]? = some c := by rw [← Lib.toList_data]; exact h
  have : s.data.toList[i]'(by rw [← Lib.size_eq]; exact hi) = c := (List.getElem?_eq_some_iff.1 h').2
  rw [← this]
  simp
  rfl
theorem bt_at' (s : ByteArray) (i : Nat) (h : i < s.size) : ∃ c, s.toList[i]? = some c ∧ c ∈ s.toList ∧ bt s i = (c.toNat : Int) := by
  have hl : i < s.toList.length := by rw [size_list]; exact h
  exact ⟨s.toList[i], by simp [hl], List.getElem_mem hl, bt_get s i _ (by simp [hl])⟩
theorem ext_from (s : ByteArray) (n : Nat) : (s.extract n s.size).toList = s.toList.drop n := by
  rw [Lib.extract_toList, ← Lib.toList_data, List.take_of_length_le (by rw [List.length_drop, size_list]; omega)]
theorem ext_to (s : ByteArray) (n : Nat) : (s.extract 0 n).toList = s.toList.take n := by
  rw [Lib.extract_toList, ← Lib.toList_data, Nat.sub_zero, List.drop_zero]
theorem ext_mid (s : ByteArray) (a b : Nat) : (s.extract a b).toList = (s.toList.drop a).take (b - a) := by
  rw [Lib.extract_toList, ← Lib.toList_data]
theorem size_nil {s : ByteArray} (h : s.toList = []) : s.size = 0 := by rw [← size_list, h]; rfl
theorem size_cons {s : ByteArray} {c : UInt8} {l : List UInt8} (h : s.toList = c :: l) : s.size = l.length + 1 := by rw [← size_list, h]; rfl
theorem bt_head {s : ByteArray} {c : UInt8} {l : List UInt8} (h : s.toList = c :: l) : bt s 0 = (c.toNat : Int) := bt_get s 0 c (by rw [h]; rfl)
theorem ext_tail {s : ByteArray} {c : UInt8} {l : List UInt8} (h : s.toList = c :: l) : (s.extract 1 s.size).toList = l := by rw [ext_from, h]; rfl
theorem u8_eq {a b : UInt8} : ((a.toNat : Int) = (b.toNat : Int)) ↔ a = b := by
  constructor
  · intro h; exact UInt8.toNat_inj.1 (by exact_mod_cast h)
  · rintro rfl; rfl
theorem u8_lit (a : UInt8) (n : Nat) (hn : n < 256) : ((a.toNat : Int) = (n : Int)) ↔ a = n.toUInt8 := by
  constructor
  · intro h
    apply UInt8.toNat_inj.1
    have : a.toNat = n := by exact_mod_cast h
    rw [this]; simp [Nat.toUInt8]; omega
  · rintro rfl; simp [Nat.toUInt8]; omega
/-- Where both come to their answers from some round on. -/
theorem ev_round {α : Type} {g f : Nat → Option α} {r : α} (k : Ev f r) (h : ∀ m, f m = some r → g (m + 1) = some r) : Ev g r := by
  obtain ⟨K, k⟩ := k
  refine ⟨K + 1, fun n hn => ?_⟩
  obtain ⟨m, rfl⟩ : ∃ m, n = m + 1 := ⟨n - 1, by omega⟩
  exact h m (k m (by omega))
theorem ev_round2 {α β : Type} {g f : Nat → Option α} {f2 : Nat → Option β} {r : α} {r2 : β} (k : Ev f r) (k2 : Ev f2 r2) (h : ∀ m, f m = some r → f2 m = some r2 → g (m + 1) = some r) : Ev g r := by
  obtain ⟨K, k⟩ := k
  obtain ⟨K2, k2⟩ := k2
  refine ⟨K + K2 + 1, fun n hn => ?_⟩
  obtain ⟨m, rfl⟩ : ∃ m, n = m + 1 := ⟨n - 1, by omega⟩
  exact h m (k m (by omega)) (k2 m (by omega))
theorem ev_now {α : Type} {g : Nat → Option α} {r : α} (h : ∀ m, g (m + 1) = some r) : Ev g r :=
  ⟨1, fun n hn => by obtain ⟨m, rfl⟩ : ∃ m, n = m + 1 := ⟨n - 1, by omega⟩; exact h m⟩

end Go.Proofs.YtddnepddilbikaaDoor.Txt
