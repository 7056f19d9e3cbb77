/- strings.EqualFold for texts of letters; spec.Capital, walked. -/
import Derived.Test.YtacndeejapfkiaaDoorPtr
import Derived.Test.YtacndeejapfkiaaDoorTxt
import Derived.Test.YtacndeejapfkiaaDoorShelf
set_option linter.unusedVariables false
set_option linter.unusedSimpArgs false
namespace Go.Proofs.YtacndeejapfkiaaDoor.HandA
open Go.RowKit Go.Proofs.YtacndeejapfkiaaDoorW.PrintWords Go.Proofs.YtacndeejapfkiaaDoor.QAll Txt

/-- A small letter. -/
def Sm (c : UInt8) : Prop := 97 ≤ c.toNat ∧ c.toNat ≤ 122
/-- A text of small letters, no longer than 1000. -/
structure Word (s : ByteArray) : Prop where
  len : s.size ≤ 1000
  ne : s.size ≠ 0
  sm : ∀ c ∈ s.toList, Sm c
/-- The same letters, small or capital. -/
def FoldL : List UInt8 → List UInt8 → Prop
  | [], [] => True
  | b :: m, c :: u => (b = c ∨ b.toNat + 32 = c.toNat) ∧ FoldL m u
  | _, _ => False
theorem FoldL.refl : ∀ l : List UInt8, FoldL l l
  | [] => trivial
  | c :: l => ⟨Or.inl rfl, FoldL.refl l⟩
def FoldA (t u : ByteArray) : Prop := FoldL t.toList u.toList
theorem FoldL.low : ∀ (m u : List UInt8), FoldL m u → (∀ c ∈ u, Sm c) → ∀ b ∈ m, b.toNat < 128
  | [], [], _, _ => fun b hb => by cases hb
  | b :: m, c :: u, h, hu => fun x hx => by
    have hc := hu c List.mem_cons_self
    unfold Sm at hc
    rcases List.mem_cons.1 hx with rfl | hx
    · rcases h.1 with rfl | h1 <;> omega
    · exact FoldL.low m u h.2 (fun c hc => hu c (List.mem_cons_of_mem _ hc)) x hx
theorem fold_list : ∀ (l m u : List UInt8), (∀ c ∈ l, Sm c) → (∀ c ∈ u, Sm c) → FoldL m u → Lib.equalFold l m = decide (l = u)
  | [], [], [], _, _, _ => rfl
  | [], b :: m, c :: u, _, _, _ => rfl
  | a :: l, [], [], _, _, _ => rfl
  | a :: l, b :: m, c :: u, hl, hu, h => by
    have ha := hl a List.mem_cons_self
    have hc := hu c List.mem_cons_self
    unfold Sm at ha hc
    have ih := fold_list l m u (fun c hc => hl c (List.mem_cons_of_mem _ hc)) (fun c hc => hu c (List.mem_cons_of_mem _ hc)) h.2
    by_cases hac : a = c
    · subst hac
      have hf : Lib.foldEq a b = true := by
        unfold Lib.foldEq
        rw [decide_eq_true_eq]
        rcases h.1 with h1 | h1
        · left; rw [h1]
        · right; right; omega
      rw [Lib.equalFold_yes _ _ _ _ hf, ih]
      simp
    · have hn : a.toNat ≠ c.toNat := fun e => hac (UInt8.toNat_inj.1 e)
      have hf : Lib.foldEq a b = false := by
        unfold Lib.foldEq
        rw [decide_eq_false_iff_not]
        rcases h.1 with h1 | h1
        · rw [h1]; omega
        · omega
      rw [Lib.equalFold_no _ _ _ _ hf]
      simp [hac]
  | [], [], c :: u, _, _, h => h.elim
  | [], b :: m, [], _, _, h => h.elim
  | a :: l, [], c :: u, _, _, h => h.elim
  | a :: l, b :: m, [], _, _, h => h.elim

theorem equalFold (s t u : ByteArray) (w : World) (hs : Word s) (hu : Word u) (ht : FoldA t u) :
    Calls Tryd.prog 48 #[.string s, .string t] w fun e w' => e = .returned (.bool (decide (s = u))) ∧ w' = w := by
  have h := Tryd.strings_EqualFold s t w (by have := hs.len; omega)
    (fun j b hj => by have := hs.sm b (by rw [Lib.toList_data]; exact List.mem_of_getElem? hj); unfold Sm at this; omega)
    (fun j b hj => FoldL.low _ _ ht hu.sm b (by rw [Lib.toList_data]; exact List.mem_of_getElem? hj))
  rw [← Lib.toList_data, ← Lib.toList_data, fold_list _ _ _ hs.sm hu.sm ht] at h
  have e : decide (s.toList = u.toList) = decide (s = u) := by
    apply decide_eq_decide.2
    exact ⟨ba_ext, fun e => by rw [e]⟩
  rw [e] at h
  exact h
#print axioms equalFold
end Go.Proofs.YtacndeejapfkiaaDoor.HandA
