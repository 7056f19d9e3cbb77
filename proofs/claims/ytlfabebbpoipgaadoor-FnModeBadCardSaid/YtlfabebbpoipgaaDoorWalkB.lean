/- FnModeBad, walked. -/
import Derived.Test.YtlfabebbpoipgaaDoorHandE
set_option linter.unusedVariables false
set_option linter.unusedSimpArgs false
namespace Go.Proofs.YtlfabebbpoipgaaDoor.WalkB
open Go.RowKit Go.Proofs.YtlfabebbpoipgaaDoorW Go.Proofs.YtlfabebbpoipgaaDoorW.PrintWords HandU HandO HandM HandE

theorem p8_append : ∀ (l1 l2 : List UInt8) (n : Nat), p8 (l1 ++ l2) n = (p8 l1 n).bind (fun m => p8 l2 m)
  | [], l2, n => rfl
  | c :: l1, l2, n => by
    rw [List.cons_append, p8, p8]
    split
    · exact p8_append l1 l2 _
    · rfl
theorem spoilt (a : ByteArray) (c : Int) (b : ByteArray) (h0 : 0 ≤ c) (h1 : c ≤ 255) (h : ¬ (48 ≤ c ∧ c ≤ 55)) : q8 ((a ++ strOfNums [c]) ++ b).data.toList = none := by
  have hl : ((a ++ strOfNums [c]) ++ b).data.toList = a.data.toList ++ (UInt8.ofNat c.toNat :: b.data.toList) := by
    rw [ByteArray.data_append, ByteArray.data_append, Array.toList_append, Array.toList_append, strOfNums_data]
    simp
  have hc : (UInt8.ofNat c.toNat).toNat = c.toNat := by simp; omega
  unfold q8
  split
  · rfl
  · rw [hl, p8_append]
    cases p8 a.data.toList 0 with
    | none => rfl
    | some m =>
      rw [Option.bind_some, p8, hc, if_neg (fun hh => h ⟨by omega, by omega⟩)]
theorem fine8 : q8 (⟨#[48, 49, 48, 48, 54, 52, 52]⟩ : ByteArray).data.toList = some 33188 := by decide

set_option maxHeartbeats 4000000 in
set_option maxRecDepth 100000 in
theorem law (a : ByteArray) (c : Int) (b : ByteArray) (w : World) (ha : a.size ≤ 140737488351232) (hb : b.size ≤ 140737488351232) (h0 : 0 ≤ c) (h1 : c ≤ 255) (hV : Vars w) :
    Calls Tryd.prog 3 #[.string a, .int .u8 c, .string b] w fun e w' => e = .returned (.bool true) ∧ Below w.heap.size w w' := by
  have hcv : (convert 25 9 (.slice (some ⟨w.heap.size, 0, none⟩) 1 1)).run Tryd.prog (w.alloc (.cells #[.int .u8 c] 5)) = .ok (.string (strOfNums [c])) (w.alloc (.cells #[.int .u8 c] 5)) := by
    refine run_convert_bytes_arg (w.alloc (.cells #[.int .u8 c] 5)) 25 5 Tryd.underlying25 Tryd.underlying5 w.heap.size 0 1 1 [c] rfl (fun i hi => ?_) 9 Tryd.underlying9
    obtain rfl : i = 0 := by omega
    rw [blk_cell (by simpa using heap_alloc_new w (.cells #[.int .u8 c] 5))]
    rfl
  have hz1 : (strOfNums [c]).size = 1 := by rw [strOfNums_size]; rfl
  have HB : Aside0 (∀ w', Below w.heap.size w w' → a.size + b.size ≤ 1000 → ¬ (48 ≤ c ∧ c ≤ 55) → Calls Tryd.prog 5 #[.string ((a ++ strOfNums [c]) ++ b)] w' fun e w'' => e = .returned (.tuple #[.int .u32 0, .bool false]) ∧ Below w'.heap.size w' w'') :=
    ⟨fun w' hbel hz hc => mode_bad _ (by rw [ByteArray.size_append, ByteArray.size_append, hz1]; omega) (spoilt a c b h0 h1 hc) w' (hV.below hbel)⟩
  have HF : Aside0 (∀ w', Calls Tryd.prog 5 #[.string ⟨#[48, 49, 48, 48, 54, 52, 52]⟩] w' fun e w'' => e = .returned (.tuple #[.int .u32 33188, .bool true]) ∧ Below w'.heap.size w' w'') := ⟨fun w' => mode_ok _ 33188 (by decide) fine8 w'⟩
  clear hV
  generalize hd : strOfNums [c] = d at hcv hz1 HB
  clear hd
  go_enter Tryd.func3, Tryd.ntmps3
  go_wp2_with (first
    | (go_at_call 5; (with_reducible refine (HB.out _ ?hbel (by omega) (by omega)).mono ?_); (case hbel => repeat (first | exact Below.refl _ _ | apply below_alloc | apply below_drew | apply pw_below_drewN)); rintro e w' ⟨rfl, hb1⟩; have HB1 : Aside0 (Below w.heap.size w w') := ⟨below_step (by repeat (first | exact Below.refl _ _ | apply below_alloc | apply below_drew | apply pw_below_drewN)) hb1⟩; clear hb1)
    | (go_at_call 5; (with_reducible refine (HF.out _).mono ?_); rintro e w2 ⟨rfl, hb2⟩; have HB2 : Aside0 (Below w.heap.size w w2) := ⟨below_step HB1.out hb2⟩; clear hb2))
  all_goals first
    | (go_ret; exact ⟨rfl, Below.refl _ _⟩)
    | (go_ret; exact ⟨rfl, HB2.out⟩)
theorem law2 (a : ByteArray) (c : Int) (b : ByteArray) (w : World) (ha : a.size ≤ 140737488351232) (hb : b.size ≤ 140737488351232) (hc : (Lit.int .u8 c).wf = true) (hV : Vars w) :
    Calls Tryd.prog 3 #[.string a, .int .u8 c, .string b] w fun e w' => e = .returned (.bool true) ∧ Below w.heap.size w w' := by
  have h2 : (decide (IntKind.u8.min ≤ c) && decide (c ≤ IntKind.u8.max)) = true := hc
  rw [Bool.and_eq_true, decide_eq_true_iff, decide_eq_true_iff] at h2
  have e1 : IntKind.u8.min = 0 := by decide
  have e2 : IntKind.u8.max = 255 := by decide
  rw [e1, e2] at h2
  exact law a c b w ha hb h2.1 h2.2 hV
end Go.Proofs.YtlfabebbpoipgaaDoor.WalkB
