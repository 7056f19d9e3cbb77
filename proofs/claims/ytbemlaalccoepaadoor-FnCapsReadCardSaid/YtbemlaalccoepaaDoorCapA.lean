/- The maps that are written out: known, requiresArgument, multipleArgument. -/
import Derived.Test.YtbemlaalccoepaaDoorSMap
import Derived.Test.YtbemlaalccoepaaDoorQAllx4
set_option linter.unusedVariables false
set_option linter.unusedSimpArgs false
namespace Go.Proofs.YtbemlaalccoepaaDoor.CapA
open Go.RowKit Go.Proofs.YtbemlaalccoepaaDoorW.PrintWords Go.Proofs.YtbemlaalccoepaaDoorW.PrintLast Go.Proofs.YtbemlaalccoepaaDoor.QAll Txt SMap
/-- One more into a map of texts that is written out. -/
theorem wpList_ins {P : Program} {w : World} {ops : Array Oper} {rest : List Oper} {o : Oper} {a : Act} {Q : Exit → Act → World → Prop} (hg : o.guard = none) (t : TypeId) (m : Operand) (s : ByteArray) (v : Value) (x y : Operand) (hop : o.op = Op.insert t m x y) (hx : a.eval x = .string s) (hy : a.eval y = v)
    (k e : TypeId) (ht : P.underlying t = some (.map k e)) (hk : P.underlying k = some .string) (b : Nat) (kv : List (ByteArray × Value)) (hm : a.eval m = .map (some b)) (h : MapIs w b kv) (hno : kv.all (fun p => !(p.1.data.toList == s.data.toList)) = true)
    (hK : ∀ w', MapIs w' b (kv ++ [(s, v)]) → MapFar w w' b → wpList P ops Q rest (a.put o.dst undef) w') : wpList P ops Q (o :: rest) a w := by
  refine wpList_plain hg fun K' hK' => ?_
  have hno' : ∀ p ∈ kv, p.1 ≠ s := by
    intro p hp e
    have := List.all_eq_true.1 hno p hp
    rw [e] at this
    simp at this
  obtain ⟨w', hrun, h1, h2⟩ := run_new ht hk h hno' v
  unfold Oper.wp
  simp [execOp, hop, hm, hx, hy, hrun, Result.andThen]
  exact hK' _ _ (hK w' h1 h2)
def isIn (l : List ByteArray) (c : ByteArray) : Bool := l.any fun s => s.data.toList == c.data.toList
theorem isIn_iff {l : List ByteArray} {c : ByteArray} : isIn l c = true ↔ c ∈ l := by
  unfold isIn
  rw [List.any_eq_true]
  constructor
  · rintro ⟨s, hs, e⟩
    have : s = c := by
      cases s; cases c
      rw [beq_iff_eq] at e
      exact congrArg ByteArray.mk (Array.toList_inj.1 e)
    exact this ▸ hs
  · intro h
    exact ⟨c, h, by simp⟩
theorem wpList_look {P : Program} {w : World} {ops : Array Oper} {rest : List Oper} {o : Oper} {a : Act} {Q : Exit → Act → World → Prop} (hg : o.guard = none) (t : TypeId) (m x : Operand) (c : ByteArray) (hop : o.op = Op.lookup t m x false) (hx : a.eval x = .string c)
    (k e : TypeId) (ht : P.underlying t = some (.map k e)) (hk : P.underlying k = some .string) (hz : ∀ w : World, (zeroValue e).run P w = .ok (.bool false) w) (b : Nat) (kv : List (ByteArray × Value)) (hm : a.eval m = .map (some b)) (h : MapIs w b kv) (l : List ByteArray) (hl : kv = l.map fun s => (s, .bool true))
    (hK : wpList P ops Q rest (a.put o.dst (.bool (isIn l c))) w) : wpList P ops Q (o :: rest) a w := by
  refine wpList_plain hg fun K' hK' => ?_
  have hrun : (Instr.lookup t (.map (some b)) (.string c) false).run P w = .ok (.bool (isIn l c)) w := by
    by_cases hc : c ∈ l
    · rw [isIn_iff.2 hc]
      refine run_hit ht hk h ⟨(c, .bool true), by rw [hl]; exact List.mem_map.2 ⟨c, hc, rfl⟩, rfl⟩ (fun p hp e => ?_) false
      rw [hl] at hp
      obtain ⟨s, _, rfl⟩ := List.mem_map.1 hp
      rfl
    · rw [show isIn l c = false from by rw [← Bool.not_eq_true, isIn_iff]; exact hc]
      refine run_miss ht hk h (fun p hp e => ?_) (hz w) false
      rw [hl] at hp
      obtain ⟨s, hs, rfl⟩ := List.mem_map.1 hp
      exact hc (e ▸ hs)
  unfold Oper.wp
  simp [execOp, hop, hm, hx, hrun, Result.andThen]
  exact hK' _ _ hK
theorem mapIs_new (w : World) (n : Nat) : MapIs (w.alloc (.map #[] n)) w.heap.size [] := ⟨#[], n, blk_new _ _, rfl⟩
theorem MapFar.refl (w : World) (m : Nat) : MapFar w w m := ⟨rfl, rfl, rfl, rfl, fun _ _ => rfl⟩
theorem MapFar.trans {w w1 w2 : World} {m : Nat} (h : MapFar w w1 m) (g : MapFar w1 w2 m) : MapFar w w2 m :=
  ⟨g.os.trans h.os, g.tape.trans h.tape, g.output.trans h.output, g.size.trans h.size, fun k hk => (g.blk k hk).trans (h.blk k hk)⟩
theorem MapFar.below {w w1 : World} {m n : Nat} (h : MapFar w w1 m) (hm : n ≤ m) : Below n w w1 :=
  ⟨h.os, h.tape, h.output, by have := h.size; omega, fun k hk => h.blk k (by omega)⟩

def knownNames : List ByteArray := [(⟨#[109, 117, 108, 116, 105, 95, 97, 99, 107]⟩ : ByteArray), (⟨#[109, 117, 108, 116, 105, 95, 97, 99, 107, 95, 100, 101, 116, 97, 105, 108, 101, 100]⟩ : ByteArray), (⟨#[110, 111, 45, 100, 111, 110, 101]⟩ : ByteArray), (⟨#[116, 104, 105, 110, 45, 112, 97, 99, 107]⟩ : ByteArray), (⟨#[115, 105, 100, 101, 45, 98, 97, 110, 100]⟩ : ByteArray), (⟨#[115, 105, 100, 101, 45, 98, 97, 110, 100, 45, 54, 52, 107]⟩ : ByteArray), (⟨#[111, 102, 115, 45, 100, 101, 108, 116, 97]⟩ : ByteArray), (⟨#[97, 103, 101, 110, 116]⟩ : ByteArray), (⟨#[115, 104, 97, 108, 108, 111, 119]⟩ : ByteArray), (⟨#[100, 101, 101, 112, 101, 110, 45, 115, 105, 110, 99, 101]⟩ : ByteArray), (⟨#[100, 101, 101, 112, 101, 110, 45, 110, 111, 116]⟩ : ByteArray), (⟨#[100, 101, 101, 112, 101, 110, 45, 114, 101, 108, 97, 116, 105, 118, 101]⟩ : ByteArray), (⟨#[110, 111, 45, 112, 114, 111, 103, 114, 101, 115, 115]⟩ : ByteArray), (⟨#[105, 110, 99, 108, 117, 100, 101, 45, 116, 97, 103]⟩ : ByteArray), (⟨#[114, 101, 112, 111, 114, 116, 45, 115, 116, 97, 116, 117, 115]⟩ : ByteArray), (⟨#[100, 101, 108, 101, 116, 101, 45, 114, 101, 102, 115]⟩ : ByteArray), (⟨#[113, 117, 105, 101, 116]⟩ : ByteArray), (⟨#[97, 116, 111, 109, 105, 99]⟩ : ByteArray), (⟨#[112, 117, 115, 104, 45, 111, 112, 116, 105, 111, 110, 115]⟩ : ByteArray), (⟨#[97, 108, 108, 111, 119, 45, 116, 105, 112, 45, 115, 104, 97, 49, 45, 105, 110, 45, 119, 97, 110, 116]⟩ : ByteArray), (⟨#[97, 108, 108, 111, 119, 45, 114, 101, 97, 99, 104, 97, 98, 108, 101, 45, 115, 104, 97, 49, 45, 105, 110, 45, 119, 97, 110, 116]⟩ : ByteArray), (⟨#[112, 117, 115, 104, 45, 99, 101, 114, 116]⟩ : ByteArray), (⟨#[115, 121, 109, 114, 101, 102]⟩ : ByteArray), (⟨#[111, 98, 106, 101, 99, 116, 45, 102, 111, 114, 109, 97, 116]⟩ : ByteArray), (⟨#[102, 105, 108, 116, 101, 114]⟩ : ByteArray)]
set_option maxHeartbeats 4000000 in
set_option maxRecDepth 100000 in
theorem known (c : ByteArray) (w : World) : Calls Tryd.prog 45 #[.string c] w fun e w' => e = .returned (.bool (isIn knownNames c)) ∧ Below w.heap.size w w' := by
  have hm0 := mapIs_new w 0
  have hf0 := MapFar.refl (w.alloc (.map #[] 0)) w.heap.size
  have HB0 : Aside0 (Below w.heap.size w (w.alloc (.map #[] 0))) := ⟨below_alloc (Below.refl _ _) _⟩
  have hz : ∀ w : World, (zeroValue 4).run Tryd.prog w = .ok (.bool false) w := fun w => by kernel_rfl
  have hmm : (Instr.makeMap 105 none).run Tryd.prog w = .ok (.map (some w.heap.size)) (w.alloc (.map #[] 0)) := run_makeMap 105 w
  generalize w.alloc (.map #[] 0) = wa at hm0 hf0 HB0 hmm
  go_enter Tryd.func45, Tryd.ntmps45
  go_wp2_with (first
    | (refine wpList_ins rfl 105 (.tmp 3) _ _ _ _ rfl rfl rfl 44 4 Tryd.underlying105 Tryd.underlying44 w.heap.size _ rfl hm0 (by kernel_rfl) ?_; clear hm0; intro wn hm0 hg0; replace hf0 := MapFar.trans hf0 hg0; clear hg0)
    | (refine wpList_look rfl 105 (.tmp 4) (.tmp 5) c rfl rfl 44 4 Tryd.underlying105 Tryd.underlying44 hz w.heap.size _ rfl hm0 knownNames (by kernel_rfl) ?_))

  go_ret
  exact ⟨rfl, HB0.out.trans (MapFar.below hf0 (Nat.le_refl _))⟩
def requiresNames : List ByteArray := [(⟨#[97, 103, 101, 110, 116]⟩ : ByteArray), (⟨#[112, 117, 115, 104, 45, 99, 101, 114, 116]⟩ : ByteArray), (⟨#[115, 121, 109, 114, 101, 102]⟩ : ByteArray), (⟨#[111, 98, 106, 101, 99, 116, 45, 102, 111, 114, 109, 97, 116]⟩ : ByteArray)]
set_option maxHeartbeats 4000000 in
set_option maxRecDepth 100000 in
theorem requires (c : ByteArray) (w : World) : Calls Tryd.prog 58 #[.string c] w fun e w' => e = .returned (.bool (isIn requiresNames c)) ∧ Below w.heap.size w w' := by
  have hm0 := mapIs_new w 0
  have hf0 := MapFar.refl (w.alloc (.map #[] 0)) w.heap.size
  have HB0 : Aside0 (Below w.heap.size w (w.alloc (.map #[] 0))) := ⟨below_alloc (Below.refl _ _) _⟩
  have hz : ∀ w : World, (zeroValue 4).run Tryd.prog w = .ok (.bool false) w := fun w => by kernel_rfl
  have hmm : (Instr.makeMap 105 none).run Tryd.prog w = .ok (.map (some w.heap.size)) (w.alloc (.map #[] 0)) := run_makeMap 105 w
  generalize w.alloc (.map #[] 0) = wa at hm0 hf0 HB0 hmm
  go_enter Tryd.func58, Tryd.ntmps58
  go_wp2_with (first
    | (refine wpList_ins rfl 105 (.tmp 3) _ _ _ _ rfl rfl rfl 44 4 Tryd.underlying105 Tryd.underlying44 w.heap.size _ rfl hm0 (by kernel_rfl) ?_; clear hm0; intro wn hm0 hg0; replace hf0 := MapFar.trans hf0 hg0; clear hg0)
    | (refine wpList_look rfl 105 (.tmp 4) (.tmp 5) c rfl rfl 44 4 Tryd.underlying105 Tryd.underlying44 hz w.heap.size _ rfl hm0 requiresNames (by kernel_rfl) ?_))

  go_ret
  exact ⟨rfl, HB0.out.trans (MapFar.below hf0 (Nat.le_refl _))⟩
def multipleNames : List ByteArray := [(⟨#[115, 121, 109, 114, 101, 102]⟩ : ByteArray)]
set_option maxHeartbeats 4000000 in
set_option maxRecDepth 100000 in
theorem multiple (c : ByteArray) (w : World) : Calls Tryd.prog 46 #[.string c] w fun e w' => e = .returned (.bool (isIn multipleNames c)) ∧ Below w.heap.size w w' := by
  have hm0 := mapIs_new w 0
  have hf0 := MapFar.refl (w.alloc (.map #[] 0)) w.heap.size
  have HB0 : Aside0 (Below w.heap.size w (w.alloc (.map #[] 0))) := ⟨below_alloc (Below.refl _ _) _⟩
  have hz : ∀ w : World, (zeroValue 4).run Tryd.prog w = .ok (.bool false) w := fun w => by kernel_rfl
  have hmm : (Instr.makeMap 105 none).run Tryd.prog w = .ok (.map (some w.heap.size)) (w.alloc (.map #[] 0)) := run_makeMap 105 w
  generalize w.alloc (.map #[] 0) = wa at hm0 hf0 HB0 hmm
  go_enter Tryd.func46, Tryd.ntmps46
  go_wp2_with (first
    | (refine wpList_ins rfl 105 (.tmp 3) _ _ _ _ rfl rfl rfl 44 4 Tryd.underlying105 Tryd.underlying44 w.heap.size _ rfl hm0 (by kernel_rfl) ?_; clear hm0; intro wn hm0 hg0; replace hf0 := MapFar.trans hf0 hg0; clear hg0)
    | (refine wpList_look rfl 105 (.tmp 4) (.tmp 5) c rfl rfl 44 4 Tryd.underlying105 Tryd.underlying44 hz w.heap.size _ rfl hm0 multipleNames (by kernel_rfl) ?_))

  go_ret
  exact ⟨rfl, HB0.out.trans (MapFar.below hf0 (Nat.le_refl _))⟩
end Go.Proofs.YtbemlaalccoepaaDoor.CapA
