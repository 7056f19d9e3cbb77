/- Options.GetAll; Option, OptionAll of a section and of a part, walked. -/
import Derived.Test.YtacndeejapfkiaaDoorHandB
set_option linter.unusedVariables false
set_option linter.unusedSimpArgs false
namespace Go.Proofs.YtacndeejapfkiaaDoor.HandC
open Go.RowKit Go.Proofs.YtacndeejapfkiaaDoorW.PrintWords Go.Proofs.YtacndeejapfkiaaDoorW.PrintLast Go.Proofs.YtacndeejapfkiaaDoorW.PrintMore Go.Proofs.YtacndeejapfkiaaDoor.QAll Txt Ptr SepK HandA HandB

theorem info9s : (Tryd.prog.info? 9).map (fun i => (i.zero, i.size, i.bytes)) = some (some (.string ⟨#[]⟩), 1, 16) := by kernel_rfl
theorem vals_len (l : List S42) (u : ByteArray) : (vals l u).length ≤ l.length := by
  unfold vals
  rw [List.length_map]
  exact List.length_filter_le _ _

set_option maxHeartbeats 4000000 in
set_option maxRecDepth 100000 in
theorem getAll (A : Option Addr) (c : Nat) (l : List S42) (key u : ByteArray) (w : World) (hC : kO.C w A l.length l) (hc : l.length ≤ c) (hl : l.length ≤ 1001) (hw : ∀ o ∈ l, Word o.f0) (hu : Word u) (ha : FoldA key u) :
    Calls Tryd.prog 44 #[.slice A l.length c, .string key] w fun e w' => ∃ v, e = .returned v ∧ Kd.string.R 9 w' w.heap.size (fun _ => True) v (vals l u) ∧ Below w.heap.size w w' := by
  have HC := Aside0.mk hC
  have HW := Aside0.mk hw
  have HU := Aside0.mk hu
  have HA := Aside0.mk ha
  have HL := Aside0.mk hl
  clear hC hw hu ha hl
  go_enter Tryd.func44, Tryd.ntmps44
  go_wp2
  go_loopg [5, 11] l.length (fun gk v5 v11 w' => ∃ (k : Nat) (V : Value), v5 = V ∧ v11 = .int .i64 (k : Int) ∧ Aside0 (k + gk = l.length) ∧ Aside0 (Below w.heap.size w w') ∧ Aside0 (Kd.string.R 9 w' w.heap.size (fun _ => True) V (vals (l.take k) u)))
  case atStart => exact ⟨0, _, rfl, rfl, ⟨by omega⟩, ⟨below_alloc (Below.refl _ _) _⟩, ⟨Kd.R_of_own (xs := []) (own_lit_of (enc := Value.string) w w.heap.size 9 [] (Nat.le_refl _) (by decide)) (fun _ _ => trivial)⟩⟩
  case round =>
    obtain ⟨k, V, hV, rfl, HK, HB, HR⟩ := hrel
    replace hV := hV.symm
    subst hV
    by_cases hlt : k < l.length
    rotate_left
    · have hkn : k = l.length := by have := HK.out; omega
      have hR := HR.out
      rw [hkn, List.take_length] at hR
      have HR2 := Aside0.mk hR
      clear hR
      go_wp2
      go_ret
      exact ⟨_, rfl, HR2.out, HB.out⟩
    obtain ⟨g0, rfl⟩ : ∃ m, gk = m + 1 := ⟨gk - 1, by have := HK.out; omega⟩
    have hk1 : (k : Int) < (l.length : Int) := by omega
    have hk2 : (k : Int) < 1001 := by have := HL.out; omega
    obtain ⟨ad, v, rfl, hK, hcell⟩ := at_ptr z42 rfl (Kd.C_below HC.out HB.out) k hlt
    obtain ⟨g, hv, hg⟩ := kO_open hK
    obtain rfl : v = .pointer (some ⟨g, 0, none⟩) := by simpa using hv
    have hgt := getD_at l z42 k hlt
    generalize l.getD k z42 = o at hK hg hgt hv
    have HI := Aside0.mk (isKey g o.f0 o.f1 key u wr hg (HW.out o (List.mem_of_getElem? hgt)) HU.out HA.out)
    have hc1 : wr.cell? ⟨g, 1, none⟩ = some (.string o.f1) := (blk_cell hg 1).trans rfl
    have HTK : Aside0 (vals (l.take (k + 1)) u = vals (l.take k) u ++ (if o.f0 = u then [o.f1] else [])) := ⟨by rw [List.take_add_one, hgt, vals_append, ← vals_one]; rfl⟩
    have HN : Aside0 ((vals (l.take k) u).length ≤ 1001) := ⟨Nat.le_trans (vals_len _ _) (by rw [List.length_take]; have := HL.out; have := Nat.min_le_right k l.length; omega)⟩
    clear hK hg hgt hv
    by_cases hou : o.f0 = u
    · have hd : decide (o.f0 = u) = true := decide_eq_true hou
      have HTK2 : Aside0 (vals (l.take (k + 1)) u = vals (l.take k) u ++ [o.f1]) := ⟨by rw [HTK.out, if_pos hou]⟩
      clear hou HTK
      go_wp2_with (first
        | (go_at_call 49; (with_reducible refine HI.out.mono ?_); rintro e w1 ⟨rfl, rfl⟩)
        | ((with_reducible refine gate_builtin (b := .append) (xs := #[.tmp 18, .tmp 23]) rfl ?_); at_builtin; refine Kd.R_append Kd.string (w0 := w) w.heap.size rfl (.tmp 18) (.tmp 23) 27 9 (.string ⟨#[]⟩) 16 rfl Tryd.underlying27 info9s rfl (by decide) (by decide) V (vals (l.take k) u) o.f1 [.string o.f1] (fun _ => True) (fun _ => False) rfl ?hx rfl (fun _ h => h.elim) (fun _ _ => trivial) HR.out HB.out HB.out.size ?hlen ?_
           case hx => first | (go_simp; done) | (simp [Act.eval]; done)
           case hlen => have := HN.out; omega
           intro v7 w7 ho7 hb7 hg7 hat7
           have HR7 := Aside0.mk ho7
           have HB7 := Aside0.mk hb7
           clear ho7 hb7 hg7 hat7))
      go_roundg g0
      case measure => omega
      case rel => exact ⟨k + 1, v7, rfl, by push_cast; rfl, ⟨by have := HK.out; omega⟩, HB7, ⟨by rw [HTK2.out]; exact HR7.out⟩⟩
    · have hd : decide (o.f0 = u) = false := decide_eq_false hou
      have HTK2 : Aside0 (vals (l.take (k + 1)) u = vals (l.take k) u) := ⟨by rw [HTK.out, if_neg hou, List.append_nil]⟩
      clear hou HTK
      go_wp2_with (first
        | (go_at_call 49; (with_reducible refine HI.out.mono ?_); rintro e w1 ⟨rfl, rfl⟩))
      go_roundg g0
      case measure => omega
      case rel => exact ⟨k + 1, V, rfl, by push_cast; rfl, ⟨by have := HK.out; omega⟩, HB, ⟨by rw [HTK2.out]; exact HR.out⟩⟩

/-! ### of a section, of a part -/
set_option maxHeartbeats 2000000 in
theorem secOption (g : Nat) (nm : ByteArray) (A : Option Addr) (c : Nat) (V2 : Value) (l : List S42) (key u : ByteArray) (w : World) (hg : w.heap[g]? = some (.cells #[.string nm, .slice A l.length c, V2] 70 (0, 0))) (hC : kO.C w A l.length l) (hc : l.length ≤ c) (hl : l.length ≤ 1001) (hw : ∀ o ∈ l, Word o.f0) (hu : Word u) (ha : FoldA key u) :
    Calls Tryd.prog 28 #[.pointer (some ⟨g, 0, none⟩), .string key] w fun e w' => e = .returned (.string (lastOf l u)) ∧ w' = w := by
  have hcell : w.cell? ⟨g, 1, none⟩ = some (.slice A l.length c) := (blk_cell hg 1).trans rfl
  have HE := Aside0.mk (get A c l key u w hC hc hl hw hu ha)
  clear hg hC hc hl hw hu ha
  go_enter Tryd.func28, Tryd.ntmps28
  go_wp2_with (first | (go_at_call 43; (with_reducible refine HE.out.mono ?_); rintro e w1 ⟨rfl, rfl⟩))
  go_ret
  exact ⟨rfl, rfl⟩
set_option maxHeartbeats 2000000 in
theorem subOption (g : Nat) (nm : ByteArray) (A : Option Addr) (c : Nat) (l : List S42) (key u : ByteArray) (w : World) (hg : w.heap[g]? = some (.cells #[.string nm, .slice A l.length c] 73 (0, 0))) (hC : kO.C w A l.length l) (hc : l.length ≤ c) (hl : l.length ≤ 1001) (hw : ∀ o ∈ l, Word o.f0) (hu : Word u) (ha : FoldA key u) :
    Calls Tryd.prog 31 #[.pointer (some ⟨g, 0, none⟩), .string key] w fun e w' => e = .returned (.string (lastOf l u)) ∧ w' = w := by
  have hcell : w.cell? ⟨g, 1, none⟩ = some (.slice A l.length c) := (blk_cell hg 1).trans rfl
  have HE := Aside0.mk (get A c l key u w hC hc hl hw hu ha)
  clear hg hC hc hl hw hu ha
  go_enter Tryd.func31, Tryd.ntmps31
  go_wp2_with (first | (go_at_call 43; (with_reducible refine HE.out.mono ?_); rintro e w1 ⟨rfl, rfl⟩))
  go_ret
  exact ⟨rfl, rfl⟩
set_option maxHeartbeats 2000000 in
theorem secAll (g : Nat) (nm : ByteArray) (A : Option Addr) (c : Nat) (V2 : Value) (l : List S42) (key u : ByteArray) (w : World) (hg : w.heap[g]? = some (.cells #[.string nm, .slice A l.length c, V2] 70 (0, 0))) (hC : kO.C w A l.length l) (hc : l.length ≤ c) (hl : l.length ≤ 1001) (hw : ∀ o ∈ l, Word o.f0) (hu : Word u) (ha : FoldA key u) :
    Calls Tryd.prog 29 #[.pointer (some ⟨g, 0, none⟩), .string key] w fun e w' => ∃ v, e = .returned v ∧ Kd.string.R 9 w' w.heap.size (fun _ => True) v (vals l u) ∧ Below w.heap.size w w' := by
  have hcell : w.cell? ⟨g, 1, none⟩ = some (.slice A l.length c) := (blk_cell hg 1).trans rfl
  have HE := Aside0.mk (getAll A c l key u w hC hc hl hw hu ha)
  clear hg hC hc hl hw hu ha
  go_enter Tryd.func29, Tryd.ntmps29
  go_wp2_with (first | (go_at_call 44; (with_reducible refine HE.out.mono ?_); rintro e w1 ⟨v, rfl, hr, hb⟩; have HR := Aside0.mk hr; have HB := Aside0.mk hb; clear hr hb))
  go_ret
  exact ⟨v, rfl, HR.out, HB.out⟩
set_option maxHeartbeats 2000000 in
theorem subAll (g : Nat) (nm : ByteArray) (A : Option Addr) (c : Nat) (l : List S42) (key u : ByteArray) (w : World) (hg : w.heap[g]? = some (.cells #[.string nm, .slice A l.length c] 73 (0, 0))) (hC : kO.C w A l.length l) (hc : l.length ≤ c) (hl : l.length ≤ 1001) (hw : ∀ o ∈ l, Word o.f0) (hu : Word u) (ha : FoldA key u) :
    Calls Tryd.prog 32 #[.pointer (some ⟨g, 0, none⟩), .string key] w fun e w' => ∃ v, e = .returned v ∧ Kd.string.R 9 w' w.heap.size (fun _ => True) v (vals l u) ∧ Below w.heap.size w w' := by
  have hcell : w.cell? ⟨g, 1, none⟩ = some (.slice A l.length c) := (blk_cell hg 1).trans rfl
  have HE := Aside0.mk (getAll A c l key u w hC hc hl hw hu ha)
  clear hg hC hc hl hw hu ha
  go_enter Tryd.func32, Tryd.ntmps32
  go_wp2_with (first | (go_at_call 44; (with_reducible refine HE.out.mono ?_); rintro e w1 ⟨v, rfl, hr, hb⟩; have HR := Aside0.mk hr; have HB := Aside0.mk hb; clear hr hb))
  go_ret
  exact ⟨v, rfl, HR.out, HB.out⟩
#print axioms getAll
end Go.Proofs.YtacndeejapfkiaaDoor.HandC
