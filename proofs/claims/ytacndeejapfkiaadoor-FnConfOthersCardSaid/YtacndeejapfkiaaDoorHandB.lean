/- The kinds of a configuration; names, keys; Options.Get, walked. -/
import Derived.Test.YtacndeejapfkiaaDoorHandA
import Derived.Test.YtacndeejapfkiaaDoorSep
set_option linter.unusedVariables false
set_option linter.unusedSimpArgs false
namespace Go.Proofs.YtacndeejapfkiaaDoor.HandB
open Go.RowKit Go.Proofs.YtacndeejapfkiaaDoorW.PrintWords Go.Proofs.YtacndeejapfkiaaDoorW.PrintLast Go.Proofs.YtacndeejapfkiaaDoorW.PrintMore Go.Proofs.YtacndeejapfkiaaDoor.QAll Txt Ptr SepK HandA

/-- A pointer to an option. -/
def kO : Kd S42 := ptr 82 k42
def kSub : Kd S46 := Kd.iso (Kd.pair Kd.string (Kd.slice 81 kO)) (fun x : S46 => (x.f0, x.f1))
/-- A pointer to a part of a section. -/
def kB : Kd S46 := ptr 73 kSub
def kSec : Kd S36 := Kd.iso (Kd.pair Kd.string (psep (Kd.slice 81 kO) (sep 56 kB))) (fun x : S36 => (x.f0, x.f1, x.f2))
/-- A pointer to a section. -/
def kS : Kd S36 := ptr 70 kSec
theorem kO_open {w : World} {x : S42} {cs : List Value} (h : kO.K w x cs) : ∃ g, cs = [.pointer (some ⟨g, 0, none⟩)] ∧ w.heap[g]? = some (.cells #[.string x.f0, .string x.f1] 82 (0, 0)) := by
  obtain ⟨g, cells, rfl, hg, hd⟩ := h
  have e := k42_open hd
  have e2 : cells = #[.string x.f0, .string x.f1] := by rw [← e]
  rw [e2] at hg
  exact ⟨g, rfl, hg⟩
theorem kB_open {w : World} {x : S46} {cs : List Value} (h : kB.K w x cs) : ∃ g A c, cs = [.pointer (some ⟨g, 0, none⟩)] ∧ w.heap[g]? = some (.cells #[.string x.f0, .slice A x.f1.length c] 73 (0, 0)) ∧ x.f1.length ≤ c ∧ kO.C w A x.f1.length x.f1 := by
  obtain ⟨g, cells, rfl, hg, hd⟩ := h
  obtain ⟨c0, c1, e, h0, A, c, rfl, hl, hC⟩ := hd
  have h0' : c0 = [.string x.f0] := h0
  subst h0'
  have e2 : cells = #[.string x.f0, .slice A x.f1.length c] := by
    have : cells.toList = [.string x.f0, .slice A x.f1.length c] := e
    rw [← this]
  rw [e2] at hg
  exact ⟨g, A, c, rfl, hg, hl, hC⟩
theorem kS_open {w : World} {x : S36} {cs : List Value} (h : kS.K w x cs) : ∃ g A c B b, cs = [.pointer (some ⟨g, 0, none⟩)] ∧ w.heap[g]? = some (.cells #[.string x.f0, .slice A x.f1.length c, .slice B x.f2.length b] 70 (0, 0)) ∧ x.f1.length ≤ c ∧ kO.C w A x.f1.length x.f1 ∧ x.f2.length ≤ b ∧ kB.C w B x.f2.length x.f2 := by
  obtain ⟨g, cells, rfl, hg, hd⟩ := h
  obtain ⟨c0, c1, e, h0, c2, c3, rfl, ⟨A, c, rfl, hl, hC⟩, ⟨B, b, rfl, hl2, hC2⟩⟩ := hd
  have h0' : c0 = [.string x.f0] := h0
  subst h0'
  have e2 : cells = #[.string x.f0, .slice A x.f1.length c, .slice B x.f2.length b] := by
    have : cells.toList = [.string x.f0, .slice A x.f1.length c, .slice B x.f2.length b] := e
    rw [← this]
  rw [e2] at hg
  exact ⟨g, A, c, B, b, rfl, hg, hl, hC, hl2, hC2⟩
/-- Element k of a row of pointers. -/
theorem at_ptr {α : Type} {d : Kd α} {w : World} {A : Option Addr} {n : Nat} {xs : List α} (z : α) (hs : d.sz = 1) (h : d.C w A n xs) (k : Nat) (hk : k < n) : ∃ ad v, A = some ad ∧ d.K w (xs.getD k z) [v] ∧ w.cell? (ad.add k) = some v := by
  obtain ⟨ad, cs, e, hl, hK, hr⟩ := Kd.C_get h z (k : Int) (by omega) (by omega)
  rw [Int.toNat_natCast, hs, Nat.mul_one] at hr
  rw [Int.toNat_natCast] at hK
  match cs, hl.trans hs with
  | [v], _ =>
    have := hr 0 v rfl
    exact ⟨ad, v, e, hK, by simpa using this⟩
theorem getD_at {α : Type} (l : List α) (z : α) (k : Nat) (hk : k < l.length) : l[k]? = some (l.getD k z) := by
  rw [List.getD_eq_getElem?_getD, List.getElem?_eq_getElem hk]
  rfl

/-! ### names -/
set_option maxHeartbeats 2000000 in
theorem isKey (g : Nat) (k v key u : ByteArray) (w : World) (hg : w.heap[g]? = some (.cells #[.string k, .string v] 82 (0, 0))) (hk : Word k) (hu : Word u) (ha : FoldA key u) :
    Calls Tryd.prog 49 #[.pointer (some ⟨g, 0, none⟩), .string key] w fun e w' => e = .returned (.bool (decide (k = u))) ∧ w' = w := by
  have hc : w.cell? ⟨g, 0, none⟩ = some (.string k) := (blk_cell hg 0).trans rfl
  have HE := Aside0.mk (equalFold k key u w hk hu ha)
  clear hg hk hu ha
  go_enter Tryd.func49, Tryd.ntmps49
  go_wp2_with (first | (go_at_call 48; (with_reducible refine HE.out.mono ?_); rintro e w1 ⟨rfl, rfl⟩))
  go_ret
  exact ⟨rfl, rfl⟩
set_option maxHeartbeats 2000000 in
theorem secName (g : Nat) (k key u : ByteArray) (V1 V2 : Value) (w : World) (hg : w.heap[g]? = some (.cells #[.string k, V1, V2] 70 (0, 0))) (hk : Word k) (hu : Word u) (ha : FoldA key u) :
    Calls Tryd.prog 42 #[.pointer (some ⟨g, 0, none⟩), .string key] w fun e w' => e = .returned (.bool (decide (k = u))) ∧ w' = w := by
  have hc : w.cell? ⟨g, 0, none⟩ = some (.string k) := (blk_cell hg 0).trans rfl
  have HE := Aside0.mk (equalFold k key u w hk hu ha)
  clear hg hk hu ha
  go_enter Tryd.func42, Tryd.ntmps42
  go_wp2_with (first | (go_at_call 48; (with_reducible refine HE.out.mono ?_); rintro e w1 ⟨rfl, rfl⟩))
  go_ret
  exact ⟨rfl, rfl⟩
set_option maxHeartbeats 2000000 in
theorem subName (g : Nat) (k key : ByteArray) (V1 : Value) (w : World) (hg : w.heap[g]? = some (.cells #[.string k, V1] 73 (0, 0))) :
    Calls Tryd.prog 45 #[.pointer (some ⟨g, 0, none⟩), .string key] w fun e w' => e = .returned (.bool (decide (k = key))) ∧ w' = w := by
  have hc : w.cell? ⟨g, 0, none⟩ = some (.string k) := (blk_cell hg 0).trans rfl
  clear hg
  have e : (k.toList == key.toList) = decide (k = key) := by
    by_cases h : k = key
    · subst h; simp
    · have : k.toList ≠ key.toList := fun e => h (ba_ext e)
      simp [h, this]
  go_enter Tryd.func45, Tryd.ntmps45
  go_wp2
  go_ret
  exact ⟨rfl, rfl⟩

/-! ### values -/
def vals (l : List S42) (u : ByteArray) : List ByteArray := (l.filter fun o => decide (o.f0 = u)).map (·.f1)
def lastOf (l : List S42) (u : ByteArray) : ByteArray := (vals l u).getLast?.getD ⟨#[]⟩
theorem vals_nil (u : ByteArray) : vals [] u = [] := rfl
theorem vals_append (l m : List S42) (u : ByteArray) : vals (l ++ m) u = vals l u ++ vals m u := by
  unfold vals
  rw [List.filter_append, List.map_append]
theorem vals_one (o : S42) (u : ByteArray) : vals [o] u = if o.f0 = u then [o.f1] else [] := by
  unfold vals
  by_cases h : o.f0 = u <;> simp [h]
theorem drop_at {α : Type} {l : List α} {k : Nat} {x : α} (h : l[k]? = some x) : l.drop k = x :: l.drop (k + 1) := by
  obtain ⟨h1, h2⟩ := List.getElem?_eq_some_iff.1 h
  rw [List.drop_eq_getElem_cons h1, h2]
theorem lastOf_found {l : List S42} {u : ByteArray} {k : Nat} {o : S42} (h : l[k]? = some o) (hm : o.f0 = u) (hr : vals (l.drop (k + 1)) u = []) : lastOf l u = o.f1 := by
  have e : l = l.take k ++ ([o] ++ l.drop (k + 1)) := by
    rw [List.singleton_append, ← drop_at h, List.take_append_drop]
  unfold lastOf
  rw [e, vals_append, vals_append, vals_one, if_pos hm, hr]
  simp

set_option maxHeartbeats 4000000 in
set_option maxRecDepth 100000 in
theorem get (A : Option Addr) (c : Nat) (l : List S42) (key u : ByteArray) (w : World) (hC : kO.C w A l.length l) (hc : l.length ≤ c) (hl : l.length ≤ 1001) (hw : ∀ o ∈ l, Word o.f0) (hu : Word u) (ha : FoldA key u) :
    Calls Tryd.prog 43 #[.slice A l.length c, .string key] w fun e w' => e = .returned (.string (lastOf l u)) ∧ w' = w := by
  have HC := Aside0.mk hC
  have HW := Aside0.mk hw
  have HU := Aside0.mk hu
  have HA := Aside0.mk ha
  have hl1 : (l.length : Int) ≤ 1001 := by omega
  clear hC hw hu ha hl
  go_enter Tryd.func43, Tryd.ntmps43
  go_wp2
  go_loopg [5] l.length (fun gk v5 w' => ∃ z : Int, v5 = .int .i64 z ∧ Aside0 (z = (gk : Int) - 1) ∧ Aside0 (gk ≤ l.length) ∧ Aside0 (vals (l.drop gk) u = []) ∧ w' = w)
  case atStart => exact ⟨_, rfl, ⟨rfl⟩, ⟨Nat.le_refl _⟩, ⟨by rw [List.drop_length]; rfl⟩, rfl⟩
  case round =>
    obtain ⟨z, rfl, HZ, HK, HV, rfl⟩ := hrel
    cases gk with
    | zero =>
      obtain rfl : z = -1 := by have := HZ.out; omega
      have hv := HV.out
      rw [List.drop_zero] at hv
      have HV2 : Aside0 (lastOf l u = ⟨#[]⟩) := ⟨by unfold lastOf; rw [hv]; rfl⟩
      clear hv
      go_wp2
      go_ret
      exact ⟨by rw [HV2.out]; rfl, rfl⟩
    | succ m =>
      obtain rfl : z = (m : Int) := by have := HZ.out; omega
      have hm : m < l.length := by have := HK.out; omega
      have hm1 : (m : Int) < (l.length : Int) := by omega
      obtain ⟨ad, v, rfl, hK, hcell⟩ := at_ptr z42 rfl HC.out m hm
      obtain ⟨g, hv, hg⟩ := kO_open hK
      obtain rfl : v = .pointer (some ⟨g, 0, none⟩) := by simpa using hv
      have hgt := getD_at l z42 m hm
      generalize l.getD m z42 = o at hK hg hgt hv
      have HI := Aside0.mk (isKey g o.f0 o.f1 key u wr hg (HW.out o (List.mem_of_getElem? hgt)) HU.out HA.out)
      have hc1 : wr.cell? ⟨g, 1, none⟩ = some (.string o.f1) := (blk_cell hg 1).trans rfl
      have HG := Aside0.mk hgt
      clear hK hg hgt hv
      by_cases hou : o.f0 = u
      · have hd : decide (o.f0 = u) = true := decide_eq_true hou
        have HR : Aside0 (lastOf l u = o.f1) := ⟨lastOf_found HG.out hou HV.out⟩
        clear hou
        go_wp2_with (first | (go_at_call 49; (with_reducible refine HI.out.mono ?_); rintro e w1 ⟨rfl, rfl⟩))
        go_ret
        exact ⟨by rw [HR.out]; rfl, rfl⟩
      · have hd : decide (o.f0 = u) = false := decide_eq_false hou
        have HR : Aside0 (vals (l.drop m) u = []) := ⟨by rw [drop_at HG.out, ← List.singleton_append, vals_append, vals_one, if_neg hou, HV.out]; rfl⟩
        have hwz : wrap64 ((m : Int) - 1) = (m : Int) - 1 := by unfold wrap64; omega
        clear hou
        go_wp2_with (first | (go_at_call 49; (with_reducible refine HI.out.mono ?_); rintro e w1 ⟨rfl, rfl⟩))
        go_roundg m
        case measure => omega
        case rel => exact ⟨_, rfl, ⟨rfl⟩, ⟨by have := HK.out; omega⟩, HR, rfl⟩
#print axioms get
end Go.Proofs.YtacndeejapfkiaaDoor.HandB
