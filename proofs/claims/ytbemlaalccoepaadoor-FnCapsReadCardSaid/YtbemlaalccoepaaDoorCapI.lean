/- capability.List.String, walked. spec.CapsText, walked. Plain laws of capabilities. -/
import Derived.Test.YtbemlaalccoepaaDoorCapG
import Derived.Test.YtbemlaalccoepaaDoorShelf
set_option linter.unusedVariables false
set_option linter.unusedSimpArgs false
namespace Go.Proofs.YtbemlaalccoepaaDoor.CapI
open Go.RowKit Go.Proofs.YtbemlaalccoepaaDoorW.PrintWords Go.Proofs.YtbemlaalccoepaaDoorW.PrintLast Go.Proofs.YtbemlaalccoepaaDoorW.PrintMore Go.Proofs.YtbemlaalccoepaaDoor.QAll Txt SMap CapA Ptr CapB CapC CapD CapE CapF CapG CapH

/-- A name with a value. -/
def valued (c v : ByteArray) : ByteArray := (c ++ (⟨#[61]⟩ : ByteArray)) ++ v
def capWords (s : S27) : List ByteArray := if s.f1.length = 0 then [s.f0] else s.f1.map (valued s.f0)
def words (l : List S27) : List ByteArray := l.flatMap capWords
def joined (xs : List ByteArray) : ByteArray := ⟨(Lib.join (xs.map (·.data.toList)) [32]).toArray⟩
structure Sized (l : List S27) : Prop where
  n : l.length ≤ 60
  f0 : ∀ s ∈ l, s.f0.size ≤ 100
  f1 : ∀ s ∈ l, s.f1.length ≤ 60
  fv : ∀ s ∈ l, ∀ v ∈ s.f1, v.size ≤ 100
theorem words_snoc (l : List S27) (s : S27) : words (l ++ [s]) = words l ++ capWords s := by
  unfold words
  rw [List.flatMap_append]
  simp
theorem capWords_len {l : List S27} (h : Sized l) {s : S27} (hs : s ∈ l) : (capWords s).length ≤ 60 := by
  unfold capWords
  split
  · simp
  · rw [List.length_map]; exact h.f1 s hs
theorem words_len {l : List S27} (h : Sized l) : (words l).length ≤ 60 * l.length := by
  have key : ∀ m : List S27, (∀ s ∈ m, s ∈ l) → (words m).length ≤ 60 * m.length := by
    intro m
    induction m with
    | nil => intro _; simp [words]
    | cons a m ih =>
      intro hm
      have h1 := capWords_len h (hm a (by simp))
      have h2 := ih (fun s hs => hm s (by simp [hs]))
      unfold words at *
      rw [List.flatMap_cons, List.length_append, List.length_cons]
      omega
  exact key l (fun _ h => h)
theorem Sized.take {l : List S27} (h : Sized l) (k : Nat) : Sized (l.take k) :=
  ⟨by rw [List.length_take]; have := h.n; omega, fun s hs => h.f0 s (List.mem_of_mem_take hs), fun s hs => h.f1 s (List.mem_of_mem_take hs), fun s hs => h.fv s (List.mem_of_mem_take hs)⟩
theorem word_size {l : List S27} (h : Sized l) : ∀ x ∈ words l, x.size ≤ 300 := by
  intro x hx
  obtain ⟨s, hs, hx⟩ := List.mem_flatMap.1 hx
  have h0 := h.f0 s hs
  unfold capWords at hx
  split at hx
  · rw [List.mem_singleton.1 hx]; omega
  · obtain ⟨v, hv, rfl⟩ := List.mem_map.1 hx
    have := h.fv s hs v hv
    unfold valued
    rw [ByteArray.size_append, ByteArray.size_append, show (⟨#[61]⟩ : ByteArray).size = 1 from rfl]
    omega
theorem join_cons (a b : List UInt8) (m : List (List UInt8)) (x : List UInt8) : Lib.join (a :: b :: m) x = a ++ x ++ Lib.join (b :: m) x := by
  unfold Lib.join List.intercalate
  simp [List.intersperse]
theorem join_len (xs : List ByteArray) (h : ∀ x ∈ xs, x.size ≤ 300) : (Lib.join (xs.map (·.data.toList)) [32]).length ≤ 301 * xs.length := by
  induction xs with
  | nil => simp [Lib.join]
  | cons a m ih =>
    have h0 : a.data.toList.length ≤ 300 := by rw [Array.length_toList]; exact h a (by simp)
    cases m with
    | nil => simp [Lib.join]; have := h a (by simp); omega
    | cons b m =>
      have := ih (fun x hx => h x (by simp [hx]))
      simp only [List.map_cons, join_cons, List.length_append, List.length_cons, List.length_nil] at this ⊢
      omega
set_option maxHeartbeats 16000000 in
set_option maxRecDepth 100000 in
theorem capsString (lb mb b0 : Nat) (G : Nat → Nat) (L : List Ent) (V : Value) (w : World) (hL : LSt w b0 lb mb G L V (L.map Ent.n)) (hs : Sized (L.map Ent.cap)) :
    Calls Tryd.prog 17 #[.pointer (some ⟨lb, 0, none⟩)] w fun e w' => e = .returned (.string (joined (words (L.map Ent.cap)))) ∧ Below w.heap.size w w' := by
  obtain ⟨A, cp, rfl⟩ := Kd.R_slice hL.hs
  have hNM : Kd.string.C w A L.length (L.map Ent.n) := by have := (Kd.R_reads' hL.hs).2.2; rwa [List.length_map] at this
  rw [List.length_map] at hL
  have hcv : w.cell? ⟨lb, 1, none⟩ = some (.slice A L.length cp) := (blk_cell hL.hl 1).trans rfl
  have HL := Aside0.mk hL
  have HNM := Aside0.mk hNM
  have HS := Aside0.mk hs
  have HN : Aside0 (L.length ≤ 60) := ⟨by have := hs.n; rwa [List.length_map] at this⟩
  clear hL hNM hs
  go_enter Tryd.func17, Tryd.ntmps17
  go_upto_region 3 with fail
  clear hcv
  go_wp2
  go_loopg [3, 14] L.length (fun gk v3 v14 w' => ∃ (k : Nat) (O : Value), v3 = O ∧ v14 = .int .i64 (k : Int) ∧ Aside0 (k + gk = L.length) ∧ Aside0 (Below w.heap.size w w') ∧ Aside0 (Kd.string.R 9 w' w.heap.size (fun _ => True) O (words ((L.take k).map Ent.cap))))
  case atStart => exact ⟨0, _, rfl, rfl, ⟨by omega⟩, ⟨Below.refl _ _⟩, ⟨Kd.R_nil _ _ _ _ _⟩⟩
  case round =>
    obtain ⟨k, O, hO, rfl, HK, HB, HO⟩ := hrel
    replace hO := hO.symm
    subst hO
    by_cases hlt : k < L.length
    rotate_left
    · obtain rfl : k = L.length := by have := HK.out; omega
      have hR := HO.out
      rw [List.take_length] at hR
      have HWN := words_len HS.out
      rw [List.length_map] at HWN
      have HJ : Aside0 (Calls Tryd.prog 33 #[O, .string ⟨#[32]⟩] wr fun e w' => e = .returned (.string (joined (words (L.map Ent.cap)))) ∧ Below wr.heap.size wr w') := ⟨by
        by_cases z : 0 < (words (L.map Ent.cap)).length
        · obtain ⟨g, cq, rfl, _, hgl, _⟩ := Kd.R_form hR z
          refine (Tryd.strings_Join g 0 cq (words (L.map Ent.cap)) ⟨#[32]⟩ wr (fun j x hx => ?_) hgl (by have := HN.out; omega) ?_ ?_).mono (fun e w' h => h)
          · obtain ⟨hjl, rfl⟩ := List.getElem?_eq_some_iff.1 hx
            have h := (Kd.R_cell (e := 9) (g := g) (cap := cq) ByteArray.empty hR (j : Int) (by omega) (by omega)).1
            rw [Int.toNat_natCast, rdOf_nat _ _ _ hjl] at h
            rw [Nat.zero_add]
            exact h
          · obtain ⟨A', c', h1, h2, _⟩ := Kd.R_reads hR
            cases h1
            exact h2
          · have := join_len (words (L.map Ent.cap)) (word_size HS.out)
            have := HN.out
            show (Lib.join _ [32]).length ≤ _
            omega
        · have hz : words (L.map Ent.cap) = [] := List.eq_nil_of_length_eq_zero (by omega)
          obtain ⟨A', c', rfl⟩ := Kd.R_slice hR
          rw [hz]
          refine (Tryd.strings_Join_none A' c' ⟨#[32]⟩ wr).mono ?_
          rintro e w' ⟨rfl, rfl⟩
          exact ⟨rfl, Below.refl _ _⟩⟩
      clear hR HWN
      go_wp2_with (first | (go_at_call 33; (with_reducible refine HJ.out.mono ?_); rintro e w9 ⟨rfl, hb9⟩; have HB9 := Aside0.mk hb9; clear hb9))
      go_ret
      exact ⟨rfl, below_step HB.out HB9.out⟩
    obtain ⟨g0, rfl⟩ : ∃ m, gk = m + 1 := ⟨gk - 1, by have := HK.out; omega⟩
    have hk1 : (k : Int) < (L.length : Int) := by omega
    have hk2 : (k : Int) < 61 := by have := HN.out; omega
    have hgt : L[k]? = some L[k] := List.getElem?_eq_getElem hlt
    obtain ⟨ad, rfl, hx⟩ := Kd.at_string (Kd.C_below HNM.out HB.out) (k : Int) (by omega) hk1
    rw [Int.toNat_natCast, rdOf_nat _ _ _ (by rw [List.length_map]; exact hlt), List.getElem_map] at hx
    generalize L[k] = e at hx hgt
    have HLR := Aside0.mk (HL.out.below HB.out)
    have hlk := HLR.out.look (List.mem_of_getElem? hgt)
    have hl0 : wr.cell? ⟨lb, 0, none⟩ = some (.map (some mb)) := (blk_cell HLR.out.hl 0).trans rfl
    have heb := (HLR.out.hc e (List.mem_of_getElem? hgt)).1
    obtain ⟨Ae, ce, hev⟩ := Kd.R_slice (HLR.out.he k e hgt)
    have HRE : Aside0 (Kd.string.C w Ae e.vs.length e.vs) := ⟨(Kd.R_reads' (by have h := HL.out.he k e hgt; rwa [hev] at h)).2.2⟩
    have HTK : Aside0 (words ((L.take (k + 1)).map Ent.cap) = words ((L.take k).map Ent.cap) ++ capWords e.cap) := ⟨by rw [List.take_add_one, hgt, Option.toList_some, List.map_append, List.map_cons, List.map_nil, words_snoc]⟩
    have HCS : Aside0 (e.n.size ≤ 100 ∧ ∀ x ∈ e.vs, x.size ≤ 100) := ⟨HS.out.f0 e.cap (List.mem_map.2 ⟨e, List.mem_of_getElem? hgt, rfl⟩), HS.out.fv e.cap (List.mem_map.2 ⟨e, List.mem_of_getElem? hgt, rfl⟩)⟩
    have HVL : Aside0 (e.vs.length ≤ 60) := ⟨HS.out.f1 e.cap (List.mem_map.2 ⟨e, List.mem_of_getElem? hgt, rfl⟩)⟩
    have HWL : Aside0 (((words ((L.take k).map Ent.cap)).length + 1) * 16 ≤ 140737488355328) := ⟨by
      have h1 := words_len (HS.out.take k)
      rw [← List.map_take, List.length_map, List.length_take] at h1
      have := HN.out
      omega⟩
    rw [hev] at heb
    obtain ⟨c, vs, b, v⟩ := e
    have he1 : wr.cell? ⟨b, 1, none⟩ = some (.slice Ae vs.length ce) := (blk_cell heb 1).trans rfl
    have hxc : wr.cell? (ad.add k) = some (.string c) := hx
    have hlk' : (Instr.lookup 64 (.map (some mb)) (.string c) false).run Tryd.prog wr = .ok (.pointer (some ⟨b, 0, none⟩)) wr := hlk
    clear hx hlk hev hgt heb
    by_cases z : vs.length = 0
    · have HCW : Aside0 (capWords (Ent.cap ⟨c, vs, b, v⟩) = [c]) := ⟨if_pos z⟩
      have e1 : ((vs.length : Int) == 0) = true := by rw [beq_iff_eq]; omega
      have e2 : (vs.length : Int) = 0 := by omega
      clear z
      go_wp2_with (first
          | ((with_reducible refine gate_builtin (b := .append) (xs := #[.tmp 30, .tmp 32]) rfl ?_); at_builtin; refine Kd.R_append Kd.string (w0 := w) w.heap.size rfl (.tmp 30) (.tmp 32) 25 9 (.string ⟨#[]⟩) 16 rfl Tryd.underlying25 CapE.info9 rfl (by decide) (by decide) _ (words ((L.take k).map Ent.cap)) c [.string (c)] (fun _ => True) (fun _ => False) rfl ?hx rfl (fun _ h => h.elim) (fun _ _ => trivial) HO.out HB.out ?hbase ?hlen ?_
             case hx => first | (go_simp; done) | (simp [Act.eval]; done)
             case hbase => exact HB.out.size
             case hlen => have := HWL.out; omega
             intro v7 w7 ho7 hb7 hg7 hat7
             have HO7 := Aside0.mk ho7
             have HB7 := Aside0.mk hb7
             clear ho7 hb7 hg7 hat7))
      go_roundg g0
      case measure => omega
      case rel => exact ⟨k + 1, v7, rfl, by push_cast; rfl, ⟨by have := HK.out; omega⟩, HB7, ⟨by rw [HTK.out, HCW.out]; exact HO7.out⟩⟩
    · have HCW : Aside0 (capWords (Ent.cap ⟨c, vs, b, v⟩) = vs.map (valued c)) := ⟨if_neg z⟩
      have e1 : ((vs.length : Int) == 0) = false := by rw [beq_eq_false_iff_ne]; omega
      have e2 : ¬ (vs.length : Int) = 0 := by omega
      have HWL2 : Aside0 (∀ j, j < vs.length → ((words ((L.take k).map Ent.cap) ++ (vs.take j).map (valued c)).length + 1) * 16 ≤ 140737488355328) := ⟨fun j hj => by
        have := HWL.out
        have : vs.length ≤ 60 := HVL.out
        rw [List.length_append, List.length_map, List.length_take]
        have := words_len (HS.out.take k)
        rw [← List.map_take, List.length_map, List.length_take] at this
        have := HN.out
        omega⟩
      have HVN : Aside0 (vs.length ≤ 60) := HVL
      have HRV : Aside0 (Kd.string.C w Ae vs.length vs) := HRE
      have HO0 : Aside0 (Kd.string.R 9 wr w.heap.size (fun _ => True) O (words ((L.take k).map Ent.cap) ++ (vs.take 0).map (valued c))) := ⟨by simpa using HO.out⟩
      clear z
      go_wp2
      clear hlk' hl0 he1 hxc
      go_loopg [3, 39] vs.length (fun gj v3 v39 w' => ∃ (j : Nat) (O : Value), v3 = O ∧ v39 = .int .i64 (j : Int) ∧ Aside0 (j + gj = vs.length) ∧ Aside0 (Below w.heap.size w w') ∧ Aside0 (Kd.string.R 9 w' w.heap.size (fun _ => True) O (words ((L.take k).map Ent.cap) ++ (vs.take j).map (valued c))))
      case atStart => exact ⟨0, _, rfl, rfl, ⟨by omega⟩, HB, HO0⟩
      case round =>
        obtain ⟨j, OJ, hOJ, rfl, HJ, HBJ, HOJ⟩ := hrel
        replace hOJ := hOJ.symm
        subst hOJ
        by_cases hjt : j < vs.length
        · obtain ⟨g1, rfl⟩ : ∃ m, gk = m + 1 := ⟨gk - 1, by have := HJ.out; omega⟩
          have hj1 : (j : Int) < (vs.length : Int) := by omega
          obtain ⟨ad, rfl, hx⟩ := Kd.at_string (Kd.C_below HRV.out HBJ.out) (j : Int) (by omega) hj1
          rw [Int.toNat_natCast, rdOf_nat _ _ _ hjt] at hx
          obtain ⟨x, hxx⟩ : ∃ x, x = vs[j] := ⟨_, rfl⟩
          rw [← hxx] at hx
          have HTJ : Aside0 ((vs.take (j + 1)).map (valued c) = (vs.take j).map (valued c) ++ [valued c x]) := ⟨by rw [List.take_succ_eq_append_getElem hjt, List.map_append, hxx]; rfl⟩
          have HWJ := Aside0.mk (HWL2.out j hjt)
          have hj2 : (j : Int) < 61 := by have := HVN.out; omega
          have hq1 : c.size ≤ 100 := HCS.out.1
          have hq2 : x.size ≤ 100 := HCS.out.2 x (by rw [hxx]; exact List.getElem_mem hjt)
          have hq3 : c.size + 1 ≤ 9223372036854775807 := by omega
          have hq4 : c.size + 1 + x.size ≤ 9223372036854775807 := by omega
          clear hxx
          go_wp2_with (first
            | ((with_reducible refine gate_builtin (b := .append) (xs := #[.tmp 43, .tmp 48]) rfl ?_); at_builtin; refine Kd.R_append Kd.string (w0 := w) w.heap.size rfl (.tmp 43) (.tmp 48) 25 9 (.string ⟨#[]⟩) 16 rfl Tryd.underlying25 CapE.info9 rfl (by decide) (by decide) _ (words ((L.take k).map Ent.cap) ++ (vs.take j).map (valued c)) (valued c x) [.string ((c ++ (⟨#[61]⟩ : ByteArray)) ++ x)] (fun _ => True) (fun _ => False) rfl ?hx rfl (fun _ h => h.elim) (fun _ _ => trivial) HOJ.out HBJ.out ?hbase ?hlen ?_
               case hx => first | (go_simp; done) | (simp [Act.eval]; done)
               case hbase => exact HBJ.out.size
               case hlen => have := HWJ.out; omega
               intro v7 w7 ho7 hb7 hg7 hat7
               have HO8 := Aside0.mk ho7
               have HB8 := Aside0.mk hb7
               clear ho7 hb7 hg7 hat7))
          go_roundg g1
          case measure => omega
          case rel => exact ⟨j + 1, v7, rfl, by push_cast; rfl, ⟨by have := HJ.out; omega⟩, HB8, ⟨by rw [HTJ.out, ← List.append_assoc]; exact HO8.out⟩⟩
        · have hje : vs.take j = vs := List.take_of_length_le (by omega)
          have HOE : Aside0 (Kd.string.R 9 wr w.heap.size (fun _ => True) OJ (words ((L.take (k + 1)).map Ent.cap))) := ⟨by rw [HTK.out, HCW.out]; have := HOJ.out; rwa [hje] at this⟩
          have hjn : j = vs.length := by have := HJ.out; omega
          subst hjn
          go_wp2
          go_roundg g0
          case measure => omega
          case rel => exact ⟨k + 1, OJ, rfl, by push_cast; rfl, ⟨by have := HK.out; omega⟩, HBJ, HOE⟩
#print axioms capsString
end Go.Proofs.YtbemlaalccoepaaDoor.CapI

set_option linter.unusedVariables false
set_option linter.unusedSimpArgs false
namespace Go.Proofs.YtbemlaalccoepaaDoor.CapJ
open Go.RowKit Go.Proofs.YtbemlaalccoepaaDoorW.PrintWords Go.Proofs.YtbemlaalccoepaaDoorW.PrintLast Go.Proofs.YtbemlaalccoepaaDoorW.PrintMore Go.Proofs.YtbemlaalccoepaaDoor.QAll Txt SMap CapA Ptr CapB CapC CapD CapE CapF CapG CapH CapI

def addTo (t s : ByteArray) : ByteArray := if t.size = 0 then s else (t ++ (⟨#[32]⟩ : ByteArray)) ++ s
def acc (ws : List ByteArray) : ByteArray := ws.foldl addTo ⟨#[]⟩
theorem acc_snoc (ws : List ByteArray) (s : ByteArray) : acc (ws ++ [s]) = addTo (acc ws) s := by unfold acc; rw [List.foldl_append]; rfl
theorem acc_len' : ∀ (ws : List ByteArray) (t : ByteArray), (∀ x ∈ ws, x.size ≤ 300) → (ws.foldl addTo t).size ≤ t.size + 301 * ws.length
  | [], t, _ => by simp
  | s :: ws, t, h => by
    have h1 := acc_len' ws (addTo t s) (fun x hx => h x (by simp [hx]))
    have h2 := h s (by simp)
    have h3 : (addTo t s).size ≤ t.size + 301 := by
      unfold addTo
      split
      · omega
      · rw [ByteArray.size_append, ByteArray.size_append, show (⟨#[32]⟩ : ByteArray).size = 1 from rfl]
        omega
    rw [List.foldl_cons, List.length_cons]
    omega
theorem acc_len (ws : List ByteArray) (h : ∀ x ∈ ws, x.size ≤ 300) : (acc ws).size ≤ 301 * ws.length := by
  have := acc_len' ws ⟨#[]⟩ h
  rw [show (⟨#[]⟩ : ByteArray).size = 0 from rfl] at this
  unfold acc
  omega
set_option maxHeartbeats 4000000 in
set_option maxRecDepth 100000 in
theorem addWord (tb : Nat) (t s : ByteArray) (w : World) (hT : w.heap[tb]? = some (.cells #[.string t] 9 (0, 0))) (hl : t.size + 1 + s.size ≤ 9223372036854775807) :
    Calls Tryd.prog 18 #[.string s, .pointer (some ⟨tb, 0, none⟩)] w fun e w' => e = .returned (.tuple #[]) ∧ w' = (if t.size = 0 then w else w.setCell ⟨tb, 0, none⟩ (.string (t ++ (⟨#[32]⟩ : ByteArray)))).setCell ⟨tb, 0, none⟩ (.string (addTo t s)) := by
  have hc0 : w.cell? ⟨tb, 0, none⟩ = some (.string t) := (blk_cell hT 0).trans rfl
  have hz0 := blk_frozen hT 0
  by_cases q : t.size = 0
  · have ht : t.toList = [] := List.eq_nil_of_length_eq_zero (by rw [size_list]; exact q)
    have ht2 : t = (⟨#[]⟩ : ByteArray) := ba_ext (by rw [ht, toList_lit])
    subst ht2
    clear ht q hT
    go_enter Tryd.func18, Tryd.ntmps18
    go_wp2
    go_end0
    exact ⟨rfl, rfl⟩
  · have e1 : (t.toList == ([] : List UInt8)) = false := by
      rw [beq_eq_false_iff_ne]
      intro e
      rw [← size_list, e] at q
      exact q rfl
    have e3 : decide (t = (⟨#[]⟩ : ByteArray)) = false := decide_eq_false (fun e => q (by rw [e]; rfl))
    have hA : addTo t s = (t ++ (⟨#[32]⟩ : ByteArray)) ++ s := if_neg q
    have hq1 : t.size + 1 ≤ 9223372036854775807 := by omega
    have h2 := blk_put hT 0 (.string (t ++ (⟨#[32]⟩ : ByteArray))) rfl
    have hc1 : (w.setCell ⟨tb, 0, none⟩ (.string (t ++ (⟨#[32]⟩ : ByteArray)))).cell? ⟨tb, 0, none⟩ = some (.string (t ++ (⟨#[32]⟩ : ByteArray))) := (blk_cell h2 0).trans rfl
    have hz1 := blk_frozen h2 0
    rw [if_neg q, hA]
    clear q hT h2 hA
    go_enter Tryd.func18, Tryd.ntmps18
    go_wp2
    go_end0
    exact ⟨rfl, rfl⟩
#print axioms addWord
theorem addWord' (tb : Nat) (t s : ByteArray) (w0 w : World) (hb : Below w0.heap.size w0 w) (htb : w0.heap.size ≤ tb) (hT : w.heap[tb]? = some (.cells #[.string t] 9 (0, 0))) (hl : t.size + 1 + s.size ≤ 9223372036854775807) :
    Calls Tryd.prog 18 #[.string s, .pointer (some ⟨tb, 0, none⟩)] w fun e w' => e = .returned (.tuple #[]) ∧ w'.heap[tb]? = some (.cells #[.string (addTo t s)] 9 (0, 0)) ∧ Below w0.heap.size w0 w' ∧ ∀ k, k ≠ tb → w'.heap[k]? = w.heap[k]? := by
  refine (addWord tb t s w hT hl).mono ?_
  rintro e w' ⟨rfl, rfl⟩
  refine ⟨rfl, ?_⟩
  split
  · exact ⟨blk_put hT 0 _ rfl, below_set hb htb, fun k hk => Below.heap_setCell _ _ _ k hk⟩
  · exact ⟨blk_put (blk_put hT 0 _ rfl) 0 _ rfl, below_set (below_set hb htb) htb, fun k hk => (Below.heap_setCell _ _ _ k hk).trans (Below.heap_setCell _ _ _ k hk)⟩
set_option maxHeartbeats 16000000 in
set_option maxRecDepth 100000 in
theorem capsText (A : Option Addr) (c0 : Nat) (l : List S27) (w : World) (hC : Kd.C k27 w A l.length l) (hs : Sized l) :
    Calls Tryd.prog 9 #[.slice A l.length c0] w fun e w' => e = .returned (.string (acc (words l))) ∧ Below w.heap.size w w' := by
  have hmf : ∀ (fn : Fn) (first cap : Array Value) (w : World), (Instr.makeFunc fn first cap).run Tryd.prog w = .ok (.func fn first cap) w := fun _ _ _ _ => rfl
  have hu27 := Tryd.underlying27
  have HC := Aside0.mk hC
  have HS := Aside0.mk hs
  have hn := hs.n
  have HN := Aside0.mk hn
  clear hC hs hn
  go_enter Tryd.func9, Tryd.ntmps9
  go_upto_region 4 with fail
  obtain ⟨tb, htb⟩ : ∃ tb, tb = w.heap.size := ⟨_, rfl⟩
  have HT0 : Aside0 ((w.alloc (.cells #[.string ⟨#[]⟩] 9)).heap[tb]? = some (.cells #[.string ⟨#[]⟩] 9 (0, 0))) := ⟨by rw [htb]; exact blk_new _ _⟩
  have HTB : Aside0 (w.heap.size ≤ tb) := ⟨by omega⟩
  have HB0 : Aside0 (Below w.heap.size w (w.alloc (.cells #[.string ⟨#[]⟩] 9))) := ⟨below_alloc (Below.refl _ _) _⟩
  simp only [← htb]
  clear htb
  go_wp2
  go_loopg [12] l.length (fun gk v12 w' => ∃ k : Nat, v12 = .int .i64 (k : Int) ∧ Aside0 (k + gk = l.length) ∧ Aside0 (Below w.heap.size w w') ∧ Aside0 (w'.heap[tb]? = some (.cells #[.string (acc (words (l.take k)))] 9 (0, 0))))
  case atStart => exact ⟨0, rfl, ⟨by omega⟩, HB0, HT0⟩
  case round =>
    obtain ⟨k, rfl, HK, HB, HT⟩ := hrel
    by_cases hlt : k < l.length
    rotate_left
    · obtain rfl : k = l.length := by have := HK.out; omega
      have hq := HT.out
      rw [List.take_length] at hq
      have hc0 : wr.cell? ⟨tb, 0, none⟩ = some (.string (acc (words l))) := (blk_cell hq 0).trans rfl
      clear hq
      go_wp2
      go_ret
      exact ⟨rfl, HB.out⟩
    obtain ⟨g0, rfl⟩ : ∃ m, gk = m + 1 := ⟨gk - 1, by have := HK.out; omega⟩
    have hk1 : (k : Int) < (l.length : Int) := by omega
    have hk2 : (k : Int) < 61 := by have := HN.out; omega
    obtain ⟨ad, A1, c1, rfl, hx0, hx1, l1, g1⟩ := at_T27 (Kd.C_below HC.out (Below.refl _ _)) (k : Int) (by omega) hk1
    have hsk : rd_T27 l (k : Int) = l[k] := by unfold rd_T27; simp [hlt]
    rw [hsk, Int.toNat_natCast] at hx0 hx1
    rw [hsk] at l1 g1
    obtain ⟨s, hs⟩ : ∃ s, s = l[k] := ⟨_, rfl⟩
    rw [← hs] at hx0 hx1 l1 g1
    replace hx0 := pw_cell_below HB.out hx0
    replace hx1 := pw_cell_below HB.out hx1
    have hmem : s ∈ l := by rw [hs]; exact List.getElem_mem hlt
    have HTK : Aside0 (words (l.take (k + 1)) = words (l.take k) ++ capWords s) := ⟨by rw [List.take_succ_eq_append_getElem hlt, ← hs, words_snoc]⟩
    have HG1 := Aside0.mk g1
    have HSZ : Aside0 (s.f0.size ≤ 100 ∧ s.f1.length ≤ 60 ∧ ∀ v ∈ s.f1, v.size ≤ 100) := ⟨⟨HS.out.f0 s hmem, HS.out.f1 s hmem, HS.out.fv s hmem⟩⟩
    have HAL : Aside0 ((acc (words (l.take k))).size ≤ 301 * 3600) := ⟨by
      have h1 := acc_len _ (word_size (HS.out.take k))
      have h2 := words_len (HS.out.take k)
      rw [List.length_take] at h2
      have := HN.out
      omega⟩
    clear hsk hs l1 g1 hmem
    go_upto_region 6 with fail
    have hg0 : (wr.alloc (.cells #[.string s.f0, .slice A1 s.f1.length c1] 27)).heap[wr.heap.size]? = some (.cells #[.string s.f0, .slice A1 s.f1.length c1] 27 (0, 0)) := blk_new _ _
    have HBA : Aside0 (Below w.heap.size w (wr.alloc (.cells #[.string s.f0, .slice A1 s.f1.length c1] 27))) := ⟨below_alloc HB.out _⟩
    have HTA : Aside0 ((wr.alloc (.cells #[.string s.f0, .slice A1 s.f1.length c1] 27)).heap[tb]? = some (.cells #[.string (acc (words (l.take k)))] 9 (0, 0))) := ⟨blk_alloc HT.out _⟩
    have HTG : Aside0 (wr.heap.size ≠ tb) := ⟨by have := blk_lt HT.out; omega⟩
    generalize wr.alloc (.cells #[.string s.f0, .slice A1 s.f1.length c1] 27) = wa at hg0 HBA HTA ⊢
    obtain ⟨gc, hgc⟩ : ∃ gc, gc = wr.heap.size := ⟨_, rfl⟩
    rw [← hgc] at hg0 HTG
    simp only [← hgc]
    have HGC := Aside0.mk hg0
    have hq0 : wa.cell? ⟨gc, 0, none⟩ = some (.string s.f0) := (blk_cell hg0 0).trans rfl
    have hq1 : wa.cell? ⟨gc, 1, none⟩ = some (.slice A1 s.f1.length c1) := (blk_cell hg0 1).trans rfl
    clear hgc hx0 hx1 hg0
    by_cases z : s.f1.length = 0
    · have HCW : Aside0 (capWords s = [s.f0]) := ⟨if_pos z⟩
      have HAW := Aside0.mk (addWord' tb _ s.f0 w wa HBA.out HTB.out HTA.out (by have := HAL.out; have := HSZ.out.1; omega))
      have e1 : ((s.f1.length : Int) == 0) = true := by rw [beq_iff_eq]; omega
      have e2 : (s.f1.length : Int) = 0 := by omega
      obtain ⟨WS, hWS⟩ : ∃ WS, WS = words (l.take k) ++ [s.f0] := ⟨_, rfl⟩
      have HWE : Aside0 (words (l.take (k + 1)) = WS ++ s.f1.map (valued s.f0)) := ⟨by rw [HTK.out, HCW.out, hWS, List.length_eq_zero_iff.1 z]; simp⟩
      have HW1 : Aside0 (acc (WS ++ (s.f1.take 0).map (valued s.f0)) = addTo (acc (words (l.take k))) s.f0) := ⟨by rw [List.take_zero, List.map_nil, List.append_nil, hWS, acc_snoc]⟩
      have HWZ : Aside0 (∀ j, ∀ x ∈ WS ++ (s.f1.take j).map (valued s.f0), x.size ≤ 300) := ⟨fun j x hx => by
        refine word_size (HS.out.take (k + 1)) x ?_
        rw [HWE.out]
        rcases List.mem_append.1 hx with h | h
        · exact List.mem_append_left _ h
        · obtain ⟨y, hy, rfl⟩ := List.mem_map.1 h
          exact List.mem_append_right _ (List.mem_map.2 ⟨y, List.mem_of_mem_take hy, rfl⟩)⟩
      have HWN : Aside0 (WS.length ≤ 3600) := ⟨by
        have h2 := words_len (HS.out.take (k + 1))
        rw [HWE.out, List.length_append, List.length_take] at h2
        have := HN.out
        omega⟩
      clear z hWS
      go_upto_region 9 with (first | (go_at_call 18; (with_reducible refine HAW.out.mono ?_); rintro e w8 ⟨rfl, ht8, hb8, hk8⟩; have HT9 : Aside0 (w8.heap[tb]? = some (.cells #[.string (acc (WS ++ (s.f1.take 0).map (valued s.f0)))] 9 (0, 0))) := ⟨by rw [HW1.out]; exact ht8⟩; have HB9 := Aside0.mk hb8; have HG9 : Aside0 (w8.heap[gc]? = some (.cells #[.string s.f0, .slice A1 s.f1.length c1] 27 (0, 0))) := ⟨(hk8 gc HTG.out).trans HGC.out⟩; have hq9 : w8.cell? ⟨gc, 1, none⟩ = some (.slice A1 s.f1.length c1) := (blk_cell HG9.out 1).trans rfl; clear ht8 hb8 hk8))
      clear hq0 hq1 hq9
      go_wp2
      go_loopg [27] s.f1.length (fun gj v27 w' => ∃ j : Nat, v27 = .int .i64 (j : Int) ∧ Aside0 (j + gj = s.f1.length) ∧ Aside0 (Below w.heap.size w w') ∧ Aside0 (w'.heap[gc]? = some (.cells #[.string s.f0, .slice A1 s.f1.length c1] 27 (0, 0))) ∧ Aside0 (w'.heap[tb]? = some (.cells #[.string (acc (WS ++ (s.f1.take j).map (valued s.f0)))] 9 (0, 0))))
      case atStart => exact ⟨0, rfl, ⟨by omega⟩, HB9, HG9, HT9⟩
      case round =>
        obtain ⟨j, rfl, HJ, HBJ, HGJ, HTJ⟩ := hrel
        by_cases hjt : j < s.f1.length
        · exact absurd hjt (by omega)
        · have hje : s.f1.take j = s.f1 := List.take_of_length_le (by omega)
          have HTE : Aside0 (wr.heap[tb]? = some (.cells #[.string (acc (words (l.take (k + 1))))] 9 (0, 0))) := ⟨by have := HTJ.out; rw [hje] at this; rw [HWE.out]; exact this⟩
          have hjn : j = s.f1.length := by have := HJ.out; omega
          subst hjn
          go_wp2
          go_roundg g0
          case measure => omega
          case rel => exact ⟨k + 1, by push_cast; rfl, ⟨by have := HK.out; omega⟩, HBJ, HTE⟩
    · have HCW : Aside0 (capWords s = s.f1.map (valued s.f0)) := ⟨if_neg z⟩
      have e1 : ((s.f1.length : Int) == 0) = false := by rw [beq_eq_false_iff_ne]; omega
      have e2 : ¬ (s.f1.length : Int) = 0 := by omega
      obtain ⟨WS, hWS⟩ : ∃ WS, WS = words (l.take k) := ⟨_, rfl⟩
      have HWE : Aside0 (words (l.take (k + 1)) = WS ++ s.f1.map (valued s.f0)) := ⟨by rw [HTK.out, HCW.out, hWS]⟩
      have HWZ : Aside0 (∀ j, ∀ x ∈ WS ++ (s.f1.take j).map (valued s.f0), x.size ≤ 300) := ⟨fun j x hx => by
        refine word_size (HS.out.take (k + 1)) x ?_
        rw [HWE.out]
        rcases List.mem_append.1 hx with h | h
        · exact List.mem_append_left _ h
        · obtain ⟨y, hy, rfl⟩ := List.mem_map.1 h
          exact List.mem_append_right _ (List.mem_map.2 ⟨y, List.mem_of_mem_take hy, rfl⟩)⟩
      have HWN : Aside0 (WS.length ≤ 3600) := ⟨by
        have h2 := words_len (HS.out.take (k + 1))
        rw [HWE.out, List.length_append, List.length_take] at h2
        have := HN.out
        omega⟩
      have HT9 : Aside0 (wa.heap[tb]? = some (.cells #[.string (acc (WS ++ (s.f1.take 0).map (valued s.f0)))] 9 (0, 0))) := ⟨by rw [List.take_zero, List.map_nil, List.append_nil, hWS]; exact HTA.out⟩
      have HB9 := HBA
      have HG9 := HGC
      clear z hWS
      go_upto_region 9 with fail
      clear hq0 hq1
      go_wp2
      go_loopg [27] s.f1.length (fun gj v27 w' => ∃ j : Nat, v27 = .int .i64 (j : Int) ∧ Aside0 (j + gj = s.f1.length) ∧ Aside0 (Below w.heap.size w w') ∧ Aside0 (w'.heap[gc]? = some (.cells #[.string s.f0, .slice A1 s.f1.length c1] 27 (0, 0))) ∧ Aside0 (w'.heap[tb]? = some (.cells #[.string (acc (WS ++ (s.f1.take j).map (valued s.f0)))] 9 (0, 0))))
      case atStart => exact ⟨0, rfl, ⟨by omega⟩, HB9, HG9, HT9⟩
      case round =>
        obtain ⟨j, rfl, HJ, HBJ, HGJ, HTJ⟩ := hrel
        by_cases hjt : j < s.f1.length
        · obtain ⟨g1, rfl⟩ : ∃ m, gk = m + 1 := ⟨gk - 1, by have := HJ.out; omega⟩
          have hj1 : (j : Int) < (s.f1.length : Int) := by omega
          obtain ⟨ad, rfl, hx⟩ := Kd.at_string (Kd.C_below HG1.out HBJ.out) (j : Int) (by omega) hj1
          rw [Int.toNat_natCast, rdOf_nat _ _ _ hjt] at hx
          obtain ⟨x, hxx⟩ : ∃ x, x = s.f1[j] := ⟨_, rfl⟩
          rw [← hxx] at hx
          have hn0 : wr.cell? ⟨gc, 0, none⟩ = some (.string s.f0) := (blk_cell HGJ.out 0).trans rfl
          have HAJ : Aside0 ((s.f1.take (j + 1)).map (valued s.f0) = (s.f1.take j).map (valued s.f0) ++ [valued s.f0 x]) := ⟨by rw [List.take_succ_eq_append_getElem hjt, List.map_append, hxx]; rfl⟩
          have hj2 : (j : Int) < 61 := by have := HSZ.out.2.1; omega
          have hq1 : s.f0.size ≤ 100 := HSZ.out.1
          have hq2 : x.size ≤ 100 := HSZ.out.2.2 x (by rw [hxx]; exact List.getElem_mem hjt)
          have hq3 : s.f0.size + 1 ≤ 9223372036854775807 := by omega
          have hq4 : s.f0.size + 1 + x.size ≤ 9223372036854775807 := by omega
          have HAW := Aside0.mk (addWord' tb _ ((s.f0 ++ (⟨#[61]⟩ : ByteArray)) ++ x) w wr HBJ.out HTB.out HTJ.out (by
            have h1 := acc_len (WS ++ (s.f1.take j).map (valued s.f0)) (HWZ.out j)
            rw [List.length_append, List.length_map, List.length_take] at h1
            have := HWN.out
            have := HSZ.out.2.1
            rw [ByteArray.size_append, ByteArray.size_append, show (⟨#[61]⟩ : ByteArray).size = 1 from rfl]
            omega))
          clear hxx
          go_wp2_with (first | (go_at_call 18; (with_reducible refine HAW.out.mono ?_); rintro e w8 ⟨rfl, ht8, hb8, hk8⟩; have HT8 := Aside0.mk ht8; have HB8 := Aside0.mk hb8; have HG8 := Aside0.mk ((hk8 gc HTG.out).trans HGJ.out); clear ht8 hb8 hk8))
          go_roundg g1
          case measure => omega
          case rel => exact ⟨j + 1, by push_cast; rfl, ⟨by have := HJ.out; omega⟩, HB8, HG8, ⟨by rw [HAJ.out, ← List.append_assoc, acc_snoc]; exact HT8.out⟩⟩
        · have hje : s.f1.take j = s.f1 := List.take_of_length_le (by omega)
          have HTE : Aside0 (wr.heap[tb]? = some (.cells #[.string (acc (words (l.take (k + 1))))] 9 (0, 0))) := ⟨by have := HTJ.out; rw [hje] at this; rw [HWE.out]; exact this⟩
          have hjn : j = s.f1.length := by have := HJ.out; omega
          subst hjn
          go_wp2
          go_roundg g0
          case measure => omega
          case rel => exact ⟨k + 1, by push_cast; rfl, ⟨by have := HK.out; omega⟩, HBJ, HTE⟩
#print axioms capsText
end Go.Proofs.YtbemlaalccoepaaDoor.CapJ

set_option linter.unusedVariables false
set_option linter.unusedSimpArgs false
namespace Go.Proofs.YtbemlaalccoepaaDoor.CapP
open Go.RowKit Go.Proofs.YtbemlaalccoepaaDoorW.PrintWords Go.Proofs.YtbemlaalccoepaaDoor.QAll Txt CapA CapB CapD CapI CapJ

theorem join_head (x y : List UInt8) (m : List (List UInt8)) (z : List UInt8) : Lib.join ((x ++ y) :: m) z = x ++ Lib.join (y :: m) z := by
  cases m with
  | nil => simp [Lib.join, List.intercalate]
  | cons a m => rw [join_cons, join_cons]; simp
theorem ba_data (a b : ByteArray) (h : a.data.toList = b.data.toList) : a = b := by
  cases a; cases b
  exact congrArg ByteArray.mk (Array.toList_inj.1 h)
theorem data_append (a b : ByteArray) : (a ++ b).data.toList = a.data.toList ++ b.data.toList := by
  rw [ByteArray.data_append, Array.toList_append]
theorem acc_from : ∀ (m : List ByteArray) (t : ByteArray), 0 < t.size → (m.foldl addTo t).data.toList = Lib.join (t.data.toList :: m.map (·.data.toList)) [32]
  | [], t, _ => by simp [Lib.join, List.intercalate]
  | b :: m, t, h => by
    have e : addTo t b = (t ++ (⟨#[32]⟩ : ByteArray)) ++ b := if_neg (by omega)
    rw [List.foldl_cons, acc_from m (addTo t b) (by rw [e, ByteArray.size_append, ByteArray.size_append]; omega), List.map_cons, join_cons, e, data_append, data_append, List.append_assoc, join_head, join_head, List.append_assoc]
theorem acc_joined (ws : List ByteArray) (h : ∀ x ∈ ws, 0 < x.size) : acc ws = joined ws := by
  refine ba_data _ _ ?_
  unfold joined acc
  rw [List.toList_toArray]
  cases ws with
  | nil => rfl
  | cons a m =>
    rw [List.foldl_cons, show addTo ⟨#[]⟩ a = a from if_pos rfl, acc_from m a (h a (by simp)), List.map_cons]
theorem words_pos {l : List S27} (h : ∀ s ∈ l, 0 < s.f0.size) : ∀ x ∈ words l, 0 < x.size := by
  intro x hx
  obtain ⟨s, hs, hx⟩ := List.mem_flatMap.1 hx
  have h0 := h s hs
  unfold capWords at hx
  split at hx
  · rw [List.mem_singleton.1 hx]; exact h0
  · obtain ⟨v, hv, rfl⟩ := List.mem_map.1 hx
    unfold valued
    rw [ByteArray.size_append, ByteArray.size_append]
    omega
#print axioms acc_joined
/-- What GoodCaps says. -/
structure GoodL (l : List S27) : Prop where
  ok : ∀ s ∈ l, OkCap s.f0 s.f1
  nd : (l.map S27.f0).Nodup
  sz : Sized l
theorem GoodL.pos {l : List S27} (h : GoodL l) : ∀ s ∈ l, 0 < s.f0.size := by
  intro s hs
  have h1 := isIn_iff.1 (h.ok s hs).known
  have key : knownNames.all (fun x => decide (0 < x.size)) = true := by decide +kernel
  exact of_decide_eq_true (List.all_eq_true.1 key _ h1)
theorem GoodL.filter {l : List S27} (h : GoodL l) (p : S27 → Bool) : GoodL (l.filter p) :=
  ⟨fun s hs => h.ok s (List.mem_filter.1 hs).1, h.nd.sublist ((List.filter_sublist (p := p) (l := l)).map S27.f0), ⟨Nat.le_trans (List.length_filter_le p l) h.sz.n, fun s hs => h.sz.f0 s (List.mem_filter.1 hs).1, fun s hs => h.sz.f1 s (List.mem_filter.1 hs).1, fun s hs => h.sz.fv s (List.mem_filter.1 hs).1⟩⟩
end Go.Proofs.YtbemlaalccoepaaDoor.CapP
