/- zzSplitBytes, walked. capability.List.Add to an entry that is there, walked. List.All, List.Get, impl.capsOf, walked. The texts of capabilities, cut again: plain. List.Decode, impl.ReadCaps, walked. -/
import Derived.Test.YtbemlaalccoepaaDoorCapI
import Derived.Test.YtbemlaalccoepaaDoorCapE
import Derived.Test.YtbemlaalccoepaaDoorCapF
import Derived.Test.YtbemlaalccoepaaDoorCapQ
set_option linter.unusedVariables false
set_option linter.unusedSimpArgs false
namespace Go.Proofs.YtbemlaalccoepaaDoor.CapS
open Go.RowKit Go.Proofs.YtbemlaalccoepaaDoorW.PrintWords Go.Proofs.YtbemlaalccoepaaDoorW.PrintLast Go.Proofs.YtbemlaalccoepaaDoorW.PrintMore Go.Proofs.YtbemlaalccoepaaDoor.QAll Txt

abbrev KB : Kd (List Int) := Kd.slice 5 (Kd.int .u8)
/-- Elements that are lent: what their rows say stands in an elder world. -/
def lent {α : Type} (W0 : World) (d : Kd α) : Kd α where
  sz := d.sz
  E := []
  K := fun _ x cs => d.K W0 x cs
  M := fun _ _ _ x cs => d.K W0 x cs
  K_len := fun h => d.K_len h
  K_one := fun h => d.K_one h
  K_below := fun _ h => h
  K_of_M := fun h => h
  M_mono := fun _ h => h
  M_bound := fun h => h
  M_move := fun _ h => h
  M_lower := fun _ h => h
theorem info34 : (Tryd.prog.info? 34).map (fun i => (i.zero, i.size, i.bytes)) = some (some (.slice none 0 0), 1, 24) := by kernel_rfl
theorem info5 : (Tryd.prog.info? 5).map (fun i => (i.zero, i.size, i.bytes)) = some (some (.int .u8 0), 1, 1) := by kernel_rfl
/-- Parts with a byte between them. -/
def glue (a : Int) : List (List Int) → List Int
  | [] => []
  | [p] => p
  | p :: q :: r => p ++ a :: glue a (q :: r)
/-- Parts as they are cut: d stand in front, n is the bound. -/
inductive Cuts (a n : Int) : Nat → List (List Int) → Prop
  | last (d : Nat) (p : List Int) (h : a ∉ p ∨ (d : Int) + 1 = n) : Cuts a n d [p]
  | more (d : Nat) (p : List Int) (rs : List (List Int)) (h : a ∉ p) (h0 : 0 ≤ n → (d : Int) + 2 ≤ n) (hr : Cuts a n (d + 1) rs) : Cuts a n d (p :: rs)
theorem Cuts.ne {a n : Int} {d : Nat} {rs : List (List Int)} (h : Cuts a n d rs) : rs ≠ [] := by cases h <;> simp
theorem glue_cons {a : Int} {p : List Int} {rs : List (List Int)} (h : rs ≠ []) : glue a (p :: rs) = p ++ a :: glue a rs := by
  cases rs with
  | nil => exact absurd rfl h
  | cons => rfl
theorem cuts_end {a n : Int} {d : Nat} {rs : List (List Int)} (h : Cuts a n d rs) (hno : ∀ j : Nat, (glue a rs)[j]? ≠ some a) : rs = [glue a rs] := by
  cases h with
  | last _ p h => rfl
  | more _ p rs h h0 hr =>
    refine absurd ?_ (hno p.length)
    rw [glue_cons hr.ne, List.getElem?_append_right (Nat.le_refl _), Nat.sub_self]
    rfl
theorem cuts_full {a n : Int} {d : Nat} {rs : List (List Int)} (h : Cuts a n d rs) (hn : 0 ≤ n) (hd : n - 1 ≤ (d : Int)) : rs = [glue a rs] := by
  cases h with
  | last _ p h => rfl
  | more _ p rs h h0 hr =>
    have := h0 hn
    omega
theorem cuts_hit {a n : Int} {d : Nat} {rs : List (List Int)} (h : Cuts a n d rs) (i : Nat) (hi : (glue a rs)[i]? = some a) (hno : ∀ j, j < i → (glue a rs)[j]? ≠ some a) (hm : n < 0 ∨ (d : Int) < n - 1) :
    ∃ p rs', rs = p :: rs' ∧ Cuts a n (d + 1) rs' ∧ p = (glue a rs).take i ∧ glue a rs' = (glue a rs).drop (i + 1) := by
  cases h with
  | last _ p h =>
    rcases h with h | h
    · exact absurd (List.mem_of_getElem? hi) h
    · omega
  | more _ p rs h h0 hr =>
    rw [glue_cons hr.ne] at hi hno ⊢
    have hip : i = p.length := by
      rcases Nat.lt_trichotomy i p.length with q | q | q
      · rw [List.getElem?_append_left q] at hi
        exact absurd (List.mem_of_getElem? hi) h
      · exact q
      · refine absurd ?_ (hno p.length q)
        rw [List.getElem?_append_right (Nat.le_refl _), Nat.sub_self]
        rfl
    subst hip
    refine ⟨p, rs, rfl, hr, by simp, ?_⟩
    rw [List.drop_append, List.drop_eq_nil_of_le (by omega), List.nil_append, Nat.add_sub_cancel_left]
    rfl
theorem one_inj {x a : Int} (h0 : 0 ≤ x) (h1 : x < 256) (g0 : 0 ≤ a) (g1 : a < 256) (e : (strOfNums [x]).toList = (strOfNums [a]).toList) : x = a := by
  rw [Lib.strOfNums_toList, Lib.strOfNums_toList] at e
  simp only [Lib.bytesOf, List.map_cons, List.map_nil, List.cons.injEq, and_true] at e
  have := congrArg UInt8.toNat e
  rw [UInt8.toNat_ofNat', UInt8.toNat_ofNat'] at this
  omega
theorem info34' : ∃ i, Tryd.prog.info? 34 = some i ∧ i.size = 1 := by
  have h := info34
  rcases hi : Tryd.prog.info? 34 with _ | i
  · rw [hi] at h; cases h
  · rw [hi] at h
    simp only [Option.map_some, Option.some.injEq, Prod.mk.injEq] at h
    exact ⟨i, rfl, h.2.1⟩
theorem info5' : ∃ i, Tryd.prog.info? 5 = some i ∧ i.size = 1 := by
  have h := info5
  rcases hi : Tryd.prog.info? 5 with _ | i
  · rw [hi] at h; cases h
  · rw [hi] at h
    simp only [Option.map_some, Option.some.injEq, Prod.mk.injEq] at h
    exact ⟨i, rfl, h.2.1⟩
theorem mid (A : Option Addr) (cur : List Int) (c : Nat) (W : World) (i : Nat) (hi : i < cur.length) (hC : Kd.C (Kd.int .u8) W A cur.length cur) (hc : cur.length ≤ c) :
    ∃ X cx, (∀ W1 : World, (Instr.slice 34 (.slice A cur.length c) (some (.int .i64 (i : Int))) (some (.int .i64 ((i : Int) + 1))) none).run Tryd.prog W1 = .ok (.slice X 1 cx) W1) ∧ Kd.C (Kd.int .u8) W X 1 ((cur.drop i).take 1) ∧ 1 ≤ cx := by
  obtain ⟨i5, h5, hs5⟩ := info5'
  refine ⟨_, _, fun W1 => (cut_mid (P := Tryd.prog) 34 5 .i64 .i64 Tryd.underlying34 h5 1 hs5 A cur.length c (i : Int) ((i : Int) + 1) (by omega) (by omega) (by omega) hc W1).trans (by rw [show ((i : Int) + 1).toNat - (i : Int).toNat = 1 by omega]), ?_, ?_⟩
  · have h1 := Kd.C_drop (m := i) hC (Nat.le_of_lt hi) hc
    have h2 := Kd.C_take (m := 1) h1 (by rw [List.length_drop]; omega)
    rw [show ((cur.drop i).take 1).length = 1 by rw [List.length_take, List.length_drop]; omega] at h2
    rw [Int.toNat_natCast]
    exact h2
  · rw [Int.toNat_natCast]; omega
theorem three (A : Option Addr) (n c i : Nat) (hi : i ≤ n) (hc : n ≤ c) : ∀ W1 : World, (Instr.slice 34 (.slice A n c) none (some (.int .i64 (i : Int))) (some (.int .i64 (i : Int)))).run Tryd.prog W1 = .ok (.slice A i i) W1 := by
  intro W1
  obtain ⟨i5, h5, hs5⟩ := info5'
  have hel : Tryd.prog.elem 34 = 5 := by simp [Program.elem, Tryd.underlying34]
  have hu : Tryd.prog.underlying 34 = some (.slice (Tryd.prog.elem 34)) := by rw [hel]; exact Tryd.underlying34
  have ha : (A.map fun x => x.add 0) = A := by cases A <;> simp [Addr.add]
  rw [run_slice_hm W1 34 A n c hu .i64 .i64 (i : Int) (i : Int) (by omega) (by omega) (by omega), hel]
  simp [sizeOf, typeInfo, h5, sliced, Result.andThen, ha]
theorem from1 (A : Option Addr) (cur : List Int) (c : Nat) (W : World) (i : Nat) (hi : i < cur.length) (hC : Kd.C (Kd.int .u8) W A cur.length cur) (hc : cur.length ≤ c) :
    ∃ Y cy, (∀ W1 : World, (Instr.slice 34 (.slice A cur.length c) (some (.int .i64 ((i : Int) + 1))) none none).run Tryd.prog W1 = .ok (.slice Y (cur.length - (i + 1)) cy) W1) ∧ Kd.C (Kd.int .u8) W Y (cur.drop (i + 1)).length (cur.drop (i + 1)) ∧ (cur.drop (i + 1)).length ≤ cy := by
  obtain ⟨i5, h5, hs5⟩ := info5'
  have e : ((i : Int) + 1).toNat = i + 1 := by omega
  refine ⟨_, _, fun W1 => (cut_from (P := Tryd.prog) 34 5 .i64 Tryd.underlying34 h5 1 hs5 A cur.length c ((i : Int) + 1) (by omega) (by omega) W1).trans (by rw [e]), ?_, ?_⟩
  · exact Kd.C_drop (m := i + 1) hC hi hc
  · rw [List.length_drop]; omega
def split4.T4 : Bool × List (List Nat × List Nat) := (true, [([], []), ([], []), ([], []), ([], []), ([3], [3]), ([2, 4], [2, 4]), ([0, 1, 5], [0, 1, 5]), ([6], [6]), ([], []), ([8], [8]), ([7, 9], [7, 9])])
def split4.B4 : List Nat := [0, 0, 0, 0, 8, 28, 63, 127, 0, 256, 1023]
theorem split4.tab4 : rtab .any (opsOf Tryd.f35 4) = split4.T4 := by kernel_rfl
theorem split4.bits4 : waitsOk split4.T4.2 split4.B4 = true := by kernel_rfl

set_option maxHeartbeats 8000000 in
set_option maxRecDepth 100000 in
theorem splitAll (a : Int) (A AS : Option Addr) (c cS : Nat) (D : List Int) (ps : List (List Int)) (W0 W : World) (hb0 : Below W0.heap.size W0 W) (hC : Kd.C (Kd.int .u8) W0 A D.length D) (hc : D.length ≤ c) (hS : Kd.C (Kd.int .u8) W AS 1 [a]) (hD : D.length ≤ 4000000) (hcut : Cuts a (-1) 0 ps) (hg : D = glue a ps) (ha : 0 ≤ a ∧ a < 256) (hby : ∀ x ∈ D, 0 ≤ x ∧ x < 256) :
    Calls Tryd.prog 35 #[.slice A D.length c, .slice AS 1 cS, .int .i64 (-1)] W fun e w' => ∃ v, e = .returned v ∧ (lent W0 KB).R 34 w' W.heap.size (fun _ => True) v ps ∧ Below W.heap.size W w' := by
  have HC := Aside0.mk hC
  have HB0 := Aside0.mk hb0
  have HCc := Aside0.mk hc
  have HS := Aside0.mk hS
  have HDL := Aside0.mk hD
  have HCUT := Aside0.mk hcut
  have HG := Aside0.mk hg
  have HA := Aside0.mk ha
  have HBY := Aside0.mk hby
  obtain ⟨cur0, hcur0⟩ : ∃ cur0, cur0 = D := ⟨_, rfl⟩
  clear hC hb0 hc hS hD hcut hg ha hby
  go_enter Tryd.func35, Tryd.ntmps35
  go_wp2
  go_loopg [0, 7, 8] D.length (fun gk v0 v7 v8 w' => ∃ (dn rs : List (List Int)) (cur : List Int) (i : Nat) (A1 : Option Addr) (c1 : Nat) (V7 : Value), v0 = .slice A1 cur.length c1 ∧ v7 = V7 ∧ v8 = .int .i64 (i : Int) ∧ Aside0 (i + gk = cur.length) ∧ Aside0 (ps = dn ++ rs) ∧ Aside0 (Cuts a (-1) dn.length rs) ∧ Aside0 (cur = glue a rs) ∧ Aside0 (∀ j, j < i → cur[j]? ≠ some a) ∧ Aside0 (dn.length + cur.length ≤ D.length) ∧ Aside0 (Kd.C (Kd.int .u8) W0 A1 cur.length cur) ∧ Aside0 (cur.length ≤ c1) ∧ Aside0 (∀ x ∈ cur, 0 ≤ x ∧ x < 256) ∧ Aside0 (Below W.heap.size W w') ∧ Aside0 ((lent W0 KB).R 34 w' W.heap.size (fun _ => True) V7 dn))
  case atStart => exact ⟨[], ps, D, 0, A, c, .slice none 0 0, rfl, rfl, rfl, ⟨by omega⟩, ⟨rfl⟩, HCUT, HG, ⟨fun j hj => absurd hj (Nat.not_lt_zero _)⟩, ⟨by simp⟩, HC, HCc, HBY, ⟨Below.refl _ _⟩, ⟨Kd.R_nil _ _ _ _ _⟩⟩
  case round =>
    obtain ⟨dn, rs, cur, i, A1, c1, V7, rfl, hV7, rfl, HK, HPS, HCU, HCG, HNO, HLN, HC1, HCL, HB1, HB, HR⟩ := hrel
    replace hV7 := hV7.symm
    subst hV7
    have HDN : Aside0 (dn.length ≤ 4000000) := ⟨by have := HLN.out; have := HDL.out; omega⟩
    have HCN : Aside0 (cur.length ≤ 4000000) := ⟨by have := HLN.out; have := HDL.out; omega⟩
    have HME : Aside0 (KB.K W0 cur [.slice A1 cur.length c1]) := ⟨⟨A1, c1, rfl, HCL.out, HC1.out⟩⟩
    have hw1 : wrap64 ((i : Int) + 1) = (i : Int) + 1 := by have := HK.out; have := HCN.out; unfold wrap64; omega
    by_cases q1 : i < cur.length
    rotate_left
    · have hrs : rs = [cur] := by rw [HCG.out]; exact cuts_end HCU.out (fun j => by
        rw [← HCG.out]
        by_cases hj : j < i
        · exact HNO.out j hj
        · intro e
          have := (List.getElem?_eq_some_iff.1 e).1
          omega)
      have HPR : Aside0 (ps = dn ++ [cur]) := ⟨by rw [HPS.out, hrs]⟩
      have z0 : ¬ ((i : Int) + 1 ≤ (cur.length : Int)) := by omega
      have z1 : decide ((i : Int) + 1 ≤ (cur.length : Int)) = false := decide_eq_false z0
      clear hrs
      go_wp2_with (first
        | ((with_reducible refine gate_builtin (b := .append) (xs := #[.tmp 53, .tmp 55]) rfl ?_); at_builtin; refine Kd.R_append (lent W0 KB) (w0 := W) W.heap.size rfl (.tmp 53) (.tmp 55) 37 34 _ 24 rfl Tryd.underlying37 info34 rfl (by show 0 < 1; decide) (by first | decide | (show 0 < 1; decide)) V7 dn cur [.slice A1 cur.length c1] (fun _ => True) (fun _ => False) rfl ?hx HME.out (fun _ h => h.elim) (fun _ _ => trivial) HR.out HB.out HB.out.size ?hlen ?_
           case hx => first | (go_simp; done) | (simp [Act.eval]; done)
           case hlen => have := HDN.out; omega
           intro v9 w9 ho9 hb9 hg9 hat9
           have HR9 := Aside0.mk ho9
           have HB9 := Aside0.mk hb9
           clear ho9 hb9 hg9 hat9))
      go_ret
      exact ⟨v9, rfl, by rw [HPR.out]; exact HR9.out, HB9.out⟩
    have z0 : (i : Int) + 1 ≤ (cur.length : Int) := by omega
    have z1 : decide ((i : Int) + 1 ≤ (cur.length : Int)) = true := decide_eq_true z0
    obtain ⟨g0, rfl⟩ : ∃ m, gk = m + 1 := ⟨gk - 1, by have := HK.out; omega⟩
    obtain ⟨x, hx⟩ : ∃ x, cur[i]? = some x := ⟨_, List.getElem?_eq_getElem q1⟩
    have hxm : x ∈ cur := List.mem_of_getElem? hx
    obtain ⟨X, cx, hmid, hXC, hXc⟩ := mid A1 cur c1 W0 i q1 HC1.out HCL.out
    have hX1 : (cur.drop i).take 1 = [x] := by
      rw [List.drop_eq_getElem_cons q1]
      have := (List.getElem?_eq_some_iff.1 hx).2
      simp [this]
    rw [hX1] at hXC
    obtain ⟨B1, hB1⟩ : ∃ B1, B1 = strOfNums [x] := ⟨_, rfl⟩
    obtain ⟨B2, hB2⟩ : ∃ B2, B2 = strOfNums [a] := ⟨_, rfl⟩
    have HV1 : Aside0 (∀ W1, Below wr.heap.size wr W1 → (convert 34 9 (.slice X 1 cx)).run Tryd.prog W1 = .ok (.string B1) W1) := ⟨fun W1 hb => by rw [hB1]; exact Kd.C_string (P := Tryd.prog) Tryd.underlying34 Tryd.underlying5 Tryd.underlying9 (Kd.C_below hXC (HB0.out.trans ((HB.out.trans (hb.mono HB.out.size)).mono HB0.out.size)))⟩
    have HV2 : Aside0 (∀ W1, Below wr.heap.size wr W1 → (convert 34 9 (.slice AS 1 cS)).run Tryd.prog W1 = .ok (.string B2) W1) := ⟨fun W1 hb => by rw [hB2]; exact Kd.C_string (P := Tryd.prog) Tryd.underlying34 Tryd.underlying5 Tryd.underlying9 (Kd.C_below HS.out (HB.out.trans (hb.mono HB.out.size)))⟩
    have HB2 : Aside0 (Below W.heap.size W wr.drew ∧ (lent W0 KB).R 34 wr.drew W.heap.size (fun _ => True) V7 dn) := ⟨HB.out.trans ((below_drew1 (Below.refl _ _)).mono HB.out.size), Kd.R_below HR.out (below_drew1 (Below.refl _ _))⟩
    have HX : Aside0 (cur[i]? = some x ∧ 0 ≤ x ∧ x < 256 ∧ i < cur.length) := ⟨hx, (HB1.out x hxm).1, (HB1.out x hxm).2, q1⟩
    clear hx hxm hXC hXc hX1 q1
    by_cases q3 : x = a
    · have hbb : (B1.toList == B2.toList) = true := by rw [hB1, hB2, q3]; simp
      obtain ⟨p, rs', hrs, hcu', hp, hgl⟩ := cuts_hit HCU.out i (by rw [← HCG.out, HX.out.1, q3]) (fun j hj => by rw [← HCG.out]; exact HNO.out j hj) (Or.inl (by omega))
      rw [← HCG.out] at hp hgl
      have HRS : Aside0 (ps = dn ++ [p] ++ rs') := ⟨by rw [HPS.out, hrs]; simp⟩
      have HCU2 : Aside0 (Cuts a (-1) (dn ++ [p]).length rs') := ⟨by rw [List.length_append]; exact hcu'⟩
      have HGL := Aside0.mk hgl
      have HMP : Aside0 (KB.K W0 p [.slice A1 i i]) := ⟨by
        have h1 := Kd.C_take (m := i) HC1.out (Nat.le_of_lt HX.out.2.2.2)
        rw [← hp] at h1
        have h2 : p.length = i := by rw [hp, List.length_take]; have := HX.out.2.2.2; omega
        rw [h2] at h1
        exact ⟨A1, i, by rw [h2], Nat.le_of_eq h2, by rw [h2]; exact h1⟩⟩
      have hcutp := three A1 cur.length c1 i (Nat.le_of_lt HX.out.2.2.2) HCL.out
      obtain ⟨Y, cy, hfrom, hYC, hYc⟩ := from1 A1 cur c1 W0 i HX.out.2.2.2 HC1.out HCL.out
      rw [← hgl] at hYC hYc
      have hdl : cur.length - (i + 1) = (glue a rs').length := by rw [hgl, List.length_drop]
      rw [hdl] at hfrom
      have HDL2 := Aside0.mk hdl
      have HYC := Aside0.mk hYC
      have HYc := Aside0.mk hYc
      clear hB1 hB2 q3 hrs hcu' hp hgl hYC hYc hdl
      go_upto_region 4 with fail
      refine start_ (n := 11) (S := fun w' => (convert 34 9 (.slice X 1 cx)).run Tryd.prog w' = .ok (.string B1) w' ∧ (convert 34 9 (.slice AS 1 cS)).run Tryd.prog w' = .ok (.string B2) w') (ds := []) #[false, false, false, false, false, false, false, false, false, false, false] (by kernel_rfl) rfl rfl ⟨(HV1.out _ (below_drew1 (Below.refl _ _))), (HV2.out _ (below_drew1 (Below.refl _ _)))⟩ (fun hHeld => ?_)
      refine with_tabW split4.tab4 split4.bits4 (fun HT_ HW_ => ?_)
      generalize World.drew _ = wd at HB2 hHeld ⊢
      refine pure_ (i := 0) (N := some 27) (v := ?_) (a' := ?_) #[true, false, false, false, false, false, false, false, false, false, false] rfl rfl (any_of HT_.out (by kernel_rfl)) (fun _ _ _ h => h) (Or.inl ⟨by rfl, ?_⟩) ?_ ?_
      rotate_left
      · intro w'
        go_simp
        with_reducible rfl
      rotate_left
      · simp only [Act.put, List.setIfInBounds_toArray, List.set_cons_zero, List.set_cons_succ, i64_w, i32_w]
        rfl
      refine pure_ (i := 1) (N := some 28) (v := ?_) (a' := ?_) #[true, true, false, false, false, false, false, false, false, false, false] rfl rfl (any_of HT_.out (by kernel_rfl)) (fun _ _ _ h => h) (Or.inl ⟨by rfl, ?_⟩) ?_ ?_
      rotate_left
      · intro w'
        go_simp
        with_reducible rfl
      rotate_left
      · simp only [Act.put, List.setIfInBounds_toArray, List.set_cons_zero, List.set_cons_succ, i64_w, i32_w]
        rfl
      refine pure_ (i := 2) (N := some 29) (v := ?_) (a' := ?_) #[true, true, true, false, false, false, false, false, false, false, false] rfl rfl (any_of HT_.out (by kernel_rfl)) (fun _ _ _ h => h) (Or.inl ⟨by rfl, ?_⟩) ?_ ?_
      rotate_left
      · intro w'
        go_simp
        with_reducible rfl
      rotate_left
      · simp only [Act.put, List.setIfInBounds_toArray, List.set_cons_zero, List.set_cons_succ, i64_w, i32_w]
        rfl
      refine pure_ (i := 3) (N := some 30) (v := ?_) (a' := ?_) #[true, true, true, true, false, false, false, false, false, false, false] rfl rfl (any_of HT_.out (by kernel_rfl)) (fun _ _ _ h => h) (Or.inl ⟨by rfl, ?_⟩) ?_ ?_
      rotate_left
      · intro w'
        go_simp
        with_reducible rfl
      rotate_left
      · simp only [Act.put, List.setIfInBounds_toArray, List.set_cons_zero, List.set_cons_succ, i64_w, i32_w]
        rfl
      refine pure_ (i := 4) (N := some 31) (v := ?_) (a' := ?_) #[true, true, true, true, true, false, false, false, false, false, false] rfl rfl (any_of HT_.out (by kernel_rfl)) (fun _ _ _ h => h) (Or.inl ⟨by rfl, ?_⟩) ?_ ?_
      rotate_left
      · intro w'
        go_simp
        with_reducible rfl
      rotate_left
      · simp only [Act.put, List.setIfInBounds_toArray, List.set_cons_zero, List.set_cons_succ, i64_w, i32_w]
        rfl
      refine pure_ (i := 5) (N := some 32) (v := ?_) (a' := ?_) #[true, true, true, true, true, true, false, false, false, false, false] rfl rfl (any_of HT_.out (by kernel_rfl)) (fun _ _ _ h => h) (Or.inl ⟨by rfl, ?_⟩) ?_ ?_
      rotate_left
      · intro w'
        go_simp
        with_reducible rfl
      rotate_left
      · simp only [Act.put, List.setIfInBounds_toArray, List.set_cons_zero, List.set_cons_succ, i64_w, i32_w]
        rfl
      refine pure_ (i := 6) (N := some 33) (v := ?_) (a' := ?_) #[true, true, true, true, true, true, true, false, false, false, false] rfl rfl (any_of HT_.out (by kernel_rfl)) (fun _ _ _ h => h) (Or.inl ⟨by rfl, ?_⟩) ?_ ?_
      rotate_left
      · intro w'
        go_simp
        with_reducible rfl
      rotate_left
      · simp only [Act.put, List.setIfInBounds_toArray, List.set_cons_zero, List.set_cons_succ, i64_w, i32_w]
        rfl
      refine pure_ (i := 8) (N := some 35) (v := ?_) (a' := ?_) #[true, true, true, true, true, true, true, false, true, false, false] rfl rfl (any_of HT_.out (by kernel_rfl)) (fun _ _ _ h => h) (Or.inl ⟨by rfl, ?_⟩) ?_ ?_
      rotate_left
      · intro w'
        go_simp
        with_reducible rfl
      rotate_left
      · simp only [Act.put, List.setIfInBounds_toArray, List.set_cons_zero, List.set_cons_succ, i64_w, i32_w]
        rfl
      refine take_ (i := 7) (N := some 34) (v := ?_) (a' := ?_) #[true, true, true, true, true, true, true, true, true, false, false] rfl rfl (take_ofW HT_.out HW_.out (by kernel_rfl)) (fun _ _ _ h => h) (Or.inl ⟨by rfl, ?_⟩) hHeld ?_ ?_
      rotate_left
      · rintro w' ⟨s0, s1⟩
        go_simp
        with_reducible rfl
      rotate_left
      · simp only [Act.put, List.setIfInBounds_toArray, List.set_cons_zero, List.set_cons_succ, i64_w, i32_w]
        rfl
      refine take_ (i := 9) (N := some 36) (v := ?_) (a' := ?_) #[true, true, true, true, true, true, true, true, true, true, false] rfl rfl (take_ofW HT_.out HW_.out (by kernel_rfl)) (fun _ _ _ h => h) (Or.inl ⟨by rfl, ?_⟩) hHeld ?_ ?_
      rotate_left
      · rintro w' ⟨s0, s1⟩
        go_simp
        with_reducible rfl
      rotate_left
      · simp only [Act.put, List.setIfInBounds_toArray, List.set_cons_zero, List.set_cons_succ, i64_w, i32_w]
        rfl
      refine pure_ (i := 10) (N := some 37) (v := ?_) (a' := ?_) #[true, true, true, true, true, true, true, true, true, true, true] rfl rfl (any_of HT_.out (by kernel_rfl)) (fun _ _ _ h => h) (Or.inl ⟨by rfl, ?_⟩) ?_ ?_
      rotate_left
      · intro w'
        go_simp
        with_reducible rfl
      rotate_left
      · simp only [Act.put, List.setIfInBounds_toArray, List.set_cons_zero, List.set_cons_succ, i64_w, i32_w]
        rfl
      refine done_ (done_of HT_.out (by kernel_rfl)) ?_
      go_wp2_with (first
        | ((with_reducible refine gate_builtin (b := .append) (xs := #[.tmp 38, .tmp 43]) rfl ?_); at_builtin; refine Kd.R_append (lent W0 KB) (w0 := W) W.heap.size rfl (.tmp 38) (.tmp 43) 37 34 _ 24 rfl Tryd.underlying37 info34 rfl (by show 0 < 1; decide) (by first | decide | (show 0 < 1; decide)) V7 dn p [.slice A1 i i] (fun _ => True) (fun _ => False) rfl ?hx HMP.out (fun _ h => h.elim) (fun _ _ => trivial) HB2.out.2 HB2.out.1 HB2.out.1.size ?hlen ?_
           case hx => first | (go_simp; done) | (simp [Act.eval]; done)
           case hlen => have := HDN.out; omega
           intro v9 w9 ho9 hb9 hg9 hat9
           have HR9 := Aside0.mk ho9
           have HB9 := Aside0.mk hb9
           clear ho9 hb9 hg9 hat9))
      go_roundg g0
      case measure => omega
      case rel => exact ⟨dn ++ [p], rs', glue a rs', 0, Y, cy, v9, rfl, rfl, rfl, ⟨by have := HK.out; have := HDL2.out; omega⟩, HRS, HCU2, ⟨rfl⟩, ⟨fun j hj => absurd hj (Nat.not_lt_zero _)⟩, ⟨by have := HLN.out; have := HDL2.out; have := HX.out.2.2.2; rw [List.length_append]; simp only [List.length_cons, List.length_nil]; omega⟩, HYC, HYc, ⟨fun y hy => HB1.out y (by rw [HGL.out] at hy; exact List.mem_of_mem_drop hy)⟩, HB9, HR9⟩
    · have hbb : (B1.toList == B2.toList) = false := by
        rw [beq_eq_false_iff_ne, hB1, hB2]
        intro e
        exact q3 (one_inj HX.out.2.1 HX.out.2.2.1 HA.out.1 HA.out.2 e)
      have HQ3 := Aside0.mk q3
      clear hB1 hB2 q3
      go_upto_region 4 with fail
      refine start_ (n := 11) (S := fun w' => (convert 34 9 (.slice X 1 cx)).run Tryd.prog w' = .ok (.string B1) w' ∧ (convert 34 9 (.slice AS 1 cS)).run Tryd.prog w' = .ok (.string B2) w') (ds := []) #[false, false, false, false, false, false, false, false, false, false, false] (by kernel_rfl) rfl rfl ⟨(HV1.out _ (below_drew1 (Below.refl _ _))), (HV2.out _ (below_drew1 (Below.refl _ _)))⟩ (fun hHeld => ?_)
      refine with_tabW split4.tab4 split4.bits4 (fun HT_ HW_ => ?_)
      generalize World.drew _ = wd at HB2 hHeld ⊢
      refine pure_ (i := 0) (N := some 27) (v := ?_) (a' := ?_) #[true, false, false, false, false, false, false, false, false, false, false] rfl rfl (any_of HT_.out (by kernel_rfl)) (fun _ _ _ h => h) (Or.inl ⟨by rfl, ?_⟩) ?_ ?_
      rotate_left
      · intro w'
        go_simp
        with_reducible rfl
      rotate_left
      · simp only [Act.put, List.setIfInBounds_toArray, List.set_cons_zero, List.set_cons_succ, i64_w, i32_w]
        rfl
      refine pure_ (i := 1) (N := some 28) (v := ?_) (a' := ?_) #[true, true, false, false, false, false, false, false, false, false, false] rfl rfl (any_of HT_.out (by kernel_rfl)) (fun _ _ _ h => h) (Or.inl ⟨by rfl, ?_⟩) ?_ ?_
      rotate_left
      · intro w'
        go_simp
        with_reducible rfl
      rotate_left
      · simp only [Act.put, List.setIfInBounds_toArray, List.set_cons_zero, List.set_cons_succ, i64_w, i32_w]
        rfl
      refine pure_ (i := 2) (N := some 29) (v := ?_) (a' := ?_) #[true, true, true, false, false, false, false, false, false, false, false] rfl rfl (any_of HT_.out (by kernel_rfl)) (fun _ _ _ h => h) (Or.inl ⟨by rfl, ?_⟩) ?_ ?_
      rotate_left
      · intro w'
        go_simp
        with_reducible rfl
      rotate_left
      · simp only [Act.put, List.setIfInBounds_toArray, List.set_cons_zero, List.set_cons_succ, i64_w, i32_w]
        rfl
      refine pure_ (i := 3) (N := some 30) (v := ?_) (a' := ?_) #[true, true, true, true, false, false, false, false, false, false, false] rfl rfl (any_of HT_.out (by kernel_rfl)) (fun _ _ _ h => h) (Or.inl ⟨by rfl, ?_⟩) ?_ ?_
      rotate_left
      · intro w'
        go_simp
        with_reducible rfl
      rotate_left
      · simp only [Act.put, List.setIfInBounds_toArray, List.set_cons_zero, List.set_cons_succ, i64_w, i32_w]
        rfl
      refine pure_ (i := 4) (N := some 31) (v := ?_) (a' := ?_) #[true, true, true, true, true, false, false, false, false, false, false] rfl rfl (any_of HT_.out (by kernel_rfl)) (fun _ _ _ h => h) (Or.inl ⟨by rfl, ?_⟩) ?_ ?_
      rotate_left
      · intro w'
        go_simp
        with_reducible rfl
      rotate_left
      · simp only [Act.put, List.setIfInBounds_toArray, List.set_cons_zero, List.set_cons_succ, i64_w, i32_w]
        rfl
      refine pure_ (i := 5) (N := some 32) (v := ?_) (a' := ?_) #[true, true, true, true, true, true, false, false, false, false, false] rfl rfl (any_of HT_.out (by kernel_rfl)) (fun _ _ _ h => h) (Or.inl ⟨by rfl, ?_⟩) ?_ ?_
      rotate_left
      · intro w'
        go_simp
        with_reducible rfl
      rotate_left
      · simp only [Act.put, List.setIfInBounds_toArray, List.set_cons_zero, List.set_cons_succ, i64_w, i32_w]
        rfl
      refine pure_ (i := 6) (N := some 33) (v := ?_) (a' := ?_) #[true, true, true, true, true, true, true, false, false, false, false] rfl rfl (any_of HT_.out (by kernel_rfl)) (fun _ _ _ h => h) (Or.inl ⟨by rfl, ?_⟩) ?_ ?_
      rotate_left
      · intro w'
        go_simp
        with_reducible rfl
      rotate_left
      · simp only [Act.put, List.setIfInBounds_toArray, List.set_cons_zero, List.set_cons_succ, i64_w, i32_w]
        rfl
      refine pure_ (i := 8) (N := some 35) (v := ?_) (a' := ?_) #[true, true, true, true, true, true, true, false, true, false, false] rfl rfl (any_of HT_.out (by kernel_rfl)) (fun _ _ _ h => h) (Or.inl ⟨by rfl, ?_⟩) ?_ ?_
      rotate_left
      · intro w'
        go_simp
        with_reducible rfl
      rotate_left
      · simp only [Act.put, List.setIfInBounds_toArray, List.set_cons_zero, List.set_cons_succ, i64_w, i32_w]
        rfl
      refine take_ (i := 7) (N := some 34) (v := ?_) (a' := ?_) #[true, true, true, true, true, true, true, true, true, false, false] rfl rfl (take_ofW HT_.out HW_.out (by kernel_rfl)) (fun _ _ _ h => h) (Or.inl ⟨by rfl, ?_⟩) hHeld ?_ ?_
      rotate_left
      · rintro w' ⟨s0, s1⟩
        go_simp
        with_reducible rfl
      rotate_left
      · simp only [Act.put, List.setIfInBounds_toArray, List.set_cons_zero, List.set_cons_succ, i64_w, i32_w]
        rfl
      refine take_ (i := 9) (N := some 36) (v := ?_) (a' := ?_) #[true, true, true, true, true, true, true, true, true, true, false] rfl rfl (take_ofW HT_.out HW_.out (by kernel_rfl)) (fun _ _ _ h => h) (Or.inl ⟨by rfl, ?_⟩) hHeld ?_ ?_
      rotate_left
      · rintro w' ⟨s0, s1⟩
        go_simp
        with_reducible rfl
      rotate_left
      · simp only [Act.put, List.setIfInBounds_toArray, List.set_cons_zero, List.set_cons_succ, i64_w, i32_w]
        rfl
      refine pure_ (i := 10) (N := some 37) (v := ?_) (a' := ?_) #[true, true, true, true, true, true, true, true, true, true, true] rfl rfl (any_of HT_.out (by kernel_rfl)) (fun _ _ _ h => h) (Or.inl ⟨by rfl, ?_⟩) ?_ ?_
      rotate_left
      · intro w'
        go_simp
        with_reducible rfl
      rotate_left
      · simp only [Act.put, List.setIfInBounds_toArray, List.set_cons_zero, List.set_cons_succ, i64_w, i32_w]
        rfl
      refine done_ (done_of HT_.out (by kernel_rfl)) ?_
      go_wp2
      go_roundg g0
      case measure => omega
      case rel => exact ⟨dn, rs, cur, i + 1, A1, c1, V7, rfl, rfl, by rw [hw1]; push_cast; rfl, ⟨by have := HK.out; omega⟩, HPS, HCU, HCG, ⟨fun j hj e => by
        by_cases h : j < i
        · exact HNO.out j h e
        · obtain rfl : j = i := by omega
          rw [HX.out.1] at e
          exact HQ3.out (by injection e)⟩, HLN, HC1, HCL, HB1, ⟨HB2.out.1⟩, ⟨HB2.out.2⟩⟩

set_option maxHeartbeats 8000000 in
set_option maxRecDepth 100000 in
theorem splitTwo (a : Int) (A AS : Option Addr) (c cS : Nat) (D : List Int) (ps : List (List Int)) (W0 W : World) (hb0 : Below W0.heap.size W0 W) (hC : Kd.C (Kd.int .u8) W0 A D.length D) (hc : D.length ≤ c) (hS : Kd.C (Kd.int .u8) W AS 1 [a]) (hD : D.length ≤ 4000000) (hcut : Cuts a (2) 0 ps) (hg : D = glue a ps) (ha : 0 ≤ a ∧ a < 256) (hby : ∀ x ∈ D, 0 ≤ x ∧ x < 256) :
    Calls Tryd.prog 35 #[.slice A D.length c, .slice AS 1 cS, .int .i64 (2)] W fun e w' => ∃ v, e = .returned v ∧ (lent W0 KB).R 34 w' W.heap.size (fun _ => True) v ps ∧ Below W.heap.size W w' := by
  have HC := Aside0.mk hC
  have HB0 := Aside0.mk hb0
  have HCc := Aside0.mk hc
  have HS := Aside0.mk hS
  have HDL := Aside0.mk hD
  have HCUT := Aside0.mk hcut
  have HG := Aside0.mk hg
  have HA := Aside0.mk ha
  have HBY := Aside0.mk hby
  obtain ⟨cur0, hcur0⟩ : ∃ cur0, cur0 = D := ⟨_, rfl⟩
  clear hC hb0 hc hS hD hcut hg ha hby
  go_enter Tryd.func35, Tryd.ntmps35
  go_wp2
  go_loopg [0, 7, 8] D.length (fun gk v0 v7 v8 w' => ∃ (dn rs : List (List Int)) (cur : List Int) (i : Nat) (A1 : Option Addr) (c1 : Nat) (V7 : Value), v0 = .slice A1 cur.length c1 ∧ v7 = V7 ∧ v8 = .int .i64 (i : Int) ∧ Aside0 (i + gk = cur.length) ∧ Aside0 (ps = dn ++ rs) ∧ Aside0 (Cuts a (2) dn.length rs) ∧ Aside0 (cur = glue a rs) ∧ Aside0 (∀ j, j < i → cur[j]? ≠ some a) ∧ Aside0 (dn.length + cur.length ≤ D.length) ∧ Aside0 (Kd.C (Kd.int .u8) W0 A1 cur.length cur) ∧ Aside0 (cur.length ≤ c1) ∧ Aside0 (∀ x ∈ cur, 0 ≤ x ∧ x < 256) ∧ Aside0 (Below W.heap.size W w') ∧ Aside0 ((lent W0 KB).R 34 w' W.heap.size (fun _ => True) V7 dn))
  case atStart => exact ⟨[], ps, D, 0, A, c, .slice none 0 0, rfl, rfl, rfl, ⟨by omega⟩, ⟨rfl⟩, HCUT, HG, ⟨fun j hj => absurd hj (Nat.not_lt_zero _)⟩, ⟨by simp⟩, HC, HCc, HBY, ⟨Below.refl _ _⟩, ⟨Kd.R_nil _ _ _ _ _⟩⟩
  case round =>
    obtain ⟨dn, rs, cur, i, A1, c1, V7, rfl, hV7, rfl, HK, HPS, HCU, HCG, HNO, HLN, HC1, HCL, HB1, HB, HR⟩ := hrel
    replace hV7 := hV7.symm
    subst hV7
    have HDN : Aside0 (dn.length ≤ 4000000) := ⟨by have := HLN.out; have := HDL.out; omega⟩
    have HCN : Aside0 (cur.length ≤ 4000000) := ⟨by have := HLN.out; have := HDL.out; omega⟩
    have HME : Aside0 (KB.K W0 cur [.slice A1 cur.length c1]) := ⟨⟨A1, c1, rfl, HCL.out, HC1.out⟩⟩
    have hw1 : wrap64 ((i : Int) + 1) = (i : Int) + 1 := by have := HK.out; have := HCN.out; unfold wrap64; omega
    by_cases q1 : i < cur.length
    rotate_left
    · have hrs : rs = [cur] := by rw [HCG.out]; exact cuts_end HCU.out (fun j => by
        rw [← HCG.out]
        by_cases hj : j < i
        · exact HNO.out j hj
        · intro e
          have := (List.getElem?_eq_some_iff.1 e).1
          omega)
      have HPR : Aside0 (ps = dn ++ [cur]) := ⟨by rw [HPS.out, hrs]⟩
      have z0 : ¬ ((i : Int) + 1 ≤ (cur.length : Int)) := by omega
      have z1 : decide ((i : Int) + 1 ≤ (cur.length : Int)) = false := decide_eq_false z0
      clear hrs
      go_wp2_with (first
        | ((with_reducible refine gate_builtin (b := .append) (xs := #[.tmp 53, .tmp 55]) rfl ?_); at_builtin; refine Kd.R_append (lent W0 KB) (w0 := W) W.heap.size rfl (.tmp 53) (.tmp 55) 37 34 _ 24 rfl Tryd.underlying37 info34 rfl (by show 0 < 1; decide) (by first | decide | (show 0 < 1; decide)) V7 dn cur [.slice A1 cur.length c1] (fun _ => True) (fun _ => False) rfl ?hx HME.out (fun _ h => h.elim) (fun _ _ => trivial) HR.out HB.out HB.out.size ?hlen ?_
           case hx => first | (go_simp; done) | (simp [Act.eval]; done)
           case hlen => have := HDN.out; omega
           intro v9 w9 ho9 hb9 hg9 hat9
           have HR9 := Aside0.mk ho9
           have HB9 := Aside0.mk hb9
           clear ho9 hb9 hg9 hat9))
      go_ret
      exact ⟨v9, rfl, by rw [HPR.out]; exact HR9.out, HB9.out⟩
    have z0 : (i : Int) + 1 ≤ (cur.length : Int) := by omega
    have z1 : decide ((i : Int) + 1 ≤ (cur.length : Int)) = true := decide_eq_true z0
    obtain ⟨A7, c7, rfl⟩ := Kd.R_slice HR.out
    by_cases q2 : dn.length < 1
    rotate_left
    · have hrs : rs = [cur] := by rw [HCG.out]; exact cuts_full HCU.out (by omega) (by omega)
      have HPR : Aside0 (ps = dn ++ [cur]) := ⟨by rw [HPS.out, hrs]⟩
      have z2 : ¬ ((dn.length : Int) < 1) := by omega
      have z3 : decide ((dn.length : Int) < 1) = false := decide_eq_false z2
      clear hrs
      go_wp2_with (first
        | ((with_reducible refine gate_builtin (b := .append) (xs := #[.tmp 53, .tmp 55]) rfl ?_); at_builtin; refine Kd.R_append (lent W0 KB) (w0 := W) W.heap.size rfl (.tmp 53) (.tmp 55) 37 34 _ 24 rfl Tryd.underlying37 info34 rfl (by show 0 < 1; decide) (by first | decide | (show 0 < 1; decide)) (.slice A7 dn.length c7) dn cur [.slice A1 cur.length c1] (fun _ => True) (fun _ => False) rfl ?hx HME.out (fun _ h => h.elim) (fun _ _ => trivial) HR.out HB.out HB.out.size ?hlen ?_
           case hx => first | (go_simp; done) | (simp [Act.eval]; done)
           case hlen => have := HDN.out; omega
           intro v9 w9 ho9 hb9 hg9 hat9
           have HR9 := Aside0.mk ho9
           have HB9 := Aside0.mk hb9
           clear ho9 hb9 hg9 hat9))
      go_ret
      exact ⟨v9, rfl, by rw [HPR.out]; exact HR9.out, HB9.out⟩
    have z2 : (dn.length : Int) < 1 := by omega
    have z3 : decide ((dn.length : Int) < 1) = true := decide_eq_true z2
    obtain ⟨g0, rfl⟩ : ∃ m, gk = m + 1 := ⟨gk - 1, by have := HK.out; omega⟩
    obtain ⟨x, hx⟩ : ∃ x, cur[i]? = some x := ⟨_, List.getElem?_eq_getElem q1⟩
    have hxm : x ∈ cur := List.mem_of_getElem? hx
    obtain ⟨X, cx, hmid, hXC, hXc⟩ := mid A1 cur c1 W0 i q1 HC1.out HCL.out
    have hX1 : (cur.drop i).take 1 = [x] := by
      rw [List.drop_eq_getElem_cons q1]
      have := (List.getElem?_eq_some_iff.1 hx).2
      simp [this]
    rw [hX1] at hXC
    obtain ⟨B1, hB1⟩ : ∃ B1, B1 = strOfNums [x] := ⟨_, rfl⟩
    obtain ⟨B2, hB2⟩ : ∃ B2, B2 = strOfNums [a] := ⟨_, rfl⟩
    have HV1 : Aside0 (∀ W1, Below wr.heap.size wr W1 → (convert 34 9 (.slice X 1 cx)).run Tryd.prog W1 = .ok (.string B1) W1) := ⟨fun W1 hb => by rw [hB1]; exact Kd.C_string (P := Tryd.prog) Tryd.underlying34 Tryd.underlying5 Tryd.underlying9 (Kd.C_below hXC (HB0.out.trans ((HB.out.trans (hb.mono HB.out.size)).mono HB0.out.size)))⟩
    have HV2 : Aside0 (∀ W1, Below wr.heap.size wr W1 → (convert 34 9 (.slice AS 1 cS)).run Tryd.prog W1 = .ok (.string B2) W1) := ⟨fun W1 hb => by rw [hB2]; exact Kd.C_string (P := Tryd.prog) Tryd.underlying34 Tryd.underlying5 Tryd.underlying9 (Kd.C_below HS.out (HB.out.trans (hb.mono HB.out.size)))⟩
    have HB2 : Aside0 (Below W.heap.size W wr.drew ∧ (lent W0 KB).R 34 wr.drew W.heap.size (fun _ => True) (.slice A7 dn.length c7) dn) := ⟨HB.out.trans ((below_drew1 (Below.refl _ _)).mono HB.out.size), Kd.R_below HR.out (below_drew1 (Below.refl _ _))⟩
    have HX : Aside0 (cur[i]? = some x ∧ 0 ≤ x ∧ x < 256 ∧ i < cur.length) := ⟨hx, (HB1.out x hxm).1, (HB1.out x hxm).2, q1⟩
    clear hx hxm hXC hXc hX1 q1
    by_cases q3 : x = a
    · have hbb : (B1.toList == B2.toList) = true := by rw [hB1, hB2, q3]; simp
      obtain ⟨p, rs', hrs, hcu', hp, hgl⟩ := cuts_hit HCU.out i (by rw [← HCG.out, HX.out.1, q3]) (fun j hj => by rw [← HCG.out]; exact HNO.out j hj) (Or.inr (by omega))
      rw [← HCG.out] at hp hgl
      have HRS : Aside0 (ps = dn ++ [p] ++ rs') := ⟨by rw [HPS.out, hrs]; simp⟩
      have HCU2 : Aside0 (Cuts a (2) (dn ++ [p]).length rs') := ⟨by rw [List.length_append]; exact hcu'⟩
      have HGL := Aside0.mk hgl
      have HMP : Aside0 (KB.K W0 p [.slice A1 i i]) := ⟨by
        have h1 := Kd.C_take (m := i) HC1.out (Nat.le_of_lt HX.out.2.2.2)
        rw [← hp] at h1
        have h2 : p.length = i := by rw [hp, List.length_take]; have := HX.out.2.2.2; omega
        rw [h2] at h1
        exact ⟨A1, i, by rw [h2], Nat.le_of_eq h2, by rw [h2]; exact h1⟩⟩
      have hcutp := three A1 cur.length c1 i (Nat.le_of_lt HX.out.2.2.2) HCL.out
      obtain ⟨Y, cy, hfrom, hYC, hYc⟩ := from1 A1 cur c1 W0 i HX.out.2.2.2 HC1.out HCL.out
      rw [← hgl] at hYC hYc
      have hdl : cur.length - (i + 1) = (glue a rs').length := by rw [hgl, List.length_drop]
      rw [hdl] at hfrom
      have HDL2 := Aside0.mk hdl
      have HYC := Aside0.mk hYC
      have HYc := Aside0.mk hYc
      clear hB1 hB2 q3 hrs hcu' hp hgl hYC hYc hdl
      go_upto_region 4 with fail
      refine start_ (n := 11) (S := fun w' => (convert 34 9 (.slice X 1 cx)).run Tryd.prog w' = .ok (.string B1) w' ∧ (convert 34 9 (.slice AS 1 cS)).run Tryd.prog w' = .ok (.string B2) w') (ds := []) #[false, false, false, false, false, false, false, false, false, false, false] (by kernel_rfl) rfl rfl ⟨(HV1.out _ (below_drew1 (Below.refl _ _))), (HV2.out _ (below_drew1 (Below.refl _ _)))⟩ (fun hHeld => ?_)
      refine with_tabW split4.tab4 split4.bits4 (fun HT_ HW_ => ?_)
      generalize World.drew _ = wd at HB2 hHeld ⊢
      refine pure_ (i := 0) (N := some 27) (v := ?_) (a' := ?_) #[true, false, false, false, false, false, false, false, false, false, false] rfl rfl (any_of HT_.out (by kernel_rfl)) (fun _ _ _ h => h) (Or.inl ⟨by rfl, ?_⟩) ?_ ?_
      rotate_left
      · intro w'
        go_simp
        with_reducible rfl
      rotate_left
      · simp only [Act.put, List.setIfInBounds_toArray, List.set_cons_zero, List.set_cons_succ, i64_w, i32_w]
        rfl
      refine pure_ (i := 1) (N := some 28) (v := ?_) (a' := ?_) #[true, true, false, false, false, false, false, false, false, false, false] rfl rfl (any_of HT_.out (by kernel_rfl)) (fun _ _ _ h => h) (Or.inl ⟨by rfl, ?_⟩) ?_ ?_
      rotate_left
      · intro w'
        go_simp
        with_reducible rfl
      rotate_left
      · simp only [Act.put, List.setIfInBounds_toArray, List.set_cons_zero, List.set_cons_succ, i64_w, i32_w]
        rfl
      refine pure_ (i := 2) (N := some 29) (v := ?_) (a' := ?_) #[true, true, true, false, false, false, false, false, false, false, false] rfl rfl (any_of HT_.out (by kernel_rfl)) (fun _ _ _ h => h) (Or.inl ⟨by rfl, ?_⟩) ?_ ?_
      rotate_left
      · intro w'
        go_simp
        with_reducible rfl
      rotate_left
      · simp only [Act.put, List.setIfInBounds_toArray, List.set_cons_zero, List.set_cons_succ, i64_w, i32_w]
        rfl
      refine pure_ (i := 3) (N := some 30) (v := ?_) (a' := ?_) #[true, true, true, true, false, false, false, false, false, false, false] rfl rfl (any_of HT_.out (by kernel_rfl)) (fun _ _ _ h => h) (Or.inl ⟨by rfl, ?_⟩) ?_ ?_
      rotate_left
      · intro w'
        go_simp
        with_reducible rfl
      rotate_left
      · simp only [Act.put, List.setIfInBounds_toArray, List.set_cons_zero, List.set_cons_succ, i64_w, i32_w]
        rfl
      refine pure_ (i := 4) (N := some 31) (v := ?_) (a' := ?_) #[true, true, true, true, true, false, false, false, false, false, false] rfl rfl (any_of HT_.out (by kernel_rfl)) (fun _ _ _ h => h) (Or.inl ⟨by rfl, ?_⟩) ?_ ?_
      rotate_left
      · intro w'
        go_simp
        with_reducible rfl
      rotate_left
      · simp only [Act.put, List.setIfInBounds_toArray, List.set_cons_zero, List.set_cons_succ, i64_w, i32_w]
        rfl
      refine pure_ (i := 5) (N := some 32) (v := ?_) (a' := ?_) #[true, true, true, true, true, true, false, false, false, false, false] rfl rfl (any_of HT_.out (by kernel_rfl)) (fun _ _ _ h => h) (Or.inl ⟨by rfl, ?_⟩) ?_ ?_
      rotate_left
      · intro w'
        go_simp
        with_reducible rfl
      rotate_left
      · simp only [Act.put, List.setIfInBounds_toArray, List.set_cons_zero, List.set_cons_succ, i64_w, i32_w]
        rfl
      refine pure_ (i := 6) (N := some 33) (v := ?_) (a' := ?_) #[true, true, true, true, true, true, true, false, false, false, false] rfl rfl (any_of HT_.out (by kernel_rfl)) (fun _ _ _ h => h) (Or.inl ⟨by rfl, ?_⟩) ?_ ?_
      rotate_left
      · intro w'
        go_simp
        with_reducible rfl
      rotate_left
      · simp only [Act.put, List.setIfInBounds_toArray, List.set_cons_zero, List.set_cons_succ, i64_w, i32_w]
        rfl
      refine pure_ (i := 8) (N := some 35) (v := ?_) (a' := ?_) #[true, true, true, true, true, true, true, false, true, false, false] rfl rfl (any_of HT_.out (by kernel_rfl)) (fun _ _ _ h => h) (Or.inl ⟨by rfl, ?_⟩) ?_ ?_
      rotate_left
      · intro w'
        go_simp
        with_reducible rfl
      rotate_left
      · simp only [Act.put, List.setIfInBounds_toArray, List.set_cons_zero, List.set_cons_succ, i64_w, i32_w]
        rfl
      refine take_ (i := 7) (N := some 34) (v := ?_) (a' := ?_) #[true, true, true, true, true, true, true, true, true, false, false] rfl rfl (take_ofW HT_.out HW_.out (by kernel_rfl)) (fun _ _ _ h => h) (Or.inl ⟨by rfl, ?_⟩) hHeld ?_ ?_
      rotate_left
      · rintro w' ⟨s0, s1⟩
        go_simp
        with_reducible rfl
      rotate_left
      · simp only [Act.put, List.setIfInBounds_toArray, List.set_cons_zero, List.set_cons_succ, i64_w, i32_w]
        rfl
      refine take_ (i := 9) (N := some 36) (v := ?_) (a' := ?_) #[true, true, true, true, true, true, true, true, true, true, false] rfl rfl (take_ofW HT_.out HW_.out (by kernel_rfl)) (fun _ _ _ h => h) (Or.inl ⟨by rfl, ?_⟩) hHeld ?_ ?_
      rotate_left
      · rintro w' ⟨s0, s1⟩
        go_simp
        with_reducible rfl
      rotate_left
      · simp only [Act.put, List.setIfInBounds_toArray, List.set_cons_zero, List.set_cons_succ, i64_w, i32_w]
        rfl
      refine pure_ (i := 10) (N := some 37) (v := ?_) (a' := ?_) #[true, true, true, true, true, true, true, true, true, true, true] rfl rfl (any_of HT_.out (by kernel_rfl)) (fun _ _ _ h => h) (Or.inl ⟨by rfl, ?_⟩) ?_ ?_
      rotate_left
      · intro w'
        go_simp
        with_reducible rfl
      rotate_left
      · simp only [Act.put, List.setIfInBounds_toArray, List.set_cons_zero, List.set_cons_succ, i64_w, i32_w]
        rfl
      refine done_ (done_of HT_.out (by kernel_rfl)) ?_
      go_wp2_with (first
        | ((with_reducible refine gate_builtin (b := .append) (xs := #[.tmp 38, .tmp 43]) rfl ?_); at_builtin; refine Kd.R_append (lent W0 KB) (w0 := W) W.heap.size rfl (.tmp 38) (.tmp 43) 37 34 _ 24 rfl Tryd.underlying37 info34 rfl (by show 0 < 1; decide) (by first | decide | (show 0 < 1; decide)) (.slice A7 dn.length c7) dn p [.slice A1 i i] (fun _ => True) (fun _ => False) rfl ?hx HMP.out (fun _ h => h.elim) (fun _ _ => trivial) HB2.out.2 HB2.out.1 HB2.out.1.size ?hlen ?_
           case hx => first | (go_simp; done) | (simp [Act.eval]; done)
           case hlen => have := HDN.out; omega
           intro v9 w9 ho9 hb9 hg9 hat9
           have HR9 := Aside0.mk ho9
           have HB9 := Aside0.mk hb9
           clear ho9 hb9 hg9 hat9))
      go_roundg g0
      case measure => omega
      case rel => exact ⟨dn ++ [p], rs', glue a rs', 0, Y, cy, v9, rfl, rfl, rfl, ⟨by have := HK.out; have := HDL2.out; omega⟩, HRS, HCU2, ⟨rfl⟩, ⟨fun j hj => absurd hj (Nat.not_lt_zero _)⟩, ⟨by have := HLN.out; have := HDL2.out; have := HX.out.2.2.2; rw [List.length_append]; simp only [List.length_cons, List.length_nil]; omega⟩, HYC, HYc, ⟨fun y hy => HB1.out y (by rw [HGL.out] at hy; exact List.mem_of_mem_drop hy)⟩, HB9, HR9⟩
    · have hbb : (B1.toList == B2.toList) = false := by
        rw [beq_eq_false_iff_ne, hB1, hB2]
        intro e
        exact q3 (one_inj HX.out.2.1 HX.out.2.2.1 HA.out.1 HA.out.2 e)
      have HQ3 := Aside0.mk q3
      clear hB1 hB2 q3
      go_upto_region 4 with fail
      refine start_ (n := 11) (S := fun w' => (convert 34 9 (.slice X 1 cx)).run Tryd.prog w' = .ok (.string B1) w' ∧ (convert 34 9 (.slice AS 1 cS)).run Tryd.prog w' = .ok (.string B2) w') (ds := []) #[false, false, false, false, false, false, false, false, false, false, false] (by kernel_rfl) rfl rfl ⟨(HV1.out _ (below_drew1 (Below.refl _ _))), (HV2.out _ (below_drew1 (Below.refl _ _)))⟩ (fun hHeld => ?_)
      refine with_tabW split4.tab4 split4.bits4 (fun HT_ HW_ => ?_)
      generalize World.drew _ = wd at HB2 hHeld ⊢
      refine pure_ (i := 0) (N := some 27) (v := ?_) (a' := ?_) #[true, false, false, false, false, false, false, false, false, false, false] rfl rfl (any_of HT_.out (by kernel_rfl)) (fun _ _ _ h => h) (Or.inl ⟨by rfl, ?_⟩) ?_ ?_
      rotate_left
      · intro w'
        go_simp
        with_reducible rfl
      rotate_left
      · simp only [Act.put, List.setIfInBounds_toArray, List.set_cons_zero, List.set_cons_succ, i64_w, i32_w]
        rfl
      refine pure_ (i := 1) (N := some 28) (v := ?_) (a' := ?_) #[true, true, false, false, false, false, false, false, false, false, false] rfl rfl (any_of HT_.out (by kernel_rfl)) (fun _ _ _ h => h) (Or.inl ⟨by rfl, ?_⟩) ?_ ?_
      rotate_left
      · intro w'
        go_simp
        with_reducible rfl
      rotate_left
      · simp only [Act.put, List.setIfInBounds_toArray, List.set_cons_zero, List.set_cons_succ, i64_w, i32_w]
        rfl
      refine pure_ (i := 2) (N := some 29) (v := ?_) (a' := ?_) #[true, true, true, false, false, false, false, false, false, false, false] rfl rfl (any_of HT_.out (by kernel_rfl)) (fun _ _ _ h => h) (Or.inl ⟨by rfl, ?_⟩) ?_ ?_
      rotate_left
      · intro w'
        go_simp
        with_reducible rfl
      rotate_left
      · simp only [Act.put, List.setIfInBounds_toArray, List.set_cons_zero, List.set_cons_succ, i64_w, i32_w]
        rfl
      refine pure_ (i := 3) (N := some 30) (v := ?_) (a' := ?_) #[true, true, true, true, false, false, false, false, false, false, false] rfl rfl (any_of HT_.out (by kernel_rfl)) (fun _ _ _ h => h) (Or.inl ⟨by rfl, ?_⟩) ?_ ?_
      rotate_left
      · intro w'
        go_simp
        with_reducible rfl
      rotate_left
      · simp only [Act.put, List.setIfInBounds_toArray, List.set_cons_zero, List.set_cons_succ, i64_w, i32_w]
        rfl
      refine pure_ (i := 4) (N := some 31) (v := ?_) (a' := ?_) #[true, true, true, true, true, false, false, false, false, false, false] rfl rfl (any_of HT_.out (by kernel_rfl)) (fun _ _ _ h => h) (Or.inl ⟨by rfl, ?_⟩) ?_ ?_
      rotate_left
      · intro w'
        go_simp
        with_reducible rfl
      rotate_left
      · simp only [Act.put, List.setIfInBounds_toArray, List.set_cons_zero, List.set_cons_succ, i64_w, i32_w]
        rfl
      refine pure_ (i := 5) (N := some 32) (v := ?_) (a' := ?_) #[true, true, true, true, true, true, false, false, false, false, false] rfl rfl (any_of HT_.out (by kernel_rfl)) (fun _ _ _ h => h) (Or.inl ⟨by rfl, ?_⟩) ?_ ?_
      rotate_left
      · intro w'
        go_simp
        with_reducible rfl
      rotate_left
      · simp only [Act.put, List.setIfInBounds_toArray, List.set_cons_zero, List.set_cons_succ, i64_w, i32_w]
        rfl
      refine pure_ (i := 6) (N := some 33) (v := ?_) (a' := ?_) #[true, true, true, true, true, true, true, false, false, false, false] rfl rfl (any_of HT_.out (by kernel_rfl)) (fun _ _ _ h => h) (Or.inl ⟨by rfl, ?_⟩) ?_ ?_
      rotate_left
      · intro w'
        go_simp
        with_reducible rfl
      rotate_left
      · simp only [Act.put, List.setIfInBounds_toArray, List.set_cons_zero, List.set_cons_succ, i64_w, i32_w]
        rfl
      refine pure_ (i := 8) (N := some 35) (v := ?_) (a' := ?_) #[true, true, true, true, true, true, true, false, true, false, false] rfl rfl (any_of HT_.out (by kernel_rfl)) (fun _ _ _ h => h) (Or.inl ⟨by rfl, ?_⟩) ?_ ?_
      rotate_left
      · intro w'
        go_simp
        with_reducible rfl
      rotate_left
      · simp only [Act.put, List.setIfInBounds_toArray, List.set_cons_zero, List.set_cons_succ, i64_w, i32_w]
        rfl
      refine take_ (i := 7) (N := some 34) (v := ?_) (a' := ?_) #[true, true, true, true, true, true, true, true, true, false, false] rfl rfl (take_ofW HT_.out HW_.out (by kernel_rfl)) (fun _ _ _ h => h) (Or.inl ⟨by rfl, ?_⟩) hHeld ?_ ?_
      rotate_left
      · rintro w' ⟨s0, s1⟩
        go_simp
        with_reducible rfl
      rotate_left
      · simp only [Act.put, List.setIfInBounds_toArray, List.set_cons_zero, List.set_cons_succ, i64_w, i32_w]
        rfl
      refine take_ (i := 9) (N := some 36) (v := ?_) (a' := ?_) #[true, true, true, true, true, true, true, true, true, true, false] rfl rfl (take_ofW HT_.out HW_.out (by kernel_rfl)) (fun _ _ _ h => h) (Or.inl ⟨by rfl, ?_⟩) hHeld ?_ ?_
      rotate_left
      · rintro w' ⟨s0, s1⟩
        go_simp
        with_reducible rfl
      rotate_left
      · simp only [Act.put, List.setIfInBounds_toArray, List.set_cons_zero, List.set_cons_succ, i64_w, i32_w]
        rfl
      refine pure_ (i := 10) (N := some 37) (v := ?_) (a' := ?_) #[true, true, true, true, true, true, true, true, true, true, true] rfl rfl (any_of HT_.out (by kernel_rfl)) (fun _ _ _ h => h) (Or.inl ⟨by rfl, ?_⟩) ?_ ?_
      rotate_left
      · intro w'
        go_simp
        with_reducible rfl
      rotate_left
      · simp only [Act.put, List.setIfInBounds_toArray, List.set_cons_zero, List.set_cons_succ, i64_w, i32_w]
        rfl
      refine done_ (done_of HT_.out (by kernel_rfl)) ?_
      go_wp2
      go_roundg g0
      case measure => omega
      case rel => exact ⟨dn, rs, cur, i + 1, A1, c1, (.slice A7 dn.length c7), rfl, rfl, by rw [hw1]; push_cast; rfl, ⟨by have := HK.out; omega⟩, HPS, HCU, HCG, ⟨fun j hj e => by
        by_cases h : j < i
        · exact HNO.out j h e
        · obtain rfl : j = i := by omega
          rw [HX.out.1] at e
          exact HQ3.out (by injection e)⟩, HLN, HC1, HCL, HB1, ⟨HB2.out.1⟩, ⟨HB2.out.2⟩⟩

#print axioms splitAll
#print axioms splitTwo
end Go.Proofs.YtbemlaalccoepaaDoor.CapS

set_option linter.unusedVariables false
set_option linter.unusedSimpArgs false
namespace Go.Proofs.YtbemlaalccoepaaDoor.CapT
open Go.RowKit Go.Proofs.YtbemlaalccoepaaDoorW.PrintWords Go.Proofs.YtbemlaalccoepaaDoorW.PrintLast Go.Proofs.YtbemlaalccoepaaDoorW.PrintMore Go.Proofs.YtbemlaalccoepaaDoor.QAll Txt SMap CapA Ptr CapB CapC CapD CapE

set_option maxHeartbeats 8000000 in
set_option maxRecDepth 100000 in
theorem addMore (lb mb : Nat) (G : Nat → Nat) (L : List Ent) (V : Value) (c : ByteArray) (j eb : Nat) (xs : List ByteArray) (Ae : Option Addr) (n ce : Nat) (A : Option Addr) (cp : Nat) (l : List ByteArray) (w0 w : World) (hb : Below w0.heap.size w0 w) (hL : LSt w w0.heap.size lb mb G L V (L.map Ent.n)) (hj : L[j]? = some ⟨c, xs, eb, .slice Ae n ce⟩) (ho : OkCap c l) (hm : isIn multipleNames c = true) (hp : 0 < l.length) (hx : xs.length ≤ 1000) (hv : Kd.string.R 9 w w0.heap.size (fun k => L.length < G k) (.slice A l.length cp) l) :
    Calls Tryd.prog 31 #[.pointer (some ⟨lb, 0, none⟩), .string c, .slice A l.length cp] w fun e w' => e = .returned .nilIface ∧ ∃ G' V1, LSt w' w0.heap.size lb mb G' (L.set j ⟨c, xs ++ l, eb, V1⟩) V (L.map Ent.n) ∧ Below w0.heap.size w0 w' ∧ Keep3 w w' ∧ w.heap.size ≤ w'.heap.size := by
  have HVA := Aside0.mk (validate (.pointer (some ⟨lb, 0, none⟩)) c A cp l w (Kd.R_reads' hv).2.2 ho)
  have HL := Aside0.mk hL
  have HB := Aside0.mk hb
  have HJ := Aside0.mk hj
  have HO := Aside0.mk ho
  have HV := Aside0.mk hv
  have HMU := Aside0.mk hm
  have HXL := Aside0.mk hx
  obtain ⟨NS, hNS⟩ : ∃ NS, NS = L.map Ent.n := ⟨_, rfl⟩
  have HNS := Aside0.mk hNS
  clear hL hb hj ho hv hm hx hNS
  have e1 : ((l.length : Int) == 0) = false := by rw [beq_eq_false_iff_ne]; omega
  have e2 : ¬ (l.length : Int) = 0 := by omega
  have HKN : Aside0 (∀ W, Calls Tryd.prog 45 #[.string c] W fun e w' => e = .returned (.bool true) ∧ Below W.heap.size W w') := ⟨fun W => by have := known c W; rwa [HO.out.known] at this⟩
  go_enter Tryd.func31, Tryd.ntmps31
  go_upto_region 4 with (first | (go_at_call 43; (with_reducible refine HVA.out.mono ?_); rintro e w8 ⟨rfl, hb⟩; have HB1 := Aside0.mk hb; clear hb))
  have HL8 : Aside0 (LSt w8 w0.heap.size lb mb G L V NS) := ⟨by rw [HNS.out]; exact HL.out.below HB1.out⟩
  have HB8 : Aside0 (Below w0.heap.size w0 w8) := ⟨HB.out.trans (HB1.out.mono HB.out.size)⟩
  have HV8 : Aside0 (Kd.string.R 9 w8 w0.heap.size (fun k => L.length < G k) (.slice A l.length cp) l) := ⟨Kd.R_below HV.out HB1.out⟩
  have HK8 : Aside0 (Keep3 w w8) := ⟨Keep3.below HB1.out⟩
  have HW8 : Aside0 (w.heap.size ≤ w8.heap.size) := ⟨HB1.out.size⟩
  have HSU := Aside0.mk (supports lb mb c (.pointer (some ⟨eb, 0, none⟩)) true V w8 HL8.out.hl (HL8.out.look2 (List.mem_of_getElem? HJ.out)))
  clear HV HL HVA
  have HV := HV8
  go_upto_region 7 with (first | (go_at_call 32; (with_reducible refine HSU.out.mono ?_); rintro e w2 ⟨rfl, hw⟩; replace hw := hw.symm; subst hw))
  clear HSU
  have HM : Aside0 (∀ W, Calls Tryd.prog 46 #[.string c] W fun e w' => e = .returned (.bool true) ∧ Below W.heap.size W w') := ⟨fun W => by have := multiple c W; rwa [HMU.out] at this⟩
  go_upto_region 11 with (first
    | (go_at_call 45; (with_reducible refine (HKN.out _).mono ?_); rintro e wa ⟨rfl, hb⟩; have HBA := Aside0.mk hb; clear hb)
    | (go_at_call 46; (with_reducible refine (HM.out _).mono ?_); rintro e wb ⟨rfl, hb⟩; replace HBA := Aside0.mk (below_step HBA.out hb); clear hb))
  obtain ⟨n1, hn1⟩ : ∃ n1, n1 = wb.heap.size := ⟨_, rfl⟩
  obtain ⟨G1, hG1⟩ : ∃ G1, G1 = tagAt G wb.heap.size (j + 1) := ⟨_, rfl⟩
  have HG1 : Aside0 (∀ k, n1 ≤ k → G1 k = j + 1) := ⟨fun k hk => by rw [hG1]; exact tagAt_ge (by omega)⟩
  have hLb : LSt wb w0.heap.size lb mb G1 L V NS := by rw [hG1]; exact (HL8.out.below HBA.out).tag (fun k hk => tagAt_lt hk)
  have hVb : Kd.string.R 9 wb w0.heap.size (fun k => L.length < G1 k) (.slice A l.length cp) l := by rw [hG1]; exact Kd.R_mono (Kd.R_bound (Kd.R_below HV.out HBA.out)) (fun k hk => by have := hk.1; show L.length < tagAt G wb.heap.size (j + 1) k; rw [tagAt_lt hk.2.2.1]; exact this)
  have q0 : LSt wb.drew w0.heap.size lb mb G1 L V NS ∧ Below w0.heap.size w0 wb.drew ∧ Keep3 w wb.drew ∧ Kd.string.R 9 wb.drew w0.heap.size (fun k => L.length < G1 k) (.slice A l.length cp) l ∧ n1 ≤ wb.drew.heap.size := ⟨hLb.below (below_drew1 (Below.refl _ _)), HB8.out.trans ((HBA.out.trans (below_drew1 (Below.refl _ _))).mono HB8.out.size), HK8.out.trans (Keep3.below (HBA.out.trans (below_drew1 (Below.refl _ _)))), Kd.R_below hVb (below_drew1 (Below.refl _ _)), Nat.le_of_eq hn1⟩
  have q1 : wb.drew.cell? ⟨lb, 0, none⟩ = some (.map (some mb)) := (blk_cell q0.1.hl 0).trans rfl
  have q2 := q0.1.look (List.mem_of_getElem? HJ.out)
  have q3 : wb.drew.cell? ⟨eb, 1, none⟩ = some (.slice Ae n ce) := (blk_cell (q0.1.hc _ (List.mem_of_getElem? HJ.out)).1 1).trans rfl
  have HN1 : Aside0 (w.heap.size ≤ n1) := ⟨by have := HW8.out; have := HBA.out.size; omega⟩
  have HS9 := Aside0.mk q0
  clear q0 hLb hVb hG1 hn1
  refine start_ (n := 20) (S := fun w' => w'.cell? ⟨lb, 0, none⟩ = some (.map (some mb)) ∧ (Instr.lookup 64 (.map (some mb)) (.string c) false).run Tryd.prog w' = .ok (.pointer (some ⟨eb, 0, none⟩)) w' ∧ w'.cell? ⟨eb, 1, none⟩ = some (.slice Ae n ce)) (ds := [19]) #[false, false, false, false, false, false, false, false, false, false, false, false, false, false, false, false, false, false, false, false] (by kernel_rfl) rfl rfl ⟨q1, q2, q3⟩ (fun hHeld => ?_)
  refine with_tabW capAdd11.tab11 capAdd11.bits11 (fun HT_ HW_ => ?_)
  generalize World.drew _ = wd at HS9 hHeld ⊢
  refine pure_ (i := 0) (N := some 62) (v := ?_) (a' := ?_) #[true, false, false, false, false, false, false, false, false, false, false, false, false, false, false, false, false, false, false, false] rfl rfl (any_of HT_.out (by kernel_rfl)) (fun _ _ _ h => h) (Or.inl ⟨by rfl, ?_⟩) ?_ ?_
  rotate_left
  · intro w'
    go_simp
    with_reducible rfl
  rotate_left
  · simp only [Act.put, List.setIfInBounds_toArray, List.set_cons_zero, List.set_cons_succ, i64_w, i32_w]
    rfl
  refine pure_ (i := 1) (N := some 63) (v := ?_) (a' := ?_) #[true, true, false, false, false, false, false, false, false, false, false, false, false, false, false, false, false, false, false, false] rfl rfl (any_of HT_.out (by kernel_rfl)) (fun _ _ _ h => h) (Or.inl ⟨by rfl, ?_⟩) ?_ ?_
  rotate_left
  · intro w'
    go_simp
    with_reducible rfl
  rotate_left
  · simp only [Act.put, List.setIfInBounds_toArray, List.set_cons_zero, List.set_cons_succ, i64_w, i32_w]
    rfl
  refine pure_ (i := 2) (N := some 64) (v := ?_) (a' := ?_) #[true, true, true, false, false, false, false, false, false, false, false, false, false, false, false, false, false, false, false, false] rfl rfl (any_of HT_.out (by kernel_rfl)) (fun _ _ _ h => h) (Or.inl ⟨by rfl, ?_⟩) ?_ ?_
  rotate_left
  · intro w'
    go_simp
    with_reducible rfl
  rotate_left
  · simp only [Act.put, List.setIfInBounds_toArray, List.set_cons_zero, List.set_cons_succ, i64_w, i32_w]
    rfl
  refine pure_ (i := 4) (N := some 66) (v := ?_) (a' := ?_) #[true, true, true, false, true, false, false, false, false, false, false, false, false, false, false, false, false, false, false, false] rfl rfl (any_of HT_.out (by kernel_rfl)) (fun _ _ _ h => h) (Or.inl ⟨by rfl, ?_⟩) ?_ ?_
  rotate_left
  · intro w'
    go_simp
    with_reducible rfl
  rotate_left
  · simp only [Act.put, List.setIfInBounds_toArray, List.set_cons_zero, List.set_cons_succ, i64_w, i32_w]
    rfl
  refine pure_ (i := 6) (N := some 68) (v := ?_) (a' := ?_) #[true, true, true, false, true, false, true, false, false, false, false, false, false, false, false, false, false, false, false, false] rfl rfl (any_of HT_.out (by kernel_rfl)) (fun _ _ _ h => h) (Or.inl ⟨by rfl, ?_⟩) ?_ ?_
  rotate_left
  · intro w'
    go_simp
    with_reducible rfl
  rotate_left
  · simp only [Act.put, List.setIfInBounds_toArray, List.set_cons_zero, List.set_cons_succ, i64_w, i32_w]
    rfl
  refine pure_ (i := 7) (N := some 69) (v := ?_) (a' := ?_) #[true, true, true, false, true, false, true, true, false, false, false, false, false, false, false, false, false, false, false, false] rfl rfl (any_of HT_.out (by kernel_rfl)) (fun _ _ _ h => h) (Or.inl ⟨by rfl, ?_⟩) ?_ ?_
  rotate_left
  · intro w'
    go_simp
    with_reducible rfl
  rotate_left
  · simp only [Act.put, List.setIfInBounds_toArray, List.set_cons_zero, List.set_cons_succ, i64_w, i32_w]
    rfl
  refine pure_ (i := 8) (N := some 70) (v := ?_) (a' := ?_) #[true, true, true, false, true, false, true, true, true, false, false, false, false, false, false, false, false, false, false, false] rfl rfl (any_of HT_.out (by kernel_rfl)) (fun _ _ _ h => h) (Or.inl ⟨by rfl, ?_⟩) ?_ ?_
  rotate_left
  · intro w'
    go_simp
    with_reducible rfl
  rotate_left
  · simp only [Act.put, List.setIfInBounds_toArray, List.set_cons_zero, List.set_cons_succ, i64_w, i32_w]
    rfl
  refine pure_ (i := 10) (N := some 72) (v := ?_) (a' := ?_) #[true, true, true, false, true, false, true, true, true, false, true, false, false, false, false, false, false, false, false, false] rfl rfl (any_of HT_.out (by kernel_rfl)) (fun _ _ _ h => h) (Or.inl ⟨by rfl, ?_⟩) ?_ ?_
  rotate_left
  · intro w'
    go_simp
    with_reducible rfl
  rotate_left
  · simp only [Act.put, List.setIfInBounds_toArray, List.set_cons_zero, List.set_cons_succ, i64_w, i32_w]
    rfl
  refine pure_ (i := 15) (N := some 77) (v := ?_) (a' := ?_) #[true, true, true, false, true, false, true, true, true, false, true, false, false, false, false, true, false, false, false, false] rfl rfl (any_of HT_.out (by kernel_rfl)) (fun _ _ _ h => h) (Or.inl ⟨by rfl, ?_⟩) ?_ ?_
  rotate_left
  · intro w'
    go_simp
    with_reducible rfl
  rotate_left
  · simp only [Act.put, List.setIfInBounds_toArray, List.set_cons_zero, List.set_cons_succ, i64_w, i32_w]
    rfl
  refine take_ (i := 3) (N := some 65) (v := ?_) (a' := ?_) #[true, true, true, true, true, false, true, true, true, false, true, false, false, false, false, true, false, false, false, false] rfl rfl (take_ofW HT_.out HW_.out (by kernel_rfl)) (fun _ _ _ h => h) (Or.inl ⟨by rfl, ?_⟩) hHeld ?_ ?_
  rotate_left
  · rintro w' ⟨s0, s1, s2⟩
    go_simp
    with_reducible rfl
  rotate_left
  · simp only [Act.put, List.setIfInBounds_toArray, List.set_cons_zero, List.set_cons_succ, i64_w, i32_w]
    rfl
  refine take_ (i := 5) (N := some 67) (v := ?_) (a' := ?_) #[true, true, true, true, true, true, true, true, true, false, true, false, false, false, false, true, false, false, false, false] rfl rfl (take_ofW HT_.out HW_.out (by kernel_rfl)) (fun _ _ _ h => h) (Or.inl ⟨by rfl, ?_⟩) hHeld ?_ ?_
  rotate_left
  · rintro w' ⟨s0, s1, s2⟩
    go_simp
    with_reducible rfl
  rotate_left
  · simp only [Act.put, List.setIfInBounds_toArray, List.set_cons_zero, List.set_cons_succ, i64_w, i32_w]
    rfl
  refine take_ (i := 9) (N := some 71) (v := ?_) (a' := ?_) #[true, true, true, true, true, true, true, true, true, true, true, false, false, false, false, true, false, false, false, false] rfl rfl (take_ofW HT_.out HW_.out (by kernel_rfl)) (fun _ _ _ h => h) (Or.inl ⟨by rfl, ?_⟩) hHeld ?_ ?_
  rotate_left
  · rintro w' ⟨s0, s1, s2⟩
    go_simp
    with_reducible rfl
  rotate_left
  · simp only [Act.put, List.setIfInBounds_toArray, List.set_cons_zero, List.set_cons_succ, i64_w, i32_w]
    rfl
  refine take_ (i := 11) (N := some 73) (v := ?_) (a' := ?_) #[true, true, true, true, true, true, true, true, true, true, true, true, false, false, false, true, false, false, false, false] rfl rfl (take_ofW HT_.out HW_.out (by kernel_rfl)) (fun _ _ _ h => h) (Or.inl ⟨by rfl, ?_⟩) hHeld ?_ ?_
  rotate_left
  · rintro w' ⟨s0, s1, s2⟩
    go_simp
    with_reducible rfl
  rotate_left
  · simp only [Act.put, List.setIfInBounds_toArray, List.set_cons_zero, List.set_cons_succ, i64_w, i32_w]
    rfl
  refine pure_ (i := 12) (N := some 74) (v := ?_) (a' := ?_) #[true, true, true, true, true, true, true, true, true, true, true, true, true, false, false, true, false, false, false, false] rfl rfl (any_of HT_.out (by kernel_rfl)) (fun _ _ _ h => h) (Or.inl ⟨by rfl, ?_⟩) ?_ ?_
  rotate_left
  · intro w'
    go_simp
    with_reducible rfl
  rotate_left
  · simp only [Act.put, List.setIfInBounds_toArray, List.set_cons_zero, List.set_cons_succ, i64_w, i32_w]
    rfl
  refine pure_ (i := 13) (N := some 75) (v := ?_) (a' := ?_) #[true, true, true, true, true, true, true, true, true, true, true, true, true, true, false, true, false, false, false, false] rfl rfl (any_of HT_.out (by kernel_rfl)) (fun _ _ _ h => h) (Or.inl ⟨by rfl, ?_⟩) ?_ ?_
  rotate_left
  · intro w'
    go_simp
    with_reducible rfl
  rotate_left
  · simp only [Act.put, List.setIfInBounds_toArray, List.set_cons_zero, List.set_cons_succ, i64_w, i32_w]
    rfl
  refine take_ (i := 14) (N := some 76) (v := ?_) (a' := ?_) #[true, true, true, true, true, true, true, true, true, true, true, true, true, true, true, true, false, false, false, false] rfl rfl (take_ofW HT_.out HW_.out (by kernel_rfl)) (fun _ _ _ h => h) (Or.inl ⟨by rfl, ?_⟩) hHeld ?_ ?_
  rotate_left
  · rintro w' ⟨s0, s1, s2⟩
    go_simp
    with_reducible rfl
  rotate_left
  · simp only [Act.put, List.setIfInBounds_toArray, List.set_cons_zero, List.set_cons_succ, i64_w, i32_w]
    rfl
  refine one_ (i := 16) (N := some 78) #[true, true, true, true, true, true, true, true, true, true, true, true, true, true, true, true, true, false, false, false] rfl rfl (one_of HT_.out (by kernel_rfl)) (by decide) (fun K hK => ?_)
  have hrv := (Kd.R_reads' HS9.out.2.2.2.1).2.2
  refine Kd.R_append_rows_step Kd.string (w0 := w0) w0.heap.size (by rfl) (.tmp 76) (.tmp 77) 25 9 (.string ⟨#[]⟩) 16 rfl Tryd.underlying25 CapE.info9 rfl (by decide) (by decide) (.slice Ae n ce) xs l A l.length cp (fun k => G1 k = j + 1) (fun _ => False) rfl rfl (HS9.out.1.he j _ HJ.out) hrv (fun _ _ h => h) (fun _ h => h.elim) ?hfr HS9.out.2.1 ?hbase ?hlen ?_
  case hfr => exact fun k hk => HG1.out k (Nat.le_trans HS9.out.2.2.2.2 hk)
  case hbase => exact HS9.out.2.1.size
  case hlen => have := HXL.out; have := HO.out.len; omega
  intro v7 w7 ho7 hb7 hg7 hat7
  obtain ⟨A7, n7, c7, rfl⟩ : ∃ A n c, v7 = .slice A n c := by obtain ⟨A, c, h⟩ := Kd.R_slice ho7; exact ⟨A, _, c, h⟩
  have heb7 := blk_grown (HS9.out.1.hc _ (List.mem_of_getElem? HJ.out)).1 hg7 (Kd.R_ne (HS9.out.1.he j _ HJ.out) (HS9.out.1.hc _ (List.mem_of_getElem? HJ.out)).1 (by decide))
  have HL9 : Aside0 (LSt (w7.setCell ⟨eb, 1, none⟩ (.slice A7 n7 c7)) w0.heap.size lb mb G1 (L.set j ⟨c, xs ++ l, eb, .slice A7 n7 c7⟩) V NS) := ⟨HS9.out.1.vals HJ.out ho7 hg7⟩
  have HB9 : Aside0 (Below w0.heap.size w0 (w7.setCell ⟨eb, 1, none⟩ (.slice A7 n7 c7))) := ⟨below_set hb7 (HS9.out.1.hc _ (List.mem_of_getElem? HJ.out)).2⟩
  have HK9 : Aside0 (Keep3 w (w7.setCell ⟨eb, 1, none⟩ (.slice A7 n7 c7))) := ⟨HS9.out.2.2.1.trans (Keep3.put (HS9.out.1.he j _ HJ.out) hg7 (HS9.out.1.hc _ (List.mem_of_getElem? HJ.out)).1 (Or.inr rfl) 1 (.slice A7 n7 c7))⟩
  have HZ9 : Aside0 (n1 ≤ (w7.setCell ⟨eb, 1, none⟩ (.slice A7 n7 c7)).heap.size) := ⟨by rw [size_put]; exact Nat.le_trans HS9.out.2.2.2.2 hg7.size⟩
  have hc9 : w7.cell? ⟨eb, 1, none⟩ = some (.slice Ae n ce) := (blk_cell heb7 1).trans rfl
  have hz9 := blk_frozen heb7 1
  have f0 : w7.cell? ⟨lb, 0, none⟩ = some (.map (some mb)) := (blk_cell (blk_grown HS9.out.1.hl hg7 (Kd.R_ne (HS9.out.1.he j _ HJ.out) HS9.out.1.hl (by decide))) 0).trans rfl
  have f1 := HS9.out.1.look_grown (List.mem_of_getElem? HJ.out) (HS9.out.1.he j _ HJ.out) hg7
  clear ho7 hb7 hg7 hat7 heb7 hrv
  refine hK.out _ _ ⟨f0, f1, hc9⟩ (fun hHeld => ?_)
  clear hK K
  refine norm_ (a' := ?_) ?_ ?_
  rotate_left
  · show Act.put _ (some 78) _ = _
    simp only [Act.put, List.setIfInBounds_toArray, List.set_cons_zero, List.set_cons_succ, i64_w, i32_w]
    rfl
  refine pure_ (i := 17) (N := some 79) (v := ?_) (a' := ?_) #[true, true, true, true, true, true, true, true, true, true, true, true, true, true, true, true, true, true, false, false] rfl rfl (any_of HT_.out (by kernel_rfl)) (fun _ _ _ h => h) (Or.inl ⟨by rfl, ?_⟩) ?_ ?_
  rotate_left
  · intro w'
    go_simp
    with_reducible rfl
  rotate_left
  · simp only [Act.put, List.setIfInBounds_toArray, List.set_cons_zero, List.set_cons_succ, i64_w, i32_w]
    rfl
  refine pure_ (i := 18) (N := some 80) (v := ?_) (a' := ?_) #[true, true, true, true, true, true, true, true, true, true, true, true, true, true, true, true, true, true, true, false] rfl rfl (any_of HT_.out (by kernel_rfl)) (fun _ _ _ h => h) (Or.inl ⟨by rfl, ?_⟩) ?_ ?_
  rotate_left
  · intro w'
    go_simp
    with_reducible rfl
  rotate_left
  · simp only [Act.put, List.setIfInBounds_toArray, List.set_cons_zero, List.set_cons_succ, i64_w, i32_w]
    rfl
  refine last_ (i := 19) (N := none) #[true, true, true, true, true, true, true, true, true, true, true, true, true, true, true, true, true, true, true, true] rfl rfl (one_of HT_.out (by kernel_rfl)) (by decide) (fun K hK => ?_)
  refine skip_ (w1 := ?_) (by rfl) rfl ?_ ?_
  rotate_left
  · go_simp
    rfl
  refine hK.out _ _ ?_
  clear hK K
  refine done_ (done_of HT_.out (by kernel_rfl)) ?_
  go_wp2
  go_ret
  exact ⟨rfl, ⟨G1, .slice A7 n7 c7, by rw [← HNS.out]; exact HL9.out⟩, HB9.out, HK9.out, Nat.le_trans HN1.out HZ9.out⟩
#print axioms addMore
end Go.Proofs.YtbemlaalccoepaaDoor.CapT

set_option linter.unusedVariables false
set_option linter.unusedSimpArgs false
namespace Go.Proofs.YtbemlaalccoepaaDoor.CapU
open Go.RowKit Go.Proofs.YtbemlaalccoepaaDoorW.PrintWords Go.Proofs.YtbemlaalccoepaaDoorW.PrintLast Go.Proofs.YtbemlaalccoepaaDoorW.PrintMore Go.Proofs.YtbemlaalccoepaaDoor.QAll Txt SMap CapA Ptr CapB CapC CapD CapE CapF

theorem info44 : (Tryd.prog.info? 44).map (fun i => (i.zero, i.size, i.bytes)) = some (some (.string ⟨#[]⟩), 1, 16) := by kernel_rfl
theorem info27 : (Tryd.prog.info? 27).map (fun i => (i.zero, i.size, i.bytes)) = some (some (.agg #[(.string ⟨#[]⟩), (.slice none 0 0)]), 2, 40) := by kernel_rfl
set_option maxHeartbeats 8000000 in
set_option maxRecDepth 100000 in
theorem all (lb mb b0 : Nat) (G : Nat → Nat) (L : List Ent) (V : Value) (w : World) (hL : LSt w b0 lb mb G L V (L.map Ent.n)) (hn : L.length ≤ 60) :
    Calls Tryd.prog 36 #[.pointer (some ⟨lb, 0, none⟩)] w fun e w' => ∃ v, e = .returned v ∧ Kd.string.R 44 w' w.heap.size (fun _ => True) v (L.map Ent.n) ∧ Below w.heap.size w w' := by
  obtain ⟨A, cp, rfl⟩ := Kd.R_slice hL.hs
  have hNM : Kd.string.C w A L.length (L.map Ent.n) := by have := (Kd.R_reads' hL.hs).2.2; rwa [List.length_map] at this
  rw [List.length_map] at hL
  have hcv : w.cell? ⟨lb, 1, none⟩ = some (.slice A L.length cp) := (blk_cell hL.hl 1).trans rfl
  have HNM := Aside0.mk hNM
  have HN := Aside0.mk hn
  clear hL hNM
  go_enter Tryd.func36, Tryd.ntmps36
  go_upto_region 3 with fail
  clear hcv
  go_wp2
  go_loopg [3, 11] L.length (fun gk v3 v11 w' => ∃ (k : Nat) (O : Value), v3 = O ∧ v11 = .int .i64 (k : Int) ∧ Aside0 (k + gk = L.length) ∧ Aside0 (Below w.heap.size w w') ∧ Aside0 (Kd.string.R 44 w' w.heap.size (fun _ => True) O ((L.map Ent.n).take k)))
  case atStart => exact ⟨0, _, rfl, rfl, ⟨by omega⟩, ⟨Below.refl _ _⟩, ⟨Kd.R_nil _ _ _ _ _⟩⟩
  case round =>
    obtain ⟨k, O, hO, rfl, HK, HB, HO⟩ := hrel
    replace hO := hO.symm
    subst hO
    by_cases hlt : k < L.length
    rotate_left
    · obtain rfl : k = L.length := by have := HK.out; omega
      have hR := HO.out
      rw [List.take_of_length_le (by rw [List.length_map]; exact Nat.le_refl _)] at hR
      have HR := Aside0.mk hR
      clear hR
      go_wp2
      go_ret
      exact ⟨O, rfl, HR.out, HB.out⟩
    obtain ⟨g0, rfl⟩ : ∃ m, gk = m + 1 := ⟨gk - 1, by have := HK.out; omega⟩
    have hk1 : (k : Int) < (L.length : Int) := by omega
    have hk2 : (k : Int) < 61 := by have := HN.out; omega
    obtain ⟨ad, rfl, hx⟩ := Kd.at_string (Kd.C_below HNM.out HB.out) (k : Int) (by omega) hk1
    rw [Int.toNat_natCast, rdOf_nat _ _ _ (by rw [List.length_map]; exact hlt)] at hx
    have HTK : Aside0 ((L.map Ent.n).take (k + 1) = (L.map Ent.n).take k ++ [(L.map Ent.n)[k]'(by rw [List.length_map]; exact hlt)]) := ⟨List.take_succ_eq_append_getElem _⟩
    generalize (L.map Ent.n)[k]'(by rw [List.length_map]; exact hlt) = s at hx HTK
    have HWK : Aside0 (wrap64 ((k : Int) + 1) = ((k + 1 : Nat) : Int)) := ⟨by have := HN.out; unfold wrap64; omega⟩
    go_wp2_with (first
      | ((with_reducible refine gate_builtin (b := .append) (xs := #[.tmp 15, .tmp 17]) rfl ?_); at_builtin; refine Kd.R_append Kd.string (w0 := w) w.heap.size rfl (.tmp 15) (.tmp 17) 73 44 _ 16 rfl Tryd.underlying73 info44 rfl (by decide) (by decide) O ((L.map Ent.n).take k) s [.string s] (fun _ => True) (fun _ => False) rfl ?hx rfl (fun _ h => h.elim) (fun _ _ => trivial) HO.out HB.out HB.out.size ?hlen ?_
         case hx => first | (go_simp; done) | (simp [Act.eval]; done)
         case hlen => rw [List.length_take, List.length_map]; have := HN.out; omega
         intro v7 w7 ho7 hb7 hg7 hat7
         have HR7 := Aside0.mk ho7
         have HB7 := Aside0.mk hb7
         clear ho7 hb7 hg7 hat7))
    go_roundg g0
    case measure => omega
    case rel => exact ⟨k + 1, v7, rfl, by first | rfl | rw [HWK.out] | (push_cast; rfl), ⟨by have := HK.out; omega⟩, HB7, ⟨by rw [HTK.out]; exact HR7.out⟩⟩
theorem get (lb mb b0 : Nat) (G : Nat → Nat) (L : List Ent) (V : Value) (ns : List ByteArray) (e : Ent) (w : World) (hL : LSt w b0 lb mb G L V ns) (he : e ∈ L) :
    Calls Tryd.prog 37 #[.pointer (some ⟨lb, 0, none⟩), .string e.n] w fun x w' => x = .returned e.v ∧ w' = w := by
  have h2 := hL.look2 he
  have h1 := hL.look he
  have hc0 : w.cell? ⟨lb, 0, none⟩ = some (.map (some mb)) := (blk_cell hL.hl 0).trans rfl
  have hc1 : w.cell? ⟨e.b, 1, none⟩ = some e.v := (blk_cell (hL.hc e he).1 1).trans rfl
  obtain ⟨nm, hnm⟩ : ∃ nm, nm = e.n := ⟨_, rfl⟩
  obtain ⟨v, hv⟩ : ∃ v, v = e.v := ⟨_, rfl⟩
  obtain ⟨b, hb⟩ : ∃ b, b = e.b := ⟨_, rfl⟩
  rw [← hnm, ← hb] at h1 h2
  rw [← hb, ← hv] at hc1
  rw [← hnm, ← hv]
  clear hL he hnm hv hb
  go_enter Tryd.func37, Tryd.ntmps37
  go_wp2
  go_ret
  exact ⟨rfl, rfl⟩
set_option maxHeartbeats 8000000 in
set_option maxRecDepth 100000 in
theorem capsOf (lb mb b0 : Nat) (G : Nat → Nat) (L : List Ent) (V : Value) (w : World) (hL : LSt w b0 lb mb G L V (L.map Ent.n)) (hn : L.length ≤ 60) (hvl : ∀ e ∈ L, e.vs.length ≤ 1000) :
    Calls Tryd.prog 21 #[.pointer (some ⟨lb, 0, none⟩)] w fun x w' => ∃ v, x = .returned v ∧ k27.R 27 w' w.heap.size (fun _ => True) v (L.map Ent.cap) ∧ Below w.heap.size w w' := by
  have HAL := Aside0.mk (all lb mb b0 G L V w hL hn)
  have HL := Aside0.mk hL
  have HN := Aside0.mk hn
  have HVL := Aside0.mk hvl
  have hu27 := Tryd.underlying27
  clear hL hn hvl
  go_enter Tryd.func21, Tryd.ntmps21
  go_upto_region 3 with (first | (go_at_call 36; (with_reducible refine HAL.out.mono ?_); rintro e w1 ⟨v1, rfl, hr1, hb1⟩; obtain ⟨A, cp, rfl⟩ := Kd.R_slice hr1; have HC1 : Aside0 (Kd.string.C w1 A L.length (L.map Ent.n)) := ⟨by have := (Kd.R_reads' hr1).2.2; rwa [List.length_map] at this⟩; have HB1 := Aside0.mk hb1; clear hr1 hb1; rw [List.length_map]))
  clear HAL
  go_wp2
  go_loopg [3, 9] L.length (fun gk v3 v9 w' => ∃ (k : Nat) (O : Value), v3 = O ∧ v9 = .int .i64 (k : Int) ∧ Aside0 (k + gk = L.length) ∧ Aside0 (Below w1.heap.size w1 w') ∧ Aside0 (k27.R 27 w' w1.heap.size (fun _ => True) O ((L.map Ent.cap).take k)))
  case atStart => exact ⟨0, _, rfl, rfl, ⟨by omega⟩, ⟨Below.refl _ _⟩, ⟨Kd.R_nil _ _ _ _ _⟩⟩
  case round =>
    obtain ⟨k, O, hO, rfl, HK, HB, HO⟩ := hrel
    replace hO := hO.symm
    subst hO
    by_cases hlt : k < L.length
    rotate_left
    · obtain rfl : k = L.length := by have := HK.out; omega
      have hR := HO.out
      rw [List.take_of_length_le (by rw [List.length_map]; exact Nat.le_refl _)] at hR
      have HR := Aside0.mk hR
      clear hR
      go_wp2
      go_ret
      exact ⟨O, rfl, Kd.R_lower HR.out HB1.out.size, HB1.out.trans (HB.out.mono HB1.out.size)⟩
    obtain ⟨g0, rfl⟩ : ∃ m, gk = m + 1 := ⟨gk - 1, by have := HK.out; omega⟩
    have hk1 : (k : Int) < (L.length : Int) := by omega
    have hk2 : (k : Int) < 61 := by have := HN.out; omega
    have hgt : L[k]? = some L[k] := List.getElem?_eq_getElem hlt
    obtain ⟨ad, rfl, hx⟩ := Kd.at_string (Kd.C_below HC1.out HB.out) (k : Int) (by omega) hk1
    rw [Int.toNat_natCast, rdOf_nat _ _ _ (by rw [List.length_map]; exact hlt), List.getElem_map] at hx
    generalize L[k] = e at hx hgt
    have HTK : Aside0 ((L.map Ent.cap).take (k + 1) = (L.map Ent.cap).take k ++ [e.cap]) := ⟨by rw [List.take_add_one, List.getElem?_map, hgt]; rfl⟩
    have HE := Aside0.mk (List.mem_of_getElem? hgt)
    have HEL := Aside0.mk (HVL.out e HE.out)
    obtain ⟨Ae, ce, hev⟩ := Kd.R_slice (HL.out.he k e hgt)
    have HRE : Aside0 (Kd.string.C w Ae e.vs.length e.vs) := ⟨(Kd.R_reads' (by have h := HL.out.he k e hgt; rwa [hev] at h)).2.2⟩
    have HG : Aside0 (∀ W, Below w.heap.size w W → Calls Tryd.prog 37 #[.pointer (some ⟨lb, 0, none⟩), .string e.n] W fun x w' => x = .returned (.slice Ae e.vs.length ce) ∧ w' = W) := ⟨fun W hb => by
      have := get lb mb b0 G L V (L.map Ent.n) e W (HL.out.below hb) HE.out
      rwa [hev] at this⟩
    have HWK : Aside0 (wrap64 ((k : Int) + 1) = ((k + 1 : Nat) : Int)) := ⟨by have := HN.out; unfold wrap64; omega⟩
    have HBA : Aside0 (Below w.heap.size w (wr.alloc (.cells #[] 9))) := ⟨below_alloc (HB1.out.trans (HB.out.mono HB1.out.size)) _⟩
    have HRA : Aside0 (Kd.string.R 9 (wr.alloc (.cells #[] 9)) wr.heap.size (fun k => wr.heap.size ≤ k) (.slice (some ⟨wr.heap.size, 0, none⟩) 0 0) []) := ⟨empty_row (Nat.le_refl _) (Nat.le_refl _)⟩
    have HBW : Aside0 (Below wr.heap.size wr (wr.alloc (.cells #[] 9))) := ⟨below_alloc (Below.refl _ _) _⟩
    have HCA : Aside0 (Kd.string.C (wr.alloc (.cells #[] 9)) Ae e.vs.length e.vs) := ⟨Kd.C_below HRE.out HBA.out⟩
    clear hgt hev
    go_wp2_with (first
      | (go_at_call 37; (with_reducible refine (HG.out _ HBA.out).mono ?_); rintro x w2 ⟨rfl, hw⟩; replace hw := hw.symm; subst hw)
      | ((with_reducible refine gate_builtin (b := .append) (xs := #[.tmp 15, .tmp 18]) rfl ?_); at_builtin; refine Kd.R_append_rows Kd.string (w0 := wr) wr.heap.size rfl (.tmp 15) (.tmp 18) 25 9 (.string ⟨#[]⟩) 16 rfl Tryd.underlying25 CapE.info9 rfl (by decide) (by decide) (.slice (some ⟨wr.heap.size, 0, none⟩) 0 0) [] e.vs Ae e.vs.length ce (fun k => wr.heap.size ≤ k) (fun _ => False) rfl rfl HRA.out HCA.out (fun _ _ h => h) (fun _ h => h.elim) ?hfr HBW.out HBW.out.size ?hlen ?_
         case hfr => exact fun k hk => Nat.le_trans HBW.out.size hk
         case hlen => have := HEL.out; simp; omega
         intro v7 w7 ho7 hb7 hg7 hat7
         replace ho7 : Kd.string.R 9 w7 wr.heap.size (fun k => wr.heap.size ≤ k) v7 e.vs := ho7
         have HR7 := Aside0.mk ho7
         have HB7 := Aside0.mk hb7
         have HO7 := Aside0.mk (Kd.R_below HO.out hb7)
         have HBB : Aside0 (Below w1.heap.size w1 w7) := ⟨HB.out.trans (hb7.mono HB.out.size)⟩
         obtain ⟨A7, c7, rfl⟩ := Kd.R_slice ho7
         clear ho7 hb7 hg7 hat7)
      | ((with_reducible refine gate_builtin (b := .append) (xs := #[.tmp 13, .tmp 21]) rfl ?_); at_builtin; refine Kd.R_append k27 (w0 := w1) w1.heap.size rfl (.tmp 13) (.tmp 21) 22 27 _ 40 rfl Tryd.underlying22 CapU.info27 rfl (by decide) (by decide) O ((L.map Ent.cap).take k) e.cap [.string e.n, .slice A7 e.vs.length c7] (fun _ => True) (fun k => wr.heap.size ≤ k) rfl ?hx ?hm ?hokp (fun _ _ => trivial) HO7.out HBB.out HBB.out.size ?hlen ?_
         case hx => first | (go_simp; done) | (simp [Act.eval]; done)
         case hm => exact k27_mkM w7 w1.heap.size _ e.cap (Kd.R_lower HR7.out HB.out.size)
         case hokp => exact fun k hk => ⟨trivial, fun q => by have := (Kd.R_bound HO.out).1 k q.symm; omega⟩
         case hlen => rw [List.length_take, List.length_map]; have := HN.out; omega
         intro v8 w8 ho8 hb8 hg8 hat8
         have HR8 := Aside0.mk ho8
         have HB8 := Aside0.mk hb8
         clear ho8 hb8 hg8 hat8))
    go_roundg g0
    case measure => omega
    case rel => exact ⟨k + 1, v8, rfl, by first | rfl | rw [HWK.out] | (push_cast; rfl), ⟨by have := HK.out; omega⟩, HB8, ⟨by rw [HTK.out]; exact HR8.out⟩⟩
#print axioms capsOf
end Go.Proofs.YtbemlaalccoepaaDoor.CapU

set_option linter.unusedVariables false
set_option linter.unusedSimpArgs false
namespace Go.Proofs.YtbemlaalccoepaaDoor.CapV
open Go.RowKit Go.Proofs.YtbemlaalccoepaaDoorW.PrintWords Go.Proofs.YtbemlaalccoepaaDoorW.PrintLast Go.Proofs.YtbemlaalccoepaaDoorW.PrintMore Go.Proofs.YtbemlaalccoepaaDoor.QAll Txt CapA CapD CapI CapJ CapP CapQ CapR CapS

/-- A byte of a name or of a value. -/
def Cl (b : UInt8) : Prop := 33 ≤ b.toNat ∧ b.toNat < 127 ∧ b ≠ 61
instance (b : UInt8) : Decidable (Cl b) := by unfold Cl; infer_instance
def Clean (s : ByteArray) : Prop := ∀ b ∈ s.data.toList, Cl b
theorem known_clean : knownNames.all (fun s => s.data.toList.all (fun b => decide (Cl b)) && decide (0 < s.size)) = true := by decide +kernel
theorem isIn_mem {l : List ByteArray} {c : ByteArray} (h : isIn l c = true) : c ∈ l := by
  unfold isIn at h
  rw [List.any_eq_true] at h
  obtain ⟨s, hs, e⟩ := h
  have : s = c := by
    cases s; cases c
    rw [beq_iff_eq] at e
    exact congrArg ByteArray.mk (Array.toList_inj.1 e)
  exact this ▸ hs
theorem name_clean {c : ByteArray} (h : isIn knownNames c = true) : Clean c ∧ 0 < c.size := by
  have h2 := known_clean
  rw [List.all_eq_true] at h2
  have h3 := h2 c (isIn_mem h)
  rw [Bool.and_eq_true, List.all_eq_true] at h3
  exact ⟨fun b hb => of_decide_eq_true (h3.1 b hb), of_decide_eq_true h3.2⟩
theorem word_clean {s : ByteArray} (h : Word s) : Clean s := fun b hb => by
  have := h.ch b (by rw [Lib.toList_data]; exact hb)
  exact ⟨by omega, by omega, this.2.2⟩
theorem strOf_bytesOf (s : ByteArray) : strOfNums (bytesOf s) = s := by
  refine ba_ext ?_
  rw [Lib.strOfNums_toList, Lib.toList_data]
  unfold Lib.bytesOf bytesOf
  rw [List.map_map]
  refine (List.map_congr_left (g := id) fun b _ => ?_).trans (List.map_id _)
  simp
theorem bytesOf_ofList (x : List UInt8) : bytesOf (⟨x.toArray⟩ : ByteArray) = x.map fun b => (b.toNat : Int) := rfl
theorem bytes_joined : ∀ ws : List ByteArray, bytesOf (joined ws) = glue 32 (ws.map bytesOf)
  | [] => rfl
  | [p] => by
    unfold joined
    rw [bytesOf_ofList]
    simp [Lib.join, glue, bytesOf]
  | p :: q :: r => by
    have ih := bytes_joined (q :: r)
    unfold joined at ih ⊢
    rw [bytesOf_ofList] at ih ⊢
    rw [List.map_cons, List.map_cons, join_cons, List.map_append, List.map_append, List.append_assoc]
    rw [List.map_cons] at ih
    rw [ih]
    rfl
theorem bytes_valued (c v : ByteArray) : bytesOf (valued c v) = glue 61 [bytesOf c, bytesOf v] := by
  unfold valued bytesOf
  rw [data_append, data_append, List.map_append, List.map_append, List.append_assoc]
  rfl
theorem not_mem_bytes {s : ByteArray} {a : UInt8} (h : ∀ b ∈ s.data.toList, b ≠ a) : ((a.toNat : Int)) ∉ bytesOf s := by
  intro hm
  unfold bytesOf at hm
  obtain ⟨b, hb, e⟩ := List.mem_map.1 hm
  exact h b hb (UInt8.toNat_inj.1 (by omega))
theorem no61 {s : ByteArray} (h : Clean s) : (61 : Int) ∉ bytesOf s := not_mem_bytes (a := 61) fun b hb => (h b hb).2.2
theorem no32 {s : ByteArray} (h : ∀ b ∈ s.data.toList, 33 ≤ b.toNat) : (32 : Int) ∉ bytesOf s := not_mem_bytes (a := 32) fun b hb e => by
  have := h b hb
  rw [e] at this
  exact absurd this (by decide)
theorem cuts_all (a : Int) : ∀ (ps : List (List Int)), (∀ p ∈ ps, a ∉ p) → ps ≠ [] → ∀ d, Cuts a (-1) d ps
  | [], _, h, _ => absurd rfl h
  | [p], h, _, d => .last d p (Or.inl (h p (List.mem_singleton.2 rfl)))
  | p :: q :: r, h, _, d => .more d p (q :: r) (h p (List.mem_cons_self ..)) (fun q => absurd q (by decide)) (cuts_all a (q :: r) (fun x hx => h x (List.mem_cons_of_mem _ hx)) (by simp) (d + 1))
theorem cuts_one {c : ByteArray} (h : Clean c) : Cuts 61 2 0 [bytesOf c] := .last 0 _ (Or.inl (no61 h))
theorem cuts_two {c v : ByteArray} (h : Clean c) : Cuts 61 2 0 [bytesOf c, bytesOf v] := .more 0 _ _ (no61 h) (fun _ => by decide) (.last 1 _ (Or.inr (by decide)))
/-- All values are words. -/
structure GoodV (l : List S27) : Prop where
  g : GoodL l
  w : ∀ s ∈ l, ∀ v ∈ s.f1, Clean v
theorem GoodV.name {l : List S27} (h : GoodV l) {s : S27} (hs : s ∈ l) : Clean s.f0 ∧ 0 < s.f0.size := name_clean (h.g.ok s hs).known
/-- What stands between blanks. -/
def Bare (x : ByteArray) : Prop := (∀ b ∈ x.data.toList, 33 ≤ b.toNat ∧ b.toNat < 127) ∧ 0 < x.size
theorem clean_bare {s : ByteArray} (h : Clean s) (h0 : 0 < s.size) : Bare s := ⟨fun b hb => ⟨(h b hb).1, (h b hb).2.1⟩, h0⟩
theorem valued_bare {c v : ByteArray} (hc : Clean c) (hv : Clean v) : Bare (valued c v) := by
  refine ⟨fun b hb => ?_, ?_⟩
  · unfold valued at hb
    rw [data_append, data_append] at hb
    rcases List.mem_append.1 hb with hb | hb
    · rcases List.mem_append.1 hb with hb | hb
      · exact ⟨(hc b hb).1, (hc b hb).2.1⟩
      · rw [List.mem_singleton.1 (show b ∈ [(61 : UInt8)] from hb)]
        decide
    · exact ⟨(hv b hb).1, (hv b hb).2.1⟩
  · unfold valued
    rw [ByteArray.size_append, ByteArray.size_append]
    show 0 < c.size + 1 + v.size
    omega
theorem words_bare {l : List S27} (h : GoodV l) : ∀ x ∈ words l, Bare x := by
  intro x hx
  unfold words at hx
  obtain ⟨s, hs, hx⟩ := List.mem_flatMap.1 hx
  have hn := h.name hs
  unfold capWords at hx
  split at hx
  · rw [List.mem_singleton.1 hx]
    exact clean_bare hn.1 hn.2
  · obtain ⟨v, hv, rfl⟩ := List.mem_map.1 hx
    exact valued_bare hn.1 (h.w s hs v hv)
theorem glue_mem {a : Int} : ∀ (ps : List (List Int)) (x : Int), x ∈ glue a ps → x = a ∨ ∃ p ∈ ps, x ∈ p
  | [], x, h => by cases h
  | [p], x, h => Or.inr ⟨p, List.mem_singleton.2 rfl, h⟩
  | p :: q :: r, x, h => by
    rcases List.mem_append.1 h with h | h
    · exact Or.inr ⟨p, List.mem_cons_self .., h⟩
    · rcases List.mem_cons.1 h with h | h
      · exact Or.inl h
      · rcases glue_mem (q :: r) x h with h | ⟨y, hy, h⟩
        · exact Or.inl h
        · exact Or.inr ⟨y, List.mem_cons_of_mem _ hy, h⟩
theorem glue_head {a : Int} {P : Int → Prop} : ∀ (ps : List (List Int)), (∀ p ∈ ps, p ≠ [] ∧ ∀ x ∈ p, P x) → ∀ x, (glue a ps)[0]? = some x → P x
  | [], _, x, h => by cases h
  | [p], hp, x, h => (hp p (List.mem_singleton.2 rfl)).2 x (List.mem_of_getElem? h)
  | p :: q :: r, hp, x, h => by
    have h1 := hp p (List.mem_cons_self ..)
    have h2 : 0 < p.length := List.length_pos_iff.2 h1.1
    change (p ++ a :: glue a (q :: r))[0]? = some x at h
    rw [List.getElem?_append_left h2] at h
    exact h1.2 x (List.mem_of_getElem? h)
theorem glue_len {a : Int} {p q : List Int} {r : List (List Int)} : (glue a (p :: q :: r)).length = p.length + 1 + (glue a (q :: r)).length := by
  show (p ++ a :: glue a (q :: r)).length = _
  rw [List.length_append, List.length_cons]
  omega
theorem glue_pos {a : Int} : ∀ (ps : List (List Int)), (∀ p ∈ ps, p ≠ []) → ps ≠ [] → 0 < (glue a ps).length
  | [], _, h => absurd rfl h
  | [p], hp, _ => List.length_pos_iff.2 (hp p (List.mem_singleton.2 rfl))
  | p :: q :: r, _, _ => by rw [glue_len]; omega
theorem glue_last {a : Int} {P : Int → Prop} : ∀ (ps : List (List Int)), (∀ p ∈ ps, p ≠ [] ∧ ∀ x ∈ p, P x) → ∀ x, (glue a ps)[(glue a ps).length - 1]? = some x → P x
  | [], _, x, h => by cases h
  | [p], hp, x, h => (hp p (List.mem_singleton.2 rfl)).2 x (List.mem_of_getElem? h)
  | p :: q :: r, hp, x, h => by
    have h1 := glue_last (a := a) (q :: r) (fun y hy => hp y (List.mem_cons_of_mem _ hy)) x
    have h2 := glue_pos (a := a) (q :: r) (fun y hy => (hp y (List.mem_cons_of_mem _ hy)).1) (by simp)
    rw [glue_len] at h
    change (p ++ a :: glue a (q :: r))[_]? = some x at h
    rw [List.getElem?_append_right (by omega), show p.length + 1 + (glue a (q :: r)).length - 1 - p.length = ((glue a (q :: r)).length - 1) + 1 by omega, List.getElem?_cons_succ] at h
    exact h1 h
/-- Where the reading stands: what has been read, and the words that are left. -/
inductive At (l : List S27) : List S27 → List ByteArray → Prop
  | new (d r : List S27) (h : l = d ++ r) : At l d (words r)
  | more (d : List S27) (s : S27) (r : List S27) (vs tv : List ByteArray) (h : l = d ++ s :: r) (h1 : s.f1 = vs ++ tv) (h2 : vs ≠ []) (h3 : tv ≠ []) : At l (d ++ [⟨s.f0, vs⟩]) (tv.map (valued s.f0) ++ words r)
theorem words_cons (s : S27) (r : List S27) : words (s :: r) = capWords s ++ words r := by unfold words; rw [List.flatMap_cons]
theorem capWords_ne (s : S27) : capWords s ≠ [] := by
  unfold capWords
  split
  · simp
  · rename_i h
    intro e
    exact h (List.length_eq_zero_iff.2 (List.map_eq_nil_iff.1 e))
theorem words_nil {r : List S27} (h : words r = []) : r = [] := by
  cases r with
  | nil => rfl
  | cons s r =>
    rw [words_cons] at h
    exact absurd (List.append_eq_nil_iff.1 h).1 (capWords_ne s)
theorem at_nil {l caps : List S27} {rest : List ByteArray} (h : At l caps rest) (e : rest = []) : caps = l := by
  cases h with
  | new _ r h => rw [words_nil e, List.append_nil] at h; exact h.symm
  | more d s r vs tv h h1 h2 h3 => exact absurd (List.map_eq_nil_iff.1 (List.append_eq_nil_iff.1 e).1) h3
theorem fresh {l d r : List S27} {s : S27} (hnd : (l.map S27.f0).Nodup) (h : l = d ++ s :: r) : ∀ e ∈ d, e.f0 ≠ s.f0 := by
  intro e he q
  rw [h, List.map_append, List.map_cons, List.nodup_append] at hnd
  exact hnd.2.2 _ (List.mem_map.2 ⟨e, he, rfl⟩) _ (List.mem_cons_self ..) q
theorem at_cons {l caps : List S27} {x : ByteArray} {rest0 rest : List ByteArray} (hat : At l caps rest0) (e0 : rest0 = x :: rest) (hnd : (l.map S27.f0).Nodup) :
    (∃ s ∈ l, s.f1 = [] ∧ x = s.f0 ∧ (∀ e ∈ caps, e.f0 ≠ s.f0) ∧ At l (caps ++ [⟨s.f0, []⟩]) rest) ∨
    (∃ s ∈ l, ∃ v ∈ s.f1, x = valued s.f0 v ∧ (∀ e ∈ caps, e.f0 ≠ s.f0) ∧ At l (caps ++ [⟨s.f0, [v]⟩]) rest) ∨
    (∃ s ∈ l, ∃ v ∈ s.f1, ∃ vs d, x = valued s.f0 v ∧ 2 ≤ s.f1.length ∧ vs.length ≤ s.f1.length ∧ caps = d ++ [⟨s.f0, vs⟩] ∧ At l (d ++ [⟨s.f0, vs ++ [v]⟩]) rest) := by
  cases hat with
  | new _ r h =>
    cases r with
    | nil => cases e0
    | cons s r =>
      have hs : s ∈ l := by rw [h]; simp
      have hl2 : l = (caps ++ [s]) ++ r := by rw [h]; simp
      rw [words_cons] at e0
      by_cases z : s.f1.length = 0
      · have z2 := List.length_eq_zero_iff.1 z
        have hcw : capWords s = [s.f0] := if_pos z
        rw [hcw] at e0
        injection e0 with e1 e2
        refine Or.inl ⟨s, hs, z2, e1.symm, fresh hnd h, ?_⟩
        have : (⟨s.f0, []⟩ : S27) = s := by rw [← z2]
        rw [this, ← e2]
        exact .new _ _ hl2
      · have hcw : capWords s = s.f1.map (valued s.f0) := if_neg z
        rw [hcw] at e0
        cases hf : s.f1 with
        | nil => exact absurd (by rw [hf]; rfl) z
        | cons v tv =>
          rw [hf, List.map_cons] at e0
          injection e0 with e1 e2
          refine Or.inr (Or.inl ⟨s, hs, v, by rw [hf]; exact List.mem_cons_self .., e1.symm, fresh hnd h, ?_⟩)
          by_cases zt : tv = []
          · rw [zt] at hf e2
            have : (⟨s.f0, [v]⟩ : S27) = s := by rw [← hf]
            rw [this, ← e2]
            exact .new _ _ hl2
          · rw [← e2]
            exact .more caps s r [v] tv h (by rw [hf]; rfl) (by simp) zt
  | more d s r vs tv h h1 h2 h3 =>
    have hs : s ∈ l := by rw [h]; simp
    cases tv with
    | nil => exact absurd rfl h3
    | cons v tv =>
      rw [List.map_cons] at e0
      injection e0 with e1 e2
      have hl : s.f1.length = vs.length + (tv.length + 1) := by rw [h1, List.length_append, List.length_cons]
      have hvp : 0 < vs.length := List.length_pos_iff.2 h2
      refine Or.inr (Or.inr ⟨s, hs, v, by rw [h1]; simp, vs, d, e1.symm, by omega, by omega, rfl, ?_⟩)
      rw [← e2]
      by_cases zt : tv = []
      · rw [zt] at h1 ⊢
        have : (⟨s.f0, vs ++ [v]⟩ : S27) = s := by rw [← h1]
        rw [this]
        exact .new _ _ (by rw [h]; simp)
      · exact .more d s r (vs ++ [v]) tv h (by rw [h1]; simp) (by simp) zt
theorem ok_one {c v : ByteArray} {l : List ByteArray} (h : OkCap c l) (hv : v ∈ l) : OkCap c [v] :=
  ⟨h.known, ⟨fun _ => by simp, fun _ => h.req.2 (List.length_pos_of_mem hv)⟩, Or.inr (by simp), fun x hx => by rw [List.mem_singleton.1 hx]; exact h.pos v hv, by simp⟩
theorem ok_mul {c : ByteArray} {l : List ByteArray} (h : OkCap c l) (h2 : 2 ≤ l.length) : isIn multipleNames c = true := by
  rcases h.mul with q | q
  · exact q
  · omega
end Go.Proofs.YtbemlaalccoepaaDoor.CapV

set_option linter.unusedVariables false
set_option linter.unusedSimpArgs false
namespace Go.Proofs.YtbemlaalccoepaaDoor.CapW
open Go.RowKit Go.Proofs.YtbemlaalccoepaaDoorW.PrintWords Go.Proofs.YtbemlaalccoepaaDoorW.PrintLast Go.Proofs.YtbemlaalccoepaaDoorW.PrintMore Go.Proofs.YtbemlaalccoepaaDoor.QAll Txt SMap CapA Ptr CapB CapC CapD CapE CapF CapI CapJ CapP CapQ CapR CapS CapT CapU CapV

theorem sep_row (w : World) (a : Int) : Kd.C (Kd.int .u8) (w.alloc (.cells #[.int .u8 a] 5)) (some ⟨w.heap.size, 0, none⟩) 1 [a] :=
  Kd.C_of_reads (enc := Value.int .u8) (d := (0 : Int)) (h1 := fun _ => rfl) ⟨rfl, by omega, fun _ => ⟨_, rfl, fun j hj => by
    obtain rfl : j = 0 := by omega
    exact (blk_cell (blk_new w (.cells #[.int .u8 a] 5)) 0).trans rfl⟩⟩
theorem one_row {w : World} {b0 n0 : Nat} (v : ByteArray) (hn : n0 ≤ w.heap.size) (hb : b0 ≤ w.heap.size) : Kd.string.R 9 (w.alloc (.cells #[.string v] 9)) b0 (fun k => n0 ≤ k) (.slice (some ⟨w.heap.size, 0, none⟩) 1 1) [v] := by
  have h := own_lit_of (enc := Value.string) w b0 9 [v] hb (by show (1 : Nat) ≤ 9223372036854775807; omega)
  exact Kd.R_of_own (xs := [v]) h (fun k hk => by
    have : w.heap.size = k := by simpa [Value.ownBlock] using hk
    omega)
theorem R_keep {w0 w w' : World} {b : Nat} {v : Value} {ps : List (List Int)} (h : (lent w0 KB).R 34 w b (fun _ => True) v ps) (hk : Keep3 w w') : (lent w0 KB).R 34 w' b (fun _ => True) v ps := by
  refine Kd.R_mono (Kd.R_move (Kd.R_bound h) (fun k hk2 => ?_)) (fun _ _ => trivial)
  obtain ⟨_, _, _, q, hq, cells, hc⟩ := hk2
  rw [show (lent w0 KB).E = [] from rfl, List.mem_singleton] at hq
  subst hq
  exact hk k _ _ _ hc (by decide) (by decide) (by decide)
theorem at_lent {w0 w : World} {A : Option Addr} {n : Nat} {ps : List (List Int)} (h : (lent w0 KB).C w A n ps) (k : Nat) (hk : k < n) (p : List Int) (hp : ps[k]? = some p) : ∃ ad X cx, A = some ad ∧ w.cell? (ad.add k) = some (.slice X p.length cx) ∧ p.length ≤ cx ∧ Kd.C (Kd.int .u8) w0 X p.length p := by
  obtain ⟨ad, cs, e, hl, hK, hr⟩ := Kd.C_get h [] (k : Int) (by omega) (by omega)
  rw [Int.toNat_natCast] at hK hr
  rw [List.getD_eq_getElem?_getD, hp] at hK
  obtain ⟨X, cx, rfl, h1, h2⟩ := hK
  have h3 := hr 0 _ rfl
  rw [show k * (lent w0 KB).sz + 0 = k by show k * 1 + 0 = k; omega] at h3
  exact ⟨ad, X, cx, e, h3, h1, h2⟩
theorem R_lent {w0 w : World} {b : Nat} {A : Option Addr} {n c : Nat} {ps : List (List Int)} (h : (lent w0 KB).R 34 w b (fun _ => True) (.slice A n c) ps) : n = ps.length ∧ (lent w0 KB).C w A ps.length ps := ⟨(Kd.R_reads' h).1, (Kd.R_reads' h).2.2⟩
theorem sp_no {b : UInt8} (h : 33 ≤ b.toNat) : Lib.isSp b = false := by
  unfold Lib.isSp
  simp only [Bool.or_eq_false_iff, beq_eq_false_iff_ne]
  refine ⟨⟨⟨⟨⟨?_, ?_⟩, ?_⟩, ?_⟩, ?_⟩, ?_⟩ <;> (rintro rfl; exact absurd h (by decide))
theorem bare_bytes {x : ByteArray} (h : Bare x) : bytesOf x ≠ [] ∧ ∀ n ∈ bytesOf x, 33 ≤ n ∧ n < 127 := by
  refine ⟨fun e => ?_, fun n hn => ?_⟩
  · have := congrArg List.length e
    rw [bytesOf_length] at this
    have h2 := h.2
    have h0 : ([] : List Int).length = 0 := rfl
    omega
  · unfold bytesOf at hn
    obtain ⟨b, hb, rfl⟩ := List.mem_map.1 hn
    have := h.1 b hb
    omega
theorem bares {l : List S27} (h : GoodV l) : ∀ p ∈ (words l).map bytesOf, p ≠ [] ∧ ∀ n ∈ p, 33 ≤ n ∧ n < 127 := by
  intro p hp
  obtain ⟨x, hx, rfl⟩ := List.mem_map.1 hp
  exact bare_bytes (words_bare h x hx)
theorem all_bytes {l : List S27} (h : GoodV l) : ∀ n ∈ glue 32 ((words l).map bytesOf), 32 ≤ n ∧ n < 127 := by
  intro n hn
  rcases glue_mem _ _ hn with rfl | ⟨p, hp, hn⟩
  · decide
  · have := (bares h p hp).2 n hn
    omega
theorem trim {l : List S27} (h : GoodV l) (hw : words l ≠ []) (b c : Nat) : Lib.bytesTrimSpace b 0 c (Lib.bytesOf (glue 32 ((words l).map bytesOf))) = .slice (some ⟨b, 0, none⟩) (glue 32 ((words l).map bytesOf)).length c := by
  have hp := glue_pos (a := 32) ((words l).map bytesOf) (fun p hp => (bares h p hp).1) (fun e => hw (List.map_eq_nil_iff.1 e))
  have h0 := glue_head (a := 32) ((words l).map bytesOf) (bares h)
  have h1 := glue_last (a := 32) ((words l).map bytesOf) (bares h)
  generalize glue 32 ((words l).map bytesOf) = D at hp h0 h1
  have hl : (Lib.bytesOf D).length = D.length := Lib.bytesOf_length D
  have key : ∀ (j : Nat) (x : UInt8), (Lib.bytesOf D)[j]? = some x → (∀ n : Int, D[j]? = some n → 33 ≤ n ∧ n < 127) → Lib.isSp x = false := by
    intro j x hx hn
    unfold Lib.bytesOf at hx
    rw [List.getElem?_map] at hx
    obtain ⟨n, hn2, rfl⟩ := Option.map_eq_some_iff.1 hx
    have := hn n hn2
    exact sp_no (by rw [UInt8.toNat_ofNat']; omega)
  have := Lib.bytesTrimSpace_cut b 0 c (Lib.bytesOf D) 0 (D.length - 1) (Nat.zero_le _) (by omega) (fun j x hj => absurd hj (Nat.not_lt_zero _)) (fun x hx => key 0 x hx h0) (fun x hx => key _ x hx h1) (fun j x hj hx => by
    have := (List.getElem?_eq_some_iff.1 hx).1
    omega)
  rw [this, show D.length - 1 + 1 - 0 = D.length by omega]
  rfl
theorem at_len {l caps : List S27} {rest : List ByteArray} (h : At l caps rest) : caps.length ≤ l.length := by
  cases h with
  | new _ r h => rw [h, List.length_append]; omega
  | more d s r vs tv h h1 h2 h3 => rw [h, List.length_append, List.length_append, List.length_cons, List.length_cons, List.length_nil]; omega
theorem caps_names {L : List Ent} {c : ByteArray} (h : ∀ e ∈ L.map Ent.cap, e.f0 ≠ c) : ∀ e ∈ L, e.n ≠ c := fun e he => h e.cap (List.mem_map.2 ⟨e, he, rfl⟩)
theorem drop_cons {α : Type} {l : List α} {k : Nat} {x : α} {r : List α} (h : l.drop k = x :: r) : l[k]? = some x ∧ l.drop (k + 1) = r := by
  have h1 : (l.drop k)[0]? = some x := by rw [h]; rfl
  rw [List.getElem?_drop, Nat.add_zero] at h1
  refine ⟨h1, ?_⟩
  rw [← List.drop_drop, h]
  rfl
theorem last_ent {L : List Ent} {d : List S27} {c : ByteArray} {vs : List ByteArray} (h : L.map Ent.cap = d ++ [⟨c, vs⟩]) : ∃ L0 e, L = L0 ++ [e] ∧ L0.map Ent.cap = d ∧ e.n = c ∧ e.vs = vs := by
  have hne : L ≠ [] := by rintro rfl; cases d <;> cases h
  obtain ⟨L0, e, rfl⟩ : ∃ L0 e, L = L0 ++ [e] := ⟨L.dropLast, L.getLast hne, (List.dropLast_concat_getLast hne).symm⟩
  rw [List.map_append, List.map_cons, List.map_nil] at h
  have h2 := List.append_inj' h rfl
  have h3 : e.cap = ⟨c, vs⟩ := by simpa using h2.2
  exact ⟨L0, e, rfl, h2.1, congrArg S27.f0 h3, congrArg S27.f1 h3⟩
set_option maxHeartbeats 32000000 in
set_option maxRecDepth 100000 in
theorem decode (l : List S27) (b c lb mb : Nat) (D : List Int) (w0 w : World) (htab : Lib.TabIs Tryd.prog w "bytes.asciiSpace" .u8 Lib.asciiSpaceTab) (hb : Below w0.heap.size w0 w) (hC : Kd.C (Kd.int .u8) w0 (some ⟨b, 0, none⟩) D.length D) (hc : D.length ≤ c) (hL : LSt w w0.heap.size lb mb (fun _ => 0) [] (.slice none 0 0) []) (hg : GoodV l) (hD : D = bytesOf (joined (words l))) :
    Calls Tryd.prog 20 #[.pointer (some ⟨lb, 0, none⟩), .slice (some ⟨b, 0, none⟩) D.length c] w fun e w' => e = .returned .nilIface ∧ ∃ G L V, LSt w' w0.heap.size lb mb G L V (L.map Ent.n) ∧ L.map Ent.cap = l ∧ Below w0.heap.size w0 w' := by
  have hDg : D = glue 32 ((words l).map bytesOf) := hD.trans (bytes_joined _)
  have hDl : D.length ≤ 4000000 := by
    rw [hD, bytesOf_length]
    have h1 := join_len (words l) (word_size hg.g.sz)
    have h2 := words_len hg.g.sz
    have h3 := hg.g.sz.n
    show (Lib.join _ [32]).length ≤ _
    omega
  have hby : ∀ n ∈ D, 32 ≤ n ∧ n < 127 := by rw [hDg]; exact all_bytes hg
  have HT : Aside0 (Calls Tryd.prog 34 #[.slice (some ⟨b, 0, none⟩) D.length c] w fun e w' => e = .returned (Lib.bytesTrimSpace b 0 c (Lib.bytesOf D)) ∧ w' = w) := ⟨by
    have hr := Kd.reads_of_C (enc := Value.int .u8) (d := (0 : Int)) (h1 := fun _ => rfl) (Kd.C_below hC hb)
    have hgd : ∀ i, i < D.length → D.getD i 0 ∈ D := fun i hi => by
      rw [List.getD_eq_getElem?_getD, List.getElem?_eq_getElem hi]
      exact List.getElem_mem hi
    refine Tryd.bytes_TrimSpace b 0 D.length c D w rfl hc (by omega) (fun i hi => ?_) (fun i hi => ?_) htab
    · obtain ⟨ad, e, hcell⟩ := hr.2.2 (by omega)
      injection e with e
      subst e
      have h := hcell i hi
      rw [add_plain] at h
      rw [Nat.zero_add]
      exact h
    · have := hby _ (hgd i hi)
      omega⟩
  have HB := Aside0.mk hb
  have HC := Aside0.mk hC
  have HCc := Aside0.mk hc
  have HL := Aside0.mk hL
  have HG := Aside0.mk hg
  have HDG := Aside0.mk hDg
  have HDL := Aside0.mk hDl
  have HBY : Aside0 (∀ n ∈ D, 0 ≤ n ∧ n < 256) := ⟨fun n hn => by have := hby n hn; omega⟩
  clear htab hb hC hc hL hg hD hDg hby
  by_cases z : words l = []
  · have hl : l = [] := words_nil z
    have hD0 : D = [] := by rw [HDG.out, z]; rfl
    have hts : Lib.bytesTrimSpace b 0 c (Lib.bytesOf D) = .slice none 0 0 := by rw [hD0]; rfl
    rw [hts] at HT
    have HLN := Aside0.mk hl
    clear hl z hD0 hts
    go_enter Tryd.func20, Tryd.ntmps20
    go_wp2_with (first | (go_at_call 34; (with_reducible refine HT.out.mono ?_); rintro e w1 ⟨rfl, hw⟩; replace hw := hw.symm; subst hw))
    go_ret
    exact ⟨rfl, _, [], _, HL.out, by rw [HLN.out]; rfl, HB.out⟩
  have hdp : 0 < D.length := by
    rw [HDG.out]
    exact glue_pos _ (fun p hp => (bares HG.out p hp).1) (fun e => z (List.map_eq_nil_iff.1 e))
  have hts : Lib.bytesTrimSpace b 0 c (Lib.bytesOf D) = .slice (some ⟨b, 0, none⟩) D.length c := by rw [HDG.out]; exact trim HG.out z b c
  rw [hts] at HT
  have e1 : ((D.length : Int) == 0) = false := by rw [beq_eq_false_iff_ne]; omega
  have e2 : ¬ (D.length : Int) = 0 := by omega
  obtain ⟨ws, hws⟩ : ∃ ws, ws = words l := ⟨_, rfl⟩
  have HWS := Aside0.mk hws
  obtain ⟨ps, hps⟩ : ∃ ps, ps = ws.map bytesOf := ⟨_, rfl⟩
  have HPS := Aside0.mk hps
  have HSP := Aside0.mk (splitAll 32 (some ⟨b, 0, none⟩) (some ⟨w.heap.size, 0, none⟩) c 1 D ps w0 (w.alloc (.cells #[.int .u8 32] 5)) (below_alloc HB.out _) HC.out HCc.out (sep_row w 32) HDL.out (by
    rw [hps, hws]
    refine cuts_all 32 _ (fun p hp => ?_) (fun e => z (List.map_eq_nil_iff.1 e)) 0
    obtain ⟨x, hx, rfl⟩ := List.mem_map.1 hp
    exact no32 (fun b hb => ((words_bare HG.out x hx).1 b hb).1)) (by rw [hps, hws]; exact HDG.out) (by decide) HBY.out)
  have HWN : Aside0 (ws.length ≤ 3600) := ⟨by
    rw [hws]
    have h2 := words_len HG.out.g.sz
    have h3 := HG.out.g.sz.n
    omega⟩
  have HPN : Aside0 (ps.length = ws.length) := ⟨by rw [hps, List.length_map]⟩
  have HAT0 : Aside0 (At l [] ws) := ⟨by rw [hws]; exact .new [] l rfl⟩
  clear hws hps z hts hdp
  go_enter Tryd.func20, Tryd.ntmps20
  go_upto_region 5 with (first
    | (go_at_call 34; (with_reducible refine HT.out.mono ?_); rintro e w1 ⟨rfl, hw⟩; replace hw := hw.symm; subst hw)
    | (go_at_call 35; (with_reducible refine HSP.out.mono ?_); rintro e w1 ⟨v1, rfl, hr1, hb1⟩; obtain ⟨A5, c5, rfl⟩ := Kd.R_slice hr1; have HR1 := Aside0.mk hr1; have HB1 := Aside0.mk hb1; clear hr1 hb1))
  have HBA : Aside0 (Below w.heap.size w w1) := ⟨(below_alloc (Below.refl _ _) _).trans (HB1.out.mono (below_alloc (Below.refl w.heap.size w) (.cells #[.int .u8 32] 5)).size)⟩
  obtain ⟨b1, hb1⟩ : ∃ b1, b1 = (w.alloc (.cells #[.int .u8 32] 5)).heap.size := ⟨_, rfl⟩
  rw [← hb1] at HR1
  clear hb1 HB1 HT HSP
  obtain ⟨n5, hn5⟩ : ∃ n5, n5 = ps.length := ⟨_, rfl⟩
  have HN5 := Aside0.mk hn5
  rw [← hn5] at HR1
  simp only [← hn5]
  clear hn5
  go_wp2
  go_loopg [20] n5 (fun gk v20 w' => ∃ (k : Nat) (G : Nat → Nat) (L : List Ent) (V : Value) (rest : List ByteArray), v20 = .int .i64 (k : Int) ∧ Aside0 (k + gk = n5) ∧ Aside0 (LSt w' w0.heap.size lb mb G L V (L.map Ent.n)) ∧ Aside0 (At l (L.map Ent.cap) rest) ∧ Aside0 (ws.drop k = rest) ∧ Aside0 (Below w0.heap.size w0 w') ∧ Aside0 ((lent w0 KB).R 34 w' b1 (fun _ => True) (.slice A5 n5 c5) ps))
  case atStart => exact ⟨0, _, [], _, ws, rfl, ⟨by omega⟩, ⟨HL.out.below HBA.out⟩, HAT0, ⟨rfl⟩, ⟨HB.out.trans (HBA.out.mono HB.out.size)⟩, HR1⟩
  case round =>
    obtain ⟨k, G, L, V, rest, rfl, HK, HLS, HAT, HDR, HB2, HR2⟩ := hrel
    have HKN : Aside0 (n5 = ws.length) := ⟨by rw [HN5.out, HPN.out]⟩
    by_cases hlt : k < n5
    rotate_left
    · have hkn : k = n5 := by have := HK.out; omega
      subst hkn
      have hr0 : rest = [] := by rw [← HDR.out, HKN.out, List.drop_length]
      have HFE := Aside0.mk (at_nil HAT.out hr0)
      clear hr0
      go_wp2
      go_ret
      exact ⟨rfl, G, L, V, HLS.out, HFE.out, HB2.out⟩
    obtain ⟨g0, rfl⟩ : ∃ m, gk = m + 1 := ⟨gk - 1, by have := HK.out; omega⟩
    have hk1 : (k : Int) < (n5 : Int) := by omega
    have hk2 : (k : Int) < 3601 := by have := HKN.out; have := HWN.out; omega
    have HWK : Aside0 (wrap64 ((k : Int) + 1) = ((k + 1 : Nat) : Int)) := ⟨by unfold wrap64; omega⟩
    obtain ⟨x, rest', hrx⟩ : ∃ x rest', rest = x :: rest' := by
      rw [← HDR.out]
      exact ⟨_, _, List.drop_eq_getElem_cons (by have := HKN.out; omega)⟩
    have hdc := drop_cons (HDR.out.trans hrx)
    have HDR1 := Aside0.mk hdc.2
    have hpk : ps[k]? = some (bytesOf x) := by rw [HPS.out, List.getElem?_map, hdc.1]; rfl
    have hq := R_lent HR2.out
    obtain ⟨ad, A1, c1, rfl, hx0, l1, g1⟩ := at_lent hq.2 k (by rw [← hq.1]; exact hlt) (bytesOf x) hpk
    have HG1 := Aside0.mk g1
    have HL1 := Aside0.mk l1
    have HLL : Aside0 (L.length ≤ 60) := ⟨by
      have := at_len HAT.out
      rw [List.length_map] at this
      have := HG.out.g.sz.n
      omega⟩
    have hcases := at_cons HAT.out hrx HG.out.g.nd
    have HXM : Aside0 (x ∈ words l) := ⟨by rw [← HWS.out]; exact List.mem_of_getElem? hdc.1⟩
    have HXB : Aside0 (∀ n ∈ bytesOf x, 0 ≤ n ∧ n < 256) := ⟨fun n hn => by have := (bare_bytes (words_bare HG.out x HXM.out)).2 n hn; omega⟩
    have HXL : Aside0 ((bytesOf x).length ≤ 4000000) := ⟨by
      rw [bytesOf_length]
      have := word_size HG.out.g.sz x HXM.out
      omega⟩
    have HBN : Aside0 (Below w0.heap.size w0 (wr.alloc (.cells #[.int .u8 61] 5))) := ⟨below_alloc HB2.out _⟩
    have hxl : ∃ m, m = (bytesOf x).length := ⟨_, rfl⟩
    clear hdc hpk hq g1 l1 hrx
    rcases hcases with ⟨s, hs, hf, rfl, hfr, hat⟩ | ⟨s, hs, v, hv, rfl, hfr, hat⟩ | ⟨s, hs, v, hv, vs, d, rfl, h2l, hvl, hcd, hat⟩
    · have HS := Aside0.mk hs
      have HFR := Aside0.mk hfr
      have HAN := Aside0.mk hat
      have HOK := Aside0.mk (HG.out.g.ok s hs)
      have HNM := Aside0.mk (HG.out.name hs).1
      have HSP := Aside0.mk (splitTwo 61 A1 (some ⟨wr.heap.size, 0, none⟩) c1 1 (bytesOf (s.f0)) [bytesOf s.f0] w0 (wr.alloc (.cells #[.int .u8 61] 5)) HBN.out HG1.out HL1.out (sep_row wr 61) HXL.out (cuts_one HNM.out) rfl (by decide) HXB.out)
      clear hs hfr hat
      go_upto_region 8 with (first | (go_at_call 35; (with_reducible refine HSP.out.mono ?_); rintro e w2 ⟨v2, rfl, hr2, hb2⟩; obtain ⟨A7, c7, rfl⟩ := Kd.R_slice hr2; have HR7 := Aside0.mk hr2; have HB7 := Aside0.mk hb2; clear hr2 hb2))
      have HBR : Aside0 (Below wr.heap.size wr w2) := ⟨(below_alloc (Below.refl _ _) _).trans (HB7.out.mono (below_alloc (Below.refl wr.heap.size wr) (.cells #[.int .u8 61] 5)).size)⟩
      have HB8 : Aside0 (Below w0.heap.size w0 w2) := ⟨HBN.out.trans (HB7.out.mono HBN.out.size)⟩
      have HLS2 := Aside0.mk (HLS.out.below HBR.out)
      have HR8 := Aside0.mk (Kd.R_below HR2.out HBR.out)
      have hq2 := (R_lent HR7.out).2
      obtain ⟨ad7, X0, cx0, hA7, hp0, m0, n0⟩ := at_lent hq2 0 (by simp) (bytesOf s.f0) rfl
      subst hA7
      have hp0' : w2.cell? ad7 = some (.slice X0 (bytesOf s.f0).length cx0) := by simpa [Addr.add] using hp0
      have hcv0 : (convert 34 44 (.slice X0 (bytesOf s.f0).length cx0)).run Tryd.prog w2 = .ok (.string s.f0) w2 := (Kd.C_string (P := Tryd.prog) Tryd.underlying34 Tryd.underlying5 Tryd.underlying44 (Kd.C_below n0 HB8.out)).trans (by rw [strOf_bytesOf])
      generalize (bytesOf s.f0).length = m0' at hp0 hp0' hcv0
      have hlen : (([bytesOf s.f0] : List (List Int)).length : Int) = 1 := rfl
      clear hq2 m0 n0 
      have had := (addNew lb mb G L V s.f0 none 0 [] w0 w2 HB8.out HLS2.out (caps_names HFR.out) (by have := HOK.out; rwa [hf] at this) (Kd.R_nil _ _ _ _ _) (by have := HLL.out; omega))
      simp only [List.length_cons, List.length_nil, Nat.zero_add] at had
      have HAD := Aside0.mk had
      clear had
      go_wp2_with (first | (go_at_call 31; (with_reducible refine HAD.out.mono ?_); rintro e w3 ⟨rfl, G3, L3, V3, hl3, hc3, hb3, hk3, hz3⟩; have HL3 := Aside0.mk hl3; have HC3 := Aside0.mk hc3; have HB3 := Aside0.mk hb3; have HR3 := Aside0.mk (R_keep HR8.out hk3); clear hl3 hc3 hb3 hk3 hz3))
      go_roundg g0
      case measure => omega
      case rel => exact ⟨k + 1, G3, L3, V3, rest', by first | rw [HWK.out] | (push_cast; rfl), ⟨by have := HK.out; omega⟩, HL3, ⟨by rw [HC3.out]; exact HAN.out⟩, HDR1, HB3, HR3⟩
    · have HS := Aside0.mk hs
      have HFR := Aside0.mk hfr
      have HAN := Aside0.mk hat
      have HOK := Aside0.mk (HG.out.g.ok s hs)
      have HNM := Aside0.mk (HG.out.name hs).1
      have HSP := Aside0.mk (splitTwo 61 A1 (some ⟨wr.heap.size, 0, none⟩) c1 1 (bytesOf (valued s.f0 v)) [bytesOf s.f0, bytesOf v] w0 (wr.alloc (.cells #[.int .u8 61] 5)) HBN.out HG1.out HL1.out (sep_row wr 61) HXL.out (cuts_two HNM.out) (bytes_valued _ _) (by decide) HXB.out)
      clear hs hfr hat
      go_upto_region 8 with (first | (go_at_call 35; (with_reducible refine HSP.out.mono ?_); rintro e w2 ⟨v2, rfl, hr2, hb2⟩; obtain ⟨A7, c7, rfl⟩ := Kd.R_slice hr2; have HR7 := Aside0.mk hr2; have HB7 := Aside0.mk hb2; clear hr2 hb2))
      have HBR : Aside0 (Below wr.heap.size wr w2) := ⟨(below_alloc (Below.refl _ _) _).trans (HB7.out.mono (below_alloc (Below.refl wr.heap.size wr) (.cells #[.int .u8 61] 5)).size)⟩
      have HB8 : Aside0 (Below w0.heap.size w0 w2) := ⟨HBN.out.trans (HB7.out.mono HBN.out.size)⟩
      have HLS2 := Aside0.mk (HLS.out.below HBR.out)
      have HR8 := Aside0.mk (Kd.R_below HR2.out HBR.out)
      have hq2 := (R_lent HR7.out).2
      obtain ⟨ad7, X0, cx0, hA7, hp0, m0, n0⟩ := at_lent hq2 0 (by simp) (bytesOf s.f0) rfl
      subst hA7
      have hp0' : w2.cell? ad7 = some (.slice X0 (bytesOf s.f0).length cx0) := by simpa [Addr.add] using hp0
      have hcv0 : (convert 34 44 (.slice X0 (bytesOf s.f0).length cx0)).run Tryd.prog w2 = .ok (.string s.f0) w2 := (Kd.C_string (P := Tryd.prog) Tryd.underlying34 Tryd.underlying5 Tryd.underlying44 (Kd.C_below n0 HB8.out)).trans (by rw [strOf_bytesOf])
      obtain ⟨ad8, X1, cx1, hA8, hp1, m1, n1⟩ := at_lent hq2 1 (by simp) (bytesOf v) rfl
      obtain rfl : ad7 = ad8 := by injection hA8
      have hp1' : w2.cell? ⟨ad7.block, ad7.off + 1, none⟩ = some (.slice X1 (bytesOf v).length cx1) := by simpa [Addr.add] using hp1
      have hcv1 : (convert 34 9 (.slice X1 (bytesOf v).length cx1)).run Tryd.prog w2 = .ok (.string v) w2 := (Kd.C_string (P := Tryd.prog) Tryd.underlying34 Tryd.underlying5 Tryd.underlying9 (Kd.C_below n1 HB8.out)).trans (by rw [strOf_bytesOf])
      generalize (bytesOf v).length = m1' at hp1 hp1' hcv1
      generalize (bytesOf s.f0).length = m0' at hp0 hp0' hcv0
      have hlen : (([bytesOf s.f0, bytesOf v] : List (List Int)).length : Int) = 2 := rfl
      clear hq2 m0 n0 m1 n1 hA8
      obtain ⟨GG, hGG⟩ : ∃ GG, GG = tagAt G w2.heap.size (L.length + 2) := ⟨_, rfl⟩
      have HLA : Aside0 (LSt (w2.alloc (.cells #[.string v] 9)) w0.heap.size lb mb GG L V (L.map Ent.n)) := ⟨by rw [hGG]; exact (HLS2.out.tag (fun k hk => tagAt_lt hk)).below (below_alloc (Below.refl _ _) _)⟩
      have HVR : Aside0 (Kd.string.R 9 (w2.alloc (.cells #[.string v] 9)) w0.heap.size (fun k => L.length + 1 < GG k) (.slice (some ⟨w2.heap.size, 0, none⟩) 1 1) [v]) := ⟨Kd.R_mono (one_row v (Nat.le_refl _) HB8.out.size) (fun k hk => by rw [hGG, tagAt_ge hk]; omega)⟩
      have HBV : Aside0 (Below w0.heap.size w0 (w2.alloc (.cells #[.string v] 9))) := ⟨below_alloc HB8.out _⟩
      have HR9 : Aside0 ((lent w0 KB).R 34 (w2.alloc (.cells #[.string v] 9)) b1 (fun _ => True) (.slice (some ad) n5 c5) ps) := ⟨Kd.R_below HR8.out (below_alloc (Below.refl _ _) _)⟩
      clear hGG
      have had := (addNew lb mb GG L V s.f0 (some ⟨w2.heap.size, 0, none⟩) 1 [v] w0 _ HBV.out HLA.out (caps_names HFR.out) (ok_one HOK.out hv) HVR.out (by have := HLL.out; omega))
      simp only [List.length_cons, List.length_nil, Nat.zero_add] at had
      have HAD := Aside0.mk had
      clear had
      go_wp2_with (first | (go_at_call 31; (with_reducible refine HAD.out.mono ?_); rintro e w3 ⟨rfl, G3, L3, V3, hl3, hc3, hb3, hk3, hz3⟩; have HL3 := Aside0.mk hl3; have HC3 := Aside0.mk hc3; have HB3 := Aside0.mk hb3; have HR3 := Aside0.mk (R_keep HR9.out hk3); clear hl3 hc3 hb3 hk3 hz3))
      go_roundg g0
      case measure => omega
      case rel => exact ⟨k + 1, G3, L3, V3, rest', by first | rw [HWK.out] | (push_cast; rfl), ⟨by have := HK.out; omega⟩, HL3, ⟨by rw [HC3.out]; exact HAN.out⟩, HDR1, HB3, HR3⟩
    · have HS := Aside0.mk hs
      have HAN := Aside0.mk hat
      have HOK := Aside0.mk (HG.out.g.ok s hs)
      have HNM := Aside0.mk (HG.out.name hs).1
      have HSP := Aside0.mk (splitTwo 61 A1 (some ⟨wr.heap.size, 0, none⟩) c1 1 (bytesOf (valued s.f0 v)) [bytesOf s.f0, bytesOf v] w0 (wr.alloc (.cells #[.int .u8 61] 5)) HBN.out HG1.out HL1.out (sep_row wr 61) HXL.out (cuts_two HNM.out) (bytes_valued _ _) (by decide) HXB.out)
      clear hs hat
      go_upto_region 8 with (first | (go_at_call 35; (with_reducible refine HSP.out.mono ?_); rintro e w2 ⟨v2, rfl, hr2, hb2⟩; obtain ⟨A7, c7, rfl⟩ := Kd.R_slice hr2; have HR7 := Aside0.mk hr2; have HB7 := Aside0.mk hb2; clear hr2 hb2))
      have HBR : Aside0 (Below wr.heap.size wr w2) := ⟨(below_alloc (Below.refl _ _) _).trans (HB7.out.mono (below_alloc (Below.refl wr.heap.size wr) (.cells #[.int .u8 61] 5)).size)⟩
      have HB8 : Aside0 (Below w0.heap.size w0 w2) := ⟨HBN.out.trans (HB7.out.mono HBN.out.size)⟩
      have HLS2 := Aside0.mk (HLS.out.below HBR.out)
      have HR8 := Aside0.mk (Kd.R_below HR2.out HBR.out)
      have hq2 := (R_lent HR7.out).2
      obtain ⟨ad7, X0, cx0, hA7, hp0, m0, n0⟩ := at_lent hq2 0 (by simp) (bytesOf s.f0) rfl
      subst hA7
      have hp0' : w2.cell? ad7 = some (.slice X0 (bytesOf s.f0).length cx0) := by simpa [Addr.add] using hp0
      have hcv0 : (convert 34 44 (.slice X0 (bytesOf s.f0).length cx0)).run Tryd.prog w2 = .ok (.string s.f0) w2 := (Kd.C_string (P := Tryd.prog) Tryd.underlying34 Tryd.underlying5 Tryd.underlying44 (Kd.C_below n0 HB8.out)).trans (by rw [strOf_bytesOf])
      obtain ⟨ad8, X1, cx1, hA8, hp1, m1, n1⟩ := at_lent hq2 1 (by simp) (bytesOf v) rfl
      obtain rfl : ad7 = ad8 := by injection hA8
      have hp1' : w2.cell? ⟨ad7.block, ad7.off + 1, none⟩ = some (.slice X1 (bytesOf v).length cx1) := by simpa [Addr.add] using hp1
      have hcv1 : (convert 34 9 (.slice X1 (bytesOf v).length cx1)).run Tryd.prog w2 = .ok (.string v) w2 := (Kd.C_string (P := Tryd.prog) Tryd.underlying34 Tryd.underlying5 Tryd.underlying9 (Kd.C_below n1 HB8.out)).trans (by rw [strOf_bytesOf])
      generalize (bytesOf v).length = m1' at hp1 hp1' hcv1
      generalize (bytesOf s.f0).length = m0' at hp0 hp0' hcv0
      have hlen : (([bytesOf s.f0, bytesOf v] : List (List Int)).length : Int) = 2 := rfl
      clear hq2 m0 n0 m1 n1 hA8
      obtain ⟨GG, hGG⟩ : ∃ GG, GG = tagAt G w2.heap.size (L.length + 2) := ⟨_, rfl⟩
      have HLA : Aside0 (LSt (w2.alloc (.cells #[.string v] 9)) w0.heap.size lb mb GG L V (L.map Ent.n)) := ⟨by rw [hGG]; exact (HLS2.out.tag (fun k hk => tagAt_lt hk)).below (below_alloc (Below.refl _ _) _)⟩
      have HVR : Aside0 (Kd.string.R 9 (w2.alloc (.cells #[.string v] 9)) w0.heap.size (fun k => L.length + 1 < GG k) (.slice (some ⟨w2.heap.size, 0, none⟩) 1 1) [v]) := ⟨Kd.R_mono (one_row v (Nat.le_refl _) HB8.out.size) (fun k hk => by rw [hGG, tagAt_ge hk]; omega)⟩
      have HBV : Aside0 (Below w0.heap.size w0 (w2.alloc (.cells #[.string v] 9))) := ⟨below_alloc HB8.out _⟩
      have HR9 : Aside0 ((lent w0 KB).R 34 (w2.alloc (.cells #[.string v] 9)) b1 (fun _ => True) (.slice (some ad) n5 c5) ps) := ⟨Kd.R_below HR8.out (below_alloc (Below.refl _ _) _)⟩
      clear hGG
      obtain ⟨L0, e0, hLe, hLd, hen, hev⟩ := last_ent hcd
      have hj : L[L0.length]? = some e0 := by rw [hLe, List.getElem?_append_right (Nat.le_refl _), Nat.sub_self]; rfl
      obtain ⟨Ae, ce, hv0⟩ := Kd.R_slice (HLA.out.he _ _ hj)
      have hj2 : L[L0.length]? = some ⟨s.f0, vs, e0.b, .slice Ae e0.vs.length ce⟩ := by rw [hj, ← hen, ← hev, ← hv0]
      have had := (addMore lb mb GG L V s.f0 L0.length e0.b vs Ae e0.vs.length ce (some ⟨w2.heap.size, 0, none⟩) 1 [v] w0 _ HBV.out HLA.out hj2 (ok_one HOK.out hv) (ok_mul HOK.out h2l) (by simp) (by have := HOK.out.len; omega) (Kd.R_mono HVR.out (fun k hk => by omega)))
      have HFN : Aside0 (∀ V1, (L.set L0.length ⟨s.f0, vs ++ [v], e0.b, V1⟩).map Ent.cap = d ++ [⟨s.f0, vs ++ [v]⟩] ∧ (L.set L0.length ⟨s.f0, vs ++ [v], e0.b, V1⟩).map Ent.n = L.map Ent.n) := ⟨fun V1 => by
        rw [hLe, List.set_append_right _ _ (Nat.le_refl _), Nat.sub_self]
        simp only [List.set_cons_zero, List.map_append, List.map_cons, List.map_nil, hLd, hen]
        first | exact ⟨rfl, rfl⟩ | exact ⟨rfl, trivial⟩ | simp [Ent.cap]⟩
      clear hLe hLd hj hv0 hj2 hen hev hcd hvl h2l
      simp only [List.length_cons, List.length_nil, Nat.zero_add] at had
      have HAD := Aside0.mk had
      clear had
      go_wp2_with (first | (go_at_call 31; (with_reducible refine HAD.out.mono ?_); rintro e w3 ⟨rfl, G3, V3, hl3, hb3, hk3, hz3⟩; have HL3 := Aside0.mk hl3; have HB3 := Aside0.mk hb3; have HR3 := Aside0.mk (R_keep HR9.out hk3); clear hl3 hb3 hk3 hz3))
      go_roundg g0
      case measure => omega
      case rel => exact ⟨k + 1, G3, L.set L0.length ⟨s.f0, vs ++ [v], e0.b, V3⟩, V, rest', by first | rw [HWK.out] | (push_cast; rfl), ⟨by have := HK.out; omega⟩, ⟨by rw [(HFN.out V3).2]; exact HL3.out⟩, ⟨by rw [(HFN.out V3).1]; exact HAN.out⟩, HDR1, HB3, HR3⟩
#print axioms decode
end Go.Proofs.YtbemlaalccoepaaDoor.CapW
