/- spec.TreeBytes, walked. -/
import Derived.Test.YtddnepddilbikaaDoorObjO
import Derived.Test.YtddnepddilbikaaDoorQAllx4
import Derived.Lib.AppendStr
set_option linter.unusedVariables false
set_option linter.unusedSimpArgs false
namespace Go.Proofs.YtddnepddilbikaaDoor.ObjQ
open Go.RowKit Go.Proofs.YtddnepddilbikaaDoorW.PrintLast Go.Proofs.YtddnepddilbikaaDoorW.PrintMore Go.Proofs.YtddnepddilbikaaDoor.QAll Ptr SrtL ObjL ObjO ExtO
open Go.Proofs.YtddnepddilbikaaDoorW.PrintWords hiding nums

theorem append_str_step {ops : Array Oper} {o : Oper} {a : Act} {Q : Exit → Act → World → Prop} {Kc : Act → World → Prop} {w0 W : World} (base : Nat) (hw : Region.wanted o (yielded ops a.tmps) = true) (s x : Operand)
    (ho : o.op = .call { callee := .builtin .append, args := #[s, x], argTypes := #[24, 9] }) (v : Value) (xs : List Int) (y : ByteArray) (hs : a.eval s = v) (hx : a.eval x = .string y)
    (HO : (Kd.int .u8).R 5 W base (fun _ => True) v xs) (HB : Below base w0 W) (hbase : base ≤ W.heap.size) (hl : xs.length + y.size ≤ 140737488355328)
    (h : ∀ v1 w1, (Kd.int .u8).R 5 w1 base (fun _ => True) v1 (xs ++ ObjA.nums y) → Below base w0 w1 → W.grownBy w1 v.ownBlock → Kc (a.put o.dst v1) w1) :
    if Region.wanted o (yielded ops a.tmps) = true then Oper.wp Tryd.prog o a W Kc Q else Kc (a.put o.dst undef) W := by
  obtain ⟨i0, hi, hz0, hz1, hz2⟩ := info_parts ObjA.info5'
  have hown := Kd.own_of_R HO
  obtain ⟨v1, w1, hr1, h1, hg, _⟩ := Lib.run_append_own_string (P := Tryd.prog) W base 24 9 o.type 5 i0 Tryd.underlying24 Tryd.underlying9 hi hz0 hz1 hz2 v xs.length _ hown y (by simp only [maxLen]; omega) hl hbase
  rw [if_pos hw]
  unfold Oper.wp execOp
  simp only [ho, resolve, invoke, builtin, Sem.run_bind, Sem.run_pure, Result.andThen_ok, List.map_toArray, List.map_cons, List.map_nil, hs, hx, hr1]
  refine h v1 w1 (Kd.R_of_own ?_ (fun _ _ => trivial)) (HB.grown hg hbase (own_base hown)) hg
  have e1 : (xs ++ ObjA.nums y).length = xs.length + y.size := by rw [List.length_append, ObjA.nums_len]
  have e2 : encs (Value.int .u8) (xs ++ ObjA.nums y) = encs (Value.int .u8) xs ++ Lib.strCells y := by
    unfold encs Lib.strCells ObjA.nums
    rw [List.map_append, List.map_map]
    rfl
  rw [e1, e2]
  exact h1
theorem rdT44 (l : List S44) (i : Nat) (hi : i < l.length) : rd_T44 l (i : Int) = l[i] := by
  unfold rd_T44
  rw [Int.toNat_natCast, List.getD_eq_getElem?_getD, List.getElem?_eq_getElem hi]
  rfl
def tb5.T5 : Bool × List (List Nat × List Nat) := (true, [([], []), ([], []), ([1], [1]), ([2], [2]), ([3], [3]), ([4], [4]), ([], []), ([6], [6]), ([5, 7], [5, 7]), ([0, 8, 4], [0, 8]), ([9, 9, 0, 1, 2, 3, 4, 5, 6, 7, 8, 9], [0, 9])])
def tb5.B5 : List Nat := [0, 0, 2, 6, 14, 30, 0, 64, 254, 511, 1023]
theorem tb5.tab5 : rtab .any (opsOf Tryd.f10 5) = tb5.T5 := by kernel_rfl
theorem tb5.bits5 : waitsOk tb5.T5.2 tb5.B5 = true := by kernel_rfl
def tb6.T6 : Bool × List (List Nat × List Nat) := (true, [([], []), ([], []), ([0, 1], [0, 1]), ([], []), ([3], [3]), ([4, 2], [4]), ([2, 5, 5], [2, 5]), ([6, 6, 0, 1, 2, 3, 4, 5, 6], [0, 6])])
def tb6.B6 : List Nat := [0, 0, 3, 0, 8, 31, 63, 127]
theorem tb6.tab6 : rtab .any (opsOf Tryd.f10 6) = tb6.T6 := by kernel_rfl
theorem tb6.bits6 : waitsOk tb6.T6.2 tb6.B6 = true := by kernel_rfl
set_option maxHeartbeats 16000000 in
set_option maxRecDepth 100000 in
theorem treeBytes (A0 : Option Addr) (c : Nat) (l : List S44) (w : World) (hC : Kd.C k44 w A0 l.length l) (hn : l.length ≤ 1000) (hok : ∀ s ∈ l, OkE s) (hux : ∀ s ∈ l, ∃ K, spec_Unhex.f K s.f2 = some (hashN s.f2)) :
    Calls Tryd.prog 10 #[.slice A0 l.length c] w fun e w' => ∃ v, e = .returned v ∧ (Kd.int .u8).R 5 w' w.heap.size (fun _ => True) v (entsOut l) ∧ Below w.heap.size w w' := by
  have HC := Aside0.mk hC
  have HN := Aside0.mk hn
  have HOK := Aside0.mk hok
  have HUA := Aside0.mk hux
  have hu44 := Tryd.underlying44
  clear hC hn hok hux
  go_enter Tryd.func10, Tryd.ntmps10
  go_wp2
  go_loopg [3, 8] l.length (fun gk v3 v8 w' => ∃ (k : Nat) (V : Value), v3 = V ∧ v8 = .int .i64 (k : Int) ∧ Aside0 (k + gk = l.length) ∧ Aside0 (Below w.heap.size w w') ∧ Aside0 ((Kd.int .u8).R 5 w' w.heap.size (fun _ => True) V (entsOut (l.take k))))
  case atStart => exact ⟨0, .slice none 0 0, rfl, rfl, ⟨by omega⟩, ⟨Below.refl _ _⟩, ⟨Kd.R_nil _ _ _ _ _⟩⟩
  case round =>
    obtain ⟨k, V, hV, rfl, HK, HB, HR⟩ := hrel
    replace hV := hV.symm
    subst hV
    by_cases hlt : k < l.length
    rotate_left
    · obtain rfl : k = l.length := by have := HK.out; omega
      have hR := HR.out
      rw [List.take_length] at hR
      have HR2 := Aside0.mk hR
      clear hR
      go_wp2
      go_ret
      exact ⟨V, rfl, HR2.out, HB.out⟩
    obtain ⟨g0, rfl⟩ : ∃ m, gk = m + 1 := ⟨gk - 1, by have := HK.out; omega⟩
    have hk1 : (k : Int) < (l.length : Int) := by omega
    have hk2 : (k : Int) < 1001 := by have := HN.out; omega
    obtain ⟨ad, rfl, hx0, hx1, hx2⟩ := at_T44 (Kd.C_below HC.out HB.out) (k : Int) (by omega) hk1
    rw [rdT44 l k hlt, Int.toNat_natCast] at hx0 hx1 hx2
    have HTK : Aside0 (entsOut (l.take (k + 1)) = entsOut (l.take k) ++ entOut l[k]) := ⟨by rw [List.take_succ_eq_append_getElem hlt, entsOut_snoc]⟩
    have HOS := Aside0.mk (HOK.out l[k] (List.getElem_mem hlt))
    obtain ⟨KU, hK⟩ := HUA.out l[k] (List.getElem_mem hlt)
    have HUX := Aside0.mk hK
    have HLE : Aside0 ((entsOut (l.take k)).length ≤ 4200000) := ⟨by
      have h1 := entsOut_len (l.take k) (fun s hs => HOK.out s (List.mem_of_mem_take hs))
      have h2 := HN.out
      rw [List.length_take] at h1
      have : min k l.length * 4200 ≤ 1000 * 4200 := Nat.mul_le_mul_right _ (by omega)
      omega⟩
    clear hK
    generalize l[k] = s at hx0 hx1 hx2 HTK HOS HUX
    generalize entsOut (l.take k) = X0 at HR HLE HTK
    have HWK : Aside0 (wrap64 ((k : Int) + 1) = ((k + 1 : Nat) : Int)) := ⟨by unfold wrap64; omega⟩
    obtain ⟨mo, hmo⟩ : ∃ mo : Int, mo = s.f1 := ⟨_, rfl⟩
    obtain ⟨ot, hot⟩ : ∃ ot, ot = ob s.f1.toNat := ⟨_, rfl⟩
    have HOC : Aside0 (spec_Octal.f mo = some ot) := ⟨by
      unfold spec_Octal.f
      have h1 := HOS.out.m0
      have h2 := HOS.out.m1
      rw [hmo, if_pos ⟨h1, h2⟩, hot]⟩
    have hotl : ot.size ≤ 11 := by
      rw [hot]
      refine ObjM.ob_small 10 _ ?_
      have h8 : (8 : Nat) ^ (10 + 1) = 8589934592 := by decide
      rw [h8]
      have := HOS.out.m1
      omega
    have hnml := HOS.out.n
    have hsz : (ot ++ (⟨#[32]⟩ : ByteArray) ++ s.f0).size ≤ 4200 := by
      have l1 : (⟨#[32]⟩ : ByteArray).size = 1 := rfl
      simp only [ByteArray.size_append, l1]
      omega
    have HL5 : Aside0 (X0.length + (ot ++ (⟨#[32]⟩ : ByteArray) ++ s.f0).size ≤ 140737488355328) := ⟨by have := HLE.out; omega⟩
    obtain ⟨X1, hX1⟩ : ∃ X1, X1 = X0 ++ ObjA.nums (ot ++ (⟨#[32]⟩ : ByteArray) ++ s.f0) := ⟨_, rfl⟩
    have hX1l : X1.length ≤ 4300000 := by rw [hX1, List.length_append, ObjA.nums_len]; have := HLE.out; omega
    have HL6 : Aside0 ((X1.length + 1) * 1 ≤ 140737488355328) := ⟨by omega⟩
    have HL7 : Aside0 (((X1 ++ [0]).length + (hashN s.f2).length) * 1 ≤ 140737488355328) := ⟨by
      have : (hashN s.f2).length = 20 := by unfold hashN; simp
      rw [List.length_append, this]
      simp only [List.length_cons, List.length_nil]
      omega⟩
    have HFIN : Aside0 (X1 ++ [0] ++ hashN s.f2 = entsOut (l.take (k + 1))) := ⟨by
      rw [HTK.out, hX1, hot]
      unfold entOut
      simp only [List.append_assoc]⟩
    have HX1 := Aside0.mk hX1
    have z1 : ¬ 9223372036854775807 < ot.size + 1 := by omega
    have z2 : ¬ 9223372036854775807 < ot.size + 1 + s.f0.size := by omega
    have hcv : ∀ W, (convert 42 3 (.int .u32 mo)).run Tryd.prog W = .ok (.int .i64 mo) W := fun W => by
      have e : wrap64 mo = mo := by
        have h1 := HOS.out.m0
        have h2 := HOS.out.m1
        rw [hmo]
        unfold wrap64
        omega
      have e2 : IntKind.i64.wrap mo = mo := by first | exact e | (rw [i64_w]; exact e)
      go_simp
      first
        | rw [e2]
        | rw [e]
        | (rw [hmo] at e2; exact e2)
        | (rw [hmo] at e; exact e)
    rw [← hmo] at hx1
    clear hmo hot hotl hnml hsz hX1 hX1l HTK HLE
    go_upto_region 5 with fail
    have hg0 : (wr.alloc (.cells #[.string s.f0, .int .u32 mo, .string s.f2] 44)).heap[wr.heap.size]? = some (.cells #[.string s.f0, .int .u32 mo, .string s.f2] 44 (0, 0)) := blk_new _ _
    have HBA : Aside0 (Below w.heap.size w (wr.alloc (.cells #[.string s.f0, .int .u32 mo, .string s.f2] 44))) := ⟨below_alloc HB.out _⟩
    have HRA : Aside0 ((Kd.int .u8).R 5 (wr.alloc (.cells #[.string s.f0, .int .u32 mo, .string s.f2] 44)) w.heap.size (fun _ => True) V X0) := ⟨Kd.R_below HR.out (below_alloc (Below.refl _ _) _)⟩
    generalize wr.alloc (.cells #[.string s.f0, .int .u32 mo, .string s.f2] 44) = wa at hg0 HBA HRA ⊢
    obtain ⟨gc, hgc⟩ : ∃ gc, gc = wr.heap.size := ⟨_, rfl⟩
    rw [← hgc] at hg0
    simp only [← hgc]
    clear hgc hx0 hx1 hx2
    have q0 : Below w.heap.size w wa.drew ∧ (Kd.int .u8).R 5 wa.drew w.heap.size (fun _ => True) V X0 ∧ wa.drew.heap[gc]? = some (.cells #[.string s.f0, .int .u32 mo, .string s.f2] 44 (0, 0)) := ⟨HBA.out.trans ((below_drew1 (Below.refl _ _)).mono HBA.out.size), Kd.R_below HRA.out (below_drew1 (Below.refl _ _)), hg0⟩
    have q1 : wa.drew.cell? ⟨gc, 0, none⟩ = some (.string s.f0) := (blk_cell hg0 0).trans rfl
    have q2 : wa.drew.cell? ⟨gc, 1, none⟩ = some (.int .u32 mo) := (blk_cell hg0 1).trans rfl
    clear hg0
    refine start_ (n := 11) (S := fun w' => (Below w.heap.size w w' ∧ (Kd.int .u8).R 5 w' w.heap.size (fun _ => True) V X0 ∧ w'.heap[gc]? = some (.cells #[.string s.f0, .int .u32 mo, .string s.f2] 44 (0, 0))) ∧ w'.cell? ⟨gc, 0, none⟩ = some (.string s.f0) ∧ w'.cell? ⟨gc, 1, none⟩ = some (.int .u32 mo)) (ds := [9]) #[false, false, false, false, false, false, false, false, false, false, false] (by kernel_rfl) rfl rfl ⟨q0, q1, q2⟩ (fun hHeld => ?_)
    refine with_tabW tb5.tab5 tb5.bits5 (fun HT_ HW_ => ?_)
    generalize World.drew _ = wd at hHeld ⊢
    refine pure_ (i := 0) (N := some 12) (v := ?_) (a' := ?_) #[true, false, false, false, false, false, false, false, false, false, false] rfl rfl (any_of HT_.out (by kernel_rfl)) (fun _ _ _ h => h) (Or.inl ⟨by rfl, ?_⟩) ?_ ?_
    rotate_left
    · intro w'
      go_simp
      with_reducible rfl
    rotate_left
    · simp only [Act.put, List.setIfInBounds_toArray, List.set_cons_zero, List.set_cons_succ, i64_w, i32_w]
      rfl
    refine pure_ (i := 1) (N := some 13) (v := ?_) (a' := ?_) #[true, true, false, false, false, false, false, false, false, false, false] rfl rfl (any_of HT_.out (by kernel_rfl)) (fun _ _ _ h => h) (Or.inl ⟨by rfl, ?_⟩) ?_ ?_
    rotate_left
    · intro w'
      go_simp
      with_reducible rfl
    rotate_left
    · simp only [Act.put, List.setIfInBounds_toArray, List.set_cons_zero, List.set_cons_succ, i64_w, i32_w]
      rfl
    refine pure_ (i := 6) (N := some 18) (v := ?_) (a' := ?_) #[true, true, false, false, false, false, true, false, false, false, false] rfl rfl (any_of HT_.out (by kernel_rfl)) (fun _ _ _ h => h) (Or.inl ⟨by rfl, ?_⟩) ?_ ?_
    rotate_left
    · intro w'
      go_simp
      with_reducible rfl
    rotate_left
    · simp only [Act.put, List.setIfInBounds_toArray, List.set_cons_zero, List.set_cons_succ, i64_w, i32_w]
      rfl
    refine take_ (i := 2) (N := some 14) (v := ?_) (a' := ?_) #[true, true, true, false, false, false, true, false, false, false, false] rfl rfl (take_ofW HT_.out HW_.out (by kernel_rfl)) (fun _ _ _ h => h) (Or.inl ⟨by rfl, ?_⟩) hHeld ?_ ?_
    rotate_left
    · rintro w' ⟨s0, s1, s2⟩
      go_simp
      with_reducible rfl
    rotate_left
    · simp only [Act.put, List.setIfInBounds_toArray, List.set_cons_zero, List.set_cons_succ, i64_w, i32_w]
      rfl
    refine pure_ (i := 3) (N := some 15) (v := ?_) (a' := ?_) #[true, true, true, true, false, false, true, false, false, false, false] rfl rfl (any_of HT_.out (by kernel_rfl)) (fun _ _ _ h => h) (Or.inl ⟨by rfl, ?_⟩) ?_ ?_
    rotate_left
    · intro w'
      go_simp
      with_reducible rfl
    rotate_left
    · simp only [Act.put, List.setIfInBounds_toArray, List.set_cons_zero, List.set_cons_succ, i64_w, i32_w]
      rfl
    refine take_ (i := 7) (N := some 19) (v := ?_) (a' := ?_) #[true, true, true, true, false, false, true, true, false, false, false] rfl rfl (take_ofW HT_.out HW_.out (by kernel_rfl)) (fun _ _ _ h => h) (Or.inl ⟨by rfl, ?_⟩) hHeld ?_ ?_
    rotate_left
    · rintro w' ⟨s0, s1, s2⟩
      go_simp
      with_reducible rfl
    rotate_left
    · simp only [Act.put, List.setIfInBounds_toArray, List.set_cons_zero, List.set_cons_succ, i64_w, i32_w]
      rfl
    refine one_ (i := 4) (N := some 16) #[true, true, true, true, true, false, true, true, false, false, false] rfl rfl (one_of HT_.out (by kernel_rfl)) (by decide) (fun K hK => ?_)
    refine goes_ Tryd.func25 (by kernel_rfl) rfl #[.int .i64 mo] (by rfl) rfl rfl (by simp only [List.map_toArray, List.map_cons, List.map_nil]; rfl) ?_
    with_reducible refine ((spec_Octal.calls mo ot _ HOC.out)).mono ?_
    rintro e w4 ⟨rfl, hb4⟩
    refine ⟨_, rfl, ?_⟩
    refine hK.out _ _ ⟨⟨hHeld.1.1.trans (hb4.mono hHeld.1.1.size), Kd.R_below hHeld.1.2.1 hb4, (hb4.block gc (blk_lt hHeld.1.2.2)).trans hHeld.1.2.2⟩, (pw_cell_below hb4 hHeld.2.1), (pw_cell_below hb4 hHeld.2.2)⟩ (fun hHeld => ?_)
    clear hK K
    refine norm_ (a' := ?_) ?_ ?_
    rotate_left
    · show Act.put _ (some 16) _ = _
      simp only [Act.put, List.setIfInBounds_toArray, List.set_cons_zero, List.set_cons_succ, i64_w, i32_w]
      rfl
    refine pure_ (i := 5) (N := some 17) (v := ?_) (a' := ?_) #[true, true, true, true, true, true, true, true, false, false, false] rfl rfl (any_of HT_.out (by kernel_rfl)) (fun _ _ _ h => h) (Or.inl ⟨by rfl, ?_⟩) ?_ ?_
    rotate_left
    · intro w'
      go_simp
      with_reducible rfl
    rotate_left
    · simp only [Act.put, List.setIfInBounds_toArray, List.set_cons_zero, List.set_cons_succ, i64_w, i32_w]
      rfl
    refine pure_ (i := 8) (N := some 20) (v := ?_) (a' := ?_) #[true, true, true, true, true, true, true, true, true, false, false] rfl rfl (any_of HT_.out (by kernel_rfl)) (fun _ _ _ h => h) (Or.inl ⟨by rfl, ?_⟩) ?_ ?_
    rotate_left
    · intro w'
      go_simp
      with_reducible rfl
    rotate_left
    · simp only [Act.put, List.setIfInBounds_toArray, List.set_cons_zero, List.set_cons_succ, i64_w, i32_w]
      rfl
    refine last_ (i := 9) (N := some 21) #[true, true, true, true, true, true, true, true, true, true, false] rfl rfl (one_of HT_.out (by kernel_rfl)) (by decide) (fun K hK => ?_)
    have HS9 := Aside0.mk hHeld.1
    refine append_str_step (w0 := w) w.heap.size (by rfl) (.tmp 12) (.tmp 20) rfl V X0 (ot ++ (⟨#[32]⟩ : ByteArray) ++ s.f0) rfl ?hx HS9.out.2.1 HS9.out.1 HS9.out.1.size ?hl ?_
    case hx => first | rfl | (go_simp; done) | (simp [Act.eval]; done)
    case hl => exact HL5.out
    intro v9 w9 ho9 hb9 hg9
    have HR9 := Aside0.mk (And.intro hb9 (And.intro ho9 ((hg9.block gc (blk_lt HS9.out.2.2) (Kd.R_ne HS9.out.2.1 HS9.out.2.2 (by decide))).trans HS9.out.2.2)))
    clear ho9 hb9 hg9
    refine hK.out _ _ ?_
    clear hK K
    refine norm_ (a' := ?_) ?_ ?_
    rotate_left
    · show Act.put _ (some 21) _ = _
      simp only [Act.put, List.setIfInBounds_toArray, List.set_cons_zero, List.set_cons_succ, i64_w, i32_w]
      rfl
    refine pure_ (i := 10) (N := some 3) (v := ?_) (a' := ?_) #[true, true, true, true, true, true, true, true, true, true, true] rfl rfl (any_of HT_.out (by kernel_rfl)) (fun _ _ _ h => h) (Or.inl ⟨by rfl, ?_⟩) ?_ ?_
    rotate_left
    · intro w'
      go_simp
      with_reducible rfl
    rotate_left
    · simp only [Act.put, List.setIfInBounds_toArray, List.set_cons_zero, List.set_cons_succ, i64_w, i32_w]
      rfl
    refine done_ (done_of HT_.out (by kernel_rfl)) ?_
    go_upto_region 6 with fail
    have HRE : Aside0 (Below w.heap.size w w9.drew ∧ (Kd.int .u8).R 5 w9.drew w.heap.size (fun _ => True) v9 X1 ∧ w9.drew.heap[gc]? = some (.cells #[.string s.f0, .int .u32 mo, .string s.f2] 44 (0, 0))) := ⟨HR9.out.1.trans ((below_drew1 (Below.refl _ _)).mono HR9.out.1.size), by rw [HX1.out]; exact Kd.R_below HR9.out.2.1 (below_drew1 (Below.refl _ _)), HR9.out.2.2⟩
    have p0 : Below w.heap.size w w9.drew := HRE.out.1
    have p1 : w9.drew.cell? ⟨gc, 2, none⟩ = some (.string s.f2) := (blk_cell (show w9.drew.heap[gc]? = _ from HR9.out.2.2) 2).trans rfl
    refine start_ (n := 8) (S := fun w' => Below w.heap.size w w' ∧ w'.cell? ⟨gc, 2, none⟩ = some (.string s.f2)) (ds := [5, 6]) #[false, false, false, false, false, false, false, false] (by kernel_rfl) rfl rfl ⟨p0, p1⟩ (fun hHeld => ?_)
    refine with_tabW tb6.tab6 tb6.bits6 (fun HT_ HW_ => ?_)
    generalize World.drew _ = we at HRE hHeld ⊢
    refine pure_ (i := 0) (N := some 22) (v := ?_) (a' := ?_) #[true, false, false, false, false, false, false, false] rfl rfl (any_of HT_.out (by kernel_rfl)) (fun _ _ _ h => h) (Or.inl ⟨by rfl, ?_⟩) ?_ ?_
    rotate_left
    · intro w'
      go_simp
      with_reducible rfl
    rotate_left
    · simp only [Act.put, List.setIfInBounds_toArray, List.set_cons_zero, List.set_cons_succ, i64_w, i32_w]
      rfl
    refine pure_ (i := 3) (N := some 25) (v := ?_) (a' := ?_) #[true, false, false, true, false, false, false, false] rfl rfl (any_of HT_.out (by kernel_rfl)) (fun _ _ _ h => h) (Or.inl ⟨by rfl, ?_⟩) ?_ ?_
    rotate_left
    · intro w'
      go_simp
      with_reducible rfl
    rotate_left
    · simp only [Act.put, List.setIfInBounds_toArray, List.set_cons_zero, List.set_cons_succ, i64_w, i32_w]
      rfl
    refine take_ (i := 4) (N := some 26) (v := ?_) (a' := ?_) #[true, false, false, true, true, false, false, false] rfl rfl (take_ofW HT_.out HW_.out (by kernel_rfl)) (fun _ _ _ h => h) (Or.inl ⟨by rfl, ?_⟩) hHeld ?_ ?_
    rotate_left
    · rintro w' ⟨s0, s1⟩
      go_simp
      with_reducible rfl
    rotate_left
    · simp only [Act.put, List.setIfInBounds_toArray, List.set_cons_zero, List.set_cons_succ, i64_w, i32_w]
      rfl
    refine one_ (i := 1) (N := some 23) #[true, true, false, true, true, false, false, false] rfl rfl (one_of HT_.out (by kernel_rfl)) (by decide) (fun K hK => ?_)
    refine value_ (w1 := ?_) (v := ?_) (by rfl) rfl ?_ ?_
    rotate_left 2
    · go_simp
      constructor
      · rfl
      · rfl
    refine hK.out _ _ ⟨(hHeld.1.trans ((below_alloc (Below.refl _ _) _).mono hHeld.1.size)), (pw_cell_below (below_alloc (Below.refl _ _) _) hHeld.2)⟩ (fun hHeld => ?_)
    clear hK K
    refine norm_ (a' := ?_) ?_ ?_
    rotate_left
    · show Act.put _ (some 23) _ = _
      simp only [Act.put, List.setIfInBounds_toArray, List.set_cons_zero, List.set_cons_succ, i64_w, i32_w]
      rfl
    refine one_ (i := 2) (N := some 24) #[true, true, true, true, true, false, false, false] rfl rfl (one_of HT_.out (by kernel_rfl)) (by decide) (fun K hK => ?_)
    refine Kd.R_append_step (Kd.int .u8) (w0 := w) w.heap.size (by rfl) (.tmp 22) (.tmp 23) 24 5 (.int .u8 0) 1 rfl Tryd.underlying24 ObjA.info5' rfl (by decide) (by decide) v9 X1 (0 : Int) [.int .u8 0] (fun _ => True) (fun _ => False) rfl ?hx rfl (fun _ h => h.elim) (fun _ _ => trivial) HRE.out.2.1 HRE.out.1 HRE.out.1.size ?hl ?_
    case hx => first | (go_simp; done) | rfl | (simp [Act.eval]; done)
    case hl => exact HL6.out
    intro v2 w2 ho2 hb2 hg2 hat2
    have HR2 := Aside0.mk (And.intro hb2 ho2)
    have hc2 := (blk_cell ((hg2.block gc (blk_lt HRE.out.2.2) (Kd.R_ne HRE.out.2.1 HRE.out.2.2 (by decide))).trans HRE.out.2.2) 2).trans (show _ = some (Value.string s.f2) from rfl)
    clear hHeld
    refine hK.out _ _ ⟨hb2, hc2⟩ (fun hHeld => ?_)
    clear hK K
    refine norm_ (a' := ?_) ?_ ?_
    rotate_left
    · show Act.put _ (some 24) _ = _
      simp only [Act.put, List.setIfInBounds_toArray, List.set_cons_zero, List.set_cons_succ, i64_w, i32_w]
      rfl
    refine last_ (i := 5) (N := some 27) #[true, true, true, true, true, true, false, false] rfl rfl (one_of HT_.out (by kernel_rfl)) (by decide) (fun K hK => ?_)
    refine goes_ Tryd.func26 (by kernel_rfl) rfl #[.string s.f2] (by rfl) rfl rfl (by simp only [List.map_toArray, List.map_cons, List.map_nil]; rfl) ?_
    with_reducible refine ((spec_Unhex.calls KU s.f2 (ObjO.hashN s.f2) _ HUX.out)).mono ?_
    rintro e w5 ⟨v5, rfl, hR5, hb5⟩
    obtain ⟨A5, c5, rfl, hc5, hC5⟩ := Kd.R_reads hR5
    have HR5 := Aside0.mk (And.intro (HR2.out.1.trans (hb5.mono HR2.out.1.size)) (And.intro (Kd.R_below HR2.out.2 hb5) hC5))
    clear hR5 hb5 hc5 hC5
    refine ⟨_, rfl, ?_⟩
    refine hK.out _ _ ?_
    clear hK K
    refine norm_ (a' := ?_) ?_ ?_
    rotate_left
    · show Act.put _ (some 27) _ = _
      simp only [Act.put, List.setIfInBounds_toArray, List.set_cons_zero, List.set_cons_succ, i64_w, i32_w]
      rfl
    refine last_ (i := 6) (N := some 28) #[true, true, true, true, true, true, true, false] rfl rfl (one_of HT_.out (by kernel_rfl)) (by decide) (fun K hK => ?_)
    refine Kd.R_append_rows_step (Kd.int .u8) (w0 := w) w.heap.size (by rfl) (.tmp 24) (.tmp 27) 24 5 (.int .u8 0) 1 rfl Tryd.underlying24 ObjA.info5' rfl (by decide) (by decide) v2 (X1 ++ [0]) (ObjO.hashN s.f2) A5 _ c5 (fun _ => True) (fun _ => False) rfl ?hx HR5.out.2.1 HR5.out.2.2 (fun _ _ h => h) (fun _ h => h.elim) (fun _ _ => trivial) HR5.out.1 HR5.out.1.size ?hl ?_
    case hx => first | (go_simp; done) | rfl | (simp [Act.eval]; done)
    case hl => exact HL7.out
    intro v6 w6 ho6 hb6 hg6 hat6
    have HR6 := Aside0.mk (And.intro hb6 ho6)
    clear ho6 hb6 hg6 hat6
    refine hK.out _ _ ?_
    clear hK K
    refine norm_ (a' := ?_) ?_ ?_
    rotate_left
    · show Act.put _ (some 28) _ = _
      simp only [Act.put, List.setIfInBounds_toArray, List.set_cons_zero, List.set_cons_succ, i64_w, i32_w]
      rfl
    refine pure_ (i := 7) (N := some 3) (v := ?_) (a' := ?_) #[true, true, true, true, true, true, true, true] rfl rfl (any_of HT_.out (by kernel_rfl)) (fun _ _ _ h => h) (Or.inl ⟨by rfl, ?_⟩) ?_ ?_
    rotate_left
    · intro w'
      go_simp
      with_reducible rfl
    rotate_left
    · simp only [Act.put, List.setIfInBounds_toArray, List.set_cons_zero, List.set_cons_succ, i64_w, i32_w]
      rfl
    refine done_ (done_of HT_.out (by kernel_rfl)) ?_
    go_wp2
    go_roundg g0
    case measure => omega
    case rel => exact ⟨k + 1, v6, rfl, by first | rfl | rw [HWK.out], ⟨by have := HK.out; omega⟩, ⟨HR6.out.1⟩, ⟨by rw [← HFIN.out]; exact HR6.out.2⟩⟩
end Go.Proofs.YtddnepddilbikaaDoor.ObjQ
