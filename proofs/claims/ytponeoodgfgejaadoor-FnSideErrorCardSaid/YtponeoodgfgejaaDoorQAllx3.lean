-- WRITTEN BY A PROGRAM OF THIS SESSION, out of the loaded program, with words of the kit
import Derived.Test.YtponeoodgfgejaaDoorQAllx0
import Derived.Test.YtponeoodgfgejaaDoorQAllx2
namespace Go.Proofs.YtponeoodgfgejaaDoor.QAll
open Go.RowKit Go.Proofs.YtponeoodgfgejaaDoorW.PrintWords Go.Proofs.YtponeoodgfgejaaDoorW.PrintLast Go.Proofs.YtponeoodgfgejaaDoorW.PrintMore
attribute [local go_sem] max2_int min2_int max_two min_two max_three min_three max_four min_four   -- for this text's walks alone
set_option linter.unusedVariables false
set_option linter.unusedSimpArgs false

/-! ### spec_ChunkLines: function 14 -/
def spec_ChunkLines.l0 : Nat → List Int → List (S39) → Int → Int → Option (List Int)
  | 0, _, _, _, _ => none
  | k + 1, x3, x6, x7, x8 => if x8 < x7 then (if 0 ≤ x8 then (if x8 < (x6.length : Int) then ((some (([((rd_T39 x6 x8).f0) % 256] : List Int) : List Int)).bind fun y168 => (if y168.length + ((rd_T39 x6 x8).f1).length < 140737488355328 then ((spec_Line.f k (y168 ++ ((rd_T39 x6 x8).f1))).bind fun t174 => (if x3.length + t174.length < 140737488355328 then (spec_ChunkLines.l0 k (x3 ++ t174) x6 x7 (wrap64 (x8 + 1))) else (none))) else (none))) else (none)) else (none)) else (some x3)
def spec_ChunkLines.f (k : Nat) (l0 : List (S39)) : Option (List Int) := spec_ChunkLines.l0 k ([] : List Int) l0 (l0.length : Int) 0
theorem spec_ChunkLines.mono_l : ∀ k, (∀ y0 y1 y2 y3, LeO (spec_ChunkLines.l0 k y0 y1 y2 y3) (spec_ChunkLines.l0 (k + 1) y0 y1 y2 y3))
  | 0 => fun _ _ _ _ r h => by simp [spec_ChunkLines.l0] at h
  | k + 1 => by
    have ih0 := spec_ChunkLines.mono_l k
    · intro y0 y1 y2 y3
      unfold spec_ChunkLines.l0
      repeat' first
      | (with_reducible exact ih0 _ _ _ _)
      | (with_reducible exact spec_Line.mono _ _)
      | (with_reducible exact LeO.refl _)
      | (with_reducible exact LeO.none _)
      | (with_reducible refine LeO.ite ?_ ?_)
      | (with_reducible refine LeO.bind ?_ (fun _ => ?_))
      | exact ih0 _ _ _ _
      | exact spec_Line.mono _ _
      | exact LeO.none _
      | refine LeO.ite ?_ ?_
      | refine LeO.bind ?_ (fun _ => ?_)
theorem spec_ChunkLines.mono : ∀ a0 k, LeO (spec_ChunkLines.f k a0) (spec_ChunkLines.f (k + 1) a0) := by
  intro a0 k
  have ih0 := spec_ChunkLines.mono_l k
  unfold spec_ChunkLines.f
  repeat' first
      | (with_reducible exact ih0 _ _ _ _)
      | (with_reducible exact spec_Line.mono _ _)
      | (with_reducible exact LeO.refl _)
      | (with_reducible exact LeO.none _)
      | (with_reducible refine LeO.ite ?_ ?_)
      | (with_reducible refine LeO.bind ?_ (fun _ => ?_))
      | exact ih0 _ _ _ _
      | exact spec_Line.mono _ _
      | exact LeO.none _
      | refine LeO.ite ?_ ?_
      | refine LeO.bind ?_ (fun _ => ?_)
/-! ### laws_sideMost: function 11 -/
def laws_sideMost.f (a0 : Bool) : Option (Int) := if a0 = true then (some 65516) else (some 1000)
set_option maxHeartbeats 8000000 in
set_option maxRecDepth 100000 in
theorem laws_sideMost.calls (a0 : Bool) (r : Int) (w : World) (h : laws_sideMost.f a0 = some r) :
    Calls Tryd.prog 11 #[.bool a0] w fun e w' => e = .returned (.int .i64 r) ∧ Drawn0 w w' := by
  have H : (if a0 = true then (some 65516) else (some 1000)) = some r := h
  clear h
  by_cases c2 : a0 = true
  · subst c2
    have H1 : (some 65516) = some r := by rw [if_pos rfl] at H; exact H
    clear H
    have H := H1
    clear H1
    obtain rfl := Option.some.inj H
    go_enter Tryd.func11, Tryd.ntmps11
    go_wp2
    go_ret
    exact ⟨by first | rfl | (simp; done) | (simp [*]; done), by repeat (first | exact Drawn0.refl _ | apply Drawn0.step)⟩
  · replace c2 := Bool.eq_false_iff.mpr c2
    subst c2
    have H1 : (some 1000) = some r := by rw [if_neg (show ¬ (false = true) by decide)] at H; exact H
    clear H
    have H := H1
    clear H1
    obtain rfl := Option.some.inj H
    go_enter Tryd.func11, Tryd.ntmps11
    go_wp2
    go_ret
    exact ⟨by first | rfl | (simp; done) | (simp [*]; done), by repeat (first | exact Drawn0.refl _ | apply Drawn0.step)⟩

/-! ### impl_kindOf: function 19 -/
def impl_kindOf.f (a0 : Bool) : Option (Int) := if a0 = true then (some 1) else (some 0)
set_option maxHeartbeats 8000000 in
set_option maxRecDepth 100000 in
theorem impl_kindOf.calls (a0 : Bool) (r : Int) (w : World) (h : impl_kindOf.f a0 = some r) :
    Calls Tryd.prog 19 #[.bool a0] w fun e w' => e = .returned (.int .i8 r) ∧ Drawn0 w w' := by
  have H : (if a0 = true then (some 1) else (some 0)) = some r := h
  clear h
  by_cases c2 : a0 = true
  · subst c2
    have H1 : (some 1) = some r := by rw [if_pos rfl] at H; exact H
    clear H
    have H := H1
    clear H1
    obtain rfl := Option.some.inj H
    go_enter Tryd.func19, Tryd.ntmps19
    go_wp2
    go_ret
    exact ⟨by first | rfl | (simp; done) | (simp [*]; done), by repeat (first | exact Drawn0.refl _ | apply Drawn0.step)⟩
  · replace c2 := Bool.eq_false_iff.mpr c2
    subst c2
    have H1 : (some 0) = some r := by rw [if_neg (show ¬ (false = true) by decide)] at H; exact H
    clear H
    have H := H1
    clear H1
    obtain rfl := Option.some.inj H
    go_enter Tryd.func19, Tryd.ntmps19
    go_wp2
    go_ret
    exact ⟨by first | rfl | (simp; done) | (simp [*]; done), by repeat (first | exact Drawn0.refl _ | apply Drawn0.step)⟩

/-! ### bytes_Equal: function 55 -/
def bytes_Equal.f (l0 : List Int) (l1 : List Int) : Option (Bool) := some ((strOfNums l0).toList == (strOfNums l1).toList)
set_option maxHeartbeats 8000000 in
set_option maxRecDepth 100000 in
theorem bytes_Equal.calls (A0 : Option Addr) (c0 : Nat) (l0 : List Int) (A1 : Option Addr) (c1 : Nat) (l1 : List Int) (r : Bool) (w : World) (hr0 : Kd.C (Kd.int .u8) w A0 l0.length l0) (hc0 : l0.length ≤ c0) (hr1 : Kd.C (Kd.int .u8) w A1 l1.length l1) (hc1 : l1.length ≤ c1) (h : bytes_Equal.f l0 l1 = some r) :
    Calls Tryd.prog 55 #[.slice A0 l0.length c0, .slice A1 l1.length c1] w fun e w' => e = .returned (.bool r) ∧ Drawn0 w w' := by
  have HR0 := Aside0.mk hr0
  have HC0 := Aside0.mk hc0
  clear hr0 hc0
  have HR1 := Aside0.mk hr1
  have HC1 := Aside0.mk hc1
  clear hr1 hc1
  have H : (some ((strOfNums l0).toList == (strOfNums l1).toList)) = some r := h
  clear h
  obtain rfl := Option.some.inj H
  have hcv3 := Kd.C_string (P := Tryd.prog) (A := A0) (c := c0) Tryd.underlying25 Tryd.underlying5 Tryd.underlying9 HR0.out
  have hcv4 := Kd.C_string (P := Tryd.prog) (A := A1) (c := c1) Tryd.underlying25 Tryd.underlying5 Tryd.underlying9 HR1.out
  go_enter Tryd.func55, Tryd.ntmps55
  go_wp2
  go_ret
  exact ⟨by first | rfl | (simp; done) | (simp [*]; done), by repeat (first | exact Drawn0.refl _ | apply Drawn0.step)⟩

/-- THE ONE PURE STATEMENT of bytes_Equal: yours. -/
def bytes_Equal.Pure : Prop := ∀ (l0 : List Int) (l1 : List Int), l0.length ≤ maxLen → l0.length * 1 ≤ 140737488351232 → (∀ x ∈ l0, (Lit.int .u8 x).wf = true) → l1.length ≤ maxLen → l1.length * 1 ≤ 140737488351232 → (∀ x ∈ l1, (Lit.int .u8 x).wf = true) → bytes_Equal.f l0 l1 = some true
theorem bytes_Equal.walk (P : bytes_Equal.Pure) (a0 : Option Addr) (len0 cap0 : Nat) (z0 : List Int) (a1 : Option Addr) (len1 cap1 : Nat) (z1 : List Int) (w : World) (w0 : (a0 = none ∧ len0 = 0 ∧ cap0 = 0 ∧ z0 = []) ∨ ∃ x, a0 = some x ∧ len0 ≤ cap0 ∧ cap0 ≤ maxLen ∧ z0.length = cap0 ∧ (∀ i, i < z0.length → w.cell? (x.add i) = some (.int .u8 (z0.getD i 0))) ∧ ∀ n ∈ z0, (Lit.int .u8 n).wf = true) (y0 : len0 * 1 ≤ 140737488351232) (w1 : (a1 = none ∧ len1 = 0 ∧ cap1 = 0 ∧ z1 = []) ∨ ∃ x, a1 = some x ∧ len1 ≤ cap1 ∧ cap1 ≤ maxLen ∧ z1.length = cap1 ∧ (∀ i, i < z1.length → w.cell? (x.add i) = some (.int .u8 (z1.getD i 0))) ∧ ∀ n ∈ z1, (Lit.int .u8 n).wf = true) (y1 : len1 * 1 ≤ 140737488351232) :
    Calls Tryd.prog 55 #[.slice a0 len0 cap0, .slice a1 len1 cap1] w fun e w' => e = .returned (.bool true) ∧ Below w.heap.size w w' := by
  obtain ⟨l0, rfl, hr0, hm0, hw0, hc0⟩ := ReadsInt.ofRowC w0
  obtain ⟨l1, rfl, hr1, hm1, hw1, hc1⟩ := ReadsInt.ofRowC w1
  have h := P l0 l1 hm0 y0 hw0 hm1 y1 hw1
  refine (bytes_Equal.calls _ _ l0 _ _ l1 true w (Kd.C_of_reads (d := (0 : Int)) (h1 := fun _ => rfl) hr0) hc0 (Kd.C_of_reads (d := (0 : Int)) (h1 := fun _ => rfl) hr1) hc1 h).mono ?_
  rintro e w' ⟨rfl, hd⟩
  exact ⟨rfl, hd.below⟩

/-! ### bytes_HasPrefix: function 43 -/
def bytes_HasPrefix.f (l0 : List Int) (l1 : List Int) : Option (Bool) := if (l0.length : Int) ≥ (l1.length : Int) then (if 0 ≤ (l1.length : Int) then (if (l1.length : Int) ≤ (l0.length : Int) then ((bytes_Equal.f (l0.take ((l1.length : Int) : Int).toNat) l1).bind fun t181 => (some t181)) else (none)) else (none)) else (some false)

/-! ### pktline_errPrefix: function 44 -/
def pktline_errPrefix.f  : Option (List Int) := some (([69, 82, 82, 32] : List Int))
/-! ### pktline_byteToASCIIHex: function 76 -/
def pktline_byteToASCIIHex.f (a0 : Int) : Option (Int) := if a0 < 10 then (some ((48 + a0) % 256)) else (some ((87 + a0) % 256))
set_option maxHeartbeats 8000000 in
set_option maxRecDepth 100000 in
theorem pktline_byteToASCIIHex.calls (a0 : Int) (r : Int) (w : World) (h : pktline_byteToASCIIHex.f a0 = some r) :
    Calls Tryd.prog 76 #[.int .u8 a0] w fun e w' => e = .returned (.int .u8 r) ∧ Drawn0 w w' := by
  have H : (if a0 < 10 then (some ((48 + a0) % 256)) else (some ((87 + a0) % 256))) = some r := h
  clear h
  by_cases c2 : a0 < 10
  · rw [if_pos c2] at H
    have c2b0 : decide (a0 < 10) = true := decide_eq_true c2
    clear c2
    obtain rfl := Option.some.inj H
    go_enter Tryd.func76, Tryd.ntmps76
    go_wp2
    go_ret
    exact ⟨by first | rfl | (simp; done) | (simp [*]; done), by repeat (first | exact Drawn0.refl _ | apply Drawn0.step)⟩
  · rw [if_neg c2] at H
    have c2b0 : decide (a0 < 10) = false := decide_eq_false c2
    clear c2
    obtain rfl := Option.some.inj H
    go_enter Tryd.func76, Tryd.ntmps76
    go_wp2
    go_ret
    exact ⟨by first | rfl | (simp; done) | (simp [*]; done), by repeat (first | exact Drawn0.refl _ | apply Drawn0.step)⟩

/-! ### sideband_Channel_WithPayload: function 47 -/
def sideband_Channel_WithPayload.f (a0 : Int) (l1 : List Int) : Option (List Int) := (some (([a0] : List Int) : List Int)).bind fun y185 => (if y185.length + l1.length < 140737488355328 then (some (y185 ++ l1)) else (none))
set_option maxHeartbeats 8000000 in
set_option maxRecDepth 100000 in
theorem sideband_Channel_WithPayload.calls (a0 : Int) (A1 : Option Addr) (c1 : Nat) (l1 : List Int) (r : List Int) (w : World) (hr1 : Kd.C (Kd.int .u8) w A1 l1.length l1) (hc1 : l1.length ≤ c1) (h : sideband_Channel_WithPayload.f a0 l1 = some r) :
    Calls Tryd.prog 47 #[.int .u8 a0, .slice A1 l1.length c1] w fun e w' => ∃ v0_ : Value, e = .returned (v0_) ∧ Kd.R (Kd.int .u8) 5 w' w.heap.size (fun _ => True) v0_ r ∧ Below w.heap.size w w' := by
  have HR1 := Aside0.mk hr1
  have HC1 := Aside0.mk hc1
  clear hr1 hc1
  have HB := Aside0.mk (Below.refl w.heap.size w)
  have H : ((some (([a0] : List Int) : List Int)).bind fun y185 => (if y185.length + l1.length < 140737488355328 then (some (y185 ++ l1)) else (none))) = some r := h
  clear h
  obtain ⟨y185, hy185⟩ : ∃ y_ : List Int, y_ = (([a0] : List Int)) := ⟨_, rfl⟩
  replace H : (if y185.length + l1.length < 140737488355328 then (some (y185 ++ l1)) else (none)) = some r := by first | (rw [hy185]; with_reducible exact H) | (have H2_ := (Option.bind_some _ _).symm.trans H; rw [hy185]; with_reducible exact H2_) | (have H2_ := (Option.bind_some _ _).symm.trans H; with_reducible exact H2_) | with_reducible exact H | (rw [hy185]; exact H) | exact H
  have Ny185 := Aside0.mk hy185
  clear hy185
  by_cases c3 : y185.length + l1.length < 140737488355328
  · rw [if_pos c3] at H
    have LMc3 := Aside0.mk c3
    clear c3
    obtain ⟨y188, hy188⟩ : ∃ y_ : List Int, y_ = (y185 ++ l1) := ⟨_, rfl⟩
    replace H : (some y188) = some r := by first | (rw [hy188]; with_reducible exact H) | (have H2_ := (Option.bind_some _ _).symm.trans H; rw [hy188]; with_reducible exact H2_) | (have H2_ := (Option.bind_some _ _).symm.trans H; with_reducible exact H2_) | with_reducible exact H | (rw [hy188]; exact H) | exact H
    have Ny188 := Aside0.mk hy188
    clear hy188
    obtain rfl := Option.some.inj H
    go_enter Tryd.func47, Tryd.ntmps47
    go_wp2_with (first | ((with_reducible refine gate_dst (N := 6) rfl ?_); refine Kd.R_lit (Kd.int .u8) _ 5 ?hg (N := 6) ?hd (xs := ([a0] : List Int)) (inner := [.int .u8 a0]) (ok := fun _ => True) (okp := fun _ => True) ?hr ?hp (fun _ hk => hk) trivial (Below.refl _ _) (Nat.le_refl _) (by simp) ?_; (case hd => rfl); (case hg => rfl); (case hr => first | (go_simp; done) | (go_simp; rfl)); (case hp => exact (Reps.one (show Kd.M (Kd.int .u8) _ _ _ a0 [.int .u8 a0] from rfl) (Reps.none _ _))); intro v186 w4 ho5 hb hg_ hnew_; clear hg_ hnew_; (first | rw [← Ny185.out] at ho5 | (simp only [Int.reduceToNat] at ho5; rw [← Ny185.out] at ho5)); have n0_ := Aside0.mk (Kd.R_lower ho5 (below_size (by repeat (first | (with_reducible first | exact HB.out | apply below_alloc | apply pw_below_drewN | apply below_drew1) | exact HB.out)))); have n1_ := Aside0.mk (below_step (by repeat (first | (with_reducible first | exact HB.out | apply below_alloc | apply pw_below_drewN | apply below_drew1) | exact HB.out)) hb); clear HB; have HO187 := n0_; have HB := n1_; clear n0_ n1_; clear hb ho5) | ((with_reducible refine gate_builtin (b := .append) (xs := #[.tmp 6, .tmp 7]) rfl ?_); at_builtin; refine Kd.R_append_rows (Kd.int .u8) (w0 := w) w.heap.size rfl (.tmp 6) (.tmp 7) 25 5 (.int .u8 0) 1 rfl Tryd.underlying25 info5 rfl (by decide) (by omega) v186 y185 l1 _ _ _ (fun _ => True) (fun _ => False) rfl rfl ?aO ?aR (fun _ _ h => h) (fun _ h => h.elim) ?aF ?aB ?aS ?aL ?_; (case aR => repeat (first | exact (Kd.C_below HR1.out HB.out) | (with_reducible refine Kd.C_alloc ?_ _) | (with_reducible refine Kd.C_drewN ?_ _) | (with_reducible refine Kd.C_drew ?_))); (case aB => exact (by repeat (first | (with_reducible first | exact HB.out | apply below_alloc | apply pw_below_drewN | apply below_drew1) | exact HB.out))); (case aF => exact (fun _ _ => trivial)); (case aO => exact (by (with_reducible repeat (first | apply Kd.R_alloc | apply Kd.R_drewN | apply Kd.R_drew)); exact HO187.out)); (case aS => exact (below_size (by repeat (first | (with_reducible first | exact HB.out | apply below_alloc | apply pw_below_drewN | apply below_drew1) | exact HB.out)))); (case aL => have := LMc3.out; omega); intro v189 w6 ho hb hg hat; rw [← Ny188.out] at ho; have n0_ := Aside0.mk (hb); have n1_ := Aside0.mk (ho); clear HB; clear HO187; have HB := n0_; have HO190 := n1_; clear n0_ n1_; clear ho hb hg hat))
    go_ret
    exact ⟨_, by first | rfl | (simp [errW_none, errW_some] <;> rfl) | (simp [*, errW_none, errW_some] <;> rfl), by (with_reducible repeat (first | apply Kd.R_alloc | apply Kd.R_drewN | apply Kd.R_drew)); exact HO190.out, by repeat (first | (with_reducible first | exact HB.out | apply below_alloc | apply pw_below_drewN | apply below_drew1) | exact HB.out)⟩
  · rw [if_neg c3] at H
    exact absurd H (by simp)

end Go.Proofs.YtponeoodgfgejaaDoor.QAll
