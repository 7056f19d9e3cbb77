/- impl.Patch, walked. -/
import Derived.Test.YtlboochpbplhlaaDoorHandE
set_option linter.unusedVariables false
set_option linter.unusedSimpArgs false
namespace Go.Proofs.YtlboochpbplhlaaDoor.HandF
open Go.RowKit Go.Proofs.YtlboochpbplhlaaDoorW.PrintWords Go.Proofs.YtlboochpbplhlaaDoor.QAll PureD HandA HandB HandC HandD HandE
open Go.Proofs.YtlboochpbplhlaaDoorW.PrintLast Go.Proofs.YtlboochpbplhlaaDoorW.PrintMore

set_option maxHeartbeats 8000000 in
set_option maxRecDepth 100000 in
theorem impl_ok (A0 A1 : Option Addr) (c0 c1 : Nat) (l0 l1 m : List Int) (w : World) (hr0 : Kd.C (Kd.int .u8) w A0 l0.length l0) (hr1 : Kd.C (Kd.int .u8) w A1 l1.length l1)
    (h0 : ∀ x ∈ l0, 0 ≤ x ∧ x ≤ 255) (h1 : ∀ x ∈ l1, 0 ≤ x ∧ x ≤ 255) (hl0 : l0.length ≤ 140737488351232) (hl1 : l1.length ≤ 140737488351232)
    (H : ∀ (W : World) (As Ad : Option Addr) (cs cd : Nat), Below w.heap.size w W → Sd W W.heap.size As cs l0 → Sd W W.heap.size Ad cd l1 →
      Calls Tryd.prog 19 #[.slice As l0.length cs, .slice Ad l1.length cd] W fun e w' => ∃ v, e = .returned (.tuple #[v, .nilIface]) ∧ Kd.R (Kd.int .u8) 5 w' W.heap.size (fun _ => True) v m ∧ Below W.heap.size W w') :
    Calls Tryd.prog 11 #[.slice A0 l0.length c0, .slice A1 l1.length c1] w fun e w' => ∃ v, e = .returned (.tuple #[v, .bool true]) ∧ Kd.R (Kd.int .u8) 5 w' w.heap.size (fun _ => True) v m ∧ Below w.heap.size w w' := by
  have hu42 := Tryd.underlying42
  have HR0 := Aside0.mk hr0
  have HR1 := Aside0.mk hr1
  have HX0 := Aside0.mk h0
  have HX1 := Aside0.mk h1
  have HL0 := Aside0.mk hl0
  have HL1 := Aside0.mk hl1
  have HH := Aside0.mk H
  have HB := Aside0.mk (Below.refl w.heap.size w)
  clear hr0 hr1 h0 h1 H hl0 hl1
  go_enter Tryd.func11, Tryd.ntmps11
  go_wp2_with (first
    | ((with_reducible refine gate_dst (N := 9) rfl ?_); refine Kd.R_lit (Kd.int .u8) _ 5 ?hg (N := 9) ?hd (xs := ([] : List Int)) (inner := []) (ok := fun _ => True) (okp := fun _ => True) ?hr ?hp (fun _ hk => hk) trivial (Below.refl _ _) (Nat.le_refl _) (by simp) ?_; (case hd => rfl); (case hg => rfl); (case hr => first | (go_simp; done) | (go_simp; rfl)); (case hp => exact Reps.none _ _); intro v9 w9 ho hb hg_ hnew_; have n0_ := Aside0.mk (Kd.R_lower ho (below_size (by repeat (first | (with_reducible first | exact HB.out | apply below_alloc | apply pw_below_drewN | apply below_drew1) | exact HB.out)))); have n1_ := Aside0.mk (below_step (by repeat (first | (with_reducible first | exact HB.out | apply below_alloc | apply pw_below_drewN | apply below_drew1) | exact HB.out)) hb); clear HB; have HO9 := n0_; have HB := n1_; clear n0_ n1_ hg_ hnew_ ho hb)
    | ((with_reducible refine gate_builtin (b := .append) (xs := #[.tmp 9, .tmp 10]) rfl ?_); at_builtin; refine Kd.R_append_rows (Kd.int .u8) (w0 := w) w.heap.size rfl (.tmp 9) (.tmp 10) 22 5 (.int .u8 0) 1 rfl Tryd.underlying22 info5 rfl (by decide) (by omega) v9 ([] : List Int) l0 _ _ _ (fun _ => True) (fun _ => False) rfl rfl ?aO ?aR (fun _ _ h => h) (fun _ h => h.elim) ?aF ?aB ?aS ?aL ?_; (case aR => exact Kd.C_below HR0.out (by repeat (first | (with_reducible first | exact HB.out | apply below_alloc | apply pw_below_drewN | apply below_drew1) | exact HB.out))); (case aB => exact (by repeat (first | (with_reducible first | exact HB.out | apply below_alloc | apply pw_below_drewN | apply below_drew1) | exact HB.out))); (case aF => exact fun _ _ => trivial); (case aO => exact (by (with_reducible repeat (first | apply Kd.R_alloc | apply Kd.R_drewN | apply Kd.R_drew)); exact HO9.out)); (case aS => exact (below_size (by repeat (first | (with_reducible first | exact HB.out | apply below_alloc | apply pw_below_drewN | apply below_drew1) | exact HB.out)))); (case aL => have := HL0.out; simp; omega); intro v11 w11 ho hb hg hat; rw [List.nil_append] at ho; have n0_ := Aside0.mk hb; have HO11 := Aside0.mk ho; clear HB HO9; have HB := n0_; clear n0_ ho hb hg hat)
    | ((with_reducible refine gate_dst (N := 12) rfl ?_); refine Kd.R_lit (Kd.int .u8) _ 5 ?hg (N := 12) ?hd (xs := ([] : List Int)) (inner := []) (ok := fun _ => True) (okp := fun _ => True) ?hr ?hp (fun _ hk => hk) trivial (Below.refl _ _) (Nat.le_refl _) (by simp) ?_; (case hd => rfl); (case hg => rfl); (case hr => first | (go_simp; done) | (go_simp; rfl)); (case hp => exact Reps.none _ _); intro v12 w12 ho hb hg_ hnew_; have n2_ := Aside0.mk (Kd.R_elder' (by (with_reducible repeat (first | apply Kd.R_alloc | apply Kd.R_drewN | apply Kd.R_drew)); exact HO11.out) (Kd.R_base ho) hb); have n0_ := Aside0.mk (Kd.R_lower (Kd.R_new' ho (Kd.R_lt (by (with_reducible repeat (first | apply Kd.R_alloc | apply Kd.R_drewN | apply Kd.R_drew)); exact HO11.out))) (below_size (by repeat (first | (with_reducible first | exact HB.out | apply below_alloc | apply pw_below_drewN | apply below_drew1) | exact HB.out)))); have n1_ := Aside0.mk (below_step (by repeat (first | (with_reducible first | exact HB.out | apply below_alloc | apply pw_below_drewN | apply below_drew1) | exact HB.out)) hb); clear HB HO11; have HO12 := n0_; have HB := n1_; have HO11 := n2_; clear n0_ n1_ n2_ hg_ hnew_ ho hb)
    | ((with_reducible refine gate_builtin (b := .append) (xs := #[.tmp 12, .tmp 13]) rfl ?_); at_builtin; refine Kd.R_append_rows (Kd.int .u8) (w0 := w) w.heap.size rfl (.tmp 12) (.tmp 13) 22 5 (.int .u8 0) 1 rfl Tryd.underlying22 info5 rfl (by decide) (by omega) v12 ([] : List Int) l1 _ _ _ (fun k_ => True ∧ some k_ ≠ v11.ownBlock) (fun _ => False) rfl rfl ?aO ?aR (fun _ _ h => h) (fun _ h => h.elim) ?aF ?aB ?aS ?aL ?_; (case aR => exact Kd.C_below HR1.out (by repeat (first | (with_reducible first | exact HB.out | apply below_alloc | apply pw_below_drewN | apply below_drew1) | exact HB.out))); (case aB => exact (by repeat (first | (with_reducible first | exact HB.out | apply below_alloc | apply pw_below_drewN | apply below_drew1) | exact HB.out))); (case aF => exact (fun k_ hk => ⟨trivial, Kd.fresh' (Kd.R_lt (by (with_reducible repeat (first | apply Kd.R_alloc | apply Kd.R_drewN | apply Kd.R_drew)); exact HO11.out)) k_ hk⟩)); (case aO => exact (by (with_reducible repeat (first | apply Kd.R_alloc | apply Kd.R_drewN | apply Kd.R_drew)); exact HO12.out)); (case aS => exact (below_size (by repeat (first | (with_reducible first | exact HB.out | apply below_alloc | apply pw_below_drewN | apply below_drew1) | exact HB.out)))); (case aL => have := HL1.out; simp; omega); intro v14 w14 ho hb hg hat; rw [List.nil_append] at ho; have n2_ := Aside0.mk (Kd.R_after (ok := fun _ => True) (by (with_reducible repeat (first | apply Kd.R_alloc | apply Kd.R_drewN | apply Kd.R_drew)); exact HO11.out) hg hat); have n0_ := Aside0.mk hb; have HO14 := Aside0.mk ho; clear HB HO12 HO11; have HB := n0_; have HO11 := n2_; clear n0_ n2_ ho hb hg hat))
  obtain ⟨As, cs, rfl, hS⟩ := Sd_of_R HO11.out HX0.out (by have := HL0.out; omega)
  obtain ⟨Ad, cd, rfl, hD⟩ := Sd_of_R HO14.out HX1.out (by have := HL1.out; omega)
  have HC := Aside0.mk (HH.out _ As Ad cs cd HB.out hS hD)
  clear hS hD
  (with_reducible refine HC.out.mono ?_)
  rintro e w2 ⟨v, rfl, hR, hb⟩
  have HB2 : Aside0 (Below w.heap.size w w2) := ⟨below_step HB.out hb⟩
  have HV : Aside0 (Kd.R (Kd.int .u8) 5 w2 w.heap.size (fun _ => True) v m) := ⟨Kd.R_lower hR HB.out.size⟩
  clear hR hb
  go_wp2
  go_quiet (fail)
  go_wp2
  go_ret2
  exact ⟨v, rfl, Kd.R_drewN HV.out _, pw_below_drewN HB2.out _⟩

set_option maxHeartbeats 8000000 in
set_option maxRecDepth 100000 in
theorem impl_bad (A0 A1 : Option Addr) (c0 c1 : Nat) (l0 l1 : List Int) (w : World) (hr0 : Kd.C (Kd.int .u8) w A0 l0.length l0) (hr1 : Kd.C (Kd.int .u8) w A1 l1.length l1)
    (h0 : ∀ x ∈ l0, 0 ≤ x ∧ x ≤ 255) (h1 : ∀ x ∈ l1, 0 ≤ x ∧ x ≤ 255) (hl0 : l0.length ≤ 140737488351232) (hl1 : l1.length ≤ 140737488351232)
    (H : ∀ (W : World) (As Ad : Option Addr) (cs cd : Nat), Below w.heap.size w W → Sd W W.heap.size As cs l0 → Sd W W.heap.size Ad cd l1 →
      Calls Tryd.prog 19 #[.slice As l0.length cs, .slice Ad l1.length cd] W fun e w' => (∃ te pe, e = .returned (.tuple #[.slice none 0 0, .iface te pe])) ∧ Below W.heap.size W w') :
    Calls Tryd.prog 11 #[.slice A0 l0.length c0, .slice A1 l1.length c1] w fun e w' => e = .returned (.tuple #[.slice none 0 0, .bool false]) ∧ Below w.heap.size w w' := by
  have hu42 := Tryd.underlying42
  have HR0 := Aside0.mk hr0
  have HR1 := Aside0.mk hr1
  have HX0 := Aside0.mk h0
  have HX1 := Aside0.mk h1
  have HL0 := Aside0.mk hl0
  have HL1 := Aside0.mk hl1
  have HH := Aside0.mk H
  have HB := Aside0.mk (Below.refl w.heap.size w)
  clear hr0 hr1 h0 h1 H hl0 hl1
  go_enter Tryd.func11, Tryd.ntmps11
  go_wp2_with (first
    | ((with_reducible refine gate_dst (N := 9) rfl ?_); refine Kd.R_lit (Kd.int .u8) _ 5 ?hg (N := 9) ?hd (xs := ([] : List Int)) (inner := []) (ok := fun _ => True) (okp := fun _ => True) ?hr ?hp (fun _ hk => hk) trivial (Below.refl _ _) (Nat.le_refl _) (by simp) ?_; (case hd => rfl); (case hg => rfl); (case hr => first | (go_simp; done) | (go_simp; rfl)); (case hp => exact Reps.none _ _); intro v9 w9 ho hb hg_ hnew_; have n0_ := Aside0.mk (Kd.R_lower ho (below_size (by repeat (first | (with_reducible first | exact HB.out | apply below_alloc | apply pw_below_drewN | apply below_drew1) | exact HB.out)))); have n1_ := Aside0.mk (below_step (by repeat (first | (with_reducible first | exact HB.out | apply below_alloc | apply pw_below_drewN | apply below_drew1) | exact HB.out)) hb); clear HB; have HO9 := n0_; have HB := n1_; clear n0_ n1_ hg_ hnew_ ho hb)
    | ((with_reducible refine gate_builtin (b := .append) (xs := #[.tmp 9, .tmp 10]) rfl ?_); at_builtin; refine Kd.R_append_rows (Kd.int .u8) (w0 := w) w.heap.size rfl (.tmp 9) (.tmp 10) 22 5 (.int .u8 0) 1 rfl Tryd.underlying22 info5 rfl (by decide) (by omega) v9 ([] : List Int) l0 _ _ _ (fun _ => True) (fun _ => False) rfl rfl ?aO ?aR (fun _ _ h => h) (fun _ h => h.elim) ?aF ?aB ?aS ?aL ?_; (case aR => exact Kd.C_below HR0.out (by repeat (first | (with_reducible first | exact HB.out | apply below_alloc | apply pw_below_drewN | apply below_drew1) | exact HB.out))); (case aB => exact (by repeat (first | (with_reducible first | exact HB.out | apply below_alloc | apply pw_below_drewN | apply below_drew1) | exact HB.out))); (case aF => exact fun _ _ => trivial); (case aO => exact (by (with_reducible repeat (first | apply Kd.R_alloc | apply Kd.R_drewN | apply Kd.R_drew)); exact HO9.out)); (case aS => exact (below_size (by repeat (first | (with_reducible first | exact HB.out | apply below_alloc | apply pw_below_drewN | apply below_drew1) | exact HB.out)))); (case aL => have := HL0.out; simp; omega); intro v11 w11 ho hb hg hat; rw [List.nil_append] at ho; have n0_ := Aside0.mk hb; have HO11 := Aside0.mk ho; clear HB HO9; have HB := n0_; clear n0_ ho hb hg hat)
    | ((with_reducible refine gate_dst (N := 12) rfl ?_); refine Kd.R_lit (Kd.int .u8) _ 5 ?hg (N := 12) ?hd (xs := ([] : List Int)) (inner := []) (ok := fun _ => True) (okp := fun _ => True) ?hr ?hp (fun _ hk => hk) trivial (Below.refl _ _) (Nat.le_refl _) (by simp) ?_; (case hd => rfl); (case hg => rfl); (case hr => first | (go_simp; done) | (go_simp; rfl)); (case hp => exact Reps.none _ _); intro v12 w12 ho hb hg_ hnew_; have n2_ := Aside0.mk (Kd.R_elder' (by (with_reducible repeat (first | apply Kd.R_alloc | apply Kd.R_drewN | apply Kd.R_drew)); exact HO11.out) (Kd.R_base ho) hb); have n0_ := Aside0.mk (Kd.R_lower (Kd.R_new' ho (Kd.R_lt (by (with_reducible repeat (first | apply Kd.R_alloc | apply Kd.R_drewN | apply Kd.R_drew)); exact HO11.out))) (below_size (by repeat (first | (with_reducible first | exact HB.out | apply below_alloc | apply pw_below_drewN | apply below_drew1) | exact HB.out)))); have n1_ := Aside0.mk (below_step (by repeat (first | (with_reducible first | exact HB.out | apply below_alloc | apply pw_below_drewN | apply below_drew1) | exact HB.out)) hb); clear HB HO11; have HO12 := n0_; have HB := n1_; have HO11 := n2_; clear n0_ n1_ n2_ hg_ hnew_ ho hb)
    | ((with_reducible refine gate_builtin (b := .append) (xs := #[.tmp 12, .tmp 13]) rfl ?_); at_builtin; refine Kd.R_append_rows (Kd.int .u8) (w0 := w) w.heap.size rfl (.tmp 12) (.tmp 13) 22 5 (.int .u8 0) 1 rfl Tryd.underlying22 info5 rfl (by decide) (by omega) v12 ([] : List Int) l1 _ _ _ (fun k_ => True ∧ some k_ ≠ v11.ownBlock) (fun _ => False) rfl rfl ?aO ?aR (fun _ _ h => h) (fun _ h => h.elim) ?aF ?aB ?aS ?aL ?_; (case aR => exact Kd.C_below HR1.out (by repeat (first | (with_reducible first | exact HB.out | apply below_alloc | apply pw_below_drewN | apply below_drew1) | exact HB.out))); (case aB => exact (by repeat (first | (with_reducible first | exact HB.out | apply below_alloc | apply pw_below_drewN | apply below_drew1) | exact HB.out))); (case aF => exact (fun k_ hk => ⟨trivial, Kd.fresh' (Kd.R_lt (by (with_reducible repeat (first | apply Kd.R_alloc | apply Kd.R_drewN | apply Kd.R_drew)); exact HO11.out)) k_ hk⟩)); (case aO => exact (by (with_reducible repeat (first | apply Kd.R_alloc | apply Kd.R_drewN | apply Kd.R_drew)); exact HO12.out)); (case aS => exact (below_size (by repeat (first | (with_reducible first | exact HB.out | apply below_alloc | apply pw_below_drewN | apply below_drew1) | exact HB.out)))); (case aL => have := HL1.out; simp; omega); intro v14 w14 ho hb hg hat; rw [List.nil_append] at ho; have n2_ := Aside0.mk (Kd.R_after (ok := fun _ => True) (by (with_reducible repeat (first | apply Kd.R_alloc | apply Kd.R_drewN | apply Kd.R_drew)); exact HO11.out) hg hat); have n0_ := Aside0.mk hb; have HO14 := Aside0.mk ho; clear HB HO12 HO11; have HB := n0_; have HO11 := n2_; clear n0_ n2_ ho hb hg hat))
  obtain ⟨As, cs, rfl, hS⟩ := Sd_of_R HO11.out HX0.out (by have := HL0.out; omega)
  obtain ⟨Ad, cd, rfl, hD⟩ := Sd_of_R HO14.out HX1.out (by have := HL1.out; omega)
  have HC := Aside0.mk (HH.out _ As Ad cs cd HB.out hS hD)
  clear hS hD
  (with_reducible refine HC.out.mono ?_)
  rintro e w2 ⟨⟨te, pe, rfl⟩, hb⟩
  have HB2 : Aside0 (Below w.heap.size w w2) := ⟨below_step HB.out hb⟩
  clear hb
  go_wp2
  go_quiet (fail)
  go_wp2
  go_ret2
  exact ⟨rfl, pw_below_drewN HB2.out _⟩

end Go.Proofs.YtlboochpbplhlaaDoor.HandF
