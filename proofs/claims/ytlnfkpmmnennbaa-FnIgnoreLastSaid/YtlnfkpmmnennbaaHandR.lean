/- ParsePattern with no domain, walked once more: its parts lie in a row of its own. -/
import Derived.Test.YtlnfkpmmnennbaaHandL
set_option linter.unusedVariables false
set_option linter.unusedSimpArgs false
namespace Go.Proofs.Ytlnfkpmmnennbaa.HandR
open Go.RowKit Go.Proofs.YtlnfkpmmnennbaaW.PrintWords Go.Proofs.Ytlnfkpmmnennbaa.QAll Txt PureG HandG HandM HandP HandL

/-- A pattern at block g, with no domain, its parts in a row of its own. -/
def PatR (W : World) (g : Nat) (ps : List ByteArray) (inc dir glob : Bool) : Prop :=
  ∃ A0 c0 A1 c1 base, W.heap[g]? = some (.cells #[.slice A0 0 c0, .slice A1 ps.length c1, .bool inc, .bool dir, .bool glob] 49 (0, 0)) ∧ Kd.R Kd.string 9 W base (fun _ => True) (.slice A1 ps.length c1) ps
theorem PatR.pat {W : World} {g : Nat} {ps : List ByteArray} {inc dir glob : Bool} (h : PatR W g ps inc dir glob) : Pat W g [] ps inc dir glob := by
  obtain ⟨A0, c0, A1, c1, base, h1, h2⟩ := h
  exact ⟨A0, c0, A1, c1, h1, Nat.zero_le _, (Kd.R_reads' h2).2.1, Kd.C_none _ _, (Kd.R_reads' h2).2.2⟩
theorem PatR.grown {W W1 : World} {g : Nat} {ps : List ByteArray} {inc dir glob : Bool} {row : Option Nat} (h : PatR W g ps inc dir glob) (hg : W.grownBy W1 row) (hrow : ∀ b, row = some b → ∃ cs, W.heap[b]? = some (.cells cs 40 (0, 0))) : PatR W1 g ps inc dir glob := by
  obtain ⟨A0, c0, A1, c1, base, h1, h2⟩ := h
  have hne : some g ≠ row := by
    intro e
    obtain ⟨cs, hcs⟩ := hrow g e.symm
    rw [h1] at hcs
    injection hcs with hcs
    injection hcs with _ ht
    exact absurd ht (by decide)
  refine ⟨A0, c0, A1, c1, base, blk_grown h1 hg hne, ?_⟩
  cases row with
  | none => exact Kd.R_grown h2 hg (fun k _ => by simp)
  | some b =>
    obtain ⟨cs, hcs⟩ := hrow b rfl
    exact Kd.R_mono (Kd.R_grown (Kd.R_types h2 hcs (by decide)) hg (fun k hk e => hk.2 (Option.some.inj e))) (fun _ _ => trivial)
theorem PatR.below {W W1 : World} {g : Nat} {ps : List ByteArray} {inc dir glob : Bool} (h : PatR W g ps inc dir glob) (hb : Below W.heap.size W W1) : PatR W1 g ps inc dir glob := by
  obtain ⟨A0, c0, A1, c1, base, h1, h2⟩ := h
  exact ⟨A0, c0, A1, c1, base, (hb.block g (blk_lt h1)).trans h1, Kd.R_below h2 hb⟩

set_option maxHeartbeats 2000000 in
set_option maxRecDepth 100000 in
theorem parse2 (K : Nat) (a0 p1 p3 : ByteArray) (inc dir gl : Bool) (ps : List ByteArray) (A : Option Addr) (c : Nat) (w : World)
    (hPre : strings_HasPrefix.f a0 ⟨#[33]⟩ = some inc) (hp1 : p1 = if inc = true then a0.extract 1 a0.size else a0)
    (hS : strings_HasSuffix.f p1 ⟨#[92, 32]⟩ = some false) (hT : gitignore_zzTrimRight.f K p1 ⟨#[32]⟩ = some p1)
    (hD : strings_HasSuffix.f p1 ⟨#[47]⟩ = some dir) (hp3 : p3 = if dir = true then p1.extract 0 (p1.size - 1) else p1)
    (hsz : a0.size ≤ 100000) (hi : inc = true → 1 ≤ (a0.size : Int)) (hd : dir = true → 1 ≤ (p1.size : Int))
    (hG : gitignore_zzContains.f K p3 ⟨#[47]⟩ = some gl) (hSp : gitignore_zzSplit.f K p3 ⟨#[47]⟩ = some ps) :
    Calls Try.prog 19 #[.string a0, .slice A 0 c] w fun e w' => ∃ g, e = .returned (.iface 52 (.pointer (some ⟨g, 0, none⟩))) ∧ PatR w' g ps inc dir gl ∧ w.heap.size ≤ g ∧ Below w.heap.size w w' := by
  have HPre := Aside0.mk hPre
  have HS := Aside0.mk hS
  have HT := Aside0.mk hT
  have HD := Aside0.mk hD
  have HG := Aside0.mk hG
  have HSp := Aside0.mk hSp
  clear hPre hS hT hD hG hSp
  go_enter Try.func19, Try.ntmps19
  cases inc with
  | true =>
    replace hi := hi rfl
    obtain rfl : p1 = a0.extract 1 a0.size := hp1
    cases dir with
    | true =>
      replace hd := hd rfl
      replace hp3 := hp3.trans (if_pos rfl)
      rw [ByteArray.size_extract] at hp3 hd
      have hw : wrap64 ((((a0.size - 1 : Nat) : Int)) - 1) = ((a0.size - 1 - 1 : Nat) : Int) := by rw [w64 _ (by omega) (by omega)]; omega
      replace hp3 : p3 = (a0.extract 1 a0.size).extract 0 (a0.size - 1 - 1) := by rw [hp3]; congr 1; omega
      have hd1 : a0.size - 1 - 1 ≤ a0.size - 1 := by omega
      subst hp3
      cases gl with
      | true =>
        go_wp2_with (first
        | ((with_reducible refine gate_builtin (b := .append) (xs := #[.const (.slice none 0 0), .tmp 6]) rfl ?_); at_builtin; refine Kd.R_append_rows Kd.string (w0 := w) w.heap.size rfl (.const (.slice none 0 0)) (.tmp 6) 22 9 (.string ⟨#[]⟩) 16 rfl Try.underlying22 info9 rfl (by decide) (by omega) (.slice none 0 0) [] [] _ _ _ (fun _ => True) (fun _ => False) rfl rfl (Kd.R_nil _ _ _ _ _) (Rr := fun _ _ => False) ⟨rfl, by simp, fun h => absurd h (Nat.lt_irrefl 0)⟩ (fun _ _ h => h.elim) (fun _ h => h.elim) (fun _ _ => trivial) (Below.refl _ _) (Nat.le_refl _) (by simp) ?_; intro v1 w1 ho hb hg hat; obtain ⟨A1, c1, rfl, hc1, hC1⟩ := Kd.R_reads ho; have HB1 := Aside0.mk hb; have HG1 := Aside0.mk hb.size; clear ho hb hg hat hC1)
        | (go_at_call 21; (with_reducible refine (strings_HasPrefix.calls _ _ _ _ HPre.out).mono ?_); rintro e w' ⟨rfl, ⟨nd, rfl⟩⟩)
        | (go_at_call 22; (with_reducible refine (strings_HasSuffix.calls _ _ _ _ HS.out).mono ?_); rintro e w' ⟨rfl, ⟨nd, rfl⟩⟩)
        | (go_at_call 22; (with_reducible refine (strings_HasSuffix.calls _ _ _ _ HD.out).mono ?_); rintro e w' ⟨rfl, ⟨nd, rfl⟩⟩)
        | (go_at_call 23; (with_reducible refine (gitignore_zzTrimRight.calls K _ _ _ _ HT.out).mono ?_); rintro e w' ⟨rfl, ⟨nd, rfl⟩⟩)
        | (go_at_call 24; (with_reducible refine (gitignore_zzContains.calls K _ _ _ _ HG.out).mono ?_); rintro e w' ⟨rfl, ⟨nd, rfl⟩⟩)
        | (go_at_call 25; (with_reducible refine (gitignore_zzSplit.calls K _ _ _ _ HSp.out).mono ?_); rintro e w' ⟨v0, rfl, hr, hb⟩; obtain ⟨A2, c2, rfl, hc2, _⟩ := Kd.R_reads hr; have HR := Aside0.mk hr; have H5 : Aside0 (B5 w' w1.heap.size A1 c1 (.slice none 0 0) true true true) := ⟨B5.below (by repeat (first | exact B5.new _ _ _ | apply B5.drewN | apply B5.set4 | apply B5.set3 | apply B5.set2)) hb⟩; have HB2 : Aside0 (Below w.heap.size w w') := ⟨below_step (by repeat (first | exact HB1.out | apply below_alloc | apply pw_below_drewN | refine below_set ?_ HG1.out)) hb⟩; have f5 := (blk_cell H5.out 1); have f6 := (blk_frozen H5.out 1); clear hr hb))
        go_ret
        exact ⟨w1.heap.size, rfl, ⟨A1, c1, A2, c2, _, H5.out.set1 _, Kd.R_set HR.out H5.out (by decide) 1 _⟩, HG1.out, below_set HB2.out HG1.out⟩
      | false =>
        go_wp2_with (first
        | ((with_reducible refine gate_builtin (b := .append) (xs := #[.const (.slice none 0 0), .tmp 6]) rfl ?_); at_builtin; refine Kd.R_append_rows Kd.string (w0 := w) w.heap.size rfl (.const (.slice none 0 0)) (.tmp 6) 22 9 (.string ⟨#[]⟩) 16 rfl Try.underlying22 info9 rfl (by decide) (by omega) (.slice none 0 0) [] [] _ _ _ (fun _ => True) (fun _ => False) rfl rfl (Kd.R_nil _ _ _ _ _) (Rr := fun _ _ => False) ⟨rfl, by simp, fun h => absurd h (Nat.lt_irrefl 0)⟩ (fun _ _ h => h.elim) (fun _ h => h.elim) (fun _ _ => trivial) (Below.refl _ _) (Nat.le_refl _) (by simp) ?_; intro v1 w1 ho hb hg hat; obtain ⟨A1, c1, rfl, hc1, hC1⟩ := Kd.R_reads ho; have HB1 := Aside0.mk hb; have HG1 := Aside0.mk hb.size; clear ho hb hg hat hC1)
        | (go_at_call 21; (with_reducible refine (strings_HasPrefix.calls _ _ _ _ HPre.out).mono ?_); rintro e w' ⟨rfl, ⟨nd, rfl⟩⟩)
        | (go_at_call 22; (with_reducible refine (strings_HasSuffix.calls _ _ _ _ HS.out).mono ?_); rintro e w' ⟨rfl, ⟨nd, rfl⟩⟩)
        | (go_at_call 22; (with_reducible refine (strings_HasSuffix.calls _ _ _ _ HD.out).mono ?_); rintro e w' ⟨rfl, ⟨nd, rfl⟩⟩)
        | (go_at_call 23; (with_reducible refine (gitignore_zzTrimRight.calls K _ _ _ _ HT.out).mono ?_); rintro e w' ⟨rfl, ⟨nd, rfl⟩⟩)
        | (go_at_call 24; (with_reducible refine (gitignore_zzContains.calls K _ _ _ _ HG.out).mono ?_); rintro e w' ⟨rfl, ⟨nd, rfl⟩⟩)
        | (go_at_call 25; (with_reducible refine (gitignore_zzSplit.calls K _ _ _ _ HSp.out).mono ?_); rintro e w' ⟨v0, rfl, hr, hb⟩; obtain ⟨A2, c2, rfl, hc2, _⟩ := Kd.R_reads hr; have HR := Aside0.mk hr; have H5 : Aside0 (B5 w' w1.heap.size A1 c1 (.slice none 0 0) true true false) := ⟨B5.below (by repeat (first | exact B5.new _ _ _ | apply B5.drewN | apply B5.set4 | apply B5.set3 | apply B5.set2)) hb⟩; have HB2 : Aside0 (Below w.heap.size w w') := ⟨below_step (by repeat (first | exact HB1.out | apply below_alloc | apply pw_below_drewN | refine below_set ?_ HG1.out)) hb⟩; have f5 := (blk_cell H5.out 1); have f6 := (blk_frozen H5.out 1); clear hr hb))
        go_ret
        exact ⟨w1.heap.size, rfl, ⟨A1, c1, A2, c2, _, H5.out.set1 _, Kd.R_set HR.out H5.out (by decide) 1 _⟩, HG1.out, below_set HB2.out HG1.out⟩
    | false =>
      clear hd
      replace hp3 := hp3.trans (if_neg (by decide))
      subst hp3
      cases gl with
      | true =>
        go_wp2_with (first
        | ((with_reducible refine gate_builtin (b := .append) (xs := #[.const (.slice none 0 0), .tmp 6]) rfl ?_); at_builtin; refine Kd.R_append_rows Kd.string (w0 := w) w.heap.size rfl (.const (.slice none 0 0)) (.tmp 6) 22 9 (.string ⟨#[]⟩) 16 rfl Try.underlying22 info9 rfl (by decide) (by omega) (.slice none 0 0) [] [] _ _ _ (fun _ => True) (fun _ => False) rfl rfl (Kd.R_nil _ _ _ _ _) (Rr := fun _ _ => False) ⟨rfl, by simp, fun h => absurd h (Nat.lt_irrefl 0)⟩ (fun _ _ h => h.elim) (fun _ h => h.elim) (fun _ _ => trivial) (Below.refl _ _) (Nat.le_refl _) (by simp) ?_; intro v1 w1 ho hb hg hat; obtain ⟨A1, c1, rfl, hc1, hC1⟩ := Kd.R_reads ho; have HB1 := Aside0.mk hb; have HG1 := Aside0.mk hb.size; clear ho hb hg hat hC1)
        | (go_at_call 21; (with_reducible refine (strings_HasPrefix.calls _ _ _ _ HPre.out).mono ?_); rintro e w' ⟨rfl, ⟨nd, rfl⟩⟩)
        | (go_at_call 22; (with_reducible refine (strings_HasSuffix.calls _ _ _ _ HS.out).mono ?_); rintro e w' ⟨rfl, ⟨nd, rfl⟩⟩)
        | (go_at_call 22; (with_reducible refine (strings_HasSuffix.calls _ _ _ _ HD.out).mono ?_); rintro e w' ⟨rfl, ⟨nd, rfl⟩⟩)
        | (go_at_call 23; (with_reducible refine (gitignore_zzTrimRight.calls K _ _ _ _ HT.out).mono ?_); rintro e w' ⟨rfl, ⟨nd, rfl⟩⟩)
        | (go_at_call 24; (with_reducible refine (gitignore_zzContains.calls K _ _ _ _ HG.out).mono ?_); rintro e w' ⟨rfl, ⟨nd, rfl⟩⟩)
        | (go_at_call 25; (with_reducible refine (gitignore_zzSplit.calls K _ _ _ _ HSp.out).mono ?_); rintro e w' ⟨v0, rfl, hr, hb⟩; obtain ⟨A2, c2, rfl, hc2, _⟩ := Kd.R_reads hr; have HR := Aside0.mk hr; have H5 : Aside0 (B5 w' w1.heap.size A1 c1 (.slice none 0 0) true false true) := ⟨B5.below (by repeat (first | exact B5.new _ _ _ | apply B5.drewN | apply B5.set4 | apply B5.set3 | apply B5.set2)) hb⟩; have HB2 : Aside0 (Below w.heap.size w w') := ⟨below_step (by repeat (first | exact HB1.out | apply below_alloc | apply pw_below_drewN | refine below_set ?_ HG1.out)) hb⟩; have f5 := (blk_cell H5.out 1); have f6 := (blk_frozen H5.out 1); clear hr hb))
        go_ret
        exact ⟨w1.heap.size, rfl, ⟨A1, c1, A2, c2, _, H5.out.set1 _, Kd.R_set HR.out H5.out (by decide) 1 _⟩, HG1.out, below_set HB2.out HG1.out⟩
      | false =>
        go_wp2_with (first
        | ((with_reducible refine gate_builtin (b := .append) (xs := #[.const (.slice none 0 0), .tmp 6]) rfl ?_); at_builtin; refine Kd.R_append_rows Kd.string (w0 := w) w.heap.size rfl (.const (.slice none 0 0)) (.tmp 6) 22 9 (.string ⟨#[]⟩) 16 rfl Try.underlying22 info9 rfl (by decide) (by omega) (.slice none 0 0) [] [] _ _ _ (fun _ => True) (fun _ => False) rfl rfl (Kd.R_nil _ _ _ _ _) (Rr := fun _ _ => False) ⟨rfl, by simp, fun h => absurd h (Nat.lt_irrefl 0)⟩ (fun _ _ h => h.elim) (fun _ h => h.elim) (fun _ _ => trivial) (Below.refl _ _) (Nat.le_refl _) (by simp) ?_; intro v1 w1 ho hb hg hat; obtain ⟨A1, c1, rfl, hc1, hC1⟩ := Kd.R_reads ho; have HB1 := Aside0.mk hb; have HG1 := Aside0.mk hb.size; clear ho hb hg hat hC1)
        | (go_at_call 21; (with_reducible refine (strings_HasPrefix.calls _ _ _ _ HPre.out).mono ?_); rintro e w' ⟨rfl, ⟨nd, rfl⟩⟩)
        | (go_at_call 22; (with_reducible refine (strings_HasSuffix.calls _ _ _ _ HS.out).mono ?_); rintro e w' ⟨rfl, ⟨nd, rfl⟩⟩)
        | (go_at_call 22; (with_reducible refine (strings_HasSuffix.calls _ _ _ _ HD.out).mono ?_); rintro e w' ⟨rfl, ⟨nd, rfl⟩⟩)
        | (go_at_call 23; (with_reducible refine (gitignore_zzTrimRight.calls K _ _ _ _ HT.out).mono ?_); rintro e w' ⟨rfl, ⟨nd, rfl⟩⟩)
        | (go_at_call 24; (with_reducible refine (gitignore_zzContains.calls K _ _ _ _ HG.out).mono ?_); rintro e w' ⟨rfl, ⟨nd, rfl⟩⟩)
        | (go_at_call 25; (with_reducible refine (gitignore_zzSplit.calls K _ _ _ _ HSp.out).mono ?_); rintro e w' ⟨v0, rfl, hr, hb⟩; obtain ⟨A2, c2, rfl, hc2, _⟩ := Kd.R_reads hr; have HR := Aside0.mk hr; have H5 : Aside0 (B5 w' w1.heap.size A1 c1 (.slice none 0 0) true false false) := ⟨B5.below (by repeat (first | exact B5.new _ _ _ | apply B5.drewN | apply B5.set4 | apply B5.set3 | apply B5.set2)) hb⟩; have HB2 : Aside0 (Below w.heap.size w w') := ⟨below_step (by repeat (first | exact HB1.out | apply below_alloc | apply pw_below_drewN | refine below_set ?_ HG1.out)) hb⟩; have f5 := (blk_cell H5.out 1); have f6 := (blk_frozen H5.out 1); clear hr hb))
        go_ret
        exact ⟨w1.heap.size, rfl, ⟨A1, c1, A2, c2, _, H5.out.set1 _, Kd.R_set HR.out H5.out (by decide) 1 _⟩, HG1.out, below_set HB2.out HG1.out⟩
  | false =>
    clear hi
    obtain rfl : p1 = a0 := hp1
    cases dir with
    | true =>
      replace hd := hd rfl
      replace hp3 := hp3.trans (if_pos rfl)
      have hw : wrap64 ((p1.size : Int) - 1) = ((p1.size - 1 : Nat) : Int) := by rw [w64 _ (by omega) (by omega)]; omega
      have hd1 : p1.size - 1 ≤ p1.size := by omega
      subst hp3
      cases gl with
      | true =>
        go_wp2_with (first
        | ((with_reducible refine gate_builtin (b := .append) (xs := #[.const (.slice none 0 0), .tmp 6]) rfl ?_); at_builtin; refine Kd.R_append_rows Kd.string (w0 := w) w.heap.size rfl (.const (.slice none 0 0)) (.tmp 6) 22 9 (.string ⟨#[]⟩) 16 rfl Try.underlying22 info9 rfl (by decide) (by omega) (.slice none 0 0) [] [] _ _ _ (fun _ => True) (fun _ => False) rfl rfl (Kd.R_nil _ _ _ _ _) (Rr := fun _ _ => False) ⟨rfl, by simp, fun h => absurd h (Nat.lt_irrefl 0)⟩ (fun _ _ h => h.elim) (fun _ h => h.elim) (fun _ _ => trivial) (Below.refl _ _) (Nat.le_refl _) (by simp) ?_; intro v1 w1 ho hb hg hat; obtain ⟨A1, c1, rfl, hc1, hC1⟩ := Kd.R_reads ho; have HB1 := Aside0.mk hb; have HG1 := Aside0.mk hb.size; clear ho hb hg hat hC1)
        | (go_at_call 21; (with_reducible refine (strings_HasPrefix.calls _ _ _ _ HPre.out).mono ?_); rintro e w' ⟨rfl, ⟨nd, rfl⟩⟩)
        | (go_at_call 22; (with_reducible refine (strings_HasSuffix.calls _ _ _ _ HS.out).mono ?_); rintro e w' ⟨rfl, ⟨nd, rfl⟩⟩)
        | (go_at_call 22; (with_reducible refine (strings_HasSuffix.calls _ _ _ _ HD.out).mono ?_); rintro e w' ⟨rfl, ⟨nd, rfl⟩⟩)
        | (go_at_call 23; (with_reducible refine (gitignore_zzTrimRight.calls K _ _ _ _ HT.out).mono ?_); rintro e w' ⟨rfl, ⟨nd, rfl⟩⟩)
        | (go_at_call 24; (with_reducible refine (gitignore_zzContains.calls K _ _ _ _ HG.out).mono ?_); rintro e w' ⟨rfl, ⟨nd, rfl⟩⟩)
        | (go_at_call 25; (with_reducible refine (gitignore_zzSplit.calls K _ _ _ _ HSp.out).mono ?_); rintro e w' ⟨v0, rfl, hr, hb⟩; obtain ⟨A2, c2, rfl, hc2, _⟩ := Kd.R_reads hr; have HR := Aside0.mk hr; have H5 : Aside0 (B5 w' w1.heap.size A1 c1 (.slice none 0 0) false true true) := ⟨B5.below (by repeat (first | exact B5.new _ _ _ | apply B5.drewN | apply B5.set4 | apply B5.set3 | apply B5.set2)) hb⟩; have HB2 : Aside0 (Below w.heap.size w w') := ⟨below_step (by repeat (first | exact HB1.out | apply below_alloc | apply pw_below_drewN | refine below_set ?_ HG1.out)) hb⟩; have f5 := (blk_cell H5.out 1); have f6 := (blk_frozen H5.out 1); clear hr hb))
        go_ret
        exact ⟨w1.heap.size, rfl, ⟨A1, c1, A2, c2, _, H5.out.set1 _, Kd.R_set HR.out H5.out (by decide) 1 _⟩, HG1.out, below_set HB2.out HG1.out⟩
      | false =>
        go_wp2_with (first
        | ((with_reducible refine gate_builtin (b := .append) (xs := #[.const (.slice none 0 0), .tmp 6]) rfl ?_); at_builtin; refine Kd.R_append_rows Kd.string (w0 := w) w.heap.size rfl (.const (.slice none 0 0)) (.tmp 6) 22 9 (.string ⟨#[]⟩) 16 rfl Try.underlying22 info9 rfl (by decide) (by omega) (.slice none 0 0) [] [] _ _ _ (fun _ => True) (fun _ => False) rfl rfl (Kd.R_nil _ _ _ _ _) (Rr := fun _ _ => False) ⟨rfl, by simp, fun h => absurd h (Nat.lt_irrefl 0)⟩ (fun _ _ h => h.elim) (fun _ h => h.elim) (fun _ _ => trivial) (Below.refl _ _) (Nat.le_refl _) (by simp) ?_; intro v1 w1 ho hb hg hat; obtain ⟨A1, c1, rfl, hc1, hC1⟩ := Kd.R_reads ho; have HB1 := Aside0.mk hb; have HG1 := Aside0.mk hb.size; clear ho hb hg hat hC1)
        | (go_at_call 21; (with_reducible refine (strings_HasPrefix.calls _ _ _ _ HPre.out).mono ?_); rintro e w' ⟨rfl, ⟨nd, rfl⟩⟩)
        | (go_at_call 22; (with_reducible refine (strings_HasSuffix.calls _ _ _ _ HS.out).mono ?_); rintro e w' ⟨rfl, ⟨nd, rfl⟩⟩)
        | (go_at_call 22; (with_reducible refine (strings_HasSuffix.calls _ _ _ _ HD.out).mono ?_); rintro e w' ⟨rfl, ⟨nd, rfl⟩⟩)
        | (go_at_call 23; (with_reducible refine (gitignore_zzTrimRight.calls K _ _ _ _ HT.out).mono ?_); rintro e w' ⟨rfl, ⟨nd, rfl⟩⟩)
        | (go_at_call 24; (with_reducible refine (gitignore_zzContains.calls K _ _ _ _ HG.out).mono ?_); rintro e w' ⟨rfl, ⟨nd, rfl⟩⟩)
        | (go_at_call 25; (with_reducible refine (gitignore_zzSplit.calls K _ _ _ _ HSp.out).mono ?_); rintro e w' ⟨v0, rfl, hr, hb⟩; obtain ⟨A2, c2, rfl, hc2, _⟩ := Kd.R_reads hr; have HR := Aside0.mk hr; have H5 : Aside0 (B5 w' w1.heap.size A1 c1 (.slice none 0 0) false true false) := ⟨B5.below (by repeat (first | exact B5.new _ _ _ | apply B5.drewN | apply B5.set4 | apply B5.set3 | apply B5.set2)) hb⟩; have HB2 : Aside0 (Below w.heap.size w w') := ⟨below_step (by repeat (first | exact HB1.out | apply below_alloc | apply pw_below_drewN | refine below_set ?_ HG1.out)) hb⟩; have f5 := (blk_cell H5.out 1); have f6 := (blk_frozen H5.out 1); clear hr hb))
        go_ret
        exact ⟨w1.heap.size, rfl, ⟨A1, c1, A2, c2, _, H5.out.set1 _, Kd.R_set HR.out H5.out (by decide) 1 _⟩, HG1.out, below_set HB2.out HG1.out⟩
    | false =>
      clear hd
      replace hp3 := hp3.trans (if_neg (by decide))
      subst hp3
      cases gl with
      | true =>
        go_wp2_with (first
        | ((with_reducible refine gate_builtin (b := .append) (xs := #[.const (.slice none 0 0), .tmp 6]) rfl ?_); at_builtin; refine Kd.R_append_rows Kd.string (w0 := w) w.heap.size rfl (.const (.slice none 0 0)) (.tmp 6) 22 9 (.string ⟨#[]⟩) 16 rfl Try.underlying22 info9 rfl (by decide) (by omega) (.slice none 0 0) [] [] _ _ _ (fun _ => True) (fun _ => False) rfl rfl (Kd.R_nil _ _ _ _ _) (Rr := fun _ _ => False) ⟨rfl, by simp, fun h => absurd h (Nat.lt_irrefl 0)⟩ (fun _ _ h => h.elim) (fun _ h => h.elim) (fun _ _ => trivial) (Below.refl _ _) (Nat.le_refl _) (by simp) ?_; intro v1 w1 ho hb hg hat; obtain ⟨A1, c1, rfl, hc1, hC1⟩ := Kd.R_reads ho; have HB1 := Aside0.mk hb; have HG1 := Aside0.mk hb.size; clear ho hb hg hat hC1)
        | (go_at_call 21; (with_reducible refine (strings_HasPrefix.calls _ _ _ _ HPre.out).mono ?_); rintro e w' ⟨rfl, ⟨nd, rfl⟩⟩)
        | (go_at_call 22; (with_reducible refine (strings_HasSuffix.calls _ _ _ _ HS.out).mono ?_); rintro e w' ⟨rfl, ⟨nd, rfl⟩⟩)
        | (go_at_call 22; (with_reducible refine (strings_HasSuffix.calls _ _ _ _ HD.out).mono ?_); rintro e w' ⟨rfl, ⟨nd, rfl⟩⟩)
        | (go_at_call 23; (with_reducible refine (gitignore_zzTrimRight.calls K _ _ _ _ HT.out).mono ?_); rintro e w' ⟨rfl, ⟨nd, rfl⟩⟩)
        | (go_at_call 24; (with_reducible refine (gitignore_zzContains.calls K _ _ _ _ HG.out).mono ?_); rintro e w' ⟨rfl, ⟨nd, rfl⟩⟩)
        | (go_at_call 25; (with_reducible refine (gitignore_zzSplit.calls K _ _ _ _ HSp.out).mono ?_); rintro e w' ⟨v0, rfl, hr, hb⟩; obtain ⟨A2, c2, rfl, hc2, _⟩ := Kd.R_reads hr; have HR := Aside0.mk hr; have H5 : Aside0 (B5 w' w1.heap.size A1 c1 (.slice none 0 0) false false true) := ⟨B5.below (by repeat (first | exact B5.new _ _ _ | apply B5.drewN | apply B5.set4 | apply B5.set3 | apply B5.set2)) hb⟩; have HB2 : Aside0 (Below w.heap.size w w') := ⟨below_step (by repeat (first | exact HB1.out | apply below_alloc | apply pw_below_drewN | refine below_set ?_ HG1.out)) hb⟩; have f5 := (blk_cell H5.out 1); have f6 := (blk_frozen H5.out 1); clear hr hb))
        go_ret
        exact ⟨w1.heap.size, rfl, ⟨A1, c1, A2, c2, _, H5.out.set1 _, Kd.R_set HR.out H5.out (by decide) 1 _⟩, HG1.out, below_set HB2.out HG1.out⟩
      | false =>
        go_wp2_with (first
        | ((with_reducible refine gate_builtin (b := .append) (xs := #[.const (.slice none 0 0), .tmp 6]) rfl ?_); at_builtin; refine Kd.R_append_rows Kd.string (w0 := w) w.heap.size rfl (.const (.slice none 0 0)) (.tmp 6) 22 9 (.string ⟨#[]⟩) 16 rfl Try.underlying22 info9 rfl (by decide) (by omega) (.slice none 0 0) [] [] _ _ _ (fun _ => True) (fun _ => False) rfl rfl (Kd.R_nil _ _ _ _ _) (Rr := fun _ _ => False) ⟨rfl, by simp, fun h => absurd h (Nat.lt_irrefl 0)⟩ (fun _ _ h => h.elim) (fun _ h => h.elim) (fun _ _ => trivial) (Below.refl _ _) (Nat.le_refl _) (by simp) ?_; intro v1 w1 ho hb hg hat; obtain ⟨A1, c1, rfl, hc1, hC1⟩ := Kd.R_reads ho; have HB1 := Aside0.mk hb; have HG1 := Aside0.mk hb.size; clear ho hb hg hat hC1)
        | (go_at_call 21; (with_reducible refine (strings_HasPrefix.calls _ _ _ _ HPre.out).mono ?_); rintro e w' ⟨rfl, ⟨nd, rfl⟩⟩)
        | (go_at_call 22; (with_reducible refine (strings_HasSuffix.calls _ _ _ _ HS.out).mono ?_); rintro e w' ⟨rfl, ⟨nd, rfl⟩⟩)
        | (go_at_call 22; (with_reducible refine (strings_HasSuffix.calls _ _ _ _ HD.out).mono ?_); rintro e w' ⟨rfl, ⟨nd, rfl⟩⟩)
        | (go_at_call 23; (with_reducible refine (gitignore_zzTrimRight.calls K _ _ _ _ HT.out).mono ?_); rintro e w' ⟨rfl, ⟨nd, rfl⟩⟩)
        | (go_at_call 24; (with_reducible refine (gitignore_zzContains.calls K _ _ _ _ HG.out).mono ?_); rintro e w' ⟨rfl, ⟨nd, rfl⟩⟩)
        | (go_at_call 25; (with_reducible refine (gitignore_zzSplit.calls K _ _ _ _ HSp.out).mono ?_); rintro e w' ⟨v0, rfl, hr, hb⟩; obtain ⟨A2, c2, rfl, hc2, _⟩ := Kd.R_reads hr; have HR := Aside0.mk hr; have H5 : Aside0 (B5 w' w1.heap.size A1 c1 (.slice none 0 0) false false false) := ⟨B5.below (by repeat (first | exact B5.new _ _ _ | apply B5.drewN | apply B5.set4 | apply B5.set3 | apply B5.set2)) hb⟩; have HB2 : Aside0 (Below w.heap.size w w') := ⟨below_step (by repeat (first | exact HB1.out | apply below_alloc | apply pw_below_drewN | refine below_set ?_ HG1.out)) hb⟩; have f5 := (blk_cell H5.out 1); have f6 := (blk_frozen H5.out 1); clear hr hb))
        go_ret
        exact ⟨w1.heap.size, rfl, ⟨A1, c1, A2, c2, _, H5.out.set1 _, Kd.R_set HR.out H5.out (by decide) 1 _⟩, HG1.out, below_set HB2.out HG1.out⟩

end Go.Proofs.Ytlnfkpmmnennbaa.HandR
