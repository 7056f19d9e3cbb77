/- spec.ReportText, walked. -/
import Derived.Test.YtlkenmpbhchieaaDoorPureR
import Derived.Test.YtlkenmpbhchieaaDoorHandK
set_option linter.unusedVariables false
set_option linter.unusedSimpArgs false
namespace Go.Proofs.YtlkenmpbhchieaaDoor.HandU
open Go.RowKit Go.Proofs.YtlkenmpbhchieaaDoorW.PrintWords Go.Proofs.YtlkenmpbhchieaaDoorW.PrintLast Go.Proofs.YtlkenmpbhchieaaDoorW.PrintMore Go.Proofs.YtlkenmpbhchieaaDoor.QAll Txt PureA HandC HandF PureP PureQ PureR PureS HandK

theorem bytesBelow (w : World) (s : ByteArray) : Below w.heap.size w (Lib.bytesWorld w 5 s) :=
  ⟨rfl, rfl, rfl, by rw [Lib.bytesWorld_size]; omega, fun k hk => Lib.bytesWorld_at_old w 5 s k hk⟩
/-- The line of a text that has been turned to bytes. -/
theorem lineOfStr (s : ByteArray) (hs : 0 < s.size) (hl : s.size ≤ 65516) (w : World) :
    Calls Tryd.prog 17 #[.slice (some ⟨w.heap.size, 0, none⟩) s.size (grownCap w s.size 0 5)] (Lib.bytesWorld w 5 s) fun e w' => ∃ v, e = .returned v ∧ Kd.R (Kd.int .u8) 5 w' w.heap.size (fun _ => True) v (lineOf (bytesOf s)) ∧ Below w.heap.size w w' := by
  have hR := bytes_reads w 5 s (by omega)
  have hC : Kd.C (Kd.int .u8) (Lib.bytesWorld w 5 s) (some ⟨w.heap.size, 0, none⟩) (bytesOf s).length (bytesOf s) := by
    rw [bytesOf_length]
    exact Kd.C_of_reads (h1 := fun _ => rfl) hR
  have h := lineR (some ⟨w.heap.size, 0, none⟩) (grownCap w s.size 0 5) (bytesOf s) _ hC (by rw [bytesOf_length]; exact grownCap_ge w _ _ _) (by rw [bytesOf_length]; exact hl) (fun e => by have := congrArg List.length e; rw [bytesOf_length] at this; have h0 : ([] : List Int).length = 0 := rfl; omega)
  rw [bytesOf_length] at h
  refine h.mono ?_
  rintro e w' ⟨v, rfl, hr, hb⟩
  exact ⟨v, rfl, Kd.R_lower hr (bytesBelow w s).size, (bytesBelow w s).trans (hb.mono (bytesBelow w s).size)⟩
set_option maxHeartbeats 8000000 in
set_option maxRecDepth 100000 in
theorem reportText (u : ByteArray) (A1 : Option Addr) (c1 : Nat) (l : List S32) (w : World) (hC : Kd.C k32 w A1 l.length l) (hc : l.length ≤ c1) (hrep : Report u l) :
    Calls Tryd.prog 8 #[.string u, .slice A1 l.length c1] w fun e w' => ∃ v, e = .returned v ∧ Kd.R (Kd.int .u8) 5 w' w.heap.size (fun _ => True) v (enc (payloads u l)) ∧ Below w.heap.size w w' := by
  have HC := Aside0.mk hC
  have HREP := Aside0.mk hrep
  have hu := hrep.u.len
  have hcv : ∀ W, (convert 9 28 (.string (((⟨#[117, 110, 112, 97, 99, 107, 32]⟩ : ByteArray) ++ u) ++ (⟨#[10]⟩ : ByteArray)))).run Tryd.prog W = .ok (.slice (some ⟨W.heap.size, 0, none⟩) (((⟨#[117, 110, 112, 97, 99, 107, 32]⟩ : ByteArray) ++ u) ++ (⟨#[10]⟩ : ByteArray)).size (grownCap W (((⟨#[117, 110, 112, 97, 99, 107, 32]⟩ : ByteArray) ++ u) ++ (⟨#[10]⟩ : ByteArray)).size 0 5)) (Lib.bytesWorld W 5 (((⟨#[117, 110, 112, 97, 99, 107, 32]⟩ : ByteArray) ++ u) ++ (⟨#[10]⟩ : ByteArray))) := fun W => Lib.run_convert_string_bytes W 9 28 5 _ Tryd.underlying9 Tryd.underlying28 Tryd.underlying5
  have hs1 : ((⟨#[117, 110, 112, 97, 99, 107, 32]⟩ : ByteArray) ++ u).size ≤ 9223372036854775807 := by have := len_first hrep.u; unfold first at this; rw [ByteArray.size_append] at this; omega
  have HL1 : Aside0 (∀ W, Calls Tryd.prog 17 #[.slice (some ⟨W.heap.size, 0, none⟩) (7 + u.size + 1) (grownCap W (7 + u.size + 1) 0 5)] (Lib.bytesWorld W 5 (((⟨#[117, 110, 112, 97, 99, 107, 32]⟩ : ByteArray) ++ u) ++ (⟨#[10]⟩ : ByteArray))) fun e w' => ∃ v, e = .returned v ∧ Kd.R (Kd.int .u8) 5 w' W.heap.size (fun _ => True) v (lineOf (bytesOf (first u))) ∧ Below W.heap.size W w') := ⟨fun W => by
    have h := lineOfStr (first u) (by rw [len_first hrep.u]; omega) (by rw [len_first hrep.u]; omega) W
    rw [show (first u).size = 7 + u.size + 1 by rw [len_first hrep.u]; omega] at h
    exact h⟩
  clear hC hc hrep
  go_enter Tryd.func8, Tryd.ntmps8
  go_upto_region 2 with (first | (go_at_call 17; (with_reducible refine (HL1.out _).mono ?_); rintro e w1 ⟨v1, rfl, hr1, hb1⟩; have HR1 := Aside0.mk hr1; have HB1 := Aside0.mk hb1; clear hr1 hb1))
  obtain ⟨A5, c5, rfl⟩ := Kd.R_slice HR1.out
  clear hcv hs1
  go_wp2
  go_loopg [5, 16] l.length (fun gk v5 v16 w' => ∃ (k : Nat) (V : Value), v5 = V ∧ v16 = .int .i64 (k : Int) ∧ Aside0 (k + gk = l.length) ∧ Aside0 (Below w.heap.size w w') ∧ Aside0 (Kd.R (Kd.int .u8) 5 w' w.heap.size (fun _ => True) V (enc (bytesOf (first u) :: (l.take k).map fun s => bytesOf (cmd s)))))
  case atStart => exact ⟨0, _, rfl, rfl, ⟨by omega⟩, HB1, ⟨by have := HR1.out; simpa [enc] using this⟩⟩
  case round =>
    obtain ⟨k, V, hV, rfl, HK, HB, HR⟩ := hrel
    replace hV := hV.symm
    subst hV
    by_cases hlt : k < l.length
    · obtain ⟨g0, rfl⟩ : ∃ m, gk = m + 1 := ⟨gk - 1, by have := HK.out; omega⟩
      have hk1 : (k : Int) < (l.length : Int) := by omega
      obtain ⟨ad, rfl, hx0, hx1⟩ := at_T32 (Kd.C_below HC.out HB.out) (k : Int) (by omega) hk1
      have hsk : rd_T32 l (k : Int) = l[k] := rdT l k hlt
      rw [hsk, Int.toNat_natCast] at hx0 hx1
      obtain ⟨s, hs⟩ : ∃ s, s = l[k] := ⟨_, rfl⟩
      rw [← hs] at hx0 hx1
      have hmem : s ∈ l := by rw [hs]; exact List.getElem_mem hlt
      have h0 := (HREP.out.w s hmem).1.len
      have h1 := (HREP.out.w s hmem).2.len
      have hsz := len_cmd (HREP.out.w s hmem).1 (HREP.out.w s hmem).2
      have hkn : k < 31 := by have := HREP.out.n; omega
      have HWK : Aside0 (wrap64 ((k : Int) + 1) = ((k + 1 : Nat) : Int)) := ⟨by unfold wrap64; omega⟩
      have HENC : Aside0 (enc (bytesOf (first u) :: (l.take (k + 1)).map fun s => bytesOf (cmd s)) = enc (bytesOf (first u) :: (l.take k).map fun s => bytesOf (cmd s)) ++ lineOf (bytesOf (cmd s))) := ⟨by
        rw [List.take_succ_eq_append_getElem hlt, ← hs]
        simp [enc]⟩
      have HLEN : Aside0 (((enc (bytesOf (first u) :: (l.take k).map fun s => bytesOf (cmd s))).length + (lineOf (bytesOf (cmd s))).length) * 1 ≤ 140737488355328) := ⟨by
        have hle := enc_le (bytesOf (first u) :: (l.take k).map fun s => bytesOf (cmd s)) (fun p hp => (good_all HREP.out p (by
          unfold payloads
          rw [List.mem_append]
          left
          rw [List.mem_cons] at hp ⊢
          refine hp.imp_right (fun hp => ?_)
          obtain ⟨s', hs', rfl⟩ := List.mem_map.1 hp
          exact List.mem_map.2 ⟨s', List.mem_of_mem_take hs', rfl⟩)).len)
        rw [List.length_cons, List.length_map, List.length_take] at hle
        rw [lineOf_len, bytesOf_length]
        have : (min k l.length + 1) * 65520 ≤ 40 * 65520 := Nat.mul_le_mul_right _ (by omega)
        omega⟩
      clear hsk hs hmem hsz hkn
      go_upto_region 5 with fail
      have hq0 : (wr.alloc (.cells #[.string s.f0, .string s.f1] 32)).cell? ⟨wr.heap.size, 0, none⟩ = some (.string s.f0) := (blk_cell (blk_new _ _) 0).trans rfl
      have hq1 : (wr.alloc (.cells #[.string s.f0, .string s.f1] 32)).cell? ⟨wr.heap.size, 1, none⟩ = some (.string s.f1) := (blk_cell (blk_new _ _) 1).trans rfl
      have HBA : Aside0 (Below wr.heap.size wr (wr.alloc (.cells #[.string s.f0, .string s.f1] 32))) := ⟨below_alloc (Below.refl _ _) _⟩
      generalize wr.alloc (.cells #[.string s.f0, .string s.f1] 32) = wa at hq0 hq1 HBA ⊢
      obtain ⟨gs, hgs⟩ : ∃ gs, gs = wr.heap.size := ⟨_, rfl⟩
      rw [← hgs] at hq0 hq1
      simp only [← hgs]
      clear hgs hx0 hx1
      by_cases q : s.f1.toList = [111, 107]
      · show _
        have e1 : (s.f1.toList == ([111, 107] : List UInt8)) = true := by rw [q]; rfl
        have e3 : decide (s.f1 = (⟨#[111, 107]⟩ : ByteArray)) = true := by exact decide_eq_true (ba_ext (by rw [q, toList_lit]))
        have hcv : ∀ W, (convert 9 28 (.string (((⟨#[111, 107, 32]⟩ : ByteArray) ++ s.f0) ++ (⟨#[10]⟩ : ByteArray)))).run Tryd.prog W = .ok (.slice (some ⟨W.heap.size, 0, none⟩) (3 + s.f0.size + 1) (grownCap W (3 + s.f0.size + 1) 0 5)) (Lib.bytesWorld W 5 (((⟨#[111, 107, 32]⟩ : ByteArray) ++ s.f0) ++ (⟨#[10]⟩ : ByteArray))) := fun W => by
          have h := Lib.run_convert_string_bytes W 9 28 5 (((⟨#[111, 107, 32]⟩ : ByteArray) ++ s.f0) ++ (⟨#[10]⟩ : ByteArray)) Tryd.underlying9 Tryd.underlying28 Tryd.underlying5
          have hz : ((((⟨#[111, 107, 32]⟩ : ByteArray) ++ s.f0) ++ (⟨#[10]⟩ : ByteArray))).size = (3 + s.f0.size + 1) := by simp only [ByteArray.size_append]; rfl
          rw [hz] at h
          exact h
        have hcm : cmd s = okLine s := by unfold cmd; rw [if_pos q]
        have HLN : Aside0 (∀ W, Calls Tryd.prog 17 #[.slice (some ⟨W.heap.size, 0, none⟩) (3 + s.f0.size + 1) (grownCap W (3 + s.f0.size + 1) 0 5)] (Lib.bytesWorld W 5 (((⟨#[111, 107, 32]⟩ : ByteArray) ++ s.f0) ++ (⟨#[10]⟩ : ByteArray))) fun e w' => ∃ v, e = .returned v ∧ Kd.R (Kd.int .u8) 5 w' W.heap.size (fun _ => True) v (lineOf (bytesOf (cmd s))) ∧ Below W.heap.size W w') := ⟨fun W => by
          have hz : (okLine s).size = (3 + s.f0.size + 1) := by unfold okLine; simp only [ByteArray.size_append]; rfl
          have h := lineOfStr (okLine s) (by rw [hz]; omega) (by rw [hz]; omega) W
          rw [hz] at h
          rw [hcm]
          exact h⟩
        clear q hcm
        go_wp2_with (first
          | (go_at_call 17; (with_reducible refine (HLN.out _).mono ?_); rintro e w3 ⟨v3, rfl, hr3, hb3⟩; have HB3 : Aside0 (Below wr.heap.size wr w3) := ⟨HBA.out.trans (hb3.mono HBA.out.size)⟩; have HR3 := Aside0.mk (Kd.R_reads hr3); clear hr3 hb3; obtain ⟨A3, c3, e3_, _, hC3⟩ := HR3.out; subst e3_; have HC3 := Aside0.mk hC3; clear hC3)
          | ((with_reducible refine gate_builtin (b := .append) (xs := #[.tmp 35, .tmp 38]) rfl ?_); at_builtin; refine Kd.R_append_rows (Kd.int .u8) (w0 := w) w.heap.size rfl (.tmp 35) (.tmp 38) 28 5 (.int .u8 0) 1 rfl Tryd.underlying28 info5 rfl (by decide) (by omega) V (enc (bytesOf (first u) :: (l.take k).map fun s => bytesOf (cmd s))) (lineOf (bytesOf (cmd s))) _ _ _ (fun _ => True) (fun _ => False) rfl rfl (Kd.R_below HR.out HB3.out) HC3.out (fun _ _ h => h) (fun _ h => h.elim) (fun _ _ => trivial) (below_step HB.out HB3.out) (Nat.le_trans HB.out.size HB3.out.size) HLEN.out ?_; intro v4 w4 ho4 hb4 hg4 hat4; rw [← HENC.out] at ho4; have HO4 := Aside0.mk ho4; have HB4 := Aside0.mk hb4; clear ho4 hb4 hg4 hat4))
        go_roundg g0
        case measure => omega
        case rel => exact ⟨k + 1, v4, rfl, by rw [HWK.out], ⟨by have := HK.out; omega⟩, HB4, HO4⟩
      · show _
        have e1 : (s.f1.toList == ([111, 107] : List UInt8)) = false := by rw [beq_eq_false_iff_ne]; exact q
        have e3 : decide (s.f1 = (⟨#[111, 107]⟩ : ByteArray)) = false := by exact decide_eq_false (fun e => q (by rw [e, toList_lit]))
        have hcv : ∀ W, (convert 9 28 (.string (((((⟨#[110, 103, 32]⟩ : ByteArray) ++ s.f0) ++ (⟨#[32]⟩ : ByteArray)) ++ s.f1) ++ (⟨#[10]⟩ : ByteArray)))).run Tryd.prog W = .ok (.slice (some ⟨W.heap.size, 0, none⟩) (3 + s.f0.size + 1 + s.f1.size + 1) (grownCap W (3 + s.f0.size + 1 + s.f1.size + 1) 0 5)) (Lib.bytesWorld W 5 (((((⟨#[110, 103, 32]⟩ : ByteArray) ++ s.f0) ++ (⟨#[32]⟩ : ByteArray)) ++ s.f1) ++ (⟨#[10]⟩ : ByteArray))) := fun W => by
          have h := Lib.run_convert_string_bytes W 9 28 5 (((((⟨#[110, 103, 32]⟩ : ByteArray) ++ s.f0) ++ (⟨#[32]⟩ : ByteArray)) ++ s.f1) ++ (⟨#[10]⟩ : ByteArray)) Tryd.underlying9 Tryd.underlying28 Tryd.underlying5
          have hz : ((((((⟨#[110, 103, 32]⟩ : ByteArray) ++ s.f0) ++ (⟨#[32]⟩ : ByteArray)) ++ s.f1) ++ (⟨#[10]⟩ : ByteArray))).size = (3 + s.f0.size + 1 + s.f1.size + 1) := by simp only [ByteArray.size_append]; rfl
          rw [hz] at h
          exact h
        have hcm : cmd s = ngLine s := by unfold cmd; rw [if_neg q]
        have HLN : Aside0 (∀ W, Calls Tryd.prog 17 #[.slice (some ⟨W.heap.size, 0, none⟩) (3 + s.f0.size + 1 + s.f1.size + 1) (grownCap W (3 + s.f0.size + 1 + s.f1.size + 1) 0 5)] (Lib.bytesWorld W 5 (((((⟨#[110, 103, 32]⟩ : ByteArray) ++ s.f0) ++ (⟨#[32]⟩ : ByteArray)) ++ s.f1) ++ (⟨#[10]⟩ : ByteArray))) fun e w' => ∃ v, e = .returned v ∧ Kd.R (Kd.int .u8) 5 w' W.heap.size (fun _ => True) v (lineOf (bytesOf (cmd s))) ∧ Below W.heap.size W w') := ⟨fun W => by
          have hz : (ngLine s).size = (3 + s.f0.size + 1 + s.f1.size + 1) := by unfold ngLine; simp only [ByteArray.size_append]; rfl
          have h := lineOfStr (ngLine s) (by rw [hz]; omega) (by rw [hz]; omega) W
          rw [hz] at h
          rw [hcm]
          exact h⟩
        clear q hcm
        go_wp2_with (first
          | (go_at_call 17; (with_reducible refine (HLN.out _).mono ?_); rintro e w3 ⟨v3, rfl, hr3, hb3⟩; have HB3 : Aside0 (Below wr.heap.size wr w3) := ⟨HBA.out.trans (hb3.mono HBA.out.size)⟩; have HR3 := Aside0.mk (Kd.R_reads hr3); clear hr3 hb3; obtain ⟨A3, c3, e3_, _, hC3⟩ := HR3.out; subst e3_; have HC3 := Aside0.mk hC3; clear hC3)
          | ((with_reducible refine gate_builtin (b := .append) (xs := #[.tmp 35, .tmp 38]) rfl ?_); at_builtin; refine Kd.R_append_rows (Kd.int .u8) (w0 := w) w.heap.size rfl (.tmp 35) (.tmp 38) 28 5 (.int .u8 0) 1 rfl Tryd.underlying28 info5 rfl (by decide) (by omega) V (enc (bytesOf (first u) :: (l.take k).map fun s => bytesOf (cmd s))) (lineOf (bytesOf (cmd s))) _ _ _ (fun _ => True) (fun _ => False) rfl rfl (Kd.R_below HR.out HB3.out) HC3.out (fun _ _ h => h) (fun _ h => h.elim) (fun _ _ => trivial) (below_step HB.out HB3.out) (Nat.le_trans HB.out.size HB3.out.size) HLEN.out ?_; intro v4 w4 ho4 hb4 hg4 hat4; rw [← HENC.out] at ho4; have HO4 := Aside0.mk ho4; have HB4 := Aside0.mk hb4; clear ho4 hb4 hg4 hat4))
        go_roundg g0
        case measure => omega
        case rel => exact ⟨k + 1, v4, rfl, by rw [HWK.out], ⟨by have := HK.out; omega⟩, HB4, HO4⟩
    · have HTK : Aside0 (l.take k = l) := ⟨List.take_of_length_le (by omega)⟩
      have hk0 : ¬ (k : Int) < (l.length : Int) := by omega
      have d0 : decide ((k : Int) < (l.length : Int)) = false := decide_eq_false hk0
      have d1 : decide (k < l.length) = false := decide_eq_false (by omega)
      have HEND : Aside0 (enc (payloads u l) = enc (bytesOf (first u) :: (l.take k).map fun s => bytesOf (cmd s)) ++ bytesOf (⟨#[48, 48, 48, 48]⟩ : ByteArray)) := ⟨by
        rw [HTK.out]
        unfold payloads enc
        rw [List.map_append, List.flatten_append]
        rfl⟩
      have HLEN : Aside0 ((enc (bytesOf (first u) :: (l.take k).map fun s => bytesOf (cmd s))).length + (⟨#[48, 48, 48, 48]⟩ : ByteArray).size ≤ 140737488355328) := ⟨by
        have hle := enc_le (bytesOf (first u) :: (l.take k).map fun s => bytesOf (cmd s)) (fun p hp => (good_all HREP.out p (by
          unfold payloads
          rw [List.mem_append]
          left
          rw [List.mem_cons] at hp ⊢
          refine hp.imp_right (fun hp => ?_)
          obtain ⟨s', hs', rfl⟩ := List.mem_map.1 hp
          exact List.mem_map.2 ⟨s', List.mem_of_mem_take hs', rfl⟩)).len)
        rw [List.length_cons, List.length_map, List.length_take] at hle
        have hn := HREP.out.n
        have : (min k l.length + 1) * 65520 ≤ 40 * 65520 := Nat.mul_le_mul_right _ (by omega)
        show _ + 4 ≤ _
        omega⟩
      clear hlt hk0
      go_wp2_with (first
        | ((with_reducible refine gate_builtin (b := .append) (xs := #[.tmp 41, .const (.string ⟨#[48, 48, 48, 48]⟩)]) rfl ?_); at_builtin; refine print_append_str (w0 := w) w.heap.size rfl (.tmp 41) (.const (.string ⟨#[48, 48, 48, 48]⟩)) 28 9 5 rfl Tryd.underlying28 Tryd.underlying9 info5 V (enc (bytesOf (first u) :: (l.take k).map fun s => bytesOf (cmd s))) ⟨#[48, 48, 48, 48]⟩ rfl rfl (Kd.own_of_R HR.out) HB.out HB.out.size HLEN.out ?_; intro v4 w4 ho4 hb4 hg4; rw [← HEND.out] at ho4; have HO4 := Aside0.mk ho4; have HB4 := Aside0.mk hb4; clear ho4 hb4 hg4))
      go_ret
      exact ⟨_, rfl, Kd.R_of_own HO4.out (fun _ _ => trivial), HB4.out⟩
#print axioms reportText
end Go.Proofs.YtlkenmpbhchieaaDoor.HandU
