/- spec.ChunkLines; spec.Chunks where a payload may be too long. -/
import Derived.Test.YtponeoodgfgejaaDoorSidE
import Derived.Test.YtponeoodgfgejaaDoorHandK
import Derived.Test.YtponeoodgfgejaaDoorHandL
set_option linter.unusedVariables false
set_option linter.unusedSimpArgs false
namespace Go.Proofs.YtponeoodgfgejaaDoor.SidM
open Go.RowKit Go.Proofs.YtponeoodgfgejaaDoorW.PrintWords Go.Proofs.YtponeoodgfgejaaDoor.QAll Txt PureA PureP HandF HandK HandL PbkA BufA BufB SidB SidC SidD SidE SidF

theorem info5' : (Tryd.prog.info? 5).map (fun i => (i.zero, i.size, i.bytes)) = some (some (.int .u8 0), 1, 1) := by kernel_rfl
/-- A chunk's payload. -/
def pay (x : S39) : List Int := x.f0 :: x.f1
theorem enc_take (l : List S39) (i : Nat) (hi : i < l.length) : enc ((l.take (i + 1)).map pay) = enc ((l.take i).map pay) ++ lineOf (l[i].f0 :: l[i].f1) := by
  rw [List.take_succ_eq_append_getElem hi, List.map_append, enc_append, List.map_cons, List.map_nil, enc_one]
  rfl
theorem enc_pay_le (l : List S39) (h : ∀ x ∈ l, x.f1.length ≤ 60000) : (enc (l.map pay)).length ≤ 60010 * l.length := by
  induction l with
  | nil => simp [enc]
  | cons x l ih =>
    rw [List.map_cons, enc_cons, List.length_append, lineOf_len, List.length_cons, Nat.mul_add]
    have := ih (fun y hy => h y (List.mem_cons_of_mem _ hy))
    have := h x List.mem_cons_self
    have e : (pay x).length = x.f1.length + 1 := rfl
    rw [e]
    omega

set_option maxHeartbeats 8000000 in
set_option maxRecDepth 100000 in
theorem chunkLines (l : List S39) (A : Option Addr) (c : Nat) (W : World) (hn : l.length ≤ 61) (hx : ∀ x ∈ l, 1 ≤ x.f0 ∧ x.f0 ≤ 3 ∧ x.f1.length ≤ 60000) (hC : Kd.C k39 W A l.length l) :
    Calls Tryd.prog 14 #[.slice A l.length c] W fun x w' => ∃ v, x = .returned v ∧ Kd.R (Kd.int .u8) 5 w' W.heap.size (fun _ => True) v (enc (l.map pay)) ∧ Below W.heap.size W w' := by
  have HR := Aside0.mk hC
  have HN := Aside0.mk hn
  have HX := Aside0.mk hx
  clear hC hn hx
  go_enter Tryd.func14, Tryd.ntmps14
  go_wp2
  go_loopg [3, 8] l.length (fun gk v3 v8 w' => ∃ (i : Nat) (V : Value), v3 = V ∧ v8 = .int .i64 (i : Int) ∧ gk + i = l.length ∧ Aside0 (Kd.R (Kd.int .u8) 5 w' W.heap.size (fun _ => True) V (enc ((l.take i).map pay))) ∧ Aside0 (Below W.heap.size W w'))
  case atStart => exact ⟨0, _, rfl, rfl, rfl, ⟨Kd.R_nil _ _ _ _ _⟩, ⟨Below.refl _ _⟩⟩
  case round =>
    obtain ⟨i, V, rfl, rfl, hi, HO, HB⟩ := hrel
    by_cases q : i < l.length
    · have d0 : decide ((i : Int) < (l.length : Int)) = true := decide_eq_true (by omega)
      have hp0 : 0 ≤ (i : Int) := by omega
      have hq0 : (i : Int) < (l.length : Int) := by omega
      obtain ⟨ad, A1, c1, rfl, hx0, hx1, hl1, hi1⟩ := at_T39 HR.out (i : Int) hp0 hq0
      rw [Int.toNat_natCast] at hx0 hx1
      have hx0 := (HB.out.cell (World.block_lt_of_cell? W _ hx0)).trans hx0
      have hx1 := (HB.out.cell (World.block_lt_of_cell? W _ hx1)).trans hx1
      have hrd : rd_T39 l (i : Int) = l[i] := by unfold rd_T39; rw [Int.toNat_natCast, List.getD_eq_getElem?_getD, List.getElem?_eq_getElem q]; rfl
      rw [hrd] at hx0 hx1 hl1 hi1
      obtain ⟨hc1, hc2, hlen⟩ := HX.out _ (List.getElem_mem q)
      have HTK := Aside0.mk (enc_take l i q)
      have HEL : Aside0 ((enc ((l.take i).map pay)).length ≤ 60010 * 61) := ⟨by
        have := enc_pay_le (l.take i) (fun x hx => (HX.out x (List.mem_of_mem_take hx)).2.2)
        have := HN.out
        rw [List.length_take] at *
        omega⟩
      have hw : wrap64 ((i : Int) + 1) = ((i + 1 : Nat) : Int) := by have := HN.out; unfold wrap64; omega
      have HW := Aside0.mk hw
      have HL1 := Aside0.mk hlen
      have HLC := Aside0.mk hl1
      have HCP := Aside0.mk hi1
      generalize l[i].f0 = ch at *
      generalize l[i].f1 = p at *
      have hu8 : IntKind.u8.wrap ch = ch := by rw [IntKind.wrap_u8]; omega
      clear hrd hl1 hi1 hw hlen hc1 hc2
      go_wp2_with (first
        | ((with_reducible refine gate_dst (N := 5) rfl ?_)
           (try (refine gate_guard (by rfl) ?_; dsimp only))
           refine box_event ?hg (N := 5) ?hd (cs := #[.int .i64 0, .slice none 0 0]) (t := 39) ?hr ?_
           (case hd => rfl)
           (case hg => rfl)
           (case hr => first | (go_simp; done) | (go_simp; rfl))
           intro gb hgb w5 hbox hb
           have HBX := Aside0.mk hbox
           have HB5 := Aside0.mk hb
           have HGB := Aside0.mk hgb
           have hcz0 : w5.cell? ⟨gb, 0, none⟩ = some (.int .i64 0) := (blk_cell HBX.out 0).trans rfl
           have hcz1 : w5.cell? ⟨gb, 1, none⟩ = some (.slice none 0 0) := (blk_cell HBX.out 1).trans rfl
           have hfz0 := blk_frozen HBX.out 0
           have hfz1 := blk_frozen HBX.out 1
           clear hbox hb hgb)
        | ((with_reducible refine gate_dst (N := 16) rfl ?_)
           refine Kd.R_lit (Kd.int .u8) _ 5 ?hg (N := 16) ?hd (xs := ([ch] : List Int)) (inner := [.int .u8 ch]) (ok := fun _ => True) (okp := fun _ => True) ?hr ?hp (fun _ hk => hk) trivial (Below.refl _ _) (Nat.le_refl _) (by simp) ?_
           (case hd => rfl)
           (case hg => rfl)
           (case hr => first | (go_simp; done) | (go_simp; rfl))
           (case hp => exact (Reps.one (show Kd.M (Kd.int .u8) _ _ _ ch [.int .u8 ch] from rfl) (Reps.none _ _)))
           intro v16 w7 ho7 hb7 hg7 hn7
           have hgw : wr.heap.size ≤ gb := by rw [HGB.out]; exact Nat.le_refl _
           have HB6 : Aside0 (Below wr.heap.size wr w7 ∧ wr.heap.size ≤ w7.heap.size) := ⟨by
             have h1 := below_set (j := 1) (v := Value.slice A1 p.length c1) (below_set (j := 0) (v := Value.int .i64 ch) HB5.out hgw) hgw
             have h2 := h1.trans (hb7.mono h1.size)
             exact ⟨h2, h2.size⟩⟩
           have HO7 : Aside0 (Kd.R (Kd.int .u8) 5 w7 wr.heap.size (fun _ => True) v16 [ch]) := ⟨Kd.R_lower ho7 (below_set (j := 1) (v := Value.slice A1 p.length c1) (below_set (j := 0) (v := Value.int .i64 ch) HB5.out hgw) hgw).size⟩
           have hcz2 : w7.cell? ⟨gb, 1, none⟩ = some (.slice A1 p.length c1) := by
             have h1 := Lib.heap_setCell_same (i := 1) (Lib.heap_setCell_same (i := 0) HBX.out (.int .i64 ch)) (.slice A1 p.length c1)
             have h2 := (hb7.block gb (blk_lt h1)).trans h1
             exact (Lib.cell_of_heap h2 1).trans rfl
           have HCP7 := Aside0.mk (Kd.C_below HCP.out (HB.out.trans (HB6.out.1.mono HB.out.size)))
           clear ho7 hb7 hg7 hn7 hgw)
        | ((with_reducible refine gate_builtin (b := .append) (xs := #[.tmp 16, .tmp 18]) rfl ?_)
           at_builtin
           refine Kd.R_append_rows (Kd.int .u8) (w0 := wr) wr.heap.size rfl (.tmp 16) (.tmp 18) 25 5 (.int .u8 0) 1 rfl Tryd.underlying25 info5' rfl (by decide) (by omega) v16 [ch] p _ _ _ (fun _ => True) (fun _ => False) rfl rfl HO7.out HCP7.out (fun _ _ h => h) (fun _ h => h.elim) (fun _ _ => trivial) HB6.out.1 HB6.out.2 ?aL ?_
           (case aL => have := HL1.out; simp; omega)
           intro v19 w8 ho8 hb8 hg8 hat8
           obtain ⟨A19, c19, rfl, hc19, hC19⟩ := Kd.R_reads ho8
           have HLN : Aside0 (Calls Tryd.prog 24 #[.slice A19 (p.length + 1) c19] w8 _) := ⟨line A19 c19 (ch :: p) w8 hC19 hc19 (by have := HL1.out; simp; omega)⟩
           have HB8 := Aside0.mk hb8
           clear ho8 hb8 hg8 hat8 hc19 hC19)
        | (go_at_call 24
           (with_reducible refine HLN.out.mono ?_)
           rintro e w9 ⟨A20, c20, rfl, hc20, hC20, hb9⟩
           have HC20 := Aside0.mk hC20
           have HB9 : Aside0 (Below wr.heap.size wr w9) := ⟨HB8.out.trans (hb9.mono HB8.out.size)⟩
           clear hb9 hC20 hc20)
        | ((with_reducible refine gate_builtin (b := .append) (xs := #[.tmp 12, .tmp 20]) rfl ?_)
           at_builtin
           refine Kd.R_append_rows (Kd.int .u8) (w0 := W) W.heap.size rfl (.tmp 12) (.tmp 20) 25 5 (.int .u8 0) 1 rfl Tryd.underlying25 info5' rfl (by decide) (by omega) _ (enc ((l.take i).map pay)) (lineOf (ch :: p)) _ _ _ (fun _ => True) (fun _ => False) rfl rfl (Kd.R_below HO.out HB9.out) HC20.out (fun _ _ h => h) (fun _ h => h.elim) (fun _ _ => trivial) (HB.out.trans (HB9.out.mono HB.out.size)) (Nat.le_trans HB.out.size HB9.out.size) ?aL ?_
           (case aL => have := HEL.out; have := HL1.out; rw [lineOf_len, List.length_cons]; omega)
           intro v21 w10 ho10 hb10 hg10 hat10
           rw [← HTK.out] at ho10
           have HO10 := Aside0.mk ho10
           have HB10 := Aside0.mk hb10
           clear ho10 hb10 hg10 hat10)
        | fail)
      go_roundg (gk - 1)
      case measure => omega
      case rel => exact ⟨i + 1, _, rfl, by first | rfl | (rw [HW.out]) | simp, by omega, HO10, HB10⟩
    · have d0 : decide ((i : Int) < (l.length : Int)) = false := decide_eq_false (by omega)
      have hip : i = l.length := by omega
      subst hip
      go_wp2
      go_ret
      exact ⟨_, rfl, by have h := HO.out; rw [List.take_of_length_le (Nat.le_refl _)] at h; exact h, HB.out⟩
set_option maxHeartbeats 8000000 in
set_option maxRecDepth 100000 in
theorem chunksBad (qs : List (List Int)) (most : Int) (hbad : ∃ q ∈ qs, most < (q.length : Int)) (B : Option Addr) (d : Nat) (W : World) (hd : (enc qs).length ≤ d) (hC : Kd.C (Kd.int .u8) W B (enc qs).length (enc qs)) (hn : qs.length ≤ 5000000) (hp : ∀ q ∈ qs, ∃ c t, q = c :: t ∧ 1 ≤ c ∧ c ≤ 3 ∧ t.length ≤ 65000) :
    Calls Tryd.prog 10 #[.slice B (enc qs).length d, .int .i64 most] W fun x w' => x = .returned (.tuple #[.slice none 0 0, .bool false]) ∧ Below W.heap.size W w' := by
  have HP := Aside0.mk hp
  have HN := Aside0.mk hn
  have HBAD := Aside0.mk hbad
  have HSL : Aside0 (Calls Tryd.prog 23 #[.slice B (enc qs).length d] W fun e w' => ∃ (v : Value) (A' : Option Addr) (c' : Nat), e = .returned (.tuple #[v, .int .i64 0]) ∧ v = .slice A' qs.length c' ∧ qs.length ≤ c' ∧ Kd.C HandL.KL w' A' qs.length qs ∧ Below W.heap.size W w') := ⟨by
    have := specLines B d (enc qs) qs W hC hd (fun p hq => by
      obtain ⟨c, t, rfl, h1, h2, h4⟩ := hp p hq
      refine ⟨by simp; omega, fun k => ?_⟩
      have h5 := congrArg (fun l => l[0]?) k
      simp only [List.take_succ_cons] at h5
      have e1 : (strOfNums (c :: t.take 3)).toList[0]? = some (c.toNat.toUInt8) := by
        simp [strOfNums]
      have e2 : (strOfNums [69, 82, 82, 32]).toList[0]? = some (69 : UInt8) := by decide +kernel
      rw [e1, e2] at h5
      have h6 := Option.some.inj h5
      have : c = 1 ∨ c = 2 ∨ c = 3 := by omega
      rcases this with rfl | rfl | rfl <;> exact absurd h6 (by decide)) hn (Nat.le_refl _) (by rw [List.take_length])
    rw [parse_whole] at this
    exact this⟩
  clear hp hn hbad hC hd
  generalize (enc qs).length = n0 at *
  go_enter Tryd.func10, Tryd.ntmps10
  go_wp2_with (first
    | (go_at_call 23
       (with_reducible refine HSL.out.mono ?_)
       rintro x w4 ⟨v4, A4, c4, rfl, rfl, hc4, hC4, hb4⟩
       have HB4 := Aside0.mk hb4
       have HC4 := Aside0.mk hC4
       clear hb4 hC4 hc4)
    | fail)
  go_loopg [8, 20] qs.length (fun gk v8 v20 w' => ∃ (i : Nat) (V : Value), v8 = V ∧ v20 = .int .i64 (i : Int) ∧ gk + i = qs.length ∧ Aside0 ((lent w4 k39).R 39 w' w4.heap.size (fun _ => True) V ((qs.take i).map toC)) ∧ Aside0 (Below w4.heap.size w4 w') ∧ Aside0 (∀ j, (hj : j < qs.length) → j < i → ((qs[j]).length : Int) ≤ most))
  case atStart => exact ⟨0, _, rfl, rfl, rfl, ⟨Kd.R_nil _ _ _ _ _⟩, ⟨Below.refl _ _⟩, ⟨fun j _ h => absurd h (by omega)⟩⟩
  case round =>
    obtain ⟨i, V, rfl, rfl, hi, HO, HB, HSM⟩ := hrel
    by_cases q : i < qs.length
    · have d0 : decide ((i : Int) < (qs.length : Int)) = true := decide_eq_true (by omega)
      have hp0 : 0 ≤ (i : Int) := by omega
      have hq0 : (i : Int) < (qs.length : Int) := by omega
      obtain ⟨ad, A1, c1, rfl, hx0, hl1, hi1⟩ := atR HC4.out (i : Int) hp0 hq0
      rw [Int.toNat_natCast] at hx0
      have hrd : qs.getD (i : Int).toNat [] = qs[i] := by rw [Int.toNat_natCast, List.getD_eq_getElem?_getD, List.getElem?_eq_getElem q]; rfl
      rw [hrd] at hl1 hi1
      rw [show qs.getD i [] = qs[i] from hrd] at hx0
      have hx0 := (HB.out.cell (World.block_lt_of_cell? w4 _ hx0)).trans hx0
      obtain ⟨ch, t, ep, hc1, hc2, ht2⟩ := HP.out _ (List.getElem_mem q)
      have HLE : Aside0 ((t.length : Int) + 1 ≤ most → ∀ j, (hj : j < qs.length) → j < i + 1 → ((qs[j]).length : Int) ≤ most) := ⟨fun h j hj hji => by
        by_cases e : j = i
        · subst e
          rw [ep, List.length_cons]; omega
        · exact HSM.out j hj (by omega)⟩
      have HTK : Aside0 ((qs.take (i + 1)).map toC = (qs.take i).map toC ++ [⟨ch, t⟩]) := ⟨by rw [List.take_succ_eq_append_getElem q, List.map_append, ep]; rfl⟩
      rw [ep] at hx0 hl1 hi1
      obtain ⟨a1, rfl, hat⟩ := C_cells hi1 (by simp)
      have hy0 : wr.cell? (a1.add 0) = some (.int .u8 ch) := by
        have h := hat 0 ch rfl
        exact (HB.out.cell (World.block_lt_of_cell? w4 _ h)).trans h
      have ha0 : a1.add 0 = a1 := by unfold Addr.add; split <;> simp_all
      have hy1 : wr.cell? a1 = some (.int .u8 ch) := by rw [ha0] at hy0; exact hy0
      obtain ⟨A2, hcut, hC2⟩ := cutD (some a1) c1 (ch :: t) 1 (by simp) hl1
      have HK : Aside0 (k39.K w4 ⟨ch, t⟩ [.int .i64 ch, .slice A2 t.length (c1 - 1)]) := ⟨k39_mk w4 ⟨ch, t⟩ (A1 := A2) (c1 := c1 - 1) (by simp only [List.length_cons] at hl1; show t.length ≤ c1 - 1; omega) (by have := hC2 w4 hi1; exact this)⟩
      have hcut : ∀ W : World, (Instr.slice 25 (.slice (some a1) (t.length + 1) c1) (some (.int .i64 1)) none none).run Tryd.prog W = .ok (.slice A2 t.length (c1 - 1)) W := hcut
      have hw : wrap64 ((i : Int) + 1) = ((i + 1 : Nat) : Int) := by have := HN.out; unfold wrap64; omega
      have HW := Aside0.mk hw
      have hwc : IntKind.i64.wrap ch = ch := by rw [IntKind.wrap_i64]; omega
      have z1 : decide (ch < 1) = false := decide_eq_false (by omega)
      have z2 : decide (3 < ch) = false := decide_eq_false (by omega)
      have HT2 := Aside0.mk ht2
      have HL1 := Aside0.mk hl1
      clear hrd hl1 hi1 hw ep ht2 hat hC2 ha0
      by_cases q3 : most < (t.length : Int) + 1
      · have z3 : decide (most < (t.length : Int) + 1) = true := decide_eq_true q3
        go_wp2
        go_ret2
        exact ⟨rfl, HB4.out.trans (HB.out.mono HB4.out.size)⟩
      have z3 : decide (most < (t.length : Int) + 1) = false := decide_eq_false q3
      have HLE2 := Aside0.mk (HLE.out (by omega))
      clear q3
      go_wp2
      go_region_law (first
        | (refine append_law (lent w4 k39) (w0 := w4) (W := wr.drew) w4.heap.size rfl (.tmp 45) (.tmp 53) 22 39 (.agg #[.int .i64 0, .slice none 0 0]) 32 [.int .i64 ch, .slice A2 t.length (c1 - 1)] rfl rfl Tryd.underlying22 info39 rfl (by show 0 < 2; decide) (by decide) _ ((qs.take i).map toC) ⟨ch, t⟩ (fun _ => True) (fun _ => False) rfl ?hx HK.out (fun _ h => h.elim) (fun _ _ => trivial) ?hR ?hB ?hs ?hlen ?_
           case hx => first | rfl | (go_simp; done) | (simp [Act.eval]; done)
           case hlen => have := HN.out; rw [List.length_map, List.length_take]; omega
           case hB => exact below_drew HB.out
           case hs => exact (below_drew HB.out).size
           case hR => exact Kd.R_below HO.out (below_drew (Below.refl _ _))
           intro v9 w9 ho9 hb9 hg9 hat9
           have HR9 := Aside0.mk ho9
           have HB9 := Aside0.mk hb9
           clear ho9 hb9 hg9 hat9)
        | fail)
      all_goals (
        go_wp2
        go_roundg (gk - 1)
        case measure => omega
        case rel => exact ⟨i + 1, v9, rfl, by first | rfl | (rw [HW.out]) | simp, by omega, ⟨by rw [HTK.out]; exact HR9.out⟩, HB9, HLE2⟩)
    · have d0 : decide ((i : Int) < (qs.length : Int)) = false := decide_eq_false (by omega)
      have hip : i = qs.length := by omega
      obtain ⟨q, hq, hlt⟩ := HBAD.out
      obtain ⟨j, hj, rfl⟩ := List.getElem_of_mem hq
      have := HSM.out j hj (by omega)
      omega
end Go.Proofs.YtponeoodgfgejaaDoor.SidM
