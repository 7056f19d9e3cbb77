/- packfile.patchDelta, walked: a delta that is written of instructions. -/
import Derived.Test.YtlboochpbplhlaaDoorHandC
set_option linter.unusedVariables false
set_option linter.unusedSimpArgs false
namespace Go.Proofs.YtlboochpbplhlaaDoor.HandD
open Go.RowKit Go.Proofs.YtlboochpbplhlaaDoorW.PrintWords Go.Proofs.YtlboochpbplhlaaDoor.QAll PureD HandA HandB HandC
open Go.Proofs.YtlboochpbplhlaaDoorW.PrintLast Go.Proofs.YtlboochpbplhlaaDoorW.PrintMore
attribute [local go_sem] max2_int min2_int max_two min_two

theorem Sd_mid {w : World} {B : Nat} {A : Option Addr} {c : Nat} {l : List Int} (h : Sd w B A c l) (k k' : IntKind) (lo n : Nat) (hm : lo + n ≤ l.length) :
    ∃ A', (∀ W, (Instr.slice 22 (.slice A l.length c) (some (.int k (lo : Int))) (some (.int k' (((lo + n : Nat) : Int)))) none).run Tryd.prog W = .ok (.slice A' ((l.drop lo).take n).length (c - lo)) W) ∧ Sd w B A' (c - lo) ((l.drop lo).take n) := by
  obtain ⟨i0, hi0, _, hsz, _⟩ := info_parts info5
  obtain ⟨h1, h2, h3, h4⟩ := h
  have hlen : ((l.drop lo).take n).length = n := by rw [List.length_take, List.length_drop]; omega
  refine ⟨if c = (lo : Int).toNat then A else A.map (·.add ((lo : Int).toNat * 1)), fun W => ?_, ?_, by rw [hlen]; omega, fun x hx => h3 x (List.mem_of_mem_drop (List.mem_of_mem_take hx)), fun hl => ?_⟩
  · have hx := cut_mid (P := Tryd.prog) 22 5 k k' Tryd.underlying22 hi0 1 hsz A l.length c lo ((lo + n : Nat) : Int) (by omega) (by omega) (by omega) (by omega) W
    rw [hx, hlen, Int.toNat_natCast, Int.toNat_natCast, Nat.add_sub_cancel_left]
  · rw [hlen]; omega
  · rw [hlen] at hl
    obtain ⟨g, o, rfl, hg, hc⟩ := h4 (by omega)
    have hne : ¬ c = lo := by omega
    refine ⟨g, o + lo, ?_, hg, fun j x hj => ?_⟩
    · rw [Int.toNat_natCast, if_neg hne]
      unfold Addr.add
      split <;> simp_all
    · rw [List.getElem?_take] at hj
      split at hj
      · rw [List.getElem?_drop] at hj
        rw [Nat.add_assoc]
        exact hc _ _ hj
      · cases hj

theorem and8_hi (c : Nat) (h : c < 256) (h1 : 128 ≤ c) : bits .and .u8 (c : Int) 128 = 128 := by
  rw [show (128 : Int) = ((2 ^ 7 : Nat) : Int) from rfl, bit_and c 7 h (by omega), if_pos ((by decide +kernel : ∀ c : Fin 256, 128 ≤ c.val → c.val.testBit 7 = true) ⟨c, h⟩ h1)]
theorem and8_lo (c : Nat) (h : c < 128) : bits .and .u8 (c : Int) 128 = 0 := by
  rw [show (128 : Int) = ((2 ^ 7 : Nat) : Int) from rfl, bit_and c 7 (by omega) (by omega), if_neg (by rw [(by decide +kernel : ∀ c : Fin 128, c.val.testBit 7 = false) ⟨c, h⟩]; decide)]

set_option maxHeartbeats 8000000 in
set_option maxRecDepth 100000 in
theorem patch (B b : Nat) (lr : Int) (src bs : List Int) (is : List Ins) (As Ad : Option Addr) (cs cd : Nat) (w : World) (hB : B ≤ b) (hBw : B ≤ w.heap.size) (hbk : w.heap[b]? = some (.cells #[.slice none 0 0, .int .i64 0, .int .i8 lr] 52 (0, 0)))
    (hT : ∀ W, Below B w W → Tab W 3 0 4 ∧ Tab W 4 4 3) (hS : Sd w B As cs src) (hD : Sd w B Ad cd (enc7 src.length ++ (enc7 (made src is).length ++ bs))) (hE : Encs src.length is bs) (hne : is ≠ []) (hsrc : src.length ≤ 2147483647) (hmade : (made src is).length ≤ 2147483647) :
    Calls Tryd.prog 23 #[.pointer (some ⟨b, 0, none⟩), .slice As src.length cs, .slice Ad (enc7 src.length ++ (enc7 (made src is).length ++ bs)).length cd] w fun e w' => e = .returned .nilIface ∧ Lib.IsBuffer 52 5 B b (nums .u8 (made src is)) w' ∧ Below B w w' := by
  have hm1 : 1 ≤ (made src is).length := by
    cases hE with
    | nil => exact absurd rfl hne
    | cons h hs => rw [made_cons, List.length_append]; have := h.made_pos; omega
  have HD1 := Aside0.mk (HandA.decode src.length B (by omega) Ad cd _ w hD)
  obtain ⟨L, hL⟩ : ∃ L, L = (enc7 src.length ++ (enc7 (made src is).length ++ bs)).length := ⟨_, rfl⟩
  rw [← hL] at HD1 ⊢
  have HLe : L ≤ 140737488355328 := by rw [hL]; exact hD.2.1
  have HS := Aside0.mk hS
  have HT := Aside0.mk hT
  have HE := Aside0.mk hE
  have HBK := Aside0.mk hbk
  have HM : Aside0 (∃ M, M = (made src is).length) := ⟨_, rfl⟩
  obtain ⟨M, hM⟩ := HM.out
  have HMM := Aside0.mk hM
  have hM1 : 1 ≤ M := by omega
  have hM2 : M ≤ 2147483647 := by omega
  obtain ⟨N, hN⟩ : ∃ N, N = src.length := ⟨_, rfl⟩
  rw [← hN] at hsrc HD1 ⊢
  rw [← hM] at HD1
  have HN := Aside0.mk hN
  have hwn : IntKind.u64.wrap (N : Int) = N := wraps_u64 _ (by omega) (by omega)
  clear hS hT hE hbk hM hm1 hmade hN hL hD hne HM
  go_enter Tryd.func23, Tryd.ntmps23
  go_wp2_with fail
  (with_reducible refine HD1.out.mono ?_)
  rintro e w1 ⟨A1, c1, rfl, hS1, q1, rfl⟩
  have HD2 := Aside0.mk (HandA.decode M B (by omega) A1 c1 bs (w.drewN q1) (hS1.below (pw_below_drewN (Below.refl B w) q1)))
  obtain ⟨L1, hL1⟩ : ∃ L, L = (enc7 M ++ bs).length := ⟨_, rfl⟩
  have hL1e : L1 ≤ 140737488355328 := by rw [hL1]; exact hS1.2.1
  rw [← hL1] at HD2 ⊢
  clear hS1 hL1
  go_wp2_with fail
  (with_reducible refine HD2.out.mono ?_)
  rintro e w2 ⟨A2, c2, rfl, hS2, q2, rfl⟩
  have HS2 := Aside0.mk hS2
  have hL2 : bs.length ≤ 140737488355328 := hS2.2.1
  clear hS2
  have hmn : (if (65536 : Int) < (M : Int) then (65536 : Int) else (M : Int)) = ((min M 65536 : Nat) : Int) := by split <;> omega
  have hg1 : 1 ≤ min M 65536 := by omega
  have hg2 : min M 65536 ≤ 65536 := by omega
  generalize min M 65536 = G at hmn hg1 hg2
  have HB0 : Aside0 (Below w.heap.size w (w.drewN (q1 + q2))) := ⟨pw_below_drewN (Below.refl w.heap.size w) (q1 + q2)⟩
  have HBK0 : Aside0 ((w.drewN (q1 + q2)).heap[b]? = some (.cells #[.slice none 0 0, .int .i64 0, .int .i8 lr] 52 (0, 0))) := ⟨(HB0.out.block b (Lib.lt_of_heap HBK.out)).trans HBK.out⟩
  go_wp2_with fail
  (with_reducible refine (bgrow B b G lr (w.drewN (q1 + q2)) hB (Nat.le_trans hBw HB0.out.size) HBK0.out hg1 hg2).mono ?_)
  rintro e w3 ⟨rfl, hI3, hb3⟩
  have HI3 := Aside0.mk hI3
  have HB3 : Aside0 (Below B w w3) := ⟨(pw_below_drewN (Below.refl B w) (q1 + q2)).trans hb3⟩
  have HS2w : Aside0 (Sd w3 B A2 c2 bs) := ⟨by have h1 := HS2.out.below (pw_below_drewN (Below.refl B (w.drewN q1)) q2); rw [World.drewN_drewN] at h1; exact h1.below hb3⟩
  clear hI3 hb3 hmn hg1 hg2
  go_wp2_with fail
  go_loopg [2, 10] (is.length) (fun g0 v2 v10 w' => ∃ (is1 : List Ins) (bs1 : List Int) (c3 : Nat) (A3 : Option Addr) (done : List Int) (R : Nat), v2 = .slice A3 bs1.length c3 ∧ v10 = .int .u64 (R : Int) ∧ Aside0 (R = (made src is1).length) ∧ g0 = is1.length ∧ Aside0 (Encs src.length is1 bs1) ∧ Aside0 (Sd w' B A3 c3 bs1) ∧ Aside0 (done ++ made src is1 = made src is) ∧ Aside0 (Lib.IsBuffer 52 5 B b (nums .u8 done) w') ∧ Aside0 (Below B w w'))
  case atStart => exact ⟨is, bs, c2, A2, [], M, rfl, rfl, HMM, rfl, HE, HS2w, ⟨rfl⟩, ⟨HI3.out⟩, HB3⟩
  case round =>
    obtain ⟨is1, bs1, c3, A3, done, R, rfl, rfl, HR, rfl, HE1, HS3, HDn, HI, HB1⟩ := hrel
    have hR2 : R ≤ 2147483647 := by
      have h1 := congrArg List.length HDn.out
      rw [List.length_append, ← HR.out, ← HMM.out] at h1
      omega
    cases is1 with
    | nil =>
      have hbs : bs1 = [] := by have := HE1.out; cases this; rfl
      have hR0 : R = 0 := HR.out
      subst hbs
      subst hR0
      have HF : Aside0 (done = made src is) := ⟨by have := HDn.out; simpa [made] using this⟩
      clear HDn
      go_wp2_with fail
      go_ret
      rw [← HF.out]
      exact ⟨rfl, HI.out, HB1.out⟩
    | cons i1 is2 =>
      have hBwr : B ≤ wr.heap.size := Nat.le_trans hBw HB1.out.size
      obtain ⟨eb, bs2, rfl, hE1, hE2⟩ : ∃ eb bs2, bs1 = eb ++ bs2 ∧ Enc src.length i1 eb ∧ Encs src.length is2 bs2 := by
        have := HE1.out
        cases this with
        | cons h hs => exact ⟨_, _, rfl, h, hs⟩
      clear HE1
      have HE2 := Aside0.mk hE2
      clear hE2
      rw [made_cons] at HDn HR
      obtain ⟨R2, hR2e⟩ : ∃ R2, R2 = (made src is2).length := ⟨_, rfl⟩
      have HR2 := Aside0.mk hR2e
      have HDl : Aside0 (done.length ≤ 2147483647) := ⟨by
        have h1 := congrArg List.length HDn.out
        rw [List.length_append, ← HMM.out] at h1
        omega⟩
      cases hE1 with
      | put t h1 h2 =>
        have hR : R = t.length + R2 := by rw [HR.out, List.length_append, ← hR2e]; rfl
        clear HR hR2e
        obtain ⟨g, o, rfl, hcell⟩ := HS3.out.head
        obtain ⟨A4, hcut0, hS4⟩ := HS3.out.cut .i64 1 (by simp)
        have hS4' : Sd wr B A4 (c3 - 1) (t ++ bs2) := hS4
        obtain ⟨A5, hmid0, hS5⟩ := Sd_mid hS4' .i64 .u64 0 t.length (by simp)
        obtain ⟨A6, hend0, hS6⟩ := hS4'.cut .u64 t.length (by simp)
        obtain ⟨T, hT⟩ : ∃ T, T = t.length := ⟨_, rfl⟩
        have hlt : ((t ++ bs2).drop 0).take t.length = t := by simp
        rw [hlt] at hmid0 hS5
        rw [List.drop_left] at hS6
        have HW : Aside0 (Calls Tryd.prog 33 #[.pointer (some ⟨b, 0, none⟩), .slice A5 T (c3 - 1)] wr fun e w' => e = .returned (.tuple #[.int .i64 (T : Int), .nilIface]) ∧ Lib.IsBuffer 52 5 B b (nums .u8 (done ++ t)) w' ∧ Below B wr w') := ⟨by rw [hT]; exact bwrite B b done t A5 (c3 - 1) wr HI.out hBwr hS5 (by omega) (by have := HDl.out; omega)⟩
        rw [← hT] at hmid0 hend0 h1 h2 hR
        have hcut : ∀ W, (Instr.slice 22 (.slice (some ⟨g, o, none⟩) (T + bs2.length + 1) c3) (some (.int .i64 1)) none none).run Tryd.prog W = .ok (.slice A4 (T + bs2.length) (c3 - 1)) W := fun W => by have := hcut0 W; rw [show ((t.length : Int) :: t ++ bs2).length = T + bs2.length + 1 by rw [hT]; simp] at this; exact this
        have hmid : ∀ W, (Instr.slice 22 (.slice A4 (T + bs2.length) (c3 - 1)) (some (.int .i64 0)) (some (.int .u64 (T : Int))) none).run Tryd.prog W = .ok (.slice A5 T (c3 - 1)) W := fun W => by have := hmid0 W; rw [List.length_append, ← hT, Nat.zero_add] at this; exact this
        have hend : ∀ W, (Instr.slice 22 (.slice A4 (T + bs2.length) (c3 - 1)) (some (.int .u64 (T : Int))) none none).run Tryd.prog W = .ok (.slice A6 bs2.length (c3 - 1 - T)) W := fun W => by have := hend0 W; rw [List.length_append, ← hT, Nat.add_sub_cancel_left] at this; exact this
        have HS6 : Aside0 (Sd wr B A6 (c3 - 1 - T) bs2) := ⟨by rw [hT]; exact hS6⟩
        have hlenc : T + bs2.length + 1 ≤ 140737488355328 := by have := HS3.out.2.1; rw [List.cons_append, List.length_cons, List.length_append, ← hT] at this; omega
        have HL0 : ((t.length : Int) :: t ++ bs2).length = T + bs2.length + 1 := by rw [hT]; simp
        rw [HL0]
        have ha := and8_lo T (by omega)
        have hT0 : ((T : Int) != 0) = true := bne_iff_ne.2 (by omega)
        have hw8 : IntKind.u64.wrap (T : Int) = T := wraps_u64 _ (by omega) (by omega)
        have hcell' : wr.cell? ⟨g, o, none⟩ = some (.int .u8 (T : Int)) := by rw [hT]; exact hcell
        have HN2 : Aside0 ((done ++ t) ++ made src is2 = made src is) := ⟨by have := HDn.out; rw [List.append_assoc]; exact this⟩
        clear hcut0 hmid0 hend0 hS4 hS4' hS5 hS6 hlt hcell HL0 hT HDn
        go_wp2_with (first
          | (go_at_call 33; (with_reducible refine HW.out.mono ?_); rintro e w4 ⟨rfl, hI4, hb4⟩; have HI4 := Aside0.mk hI4; have HB4 := Aside0.mk hb4; clear hI4 hb4)
          | go_in)
        go_roundg (is2.length)
        case measure => simp
        case rel => exact ⟨is2, bs2, _, A6, done ++ t, R2, rfl, by congr 1; omega, HR2, rfl, HE2, ⟨HS6.out.below HB4.out⟩, HN2, HI4, ⟨HB1.out.trans HB4.out⟩⟩
      | copy c o s s0 r hc hd hs ho =>
        obtain ⟨r', hd1, hd2⟩ := hd bs2
        have hs1 : 1 ≤ s := by split at hs <;> omega
        have hml : ((src.drop o).take s).length = s := by rw [List.length_take, List.length_drop]; omega
        have hR : R = s + R2 := by rw [HR.out, List.length_append, ← hR2e]; show ((src.drop o).take s).length + R2 = s + R2; rw [hml]
        clear HR hR2e
        obtain ⟨g, ofs, rfl, hcell⟩ := HS3.out.head
        obtain ⟨A4, hcut0, hS4⟩ := HS3.out.cut .i64 1 (by simp)
        have hS4' : Sd wr B A4 (c3 - 1) (r ++ bs2) := hS4
        have HTT := Aside0.mk (HT.out wr HB1.out)
        have HO := Aside0.mk (HandB.offset c o B (by omega) A4 (c3 - 1) (r ++ bs2) r' wr HTT.out.1 hS4' hBwr hd1)
        obtain ⟨K, hK⟩ : ∃ K, K = (r ++ bs2).length := ⟨_, rfl⟩
        rw [← hK] at HO
        have hcut : ∀ W, (Instr.slice 22 (.slice (some ⟨g, ofs, none⟩) (K + 1) c3) (some (.int .i64 1)) none none).run Tryd.prog W = .ok (.slice A4 K (c3 - 1)) W := fun W => by have := hcut0 W; rw [show ((c : Int) :: r ++ bs2).length = K + 1 by rw [hK]; simp] at this; exact this
        have hlenc : K + 1 ≤ 140737488355328 := by have := HS3.out.2.1; rw [List.cons_append, List.length_cons, ← hK] at this; omega
        rw [show ((c : Int) :: r ++ bs2).length = K + 1 by rw [hK]; simp]
        have ha := and8_hi c (by omega) hc.1
        obtain ⟨A5, hmid0, hS5⟩ := Sd_mid (HS.out.below HB1.out) .u64 .u64 o s ho
        rw [hml] at hmid0
        have hmid : ∀ W, (Instr.slice 22 (.slice As N cs) (some (.int .u64 (o : Int))) (some (.int .u64 ((o : Int) + s))) none).run Tryd.prog W = .ok (.slice A5 s (cs - o)) W := fun W => by have := hmid0 W; rw [← HN.out] at this; push_cast at this; exact this
        have HS5 := Aside0.mk hS5
        have hoN : o + s ≤ N := by rw [HN.out]; exact ho
        have HN2 : Aside0 ((done ++ (src.drop o).take s) ++ made src is2 = made src is) := ⟨by have := HDn.out; rw [List.append_assoc]; exact this⟩
        have Hml := Aside0.mk hml
        have Hd2 := Aside0.mk hd2
        have Hs := Aside0.mk hs
        clear hcut0 hmid0 hS4 hS4' hS5 HDn hml hd1 hd2 hs ho hd hK
        go_wp2_with (first
          | (go_at_call 29; (with_reducible refine HO.out.mono ?_); rintro e w4 ⟨A7, c7, rfl, hS7, hb7⟩; have HS7 := Aside0.mk hS7; have HB7 := Aside0.mk hb7; clear hS7 hb7)
          | (go_at_call 28; go_in))
        have HZ := Aside0.mk (HandB.size c s0 s B Hs.out (by omega) A7 c7 r' bs2 w4 (HTT.out.2.below HB7.out) HS7.out (Nat.le_trans hBwr HB7.out.size) Hd2.out)
        (with_reducible refine HZ.out.mono ?_)
        rintro e w5 ⟨A8, c8, rfl, hS8, hb8⟩
        have HB45 : Aside0 (Below wr.heap.size wr w5) := ⟨below_step HB7.out hb8⟩
        have HB5 : Aside0 (Below B wr w5) := ⟨below_old hBwr HB45.out⟩
        have HW : Aside0 (Calls Tryd.prog 33 #[.pointer (some ⟨b, 0, none⟩), .slice A5 s (cs - o)] w5 fun e w' => e = .returned (.tuple #[.int .i64 (s : Int), .nilIface]) ∧ Lib.IsBuffer 52 5 B b (nums .u8 (done ++ (src.drop o).take s)) w' ∧ Below B w5 w') := ⟨by
          have h1 := bwrite B b done ((src.drop o).take s) A5 (cs - o) w5 (buf_old HI.out HB45.out) (Nat.le_trans hBwr HB45.out.size) (HS5.out.below HB5.out) (by rw [Hml.out]; omega) (by have := HDl.out; rw [Hml.out]; omega)
          rwa [Hml.out] at h1⟩
        have HS8 := Aside0.mk hS8
        clear hS8 hb8
        have hov : IntKind.u64.wrap ((o : Int) + s) = (o : Int) + s := wraps_u64 _ (by omega) (by omega)
        go_wp2_with (first
          | (go_at_call 33; (with_reducible refine HW.out.mono ?_); rintro e w6 ⟨rfl, hI4, hb4⟩; have HI4 := Aside0.mk hI4; have HB4 := Aside0.mk hb4; clear hI4 hb4)
          | go_in)
        go_roundg (is2.length)
        case measure => simp
        case rel => exact ⟨is2, bs2, _, A8, done ++ (src.drop o).take s, R2, rfl, by congr 1; omega, HR2, rfl, HE2, ⟨HS8.out.below HB4.out⟩, HN2, HI4, ⟨(HB1.out.trans HB5.out).trans HB4.out⟩⟩
end Go.Proofs.YtlboochpbplhlaaDoor.HandD
