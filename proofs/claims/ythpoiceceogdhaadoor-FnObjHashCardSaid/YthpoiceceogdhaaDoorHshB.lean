/- spec.ObjectHash and ObjectType.Bytes walked; Write of nothing. -/
import Derived.Test.YthpoiceceogdhaaDoorHshA
set_option linter.unusedVariables false
set_option linter.unusedSimpArgs false
namespace Go.Proofs.YthpoiceceogdhaaDoor.HshB
open Go.RowKit Go.Proofs.YthpoiceceogdhaaDoorW.PrintWords Go.Proofs.YthpoiceceogdhaaDoor.QAll ShaA ShaP ShaB ShaC ShaD ShaE ShaF HshA

/-- What is hashed ahead of the content. -/
def hd (kind : ByteArray) (n : Nat) : List Nat := bl kind ++ [32] ++ (Lib.decDigits n).map (fun b => b.toNat) ++ [0]
theorem BR.lower {w : World} {B B' : Nat} {v : Value} {l : List Nat} (h : BR w B v l) (hb : B' ≤ B) : BR w B' v l := by
  refine ⟨h.1, h.2.imp id ?_⟩
  rintro ⟨g, cap, cur, h1, h2, h3⟩
  exact ⟨g, cap, cur, h1, Nat.le_trans hb h2, h3⟩
theorem _root_.Go.Proofs.YthpoiceceogdhaaDoor.HshA.Lw.form {w0 w : World} {V : Value} {l : List Nat} (h : Lw w0 w V l) : ∃ g o c n, V = .slice (some ⟨g, o, none⟩) n c ∧ n = l.length := by
  obtain ⟨g, o, cap, rfl, _⟩ := h
  exact ⟨g, o, cap, _, rfl, rfl⟩
set_option maxHeartbeats 8000000 in
set_option maxRecDepth 100000 in
theorem objectHash (kind : ByteArray) (A : Option Addr) (c : Nat) (l : List Nat) (w : World) (hk : kind.size ≤ 9) (hR : Rd8 w (.slice A l.length c) l) (hl : l.length ≤ 1000000) :
    Calls Tryd.prog 8 #[.string kind, .slice A l.length c] w fun e w' => ∃ v, e = .returned v ∧ BR w' w.heap.size v (sha1 (hd kind l.length ++ l)) ∧ Below w.heap.size w w' := by
  obtain ⟨L, hL⟩ : ∃ L, L = l.length := ⟨_, rfl⟩
  have HL := Aside0.mk hL
  rw [← hL] at hR hl ⊢
  have HR := Aside0.mk hR
  have HK := Aside0.mk hk
  have HD := Aside0.mk (dec L (by omega) w)
  have hds := dob_size L
  have hdd := Aside0.mk (dob_dec L)
  have hks : (kind ++ (⟨#[32]⟩ : ByteArray)).size ≤ 10 := by rw [ByteArray.size_append]; show kind.size + 1 ≤ 10; omega
  have hadd : ∀ t : ByteArray, (kind ++ t).size = kind.size + t.size := fun t => ByteArray.size_append
  generalize dob L = t at HD hds hdd
  have hbt : bl (kind ++ (⟨#[32]⟩ : ByteArray) ++ t) = bl kind ++ [32] ++ (Lib.decDigits L).map (fun b => b.toNat) := by rw [bl_append, bl_append]; unfold bl; rw [hdd.out]; rfl
  have hst : (kind ++ (⟨#[32]⟩ : ByteArray) ++ t).size = (kind ++ (⟨#[32]⟩ : ByteArray)).size + t.size := ByteArray.size_append
  have HBT := Aside0.mk hbt
  have HST := Aside0.mk hst
  have h15 : (kind ++ (⟨#[32]⟩ : ByteArray) ++ t).size ≤ 1000011 := by omega
  have HLEN := Aside0.mk h15
  clear hR hL hbt hst h15 hadd
  go_enter Tryd.func8, Tryd.ntmps8
  go_wp2_with (first
    | (go_at_call 12
       (with_reducible refine HD.out.mono ?_)
       rintro e w1 ⟨rfl, hb⟩
       have HB1 := Aside0.mk hb
       have HR1 := Aside0.mk (HR.out.below hb)
       clear hb)
    | ((with_reducible refine gate_dst (N := 12) rfl ?_)
       refine conv_op rfl (.tmp 11) rfl w w1 (kind ++ (⟨#[32]⟩ : ByteArray) ++ t) rfl HB1.out ?_
       intro v2 w2 hlw hb2
       have HB2 := Aside0.mk hb2
       obtain ⟨g2, o2, cap2, n2, rfl, hr2⟩ := hlw.form
       have HLW2 : Aside0 (Lw w (w2.alloc (.cells #[.int .u8 0] 5)) (.slice (some ⟨g2, o2, none⟩) n2 cap2) (bl (kind ++ (⟨#[32]⟩ : ByteArray) ++ t))) := ⟨hlw.below (below_alloc (Below.refl _ _) _)⟩
       have HA2 : Aside0 (Rd8 (w2.alloc (.cells #[.int .u8 0] 5)) (.slice (some ⟨w2.heap.size, 0, none⟩) 1 1) [0]) := ⟨Rd8.of_at (at8_new w2 0 (by omega)) (Nat.le_refl _)⟩
       have HB3 : Aside0 (Below w.heap.size w (w2.alloc (.cells #[.int .u8 0] 5))) := ⟨below_alloc hb2 _⟩
       have HR2 : Aside0 (Rd8 (w2.alloc (.cells #[.int .u8 0] 5)) (.slice A L c) l) := ⟨HR.out.below HB3.out⟩
       clear hlw hb2 hr2)
    | ((with_reducible refine gate_dst (N := 14) rfl ?_)
       refine appl_op rfl (.tmp 12) (.tmp 13) rfl w _ (.slice (some ⟨g2, o2, none⟩) n2 cap2) (.slice (some ⟨w2.heap.size, 0, none⟩) 1 1) (bl (kind ++ (⟨#[32]⟩ : ByteArray) ++ t)) [0] rfl rfl HLW2.out HA2.out HB3.out (by rw [bl_len]; have := HLEN.out; simp only [List.length_singleton]; omega) ?_
       intro v4 w4 hlw hb4
       have HLW4 := Aside0.mk hlw
       have HB4 := Aside0.mk hb4
       have HR4 : Aside0 (Rd8 w4 (.slice A L c) l) := ⟨HR.out.below hb4⟩
       have HL4 : Aside0 ((bl (kind ++ (⟨#[32]⟩ : ByteArray) ++ t) ++ [0]).length + l.length ≤ 140737488355328) := ⟨by rw [List.length_append, bl_len]; have := HLEN.out; rw [← HL.out]; simp only [List.length_singleton]; omega⟩
       obtain ⟨g4, o4, cap4, n4, rfl, hr4⟩ := hlw.form
       clear hlw hb4 hr4)
    | ((with_reducible refine gate_dst (N := 17) rfl ?_)
       refine appl_op rfl (.tmp 15) (.tmp 16) rfl w w4 (.slice (some ⟨g4, o4, none⟩) n4 cap4) (.slice A L c) (bl (kind ++ (⟨#[32]⟩ : ByteArray) ++ t) ++ [0]) l rfl rfl HLW4.out HR4.out HB4.out HL4.out ?_
       intro v5 w5 hlw hb5
       have HB5 := Aside0.mk hb5
       have hrd := hlw.rd
       obtain ⟨g5, o5, cap5, n5, rfl, hr5⟩ := hlw.form
       have HS5 : Aside0 (Calls Tryd.prog 13 #[.slice (some ⟨g5, o5, none⟩) n5 cap5] w5 _) := ⟨by rw [hr5] at hrd ⊢; exact shaOne (some ⟨g5, o5, none⟩) cap5 (bl (kind ++ (⟨#[32]⟩ : ByteArray) ++ t) ++ [0] ++ l) w5 hrd (by have h1 := HLEN.out; have h2 := HL.out; rw [List.length_append, List.length_append, bl_len]; simp only [List.length_singleton]; omega)⟩
       clear hlw hb5 hr5 hrd)
    | (go_at_call 13
       (with_reducible refine HS5.out.mono ?_)
       rintro e w6 ⟨v6, rfl, hbr, hb6⟩
       have HBR := Aside0.mk hbr
       have HB6 := Aside0.mk hb6
       clear hbr hb6)
    | fail)
  go_ret
  refine ⟨_, rfl, ?_, HB5.out.trans (HB6.out.mono HB5.out.size)⟩
  have h1 := BR.lower HBR.out HB5.out.size
  rw [HBT.out] at h1
  exact h1
def nm (t : Nat) : ByteArray := if t = 1 then ⟨#[99, 111, 109, 109, 105, 116]⟩ else if t = 2 then ⟨#[116, 114, 101, 101]⟩ else if t = 3 then ⟨#[98, 108, 111, 98]⟩ else ⟨#[116, 97, 103]⟩
theorem nm_size (t : Nat) : (nm t).size ≤ 9 ∧ 0 < (nm t).size := by
  unfold nm
  split
  · decide
  · split
    · decide
    · split <;> decide
set_option maxHeartbeats 4000000 in
set_option maxRecDepth 100000 in
theorem typeName (t : Nat) (h0 : 1 ≤ t) (h1 : t ≤ 4) (w : World) : Calls Tryd.prog 26 #[.int .i8 (t : Int)] w fun e w' => e = .returned (.string (nm t)) ∧ w' = w := by
  obtain rfl | rfl | rfl | rfl : t = 1 ∨ t = 2 ∨ t = 3 ∨ t = 4 := by omega
  all_goals
    go_enter Tryd.func26, Tryd.ntmps26
    go_wp2
    go_ret
    exact ⟨rfl, rfl⟩
set_option maxHeartbeats 4000000 in
set_option maxRecDepth 100000 in
theorem typeBytes (t : Nat) (h0 : 1 ≤ t) (h1 : t ≤ 4) (w : World) : Calls Tryd.prog 21 #[.int .i8 (t : Int)] w fun e w' => ∃ v, e = .returned v ∧ Lw w w' v (bl (nm t)) ∧ Below w.heap.size w w' := by
  have HT := Aside0.mk (typeName t h0 h1 w)
  generalize nm t = s at HT ⊢
  clear h0 h1
  go_enter Tryd.func21, Tryd.ntmps21
  go_wp2_with (first
    | (go_at_call 26
       (with_reducible refine HT.out.mono ?_)
       rintro e w1 ⟨rfl, rfl⟩)
    | ((with_reducible refine gate_dst (N := 5) rfl ?_)
       refine conv_op rfl (.tmp 4) rfl w1 w1 s rfl (Below.refl _ _) ?_
       intro v2 w2 hlw hb2
       have HLW2 := Aside0.mk hlw
       have HB2 := Aside0.mk hb2
       clear hlw hb2)
    | fail)
  go_ret
  exact ⟨_, rfl, HLW2.out, HB2.out⟩

/-- Write of nothing. -/
theorem rest_nil (m : List Nat) : rest m ++ ([] : List Nat) = rest m := List.append_nil _
set_option maxHeartbeats 8000000 in
set_option maxRecDepth 100000 in
theorem write0 (hb : Nat) (v : Value) (m : List Nat) (A : Option Addr) (c : Nat) (w : World) (h : Hs w hb v m) (hl : m.length ≤ 1000000000000) :
    Calls Tryd.prog 59 #[.pointer (some ⟨hb, 0, none⟩), .slice A 0 c] w fun e w' => e = .returned (.tuple #[.int .i64 0, .nilIface]) ∧
      ∃ v', Hs w' hb v' m ∧ (v'.ownBlock = v.ownBlock ∨ ∃ b, v'.ownBlock = some b ∧ w.heap.size ≤ b) ∧ Off w w' (fun k => k = hb ∨ v.ownBlock = some k) := by
  have c5 := h.ob.cell5
  have c6 := h.ob.cell6
  have f5 := h.ob.frozen 5
  have f6 := h.ob.frozen 6
  obtain ⟨M, hM⟩ : ∃ M, M = m.length := ⟨_, rfl⟩
  rw [← hM] at hl c6
  have HM := Aside0.mk hM
  have hvb : v.ownBlock ≠ some hb := h.row.ne h.ob (by decide)
  have HST := Aside0.mk h.mem
  have HO1 : Aside0 (Off w (w.setCell ⟨hb, 6, none⟩ (.int .u64 (M : Int))) (fun k => k = hb ∨ v.ownBlock = some k)) := ⟨(Off.set w hb 6 _).mono (fun _ _ h => Or.inl h)⟩
  have HOB : Aside0 (Ob (w.setCell ⟨hb, 6, none⟩ (.int .u64 (M : Int))) hb (stOf m) v (M : Int)) := ⟨h.ob.set6 _⟩
  have HR1 : Aside0 (BQ (w.setCell ⟨hb, 6, none⟩ (.int .u64 (M : Int))) 0 v (rest m)) := ⟨h.row.off (Off.set w hb 6 _) (fun k hk e => hvb (by rw [hk]; exact congrArg some e))⟩
  have HVB := Aside0.mk hvb
  have HRL : Aside0 ((rest m).length < 64) := ⟨by rw [rest_length]; omega⟩
  clear h hM hvb
  go_enter Tryd.func59, Tryd.ntmps59
  go_wp2_with (first
    | ((with_reducible refine gate_dst (N := 22) rfl ?_)
       refine appr_op rfl (.tmp 20) (.tmp 21) rfl _ 0 v (.slice A 0 c) (rest m) [] rfl rfl HR1.out ⟨(fun x hx => by cases hx), A, c, rfl, Nat.zero_le _, fun h => absurd h (Nat.lt_irrefl 0)⟩ (by have := HRL.out; simp only [List.length_nil]; omega) (Nat.zero_le _) ?_
       intro v1 w1 hQ hg hat
       rw [rest_nil] at hQ
       obtain ⟨A1, cc1, rfl, hcc1⟩ := hQ.form
       obtain ⟨R, hR⟩ : ∃ R, R = (rest m).length := ⟨_, rfl⟩
       rw [← hR] at hQ hat hcc1 ⊢
       have hR64 : R < 64 := by have := HRL.out; omega
       have HQ := Aside0.mk hQ
       have HO2 : Aside0 (Off w w1 (fun k => k = hb ∨ v.ownBlock = some k)) := ⟨HO1.out.trans (Off.of_grownR hg) (fun k _ e => Or.inr e)⟩
       have HOB2 : Aside0 (Ob w1 hb (stOf m) v (M : Int)) := ⟨HOB.out.off (Off.of_grownR hg) HVB.out⟩
       have HAT : Aside0 ((Value.slice A1 R cc1).ownBlock = v.ownBlock ∨ ∃ b, (Value.slice A1 R cc1).ownBlock = some b ∧ w.heap.size ≤ b) := ⟨hat.imp_right (fun ⟨b, h1, h2⟩ => ⟨b, h1, Nat.le_trans HO1.out.zero.size h2⟩)⟩
       have d5 := HOB2.out.cell5
       have e5 := HOB2.out.frozen 5
       clear hQ hg hat c5 c6 f5 f6 HR1 HO1 HOB hR)
    | fail)
  go_loopg [] 1 (fun g0 w' => w' = w1.setCell ⟨hb, 5, none⟩ (.slice A1 R cc1))
  case atStart => exact rfl
  case round =>
    have hrel2 := hrel
    have HS3 : Aside0 (Hs wr hb (.slice A1 R cc1) m ∧ Off w wr (fun k => k = hb ∨ v.ownBlock = some k)) := ⟨by
      rw [hrel]
      exact ⟨⟨by have := HOB2.out.set5 (.slice A1 R cc1); rw [HM.out] at this; exact this, HQ.out.off (Off.set w1 hb 5 _) (fun k hk e => HQ.out.ne HOB2.out (by decide) (by rw [hk]; exact congrArg some e)), HST.out⟩, HO2.out.trans (Off.set w1 hb 5 _) (fun _ _ h => Or.inl h)⟩⟩
    have k5 := HS3.out.1.ob.cell5
    clear hrel hrel2 HQ HO2 HOB2 d5 e5
    go_wp2_with fail
    go_ret2
    exact ⟨rfl, _, HS3.out.1, HAT.out, HS3.out.2⟩
end Go.Proofs.YthpoiceceogdhaaDoor.HshB
