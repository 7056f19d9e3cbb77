/- FnTreeBytes, walked. -/
import Derived.Test.YtddnepddilbikaaDoorPureR
import Derived.Test.YtddnepddilbikaaDoorQAllx10
import Derived.Lib.TrailingZeros
set_option linter.unusedVariables false
set_option linter.unusedSimpArgs false
namespace Go.Proofs.YtddnepddilbikaaDoor.WalkB
open Go.RowKit Go.Proofs.YtddnepddilbikaaDoorW.PrintLast Go.Proofs.YtddnepddilbikaaDoorW.PrintMore Go.Proofs.YtddnepddilbikaaDoor.QAll Txt SrtL ObjL ObjN ObjO ObjP ObjQ PureN PureR
open Go.Proofs.YtddnepddilbikaaDoorW.PrintWords hiding nums

theorem tab_below {n : String} {k : IntKind} {zs : List Int} {w w' : World} (h : Lib.TabIs Tryd.prog w n k zs) (hb : Below w.heap.size w w') : Lib.TabIs Tryd.prog w' n k zs := by
  unfold Lib.TabIs World.var? at h ⊢
  cases hg : Tryd.prog.globalNamed n with
  | none => rw [hg] at h; cases h
  | some g =>
    rw [hg] at h
    simp only [Option.bind_some] at h ⊢
    have hlt : g < w.heap.size := by
      rcases Nat.lt_or_ge g w.heap.size with h' | h'
      · exact h'
      · rw [Array.getElem?_eq_none h'] at h; cases h
    rw [hb.block g hlt]
    exact h
def dbTab : List Int := Lib.deBruijn64tab.map Int.ofNat
theorem gD : Tryd.prog.globalNamed "math/bits.deBruijn64tab" = some 6 := by kernel_rfl
theorem three {w : World} (h : Lib.TabIs Tryd.prog w "math/bits.deBruijn64tab" .u8 dbTab) : w.cell? ⟨6, 7, none⟩ = some (.int .u8 3) :=
  (h.cell gD 7 (by decide)).trans rfl
theorem isTree_f (l : List S44) (hs : ∀ s ∈ l, s.f0.size ≤ 2147483647 ∧ s.f2.size ≤ 2147483647) : ∃ b, Ev (fun k => spec_IsTree.f k l) b ∧ (b = true → l.length ≤ 1000 ∧ From l 0) := by
  by_cases h : l.length ≤ 1000
  · obtain ⟨b, h1, h2⟩ := tree_f l h hs
    exact ⟨b, h1, fun z => ⟨h, h2 z⟩⟩
  · exact ⟨false, ⟨0, fun k _ => by show spec_IsTree.f k l = _; unfold spec_IsTree.f; rw [if_pos (by omega)]⟩, fun z => by cases z⟩
set_option maxHeartbeats 16000000 in
set_option maxRecDepth 100000 in
theorem law (A0 : Option Addr) (c0 : Nat) (l : List S44) (w : World) (ev : Value) (aE : Addr) (hc0 : l.length ≤ c0) (hC0 : Kd.C k44 w A0 l.length l) (hT : Lib.TabIs Tryd.prog w "math/bits.deBruijn64tab" .u8 dbTab)
    (hE : w.cell? ⟨1, 0, none⟩ = some (.iface 134 (.pointer (some aE)))) (hE2 : w.cell? ⟨2, 0, none⟩ = some ev) :
    Calls Tryd.prog 3 #[.slice A0 l.length c0] w fun e w' => e = .returned (.bool true) ∧ Below w.heap.size w w' := by
  have HC := Aside0.mk hC0
  have HCC := Aside0.mk hc0
  obtain ⟨b, ⟨KF, hb⟩, hg⟩ := fits_f l
  have HF : Aside0 (laws_zzFits20.f KF l = some b) := ⟨hb KF (Nat.le_refl _)⟩
  clear hb hC0 hc0
  cases b with
  | false =>
    clear hg hT hE hE2
    go_enter Tryd.func3, Tryd.ntmps3
    go_wp2_with (first
      | (go_at_call 6
         (with_reducible refine (laws_zzFits20.calls KF A0 c0 l false _ HC.out HCC.out HF.out).mono ?_)
         rintro x w1 ⟨rfl, hd⟩
         have HD := Aside0.mk hd
         clear hd)
      | fail)
    go_ret
    exact ⟨rfl, HD.out⟩
  | true =>
  have hfit := hg rfl
  clear hg
  obtain ⟨b, ⟨K1, hK⟩, hg⟩ := isTree_f l hfit
  have HI : Aside0 (spec_IsTree.f K1 l = some b) := ⟨hK K1 (Nat.le_refl _)⟩
  clear hK hfit
  cases b with
  | false =>
    clear hg hT hE hE2
    go_enter Tryd.func3, Tryd.ntmps3
    go_wp2_with (first
      | (go_at_call 6
         (with_reducible refine (laws_zzFits20.calls KF A0 c0 l true _ HC.out HCC.out HF.out).mono ?_)
         rintro x w1 ⟨rfl, hd⟩
         have HD := Aside0.mk hd
         clear hd)
      | (go_at_call 7
         (with_reducible refine (spec_IsTree.calls K1 A0 c0 l false _ (Kd.C_below HC.out HD.out) HCC.out HI.out).mono ?_)
         rintro x w2 ⟨rfl, hd⟩
         have HD2 := Aside0.mk (HD.out.trans (hd.mono HD.out.size))
         clear hd)
      | fail)
    go_ret
    exact ⟨rfl, HD2.out⟩
  | true =>
  obtain ⟨hn, hfr⟩ := hg rfl
  clear hg
  have HEN : Aside0 (∀ W, Below w.heap.size w W → Calls Tryd.prog 8 #[.slice A0 l.length c0] W fun e w' => ∃ B d, e = .returned (.tuple #[.slice B (entsOut l).length d, .bool true]) ∧ (entsOut l).length ≤ d ∧ Kd.C (Kd.int .u8) w' B (entsOut l).length (entsOut l) ∧ Below W.heap.size W w') := ⟨fun W hW =>
    encodeTree (ev := ev) (aE := aE) W (Kd.C_below HC.out hW) hn (fun s hs => ⟨((hfr.ent s hs).h).1, (back (hfr.ent s hs).h).2⟩) (fun s hs => (hfr.ent s hs).ok) hfr.sorted (fun W1 hb => three (tab_below hT (hW.trans (hb.mono hW.size)))) (pw_cell_below hW hE) (pw_cell_below hW hE2)⟩
  have HTB : Aside0 (∀ W, Below w.heap.size w W → Calls Tryd.prog 10 #[.slice A0 l.length c0] W fun e w' => ∃ B d, e = .returned (.slice B (entsOut l).length d) ∧ (entsOut l).length ≤ d ∧ Kd.C (Kd.int .u8) w' B (entsOut l).length (entsOut l) ∧ Below W.heap.size W w') := ⟨fun W hW => by
    refine (treeBytes A0 c0 l W (Kd.C_below HC.out hW) hn (fun s hs => (hfr.ent s hs).ok) (fun s hs => unhex (hfr.ent s hs).h)).mono ?_
    rintro e w' ⟨v, rfl, hR, hb⟩
    obtain ⟨B, d, rfl, h1, h2⟩ := Kd.R_reads hR
    exact ⟨B, d, rfl, h1, h2, hb⟩⟩
  clear hfr hT hE hE2 hn
  have HOB : Aside0 (laws_obBytes.f (entsOut l) (entsOut l) = some true) := ⟨by unfold laws_obBytes.f; rw [beq_self_eq_true]⟩
  generalize entsOut l = OUT at HEN HTB HOB
  go_enter Tryd.func3, Tryd.ntmps3
  go_wp2_with (first
      | (go_at_call 6
         (with_reducible refine (laws_zzFits20.calls KF A0 c0 l true _ HC.out HCC.out HF.out).mono ?_)
         rintro x w1 ⟨rfl, hd⟩
         have HD := Aside0.mk hd
         clear hd)
      | (go_at_call 7
         (with_reducible refine (spec_IsTree.calls K1 A0 c0 l true _ (Kd.C_below HC.out HD.out) HCC.out HI.out).mono ?_)
         rintro x w2 ⟨rfl, hd⟩
         have HD2 := Aside0.mk (HD.out.trans (hd.mono HD.out.size))
         clear hd)
      | (go_at_call 8
         (with_reducible refine (HEN.out _ HD2.out).mono ?_)
         rintro x w3 ⟨B, d, rfl, hl, hC, hd⟩
         have HD3 := Aside0.mk (HD2.out.trans (hd.mono HD2.out.size))
         have HC3 := Aside0.mk hC
         have HL3 := Aside0.mk hl
         clear hd hC hl)
      | (go_at_call 10
         (with_reducible refine (HTB.out _ HD3.out).mono ?_)
         rintro x w4 ⟨B2, d2, rfl, hl, hC, hd⟩
         have HD4 := Aside0.mk (HD3.out.trans (hd.mono HD3.out.size))
         have HC4 := Aside0.mk hC
         have HL4 := Aside0.mk hl
         have HC5 := Aside0.mk (Kd.C_below HC3.out hd)
         clear hd hC hl)
      | (go_at_call 9
         (with_reducible refine (laws_obBytes.calls B d OUT B2 d2 OUT true _ HC5.out HL3.out HC4.out HL4.out HOB.out).mono ?_)
         rintro x w5 ⟨rfl, hd⟩
         have HD5 := Aside0.mk (HD4.out.trans (hd.below.mono HD4.out.size))
         clear hd)
      | fail)
  go_ret
  exact ⟨rfl, HD5.out⟩
end Go.Proofs.YtddnepddilbikaaDoor.WalkB
