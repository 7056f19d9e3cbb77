/- Validate, ValidRef and the law FnRefValid, walked: names in folders, of letters and digits, are valid. -/
import Derived.Test.YtjeaehefnpjabaaDoorAny
import Derived.Test.YtjeaehefnpjabaaDoorPureV
set_option linter.unusedVariables false
namespace Go.Proofs.YtjeaehefnpjabaaDoor.WalkV
open Go.RowKit Go.Proofs.YtjeaehefnpjabaaDoorW.PrintWords Go.Proofs.YtjeaehefnpjabaaDoor.QFnRefValid PureV Any

/-! ### the callees at a nice part -/
def anyS : ByteArray := ⟨#[126, 94, 58, 63, 42, 91, 32, 9, 10]⟩
instance (c : UInt8) : Decidable (An c) := by unfold An; infer_instance
theorem any_key : ∀ j : Fin anyS.size, (anyS[j.val]'j.isLt).toNat < 128 ∧ ¬ An (anyS[j.val]'j.isLt) := by decide
theorem not_mem (p : ByteArray) (hn : Nice p) (c : UInt8) (hc : ¬ An c) : c ∉ p.toList := fun h => hc (hn.an c h)
section
variable (p : ByteArray) (w : World) (hs : p.size ≤ 2000) (hn : Nice p)
include hs hn
theorem c12 (q : ByteArray) (c : UInt8) (r : List UInt8) (he : q.toList = c :: r) (hq : q.size ≤ 100) (hc : ¬ An c) : Calls Tryd.prog 12 #[.string p, .string q] w fun e w' => e = .returned (.bool false) ∧ Drawn0 w w' :=
  strings_HasPrefix.calls p q false w (prefix_false p q c r (by omega) (by omega) he (not_mem p hn c hc))
theorem c8 (q : ByteArray) (c : UInt8) (r : List UInt8) (he : q.toList = c :: r) (hq : q.size ≤ 100) (hc : ¬ An c) : Calls Tryd.prog 8 #[.string p, .string q] w fun e w' => e = .returned (.bool false) ∧ Drawn0 w w' :=
  strings_HasSuffix.calls p q false w (suffix_false p q c r (by omega) (by omega) he (not_mem p hn c hc))
theorem c13 (q : ByteArray) (c : UInt8) (r : List UInt8) (he : q.toList = c :: r) (hq : q.size ≤ 100) (hc : ¬ An c) : Calls Tryd.prog 13 #[.string p, .string q] w fun e w' => e = .returned (.bool false) ∧ Drawn0 w w' :=
  plumbing_zzContains.calls (p.size + 2) p q false w (contains_false p q c r (by omega) (by omega) he (not_mem p hn c hc) _ (by omega))
theorem c14 : Calls Tryd.prog 14 #[.string p] w fun e w' => e = .returned (.bool false) ∧ Drawn0 w w' :=
  plumbing_zzControl.calls (p.size + 1) p false w (control_false p (by omega) hn.an _ (by omega))
theorem c15 : Calls Tryd.prog 15 #[.string p, .string ⟨#[126, 94, 58, 63, 42, 91, 32, 9, 10]⟩] w fun e w' => e = .returned (.bool false) ∧ Below w.heap.size w w' := by
  have hch : ∀ i, (h : i < p.size) → An (p[i]'h) := by
    intro i h
    refine hn.an _ ?_
    rw [Lib.toList_data]
    exact Array.mem_toList_iff.2 (Array.getElem_mem _)
  have hcs : ∀ j, (h : j < anyS.size) → (anyS[j]'h).toNat < 128 ∧ ¬ An (anyS[j]'h) := fun j h => any_key ⟨j, h⟩
  refine containsAny_none p _ w (by omega) (by decide) (fun i h => ?_) (fun j h => (hcs j h).1) (fun i j h h' => ?_)
  · have := hch i h; unfold An at this; omega
  · intro e
    have e' : (p[i]'h).toNat = (anyS[j]'h').toNat := by exact_mod_cast e
    have := hch i h
    refine (hcs j h').2 ?_
    unfold An at this ⊢
    omega
end

/-- A name whose parts are all nice. -/
structure Good (s : ByteArray) (ps : List ByteArray) : Prop where
  pos : 0 < s.size
  size : s.size ≤ 200000
  two : 2 ≤ ps.length
  few : ps.length ≤ 200
  nice : ∀ p ∈ ps, Nice p ∧ p.size ≤ 2000
  split : plumbing_zzSplit.f (s.size + ps.length + 3) s ⟨#[47]⟩ = some ps
  head : (s.toList == [72, 69, 65, 68]) = false
  dot : strings_HasSuffix.f s ⟨#[46]⟩ = some false

set_option maxHeartbeats 4000000 in
set_option maxRecDepth 100000 in
theorem validate (s : ByteArray) (ps : List ByteArray) (w : World) (hg : Good s ps) :
    Calls Tryd.prog 7 #[.string s] w fun e w' => e = .returned .nilIface ∧ Below w.heap.size w w' := by
  have hh := hg.head
  have hpos := hg.pos
  have hd := Aside0.mk hg.dot
  have hsp := Aside0.mk hg.split
  obtain ⟨b1, hb1⟩ : ∃ b, plumbing_ReferenceName_IsBranch.f s = some b := by
    unfold plumbing_ReferenceName_IsBranch.f; rw [prefix_val _ _ (by have := hg.size; omega) (by decide)]; exact ⟨_, rfl⟩
  obtain ⟨b2, hb2⟩ : ∃ b, plumbing_ReferenceName_IsTag.f s = some b := by
    unfold plumbing_ReferenceName_IsTag.f; rw [prefix_val _ _ (by have := hg.size; omega) (by decide)]; exact ⟨_, rfl⟩
  have hB1 := Aside0.mk hb1
  have hB2 := Aside0.mk hb2
  have htwo := hg.two
  have hfew := hg.few
  have hnice := Aside0.mk hg.nice
  clear hb1 hb2 hg
  go_enter Tryd.func7, Tryd.ntmps7
  go_wp2_with (first
    | ((go_at_call 8; with_reducible refine (strings_HasSuffix.calls _ _ _ _ hd.out).mono ?_); rintro e w' ⟨rfl, ⟨n, rfl⟩⟩)
    | ((go_at_call 9; with_reducible refine (plumbing_zzSplit.calls _ _ _ _ _ hsp.out).mono ?_); rintro e w' ⟨v, rfl, hR, hb⟩; obtain ⟨A, c, rfl, hcc, hC0⟩ := Kd.R_reads hR; have hC := Aside0.mk hC0; have hB := Aside0.mk (below_then (pw_below_drewN (Below.refl w.heap.size w) _) (Nat.le_refl _) hb); clear hC0 hR hb)
    | ((go_at_call 10; with_reducible refine (plumbing_ReferenceName_IsBranch.calls _ _ _ hB1.out).mono ?_); rintro e w' ⟨rfl, ⟨n, rfl⟩⟩)
    | ((go_at_call 11; with_reducible refine (plumbing_ReferenceName_IsTag.calls _ _ _ hB2.out).mono ?_); rintro e w' ⟨rfl, ⟨n, rfl⟩⟩))
  rename_i w1
  go_loopg [31] ps.length (fun g v31 w' => ∃ k : Nat, v31 = .int .i64 (k : Int) ∧ Aside0 (k + g = ps.length) ∧ Aside0 (Below w.heap.size w w') ∧ Aside0 (Kd.C Kd.string w' A ps.length ps))
  case atStart => exact ⟨0, rfl, ⟨by omega⟩, ⟨by repeat (first | exact hB.out | apply pw_below_drewN)⟩, ⟨Kd.C_below hC.out (by repeat (first | exact Below.refl _ _ | apply pw_below_drewN))⟩⟩
  case round =>
    obtain ⟨k, rfl, hk, hb, hc⟩ := hrel
    by_cases hlt : k < ps.length
    · obtain ⟨g0, rfl⟩ : ∃ m, gk = m + 1 := ⟨gk - 1, by have := hk.out; omega⟩
      obtain ⟨ad, e, hx⟩ := Kd.at_string hc.out (k : Int) (by omega) (by omega)
      cases e
      rw [Int.toNat_natCast] at hx
      have hmem : rdOf ByteArray.empty ps (k : Int) ∈ ps := by
        unfold rdOf
        rw [Int.toNat_natCast, List.getD_eq_getElem?_getD, List.getElem?_eq_getElem hlt]
        exact List.getElem_mem hlt
      generalize rdOf ByteArray.empty ps (k : Int) = p at hx hmem
      obtain ⟨hn0, hps⟩ := hnice.out p hmem
      have hn := Aside0.mk hn0
      have hp0 : 0 < p.size := hn0.pos
      have hat : (p.toList == [64]) = false := by
        rw [beq_eq_false_iff_ne]
        intro e
        have := hn0.an 64 (by rw [e]; exact List.mem_cons_self)
        unfold An at this
        exact absurd this (by decide)
      clear hn0 hmem
      cases b1 <;> cases b2
      all_goals go_wp2_with (first
        | ((go_at_call 12; first | with_reducible refine (c12 p _ hps hn.out ⟨#[46]⟩ 46 [] (by rw [Lib.toList_data]) (by decide) (by decide)).mono ?_ | with_reducible refine (c12 p _ hps hn.out ⟨#[45]⟩ 45 [] (by rw [Lib.toList_data]) (by decide) (by decide)).mono ?_); rintro e w' ⟨rfl, ⟨n, rfl⟩⟩)
        | ((go_at_call 13; first | with_reducible refine (c13 p _ hps hn.out ⟨#[46, 46]⟩ 46 [46] (by rw [Lib.toList_data]) (by decide) (by decide)).mono ?_ | with_reducible refine (c13 p _ hps hn.out ⟨#[64, 123]⟩ 64 [123] (by rw [Lib.toList_data]) (by decide) (by decide)).mono ?_ | with_reducible refine (c13 p _ hps hn.out ⟨#[92]⟩ 92 [] (by rw [Lib.toList_data]) (by decide) (by decide)).mono ?_); rintro e w' ⟨rfl, ⟨n, rfl⟩⟩)
        | ((go_at_call 14; with_reducible refine (c14 p _ hps hn.out).mono ?_); rintro e w' ⟨rfl, ⟨n, rfl⟩⟩)
        | ((go_at_call 15; with_reducible refine (c15 p _ hps hn.out).mono ?_); rintro e w' ⟨rfl, hbq⟩; have hbz := Aside0.mk hbq; clear hbq)
        | ((go_at_call 8; with_reducible refine (c8 p _ hps hn.out ⟨#[46, 108, 111, 99, 107]⟩ 46 [108, 111, 99, 107] (by rw [Lib.toList_data]) (by decide) (by decide)).mono ?_); rintro e w' ⟨rfl, ⟨n, rfl⟩⟩))
      all_goals
        have hB2 : Below w.heap.size w _ := below_then (pw_below_drewN hb.out _) hb.out.size hbz.out
        go_roundg g0
        case measure => omega
        case rel => exact ⟨k + 1, by go_num, ⟨by have := hk.out; omega⟩, ⟨by repeat (first | exact hB2 | apply pw_below_drewN)⟩, ⟨Kd.C_below (Kd.C_below hc.out (pw_below_drewN (Below.refl _ _) _)) (by repeat (first | exact hbz.out | apply pw_below_drewN))⟩⟩
    · go_wp2
      go_ret
      exact ⟨rfl, hb.out⟩

theorem validRef (s : ByteArray) (ps : List ByteArray) (w : World) (hg : Good s ps) :
    Calls Tryd.prog 6 #[.string s] w fun e w' => e = .returned (.bool true) ∧ Below w.heap.size w w' := by
  go_enter Tryd.func6, Tryd.ntmps6
  go_wp2_with ((go_at_call 7; with_reducible refine (validate _ ps _ hg).mono ?_); rintro e w' ⟨rfl, hb⟩)
  go_ret
  exact ⟨rfl, by assumption⟩

/-! ### the law -/
def refsB : ByteArray := ⟨#[114, 101, 102, 115]⟩
theorem nice_refs : Nice refsB := ⟨by decide, by
  rw [Lib.toList_data]
  intro c hc
  have : c ∈ [(114 : UInt8), 101, 102, 115] := hc
  simp only [List.mem_cons, List.not_mem_nil, or_false] at this
  rcases this with rfl | rfl | rfl | rfl <;> decide⟩
theorem flat_mem (rest : List ByteArray) (c : UInt8) (h : c ∈ flat rest) : c = 47 ∨ ∃ q ∈ rest, c ∈ q.toList := by
  unfold flat at h
  rw [List.mem_flatten] at h
  obtain ⟨l, hl, hc⟩ := h
  rw [List.mem_map] at hl
  obtain ⟨q, hq, rfl⟩ := hl
  rcases List.mem_cons.1 hc with rfl | hc
  · exact .inl rfl
  · exact .inr ⟨q, hq, hc⟩
theorem good_of (s : ByteArray) (rest : List ByteArray) (he : s.toList = refsB.toList ++ flat rest) (hs : s.size ≤ 200000) (h1 : 1 ≤ rest.length) (h2 : rest.length ≤ 100) (hn : ∀ q ∈ rest, Nice q ∧ q.size ≤ 2000) :
    Good s (refsB :: rest) := by
  have hno : ∀ c, ¬ An c → c ≠ 47 → c ∉ s.toList := by
    intro c hc h47 hm
    rw [he] at hm
    rcases List.mem_append.1 hm with h | h
    · exact hc (nice_refs.an c h)
    · rcases flat_mem rest c h with rfl | ⟨q, hq, h⟩
      · exact h47 rfl
      · exact hc ((hn q hq).1.an c h)
  have hr : refsB.toList = [114, 101, 102, 115] := by rw [Lib.toList_data]; rfl
  refine ⟨?_, hs, by simpa using h1, by simp; omega, ?_, ?_, ?_, ?_⟩
  · rw [← size_list, he, hr]; simp
  · intro p hp
    rcases List.mem_cons.1 hp with rfl | hp
    · exact ⟨nice_refs, by decide⟩
    · exact hn p hp
  · refine split_val s refsB rest he (fun h => absurd (nice_refs.an _ h) (by decide)) (fun q hq h => absurd ((hn q hq).1.an _ h) (by decide)) (by omega) (by omega) _ (by simp)
  · rw [he, hr]; rfl
  · exact suffix_false s _ 46 [] (by omega) (by decide) (by rw [Lib.toList_data]) (hno 46 (by decide) (by decide))

theorem w64' (x : Int) (h0 : 0 ≤ x) (h1 : x ≤ 9223372036854775807) : wrap64 x = x := w64 x h0 h1
theorem fits_some (l : List ByteArray) (hl : l.length ≤ 9223372036854775806) (d : Nat) : ∀ (k i : Nat), i ≤ l.length → l.length - i = d → d < k → ∃ r, laws_zzFits16.l0 k l l.length i = some r := by
  induction d with
  | zero =>
    intro k i hi hd hk
    obtain ⟨k, rfl⟩ : ∃ m, k = m + 1 := ⟨k - 1, by omega⟩
    simp only [laws_zzFits16.l0]
    rw [if_neg (by omega)]
    exact ⟨_, rfl⟩
  | succ d ih =>
    intro k i hi hd hk
    obtain ⟨k, rfl⟩ : ∃ m, k = m + 1 := ⟨k - 1, by omega⟩
    obtain ⟨r, hr⟩ := ih k (i + 1) (by omega) (by omega) (by omega)
    have hr' : laws_zzFits16.l0 k l l.length ((i : Int) + 1) = some r := hr
    simp only [laws_zzFits16.l0]
    rw [if_pos (by omega), if_pos (by omega), if_pos (by omega), w64' _ (by omega) (by omega), hr']
    split <;> exact ⟨_, rfl⟩
theorem fits (l : List ByteArray) (hl : l.length ≤ 9223372036854775806) : ∃ r, laws_zzFits16.f (l.length + 1) l = some r := by
  unfold laws_zzFits16.f
  split
  · exact ⟨_, rfl⟩
  · exact fits_some l hl l.length (l.length + 1) 0 (by omega) (by omega) (by omega)

theorem toList_append (a b : ByteArray) : (a ++ b).toList = a.toList ++ b.toList := by
  rw [Lib.toList_data, Lib.toList_data, Lib.toList_data, ByteArray.data_append, Array.toList_append]
theorem next_name (nm : ByteArray) (l : List ByteArray) (p : ByteArray) (k : Nat) (hp : l[k]? = some p) (hn : Nice p) (hs : p.size ≤ 1000)
    (h : nm.toList = refsB.toList ++ flat (l.take k) ∧ nm.size ≤ 4 + k * 1001 ∧ ∀ q ∈ l.take k, Nice q ∧ q.size ≤ 2000) :
    (nm ++ ({ data := #[47] } ++ p)).toList = refsB.toList ++ flat (l.take (k + 1)) ∧ (nm ++ ({ data := #[47] } ++ p)).size ≤ 4 + (k + 1) * 1001 ∧ ∀ q ∈ l.take (k + 1), Nice q ∧ q.size ≤ 2000 := by
  obtain ⟨h1, h2, h3⟩ := h
  have ht : l.take (k + 1) = l.take k ++ [p] := by rw [List.take_add_one, hp]; rfl
  have hsl : (({ data := #[47] } : ByteArray)).toList = [47] := by rw [Lib.toList_data]
  have hss : (({ data := #[47] } : ByteArray)).size = 1 := rfl
  refine ⟨?_, ?_, ?_⟩
  · rw [toList_append, toList_append, h1, ht, hsl]
    simp [flat]
  · rw [ByteArray.size_append, ByteArray.size_append, hss]; omega
  · intro q hq
    rw [ht] at hq
    rcases List.mem_append.1 hq with hq | hq
    · exact h3 q hq
    · obtain rfl := List.mem_singleton.1 hq
      exact ⟨hn, by omega⟩

set_option maxHeartbeats 2000000 in
theorem law (A : Option Addr) (c : Nat) (l : List ByteArray) (w : World) (hr : Kd.C Kd.string w A l.length l) (hc : l.length ≤ c) (hl : l.length ≤ 9223372036854775806) (hsz : ∀ q ∈ l, q.size ≤ 9223372036854775807) :
    Calls Tryd.prog 3 #[.slice A l.length c] w fun e w' => e = .returned (.bool true) ∧ Below w.heap.size w w' := by
  have HR := Aside0.mk hr
  have HC := Aside0.mk hc
  obtain ⟨b, hb⟩ := fits l hl
  have hF := Aside0.mk hb
  have hS := Aside0.mk hsz
  clear hr hc hb hsz
  by_cases h0 : l = []
  · subst h0
    go_enter Tryd.func3, Tryd.ntmps3
    go_wp2_with ((go_at_call 4; refine (laws_zzFits16.calls _ _ _ _ _ _ HR.out HC.out hF.out).mono ?_); rintro e w' ⟨rfl, ⟨n, rfl⟩⟩; cases b)
    all_goals (go_ret; exact ⟨rfl, by repeat (first | exact Below.refl _ _ | apply pw_below_drewN)⟩)
  have hpos : 0 < l.length := List.length_pos_iff.2 h0
  have hz : ((l.length : Int) == 0) = false := beq_eq_false_iff_ne.2 (by omega)
  clear h0
  by_cases h100 : 100 < l.length
  · go_enter Tryd.func3, Tryd.ntmps3
    go_wp2_with ((go_at_call 4; with_reducible refine (laws_zzFits16.calls _ _ _ _ _ _ HR.out HC.out hF.out).mono ?_); rintro e w' ⟨rfl, ⟨n, rfl⟩⟩; cases b)
    all_goals (go_ret; exact ⟨rfl, by repeat (first | exact Below.refl _ _ | apply pw_below_drewN)⟩)
  go_enter Tryd.func3, Tryd.ntmps3
  go_wp2_with ((go_at_call 4; with_reducible refine (laws_zzFits16.calls _ _ _ _ _ _ HR.out HC.out hF.out).mono ?_); rintro e w' ⟨rfl, ⟨n, rfl⟩⟩; cases b)
  · go_ret
    exact ⟨rfl, by repeat (first | exact Below.refl _ _ | apply pw_below_drewN)⟩
  go_loopg [3, 19] l.length (fun g v3 v19 w' => ∃ (k : Nat) (nm : ByteArray), v19 = .int .i64 (k : Int) ∧ v3 = .string nm ∧ Aside0 (k + g = l.length) ∧
    Aside0 (nm.toList = refsB.toList ++ flat (l.take k) ∧ nm.size ≤ 4 + k * 1001 ∧ ∀ q ∈ l.take k, Nice q ∧ q.size ≤ 2000) ∧ Drawn0 w w')
  case atStart => exact ⟨0, refsB, rfl, rfl, ⟨by omega⟩, ⟨by simp [flat], by decide, by simp⟩, by repeat (first | exact Drawn0.refl _ | apply Drawn0.step)⟩
  case round =>
    obtain ⟨k, nm, rfl, rfl, hk, hN, ⟨n1, rfl⟩⟩ := hrel
    by_cases hlt : k < l.length
    · obtain ⟨g0, rfl⟩ : ∃ m, gk = m + 1 := ⟨gk - 1, by have := hk.out; omega⟩
      obtain ⟨ad, e, hx⟩ := Kd.at_string HR.out (k : Int) (by omega) (by omega)
      cases e
      rw [Int.toNat_natCast] at hx
      have hgp : l[k]? = some (rdOf ByteArray.empty l (k : Int)) := by
        unfold rdOf
        rw [Int.toNat_natCast, List.getD_eq_getElem?_getD, List.getElem?_eq_getElem hlt]
        rfl
      generalize rdOf ByteArray.empty l (k : Int) = p at hx hgp
      have hpz : p.size ≤ 9223372036854775807 := hS.out p (List.mem_of_getElem? hgp)
      have hgp' := Aside0.mk hgp
      clear hgp
      obtain ⟨b, hb, hbn⟩ := small_tells p hpz (p.size + 1) (by omega)
      have hb' := Aside0.mk hb
      have hbn' := Aside0.mk hbn
      clear hb hbn
      have hnz : nm.size ≤ 200000 := by have := hN.out.2.1; omega
      by_cases hbig : 1000 < p.size
      · go_wp2_with ((go_at_call 5; with_reducible refine (spec_Small.calls _ _ _ _ hb'.out).mono ?_); rintro e w' ⟨rfl, ⟨n, rfl⟩⟩; cases b)
        all_goals (go_ret; exact ⟨rfl, by repeat (first | exact Below.refl _ _ | apply pw_below_drewN)⟩)
      go_wp2_with ((go_at_call 5; with_reducible refine (spec_Small.calls _ _ _ _ hb'.out).mono ?_); rintro e w' ⟨rfl, ⟨n, rfl⟩⟩; cases b)
      · go_ret
        exact ⟨rfl, by repeat (first | exact Below.refl _ _ | apply pw_below_drewN)⟩
      · have hps : p.size ≤ 1000 := by omega
        go_roundg g0
        case measure => omega
        case rel =>
          refine ⟨k + 1, nm ++ ({ data := #[47] } ++ p), by go_num, rfl, ⟨by have := hk.out; omega⟩, ⟨?_⟩, by repeat (first | exact Drawn0.refl _ | apply Drawn0.step)⟩
          exact next_name nm l p k hgp'.out (by simpa using hbn'.out) hps hN.out
    · have hlk : k = l.length := by have := hk.out; omega
      have hG : Good nm (refsB :: l) := by
        obtain ⟨h1, h2, h3⟩ := hN.out
        rw [hlk, List.take_length] at h1 h3
        exact good_of nm l h1 (by omega) hpos (by omega) h3
      have hG' := Aside0.mk hG
      clear hG hlk
      go_wp2_with ((go_at_call 6; with_reducible refine (validRef _ _ _ hG'.out).mono ?_); rintro e w' ⟨rfl, hb⟩)
      go_ret
      exact ⟨rfl, below_then (pw_below_drewN (Below.refl w.heap.size w) _) (Nat.le_refl _) (by assumption)⟩

end Go.Proofs.YtjeaehefnpjabaaDoor.WalkV
