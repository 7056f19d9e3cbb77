/- spec.OptionsOf, walked. -/
import Derived.Test.YtacndeejapfkiaaDoorHandG
set_option linter.unusedVariables false
set_option linter.unusedSimpArgs false
namespace Go.Proofs.YtacndeejapfkiaaDoor.HandH
open Go.RowKit Go.Proofs.YtacndeejapfkiaaDoorW.PrintWords Go.Proofs.YtacndeejapfkiaaDoorW.PrintLast Go.Proofs.YtacndeejapfkiaaDoorW.PrintMore Go.Proofs.YtacndeejapfkiaaDoor.QAll Txt Ptr SepK HandA HandB HandC HandD HandE HandF HandG

/-- os are the options of the section, or of the part of it, as the specification finds them. -/
def SpecOpt (l : List S36) (sec sub : ByteArray) (os : List S42) : Prop :=
  (∃ x ∈ l, x.f0 = sec ∧ sub.toList = [] ∧ os = x.f1) ∨ (∃ x ∈ l, x.f0 = sec ∧ sub.toList ≠ [] ∧ ∃ p ∈ x.f2, p.f0 = sub ∧ os = p.f1) ∨ (os = [] ∧ ∀ x ∈ l, x.f0 = sec → sub.toList ≠ [] ∧ ∀ p ∈ x.f2, p.f0 ≠ sub)
theorem nilC (W : World) : Kd.C k42 W none ([] : List S42).length [] := by
  obtain ⟨A, c, h, _, hC⟩ := Kd.R_reads (Kd.R_nil k42 42 W 0 (fun _ => True))
  cases h
  exact hC

set_option maxHeartbeats 8000000 in
set_option maxRecDepth 100000 in
theorem optionsOf_ (A : Option Addr) (c : Nat) (l : List S36) (sec sub : ByteArray) (w : World) (hC : Kd.C k36 w A l.length l) (hc : l.length ≤ c) (hz : Sized l) :
    Calls Tryd.prog 10 #[.slice A l.length c, .string sec, .string sub] w fun e w' => ∃ os B b, e = .returned (.slice B os.length b) ∧ os.length ≤ b ∧ (∀ W, Below w.heap.size w W → Kd.C k42 W B os.length os) ∧ SpecOpt l sec sub os ∧ Below w.heap.size w w' := by
  have hu36 := Tryd.underlying36
  have hu46 := Tryd.underlying46
  have HC := Aside0.mk hC
  have HZ := Aside0.mk hz
  clear hC hz
  go_enter Tryd.func10, Tryd.ntmps10
  go_wp2
  go_loopg [13] l.length (fun gk v13 w' => ∃ (k : Nat), v13 = .int .i64 (k : Int) ∧ Aside0 (k + gk = l.length) ∧ Aside0 (Below w.heap.size w w') ∧ Aside0 (∀ x ∈ l.take k, x.f0 = sec → sub.toList ≠ [] ∧ ∀ p ∈ x.f2, p.f0 ≠ sub))
  case atStart => exact ⟨0, rfl, ⟨by omega⟩, ⟨Below.refl _ _⟩, ⟨fun x hx => by simp at hx⟩⟩
  case round =>
    obtain ⟨k, rfl, HK, HB, HN⟩ := hrel
    by_cases hlt : k < l.length
    rotate_left
    · have hkn : k = l.length := by have := HK.out; omega
      have hN := HN.out
      rw [hkn, List.take_length] at hN
      have HN2 := Aside0.mk hN
      clear hN
      go_wp2
      go_ret
      exact ⟨[], none, 0, rfl, Nat.le_refl _, fun W _ => nilC W, Or.inr (Or.inr ⟨rfl, HN2.out⟩), HB.out⟩
    obtain ⟨g0, rfl⟩ : ∃ m, gk = m + 1 := ⟨gk - 1, by have := HK.out; omega⟩
    have hk1 : (k : Int) < (l.length : Int) := by omega
    have hk2 : (k : Int) < 101 := by have := HZ.out.n; omega
    obtain ⟨ad, A1, c1, A2, c2, e, hx0, hx1, hx2, hc1, hC1, hc2, hC2⟩ := at_T36 HC.out (k : Int) (by omega) (by omega)
    cases e
    rw [Int.toNat_natCast] at hx0 hx1 hx2
    replace hx0 := pw_cell_below HB.out hx0
    replace hx1 := pw_cell_below HB.out hx1
    replace hx2 := pw_cell_below HB.out hx2
    have hgt := get36 l k hlt
    generalize rd_T36 l (k : Int) = x at hx0 hx1 hx2 hc1 hC1 hc2 hC2 hgt
    have HMEM := Aside0.mk (List.mem_of_getElem? hgt)
    have HTK : Aside0 (l.take (k + 1) = l.take k ++ [x]) := ⟨by rw [List.take_add_one, hgt]; rfl⟩
    have HO : Aside0 (∀ W, Below w.heap.size w W → Kd.C k42 W A1 x.f1.length x.f1) := ⟨fun W hb => Kd.C_below hC1 hb⟩
    have HD : Aside0 (∀ W, Below w.heap.size w W → Kd.C k46 W A2 x.f2.length x.f2) := ⟨fun W hb => Kd.C_below hC2 hb⟩
    have HC1 := Aside0.mk hc1
    clear hgt hC1 hC2 hc1
    go_upto_region 4 with fail
    have hF : (wr.alloc (.cells #[.string x.f0, .slice A1 x.f1.length c1, .slice A2 x.f2.length c2] 36)).heap[wr.heap.size]? = some (.cells #[.string x.f0, .slice A1 x.f1.length c1, .slice A2 x.f2.length c2] 36 (0, 0)) := blk_new _ _
    have HB5 : Aside0 (Below w.heap.size w (wr.alloc (.cells #[.string x.f0, .slice A1 x.f1.length c1, .slice A2 x.f2.length c2] 36))) := ⟨HB.out.alloc HB.out.size _⟩
    clear hx0 hx1 hx2
    generalize wr.alloc (.cells #[.string x.f0, .slice A1 x.f1.length c1, .slice A2 x.f2.length c2] 36) = w5 at hF HB5 ⊢
    generalize wr.heap.size = gf at hF ⊢
    have hy0 : w5.cell? ⟨gf, 0, none⟩ = some (.string x.f0) := (blk_cell hF 0).trans rfl
    have hy1 : w5.cell? ⟨gf, 1, none⟩ = some (.slice A1 x.f1.length c1) := (blk_cell hF 1).trans rfl
    have hy2 : w5.cell? ⟨gf, 2, none⟩ = some (.slice A2 x.f2.length c2) := (blk_cell hF 2).trans rfl
    clear hF
    by_cases hxs : x.f0 = sec
    rotate_left
    · have hd1 : decide (x.f0 = sec) = false := decide_eq_false hxs
      have hq1 : (x.f0.toList == sec.toList) = false := by simpa using fun e => hxs (ba_ext e)
      have hd2 : decide (¬ x.f0 = sec) = true := decide_eq_true hxs
      have HR : Aside0 (∀ y ∈ l.take (k + 1), y.f0 = sec → sub.toList ≠ [] ∧ ∀ p ∈ y.f2, p.f0 ≠ sub) := ⟨fun y hy he => by
        rw [HTK.out] at hy
        rcases List.mem_append.1 hy with hy | hy
        · exact HN.out y hy he
        · rw [List.mem_singleton.1 hy] at he; exact absurd he hxs⟩
      go_wp2
      go_roundg g0
      case measure => omega
      case rel => exact ⟨k + 1, by push_cast; rfl, ⟨by have := HK.out; omega⟩, HB5, HR⟩
    have hd1 : decide (x.f0 = sec) = true := decide_eq_true hxs
    have hq1 : (x.f0.toList == sec.toList) = true := by simp [hxs]
    have hq2 : x.f0.toList = sec.toList := by rw [hxs]
    have hd2 : decide (¬ x.f0 = sec) = false := decide_eq_false (fun h => h hxs)
    have HXS := Aside0.mk hxs
    clear hq2 hxs
    by_cases hsub : sub.toList = []
    · have hs1 : sub.toList.isEmpty = true := by rw [hsub]; rfl
      have HSUB := Aside0.mk hsub
      clear hsub
      go_wp2
      go_ret
      exact ⟨x.f1, A1, c1, rfl, HC1.out, HO.out, Or.inl ⟨x, HMEM.out, HXS.out, HSUB.out, rfl⟩, HB5.out⟩
    have hs1 : sub.toList.isEmpty = false := by cases h : sub.toList with | nil => exact absurd h hsub | cons _ _ => rfl
    have HSUB := Aside0.mk hsub
    go_wp2
    go_loopg [28] x.f2.length (fun gj v28 w' => ∃ (j : Nat), v28 = .int .i64 (j : Int) ∧ Aside0 (j + gj = x.f2.length) ∧ Aside0 (Below w.heap.size w w') ∧ Aside0 (∀ p ∈ x.f2.take j, p.f0 ≠ sub))
    case atStart => exact ⟨0, rfl, ⟨by omega⟩, HB5, ⟨fun x hx => by simp at hx⟩⟩
    case round =>
      obtain ⟨j, rfl, HJ, HBJ, HNJ⟩ := hrel
      by_cases hjt : j < x.f2.length
      rotate_left
      · have hjn : j = x.f2.length := by have := HJ.out; omega
        have hN := HNJ.out
        rw [hjn, List.take_length] at hN
        have HR : Aside0 (∀ y ∈ l.take (k + 1), y.f0 = sec → sub.toList ≠ [] ∧ ∀ p ∈ y.f2, p.f0 ≠ sub) := ⟨fun y hy he => by
          rw [HTK.out] at hy
          rcases List.mem_append.1 hy with hy | hy
          · exact HN.out y hy he
          · rw [List.mem_singleton.1 hy]; exact ⟨HSUB.out, hN⟩⟩
        clear hN
        go_wp2
        go_roundg g0
        case measure => omega
        case rel => exact ⟨k + 1, by push_cast; rfl, ⟨by have := HK.out; omega⟩, HBJ, HR⟩
      obtain ⟨gj0, rfl⟩ : ∃ m, gk = m + 1 := ⟨gk - 1, by have := HJ.out; omega⟩
      have hj1 : (j : Int) < (x.f2.length : Int) := by omega
      have hwj : wrap64 ((j : Int) + 1) = (j : Int) + 1 := by have := HZ.out.b x HMEM.out; unfold wrap64; omega
      obtain ⟨adj, B1, b1, e, hy0', hy1', hb1, hC8⟩ := at_T46 (HD.out _ HBJ.out) (j : Int) (by omega) (by omega)
      cases e
      rw [Int.toNat_natCast] at hy0' hy1'
      obtain ⟨adj', B1', b1', e', _, hz1, hb1', hC8'⟩ := at_T46 (HD.out w (Below.refl _ _)) (j : Int) (by omega) (by omega)
      cases e'
      rw [Int.toNat_natCast] at hz1
      have hzz := (pw_cell_below HBJ.out hz1).symm.trans hy1'
      injection hzz with hzz
      injection hzz with hzA _ hzc
      subst hzA
      subst hzc
      have hgt := get46 x.f2 j hjt
      generalize rd_T46 x.f2 (j : Int) = y at hy0' hy1' hb1 hC8 hC8' hz1 hb1' hgt
      have HMJ := Aside0.mk (List.mem_of_getElem? hgt)
      have HTJ : Aside0 (x.f2.take (j + 1) = x.f2.take j ++ [y]) := ⟨by rw [List.take_add_one, hgt]; rfl⟩
      have HOJ : Aside0 (∀ W, Below w.heap.size w W → Kd.C k42 W B1' y.f1.length y.f1) := ⟨fun W hb => Kd.C_below hC8' hb⟩
      have HB1 := Aside0.mk hb1
      have HB7 : Aside0 (∀ o, Below w.heap.size w (wr.alloc o)) := ⟨fun o => HBJ.out.alloc HBJ.out.size o⟩
      clear hgt hb1 hC8 hC8' hz1 hb1'
      by_cases hys : y.f0 = sub
      · have hd3 : decide (y.f0 = sub) = true := decide_eq_true hys
        have hq3 : (y.f0.toList == sub.toList) = true := by simp [hys]
        have HYS := Aside0.mk hys
        clear hys
        go_wp2
        go_ret
        exact ⟨y.f1, B1', b1', rfl, HB1.out, HOJ.out, Or.inr (Or.inl ⟨x, HMEM.out, HXS.out, HSUB.out, y, HMJ.out, HYS.out, rfl⟩), HB7.out _⟩
      · have hd3 : decide (y.f0 = sub) = false := decide_eq_false hys
        have hq3 : (y.f0.toList == sub.toList) = false := by simpa using fun e => hys (ba_ext e)
        have HRJ : Aside0 (∀ p ∈ x.f2.take (j + 1), p.f0 ≠ sub) := ⟨fun p hp => by
          rw [HTJ.out] at hp
          rcases List.mem_append.1 hp with hp | hp
          · exact HNJ.out p hp
          · rw [List.mem_singleton.1 hp]; exact hys⟩
        clear hys
        go_wp2
        go_roundg gj0
        case measure => omega
        case rel => exact ⟨j + 1, by push_cast; rfl, ⟨by have := HJ.out; omega⟩, ⟨HB7.out _⟩, HRJ⟩

/-- Both find the same options, where names are different. -/
structure Apart (l : List S36) : Prop where
  s : ∀ (i j : Nat) (x y : S36), l[i]? = some x → l[j]? = some y → x.f0 = y.f0 → i = j
  b : ∀ x ∈ l, ∀ (i j : Nat) (p q : S46), x.f2[i]? = some p → x.f2[j]? = some q → p.f0 = q.f0 → i = j
theorem Apart.sec {l : List S36} (h : Apart l) {x y : S36} (hx : x ∈ l) (hy : y ∈ l) (e : x.f0 = y.f0) : x = y := by
  obtain ⟨i, hi⟩ := List.getElem?_of_mem hx
  obtain ⟨j, hj⟩ := List.getElem?_of_mem hy
  have := h.s i j x y hi hj e
  subst this
  rw [hi] at hj
  exact Option.some.inj hj
theorem Apart.sub {l : List S36} (h : Apart l) {x : S36} (hx : x ∈ l) {p q : S46} (hp : p ∈ x.f2) (hq : q ∈ x.f2) (e : p.f0 = q.f0) : p = q := by
  obtain ⟨i, hi⟩ := List.getElem?_of_mem hp
  obtain ⟨j, hj⟩ := List.getElem?_of_mem hq
  have := h.b x hx i j p q hi hj e
  subst this
  rw [hi] at hj
  exact Option.some.inj hj
theorem same_options {l : List S36} {us sec sub : ByteArray} {os os' : List S42} (ha : Apart l) (h : OptIs l us sec sub os) (h' : SpecOpt l us sub os') : os = os' := by
  obtain ⟨x, hx, hs⟩ := h
  rcases hx with ⟨i, hi, hxu⟩ | ⟨rfl, hno⟩
  · have hm := List.mem_of_getElem? hi
    rcases hs with ⟨hs, rfl⟩ | ⟨hs, p, hp, rfl⟩
    · rcases h' with ⟨y, hy, hyu, _, rfl⟩ | ⟨y, hy, hyu, hs', _⟩ | ⟨rfl, hn⟩
      · rw [ha.sec hm hy (hxu.trans hyu.symm)]
      · exact absurd hs hs'
      · exact absurd hs (hn x hm hxu).1
    · rcases h' with ⟨y, hy, hyu, hs', _⟩ | ⟨y, hy, hyu, _, q, hq, hqs, rfl⟩ | ⟨rfl, hn⟩
      · exact absurd hs' hs
      · have := ha.sec hm hy (hxu.trans hyu.symm)
        subst this
        rcases hp with ⟨j, hj, hps⟩ | ⟨rfl, hpn⟩
        · rw [ha.sub hm (List.mem_of_getElem? hj) hq (hps.trans hqs.symm)]
        · exact absurd hqs (hpn q hq)
      · rcases hp with ⟨j, hj, hps⟩ | ⟨rfl, hpn⟩
        · exact absurd hps ((hn x hm hxu).2 p (List.mem_of_getElem? hj))
        · rfl
  · have e1 : os = [] := by
      rcases hs with ⟨_, h⟩ | ⟨_, p, hp, h⟩
      · exact h
      · rcases hp with ⟨j, hj, _⟩ | ⟨rfl, _⟩
        · simp at hj
        · exact h
    subst e1
    rcases h' with ⟨y, hy, hyu, _⟩ | ⟨y, hy, hyu, _⟩ | ⟨h, _⟩
    · exact absurd hyu (hno y hy)
    · exact absurd hyu (hno y hy)
    · exact h.symm
#print axioms optionsOf_
end Go.Proofs.YtacndeejapfkiaaDoor.HandH
