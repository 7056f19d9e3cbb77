-- WRITTEN BY A PROGRAM OF THIS SESSION, out of the loaded program, with words of the kit
import Derived.Test.YtddnepddilbikaaDoorQAllx0
import Derived.Test.YtddnepddilbikaaDoorQAllx1
import Derived.Test.YtddnepddilbikaaDoorQAllx4
namespace Go.Proofs.YtddnepddilbikaaDoor.QAll
open Go.RowKit Go.Proofs.YtddnepddilbikaaDoorW.PrintWords Go.Proofs.YtddnepddilbikaaDoorW.PrintLast Go.Proofs.YtddnepddilbikaaDoorW.PrintMore
attribute [local go_sem] max2_int min2_int max_two min_two max_three min_three max_four min_four   -- for this text's walks alone
set_option linter.unusedVariables false
set_option linter.unusedSimpArgs false

/-! ### spec_IsTag: function 12 -/
def spec_IsTag.l0 : Nat → Int → Int → ByteArray → Int → ByteArray → ByteArray → ByteArray → Int → Int → ByteArray → ByteArray → Option (Bool)
  | 0, _, _, _, _, _, _, _, _, _, _, _ => none
  | k + 1, x10, x11, x153000, x153001, x153002, x153003, x153004, x153005, x153006, x153007, x153008 => if x11 < x10 then (if 0 ≤ x11 then (if x11 < (x153007.size : Int) then (if (bt x153007 x11) = 45 then (some false) else (spec_IsTag.l0 k x10 (wrap64 (x11 + 1)) x153000 x153001 x153002 x153003 x153004 x153005 x153006 x153007 x153008)) else (none)) else (none)) else ((spec_IsName40.f k x153000).bind fun t153 => (if t153 = true then ((spec_ObName.f x153001).bind fun t154 => (if t154.toList = ([] : List UInt8) then (some false) else (if x153002.toList = ([] : List UInt8) then (some false) else ((spec_IsPlain.f k x153002).bind fun t155 => (if t155 = true then ((spec_IsWho.f k x153003 x153004 x153005 x153006).bind fun t156 => (if t156 = true then (some (x153008.toList.isEmpty)) else (some false))) else (some false)))))) else (some false)))
def spec_IsTag.f (k : Nat) (a0_0 : ByteArray) (a0_1 : Int) (a0_2 : ByteArray) (a0_3 : ByteArray) (a0_4 : ByteArray) (a0_5 : Int) (a0_6 : Int) (a0_7 : ByteArray) (a0_8 : ByteArray) : Option (Bool) := if (a0_7.size : Int) > 1000000 then (some false) else (spec_IsTag.l0 k (a0_7.size : Int) 0 a0_0 a0_1 a0_2 a0_3 a0_4 a0_5 a0_6 a0_7 a0_8)
theorem spec_IsTag.mono_l : ∀ k, (∀ y0 y1 y2 y3 y4 y5 y6 y7 y8 y9 y10, LeO (spec_IsTag.l0 k y0 y1 y2 y3 y4 y5 y6 y7 y8 y9 y10) (spec_IsTag.l0 (k + 1) y0 y1 y2 y3 y4 y5 y6 y7 y8 y9 y10))
  | 0 => fun _ _ _ _ _ _ _ _ _ _ _ r h => by simp [spec_IsTag.l0] at h
  | k + 1 => by
    have ih0 := spec_IsTag.mono_l k
    · intro y0 y1 y2 y3 y4 y5 y6 y7 y8 y9 y10
      unfold spec_IsTag.l0
      repeat' first
      | (with_reducible exact ih0 _ _ _ _ _ _ _ _ _ _ _)
      | (with_reducible exact spec_IsName40.mono _ _)
      | (with_reducible exact spec_IsPlain.mono _ _)
      | (with_reducible exact spec_IsWho.mono _ _ _ _ _)
      | (with_reducible exact LeO.refl _)
      | (with_reducible exact LeO.none _)
      | (with_reducible refine LeO.ite ?_ ?_)
      | (with_reducible refine LeO.bind ?_ (fun _ => ?_))
      | exact ih0 _ _ _ _ _ _ _ _ _ _ _
      | exact spec_IsName40.mono _ _
      | exact spec_IsPlain.mono _ _
      | exact spec_IsWho.mono _ _ _ _ _
      | exact LeO.none _
      | refine LeO.ite ?_ ?_
      | refine LeO.bind ?_ (fun _ => ?_)
theorem spec_IsTag.mono : ∀ a0 a1 a2 a3 a4 a5 a6 a7 a8 k, LeO (spec_IsTag.f k a0 a1 a2 a3 a4 a5 a6 a7 a8) (spec_IsTag.f (k + 1) a0 a1 a2 a3 a4 a5 a6 a7 a8) := by
  intro a0 a1 a2 a3 a4 a5 a6 a7 a8 k
  have ih0 := spec_IsTag.mono_l k
  unfold spec_IsTag.f
  repeat' first
      | (with_reducible exact ih0 _ _ _ _ _ _ _ _ _ _ _)
      | (with_reducible exact spec_IsName40.mono _ _)
      | (with_reducible exact spec_IsPlain.mono _ _)
      | (with_reducible exact spec_IsWho.mono _ _ _ _ _)
      | (with_reducible exact LeO.refl _)
      | (with_reducible exact LeO.none _)
      | (with_reducible refine LeO.ite ?_ ?_)
      | (with_reducible refine LeO.bind ?_ (fun _ => ?_))
      | exact ih0 _ _ _ _ _ _ _ _ _ _ _
      | exact spec_IsName40.mono _ _
      | exact spec_IsPlain.mono _ _
      | exact spec_IsWho.mono _ _ _ _ _
      | exact LeO.none _
      | refine LeO.ite ?_ ?_
      | refine LeO.bind ?_ (fun _ => ?_)
/-! ### spec_two: function 68 -/
def spec_two.f (a0 : Int) : Option (ByteArray) := some (strOfNums (([(wrap64 (48 + (Int.tmod (wrap64 (Int.tdiv a0 10)) 10))) % 256, (wrap64 (48 + (Int.tmod a0 10))) % 256] : List Int)))
/-! ### spec_ZoneText: function 58 -/
def spec_ZoneText.f (a0 : Int) : Option (ByteArray) := if a0 < 0 then ((spec_two.f (wrap64 (Int.tdiv (wrap64 (-a0)) 3600))).bind fun t160 => (if 1 + t160.size ≤ 9223372036854775807 then ((spec_two.f (Int.tmod (wrap64 (Int.tdiv (wrap64 (-a0)) 60)) 60)).bind fun t161 => (if ((⟨#[45]⟩ : ByteArray) ++ t160).size + t161.size ≤ 9223372036854775807 then (some (((⟨#[45]⟩ : ByteArray) ++ t160) ++ t161)) else (none))) else (none))) else ((spec_two.f (wrap64 (Int.tdiv a0 3600))).bind fun t162 => (if 1 + t162.size ≤ 9223372036854775807 then ((spec_two.f (Int.tmod (wrap64 (Int.tdiv a0 60)) 60)).bind fun t163 => (if ((⟨#[43]⟩ : ByteArray) ++ t162).size + t163.size ≤ 9223372036854775807 then (some (((⟨#[43]⟩ : ByteArray) ++ t162) ++ t163)) else (none))) else (none)))
end Go.Proofs.YtddnepddilbikaaDoor.QAll
