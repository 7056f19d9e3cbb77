-- WRITTEN BY A PROGRAM OF THIS SESSION, out of the loaded program, with words of the kit
import Derived.Test.YtddnepddilbikaaDoorProg
import Derived.Below
import Derived.Deep.Draws
import Derived.Deep.AppendLies
import Derived.Maps.AppendAt
import Derived.OwnWalk
import Derived.Laws.BytesArg
import Derived.Laws.MakeOwn
import Derived.Laws.OwnMore
import Derived.Deep.OwnRows
import Derived.Tactics
import Derived.Lib.ConvBytes
import Derived.Laws.Slices
import Derived.WalkKit
import Derived.KernelRfl
import Derived.RowKit3
import Derived.Deep.LoopGhost
import Derived.Deep.QuietTactic
import Derived.BigQuiet
import Derived.WideLaws
import Derived.Deep.DeepCutAuto
import Derived.Deep.CutBlock
import Derived.Deep.RegionHeld3
import Derived.Laws.Rows
import Derived.Lib.AppendStr
import Derived.ArgAppend
import Derived.Laws.IdiomCopy
import Derived.OrdersHeld
import Derived.Laws.BitsLemmas
import Derived.RowKit
import Derived.Test.YtddnepddilbikaaDoorWWords
import Derived.Test.YtddnepddilbikaaDoorWLast
import Derived.Test.YtddnepddilbikaaDoorWTab
import Derived.Test.YtddnepddilbikaaDoorWFour
import Derived.Test.YtddnepddilbikaaDoorWQPut
import Derived.Test.YtddnepddilbikaaDoorWApart
import Derived.Test.YtddnepddilbikaaDoorWArr
import Derived.Test.YtddnepddilbikaaDoorWZeros
import Derived.Test.YtddnepddilbikaaDoorWFoot
import Derived.Test.YtddnepddilbikaaDoorWKept
import Derived.Test.YtddnepddilbikaaDoorWShare
import Derived.Test.YtddnepddilbikaaDoorWN
import Derived.Test.YtddnepddilbikaaDoorWFootNe
import Derived.Test.YtddnepddilbikaaDoorWAt
import Derived.Test.YtddnepddilbikaaDoorWEqStruct
import Derived.Test.YtddnepddilbikaaDoorWRepsOne
import Derived.Test.YtddnepddilbikaaDoorWInv
import Derived.Test.YtddnepddilbikaaDoorWInvWords
import Derived.Test.YtddnepddilbikaaDoorWGuard
import Derived.Test.YtddnepddilbikaaDoorWNEv
import Derived.Test.YtddnepddilbikaaDoorWMore
namespace Go.Proofs.YtddnepddilbikaaDoor.QAll
open Go.RowKit Go.Proofs.YtddnepddilbikaaDoorW.PrintWords Go.Proofs.YtddnepddilbikaaDoorW.PrintLast Go.Proofs.YtddnepddilbikaaDoorW.PrintMore
attribute [local go_sem] max2_int min2_int max_two min_two max_three min_three max_four min_four   -- for this text's walks alone
set_option linter.unusedVariables false
set_option linter.unusedSimpArgs false



def errW : Option Int → Value
  | none => .nilIface
  | some c => .iface 0 (.int .i64 c)
theorem errW_none : errW none = .nilIface := rfl
theorem errW_some (c : Int) : errW (some c) = .iface 0 (.int .i64 c) := rfl

theorem info5 : (Tryd.prog.info? 5).map (fun i => (i.zero, i.size, i.bytes)) = some (some (.int .u8 0), 1, 1) := by kernel_rfl
theorem info9 : (Tryd.prog.info? 9).map (fun i => (i.zero, i.size, i.bytes)) = some (some (.string ⟨#[]⟩), 1, 16) := by kernel_rfl
-- the values' own types
/-! #### struct type 44 -/
structure S44 where
  f0 : ByteArray
  f1 : Int
  f2 : ByteArray
def z44 : S44 := ⟨(⟨#[]⟩ : ByteArray), (0 : Int), (⟨#[]⟩ : ByteArray)⟩
def k44 : Kd S44 := Kd.iso (Kd.pair Kd.string (Kd.pair (Kd.int .u32) Kd.string)) (fun x : S44 => (x.f0, x.f1, x.f2))
theorem k44_open {w : World} {x : S44} {cs : List Value} (h : k44.K w x cs) : cs = [.string x.f0, .int .u32 x.f1, .string x.f2] := by
  obtain ⟨_, _, rfl, rfl, ⟨_, _, rfl, rfl, rfl⟩⟩ := h
  exact rfl
theorem k44_openM {w : World} {base : Nat} {ok : Nat → Prop} {x : S44} {cs : List Value} (h : k44.M w base ok x cs) : cs = [.string x.f0, .int .u32 x.f1, .string x.f2] := by
  obtain ⟨_, _, rfl, rfl, ⟨_, _, rfl, rfl, rfl⟩⟩ := h
  exact rfl
theorem k44_mk (w : World) (x : S44)  : k44.K w x [.string x.f0, .int .u32 x.f1, .string x.f2] := ⟨[.string x.f0], [.int .u32 x.f1, .string x.f2], rfl, rfl, ⟨[.int .u32 x.f1], [.string x.f2], rfl, rfl, rfl⟩⟩
theorem k44_mkM (w : World) (base : Nat) (ok : Nat → Prop) (x : S44)  : k44.M w base ok x [.string x.f0, .int .u32 x.f1, .string x.f2] := ⟨[.string x.f0], [.int .u32 x.f1, .string x.f2], rfl, rfl, ⟨[.int .u32 x.f1], [.string x.f2], rfl, rfl, rfl⟩⟩
def rd_T44 (xs : List S44) (i : Int) : S44 := xs.getD i.toNat z44
theorem at_T44 {w : World} {A : Option Addr} {n : Nat} {xs : List S44} (h : Kd.C k44 w A n xs) (i : Int) (h0 : 0 ≤ i) (h1 : i < n) : ∃ ad , A = some ad ∧ w.cell? (ad.add (i.toNat * 3)) = some (.string (rd_T44 xs i).f0) ∧ w.cell? ⟨(ad.add (i.toNat * 3)).block, (ad.add (i.toNat * 3)).off + 1, none⟩ = some (.int .u32 (rd_T44 xs i).f1) ∧ w.cell? ⟨(ad.add (i.toNat * 3)).block, (ad.add (i.toNat * 3)).off + 2, none⟩ = some (.string (rd_T44 xs i).f2) := by
  obtain ⟨ad, c, e, _, hK, hc0⟩ := Kd.C_get h z44 i h0 h1
  have hc : ∀ j u, c[j]? = some u → w.cell? (ad.add (i.toNat * 3 + j)) = some u := hc0
  obtain rfl := k44_open hK
  exact ⟨ad, e, hc 0 _ rfl, by rw [← add_field _ _ 1 (by omega)]; exact hc 1 _ rfl, by rw [← add_field _ _ 2 (by omega)]; exact hc 2 _ rfl⟩

end Go.Proofs.YtddnepddilbikaaDoor.QAll
