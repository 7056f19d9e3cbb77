-- WRITTEN BY A PROGRAM OF THIS SESSION, out of the loaded program, with words of the kit
import Derived.Test.YtcokggnbgakonaaDoorProg
import Derived.Below
import Derived.Deep.Draws
import Derived.Deep.AppendLies
import Derived.Maps.AppendAt
import Derived.OwnWalk
import Derived.Laws.BytesArg
import Derived.Laws.MakeOwn
import Derived.Laws.OwnMore
import Derived.Deep.OwnRows
import Derived.Tactics
import Derived.Lib.ConvBytes
import Derived.Laws.Slices
import Derived.WalkKit
import Derived.KernelRfl
import Derived.RowKit3
import Derived.Deep.LoopGhost
import Derived.Deep.QuietTactic
import Derived.BigQuiet
import Derived.WideLaws
import Derived.Deep.DeepCutAuto
import Derived.Deep.CutBlock
import Derived.Deep.RegionHeld3
import Derived.Laws.Rows
import Derived.Lib.AppendStr
import Derived.ArgAppend
import Derived.Laws.IdiomCopy
import Derived.OrdersHeld
import Derived.Laws.BitsLemmas
import Derived.RowKit
import Derived.Test.YtcokggnbgakonaaDoorWWords
import Derived.Test.YtcokggnbgakonaaDoorWLast
import Derived.Test.YtcokggnbgakonaaDoorWTab
import Derived.Test.YtcokggnbgakonaaDoorWFour
import Derived.Test.YtcokggnbgakonaaDoorWQPut
import Derived.Test.YtcokggnbgakonaaDoorWApart
import Derived.Test.YtcokggnbgakonaaDoorWArr
import Derived.Test.YtcokggnbgakonaaDoorWZeros
import Derived.Test.YtcokggnbgakonaaDoorWFoot
import Derived.Test.YtcokggnbgakonaaDoorWKept
import Derived.Test.YtcokggnbgakonaaDoorWShare
import Derived.Test.YtcokggnbgakonaaDoorWN
import Derived.Test.YtcokggnbgakonaaDoorWFootNe
import Derived.Test.YtcokggnbgakonaaDoorWAt
import Derived.Test.YtcokggnbgakonaaDoorWEqStruct
import Derived.Test.YtcokggnbgakonaaDoorWRepsOne
import Derived.Test.YtcokggnbgakonaaDoorWInv
import Derived.Test.YtcokggnbgakonaaDoorWInvWords
import Derived.Test.YtcokggnbgakonaaDoorWGuard
import Derived.Test.YtcokggnbgakonaaDoorWNEv
import Derived.Test.YtcokggnbgakonaaDoorWMore
namespace Go.Proofs.YtcokggnbgakonaaDoor.QAll
open Go.RowKit Go.Proofs.YtcokggnbgakonaaDoorW.PrintWords Go.Proofs.YtcokggnbgakonaaDoorW.PrintLast Go.Proofs.YtcokggnbgakonaaDoorW.PrintMore
attribute [local go_sem] max2_int min2_int max_two min_two max_three min_three max_four min_four   -- for this text's walks alone
set_option linter.unusedVariables false
set_option linter.unusedSimpArgs false



def errW : Option Int → Value
  | none => .nilIface
  | some c => .iface 0 (.int .i64 c)
theorem errW_none : errW none = .nilIface := rfl
theorem errW_some (c : Int) : errW (some c) = .iface 0 (.int .i64 c) := rfl

theorem info28 : (Tryd.prog.info? 28).map (fun i => (i.zero, i.size, i.bytes)) = some (some (.agg #[(.int .i64 0), (.int .i64 0)]), 2, 16) := by kernel_rfl
-- the values' own types
/-! #### struct type 28 -/
structure S28 where
  f0 : Int
  f1 : Int
def z28 : S28 := ⟨(0 : Int), (0 : Int)⟩
def k28 : Kd S28 := Kd.iso (Kd.pair (Kd.int .i64) (Kd.int .i64)) (fun x : S28 => (x.f0, x.f1))
theorem k28_open {w : World} {x : S28} {cs : List Value} (h : k28.K w x cs) : cs = [.int .i64 x.f0, .int .i64 x.f1] := by
  obtain ⟨_, _, rfl, rfl, rfl⟩ := h
  exact rfl
theorem k28_openM {w : World} {base : Nat} {ok : Nat → Prop} {x : S28} {cs : List Value} (h : k28.M w base ok x cs) : cs = [.int .i64 x.f0, .int .i64 x.f1] := by
  obtain ⟨_, _, rfl, rfl, rfl⟩ := h
  exact rfl
theorem k28_mk (w : World) (x : S28)  : k28.K w x [.int .i64 x.f0, .int .i64 x.f1] := ⟨[.int .i64 x.f0], [.int .i64 x.f1], rfl, rfl, rfl⟩
theorem k28_mkM (w : World) (base : Nat) (ok : Nat → Prop) (x : S28)  : k28.M w base ok x [.int .i64 x.f0, .int .i64 x.f1] := ⟨[.int .i64 x.f0], [.int .i64 x.f1], rfl, rfl, rfl⟩
def rd_T28 (xs : List S28) (i : Int) : S28 := xs.getD i.toNat z28
theorem at_T28 {w : World} {A : Option Addr} {n : Nat} {xs : List S28} (h : Kd.C k28 w A n xs) (i : Int) (h0 : 0 ≤ i) (h1 : i < n) : ∃ ad , A = some ad ∧ w.cell? (ad.add (i.toNat * 2)) = some (.int .i64 (rd_T28 xs i).f0) ∧ w.cell? ⟨(ad.add (i.toNat * 2)).block, (ad.add (i.toNat * 2)).off + 1, none⟩ = some (.int .i64 (rd_T28 xs i).f1) := by
  obtain ⟨ad, c, e, _, hK, hc0⟩ := Kd.C_get h z28 i h0 h1
  have hc : ∀ j u, c[j]? = some u → w.cell? (ad.add (i.toNat * 2 + j)) = some u := hc0
  obtain rfl := k28_open hK
  exact ⟨ad, e, hc 0 _ rfl, by rw [← add_field _ _ 1 (by omega)]; exact hc 1 _ rfl⟩

/-! #### struct type 31 -/
structure S31 where
  f0 : S28
  f1 : S28
  f2 : Int
  f3 : Int
  f4 : Int
  f5 : Int
  f6 : Int
  f7 : Int
  f8 : ByteArray
  f9 : ByteArray
  f10 : Int
  f11 : Bool
  f12 : Bool
def z31 : S31 := ⟨z28, z28, (0 : Int), (0 : Int), (0 : Int), (0 : Int), (0 : Int), (0 : Int), (⟨#[]⟩ : ByteArray), (⟨#[]⟩ : ByteArray), (0 : Int), false, false⟩
def k31 : Kd S31 := Kd.iso (Kd.pair k28 (Kd.pair k28 (Kd.pair (Kd.int .u32) (Kd.pair (Kd.int .u32) (Kd.pair (Kd.int .u32) (Kd.pair (Kd.int .u32) (Kd.pair (Kd.int .u32) (Kd.pair (Kd.int .u32) (Kd.pair Kd.string (Kd.pair Kd.string (Kd.pair (Kd.int .i64) (Kd.pair Kd.bool Kd.bool)))))))))))) (fun x : S31 => (x.f0, x.f1, x.f2, x.f3, x.f4, x.f5, x.f6, x.f7, x.f8, x.f9, x.f10, x.f11, x.f12))
theorem k31_open {w : World} {x : S31} {cs : List Value} (h : k31.K w x cs) : cs = [.int .i64 x.f0.f0, .int .i64 x.f0.f1, .int .i64 x.f1.f0, .int .i64 x.f1.f1, .int .u32 x.f2, .int .u32 x.f3, .int .u32 x.f4, .int .u32 x.f5, .int .u32 x.f6, .int .u32 x.f7, .string x.f8, .string x.f9, .int .i64 x.f10, .bool x.f11, .bool x.f12] := by
  obtain ⟨_, _, rfl, s0, ⟨_, _, rfl, s2, ⟨_, _, rfl, rfl, ⟨_, _, rfl, rfl, ⟨_, _, rfl, rfl, ⟨_, _, rfl, rfl, ⟨_, _, rfl, rfl, ⟨_, _, rfl, rfl, ⟨_, _, rfl, rfl, ⟨_, _, rfl, rfl, ⟨_, _, rfl, rfl, ⟨_, _, rfl, rfl, rfl⟩⟩⟩⟩⟩⟩⟩⟩⟩⟩⟩⟩ := h
  obtain rfl := k28_open s0
  obtain rfl := k28_open s2
  exact rfl
theorem k31_openM {w : World} {base : Nat} {ok : Nat → Prop} {x : S31} {cs : List Value} (h : k31.M w base ok x cs) : cs = [.int .i64 x.f0.f0, .int .i64 x.f0.f1, .int .i64 x.f1.f0, .int .i64 x.f1.f1, .int .u32 x.f2, .int .u32 x.f3, .int .u32 x.f4, .int .u32 x.f5, .int .u32 x.f6, .int .u32 x.f7, .string x.f8, .string x.f9, .int .i64 x.f10, .bool x.f11, .bool x.f12] := by
  obtain ⟨_, _, rfl, s0, ⟨_, _, rfl, s2, ⟨_, _, rfl, rfl, ⟨_, _, rfl, rfl, ⟨_, _, rfl, rfl, ⟨_, _, rfl, rfl, ⟨_, _, rfl, rfl, ⟨_, _, rfl, rfl, ⟨_, _, rfl, rfl, ⟨_, _, rfl, rfl, ⟨_, _, rfl, rfl, ⟨_, _, rfl, rfl, rfl⟩⟩⟩⟩⟩⟩⟩⟩⟩⟩⟩⟩ := h
  obtain rfl := k28_openM s0
  obtain rfl := k28_openM s2
  exact rfl
theorem k31_mk (w : World) (x : S31)  : k31.K w x [.int .i64 x.f0.f0, .int .i64 x.f0.f1, .int .i64 x.f1.f0, .int .i64 x.f1.f1, .int .u32 x.f2, .int .u32 x.f3, .int .u32 x.f4, .int .u32 x.f5, .int .u32 x.f6, .int .u32 x.f7, .string x.f8, .string x.f9, .int .i64 x.f10, .bool x.f11, .bool x.f12] := ⟨[.int .i64 x.f0.f0, .int .i64 x.f0.f1], [.int .i64 x.f1.f0, .int .i64 x.f1.f1, .int .u32 x.f2, .int .u32 x.f3, .int .u32 x.f4, .int .u32 x.f5, .int .u32 x.f6, .int .u32 x.f7, .string x.f8, .string x.f9, .int .i64 x.f10, .bool x.f11, .bool x.f12], rfl, (k28_mk w x.f0 ), ⟨[.int .i64 x.f1.f0, .int .i64 x.f1.f1], [.int .u32 x.f2, .int .u32 x.f3, .int .u32 x.f4, .int .u32 x.f5, .int .u32 x.f6, .int .u32 x.f7, .string x.f8, .string x.f9, .int .i64 x.f10, .bool x.f11, .bool x.f12], rfl, (k28_mk w x.f1 ), ⟨[.int .u32 x.f2], [.int .u32 x.f3, .int .u32 x.f4, .int .u32 x.f5, .int .u32 x.f6, .int .u32 x.f7, .string x.f8, .string x.f9, .int .i64 x.f10, .bool x.f11, .bool x.f12], rfl, rfl, ⟨[.int .u32 x.f3], [.int .u32 x.f4, .int .u32 x.f5, .int .u32 x.f6, .int .u32 x.f7, .string x.f8, .string x.f9, .int .i64 x.f10, .bool x.f11, .bool x.f12], rfl, rfl, ⟨[.int .u32 x.f4], [.int .u32 x.f5, .int .u32 x.f6, .int .u32 x.f7, .string x.f8, .string x.f9, .int .i64 x.f10, .bool x.f11, .bool x.f12], rfl, rfl, ⟨[.int .u32 x.f5], [.int .u32 x.f6, .int .u32 x.f7, .string x.f8, .string x.f9, .int .i64 x.f10, .bool x.f11, .bool x.f12], rfl, rfl, ⟨[.int .u32 x.f6], [.int .u32 x.f7, .string x.f8, .string x.f9, .int .i64 x.f10, .bool x.f11, .bool x.f12], rfl, rfl, ⟨[.int .u32 x.f7], [.string x.f8, .string x.f9, .int .i64 x.f10, .bool x.f11, .bool x.f12], rfl, rfl, ⟨[.string x.f8], [.string x.f9, .int .i64 x.f10, .bool x.f11, .bool x.f12], rfl, rfl, ⟨[.string x.f9], [.int .i64 x.f10, .bool x.f11, .bool x.f12], rfl, rfl, ⟨[.int .i64 x.f10], [.bool x.f11, .bool x.f12], rfl, rfl, ⟨[.bool x.f11], [.bool x.f12], rfl, rfl, rfl⟩⟩⟩⟩⟩⟩⟩⟩⟩⟩⟩⟩
theorem k31_mkM (w : World) (base : Nat) (ok : Nat → Prop) (x : S31)  : k31.M w base ok x [.int .i64 x.f0.f0, .int .i64 x.f0.f1, .int .i64 x.f1.f0, .int .i64 x.f1.f1, .int .u32 x.f2, .int .u32 x.f3, .int .u32 x.f4, .int .u32 x.f5, .int .u32 x.f6, .int .u32 x.f7, .string x.f8, .string x.f9, .int .i64 x.f10, .bool x.f11, .bool x.f12] := ⟨[.int .i64 x.f0.f0, .int .i64 x.f0.f1], [.int .i64 x.f1.f0, .int .i64 x.f1.f1, .int .u32 x.f2, .int .u32 x.f3, .int .u32 x.f4, .int .u32 x.f5, .int .u32 x.f6, .int .u32 x.f7, .string x.f8, .string x.f9, .int .i64 x.f10, .bool x.f11, .bool x.f12], rfl, (k28_mkM w base ok x.f0 ), ⟨[.int .i64 x.f1.f0, .int .i64 x.f1.f1], [.int .u32 x.f2, .int .u32 x.f3, .int .u32 x.f4, .int .u32 x.f5, .int .u32 x.f6, .int .u32 x.f7, .string x.f8, .string x.f9, .int .i64 x.f10, .bool x.f11, .bool x.f12], rfl, (k28_mkM w base ok x.f1 ), ⟨[.int .u32 x.f2], [.int .u32 x.f3, .int .u32 x.f4, .int .u32 x.f5, .int .u32 x.f6, .int .u32 x.f7, .string x.f8, .string x.f9, .int .i64 x.f10, .bool x.f11, .bool x.f12], rfl, rfl, ⟨[.int .u32 x.f3], [.int .u32 x.f4, .int .u32 x.f5, .int .u32 x.f6, .int .u32 x.f7, .string x.f8, .string x.f9, .int .i64 x.f10, .bool x.f11, .bool x.f12], rfl, rfl, ⟨[.int .u32 x.f4], [.int .u32 x.f5, .int .u32 x.f6, .int .u32 x.f7, .string x.f8, .string x.f9, .int .i64 x.f10, .bool x.f11, .bool x.f12], rfl, rfl, ⟨[.int .u32 x.f5], [.int .u32 x.f6, .int .u32 x.f7, .string x.f8, .string x.f9, .int .i64 x.f10, .bool x.f11, .bool x.f12], rfl, rfl, ⟨[.int .u32 x.f6], [.int .u32 x.f7, .string x.f8, .string x.f9, .int .i64 x.f10, .bool x.f11, .bool x.f12], rfl, rfl, ⟨[.int .u32 x.f7], [.string x.f8, .string x.f9, .int .i64 x.f10, .bool x.f11, .bool x.f12], rfl, rfl, ⟨[.string x.f8], [.string x.f9, .int .i64 x.f10, .bool x.f11, .bool x.f12], rfl, rfl, ⟨[.string x.f9], [.int .i64 x.f10, .bool x.f11, .bool x.f12], rfl, rfl, ⟨[.int .i64 x.f10], [.bool x.f11, .bool x.f12], rfl, rfl, ⟨[.bool x.f11], [.bool x.f12], rfl, rfl, rfl⟩⟩⟩⟩⟩⟩⟩⟩⟩⟩⟩⟩
def rd_T31 (xs : List S31) (i : Int) : S31 := xs.getD i.toNat z31
theorem at_T31 {w : World} {A : Option Addr} {n : Nat} {xs : List S31} (h : Kd.C k31 w A n xs) (i : Int) (h0 : 0 ≤ i) (h1 : i < n) : ∃ ad , A = some ad ∧ w.cell? (ad.add (i.toNat * 15)) = some (.int .i64 (rd_T31 xs i).f0.f0) ∧ w.cell? ⟨(ad.add (i.toNat * 15)).block, (ad.add (i.toNat * 15)).off + 1, none⟩ = some (.int .i64 (rd_T31 xs i).f0.f1) ∧ w.cell? ⟨(ad.add (i.toNat * 15)).block, (ad.add (i.toNat * 15)).off + 2, none⟩ = some (.int .i64 (rd_T31 xs i).f1.f0) ∧ w.cell? ⟨(ad.add (i.toNat * 15)).block, (ad.add (i.toNat * 15)).off + 3, none⟩ = some (.int .i64 (rd_T31 xs i).f1.f1) ∧ w.cell? ⟨(ad.add (i.toNat * 15)).block, (ad.add (i.toNat * 15)).off + 4, none⟩ = some (.int .u32 (rd_T31 xs i).f2) ∧ w.cell? ⟨(ad.add (i.toNat * 15)).block, (ad.add (i.toNat * 15)).off + 5, none⟩ = some (.int .u32 (rd_T31 xs i).f3) ∧ w.cell? ⟨(ad.add (i.toNat * 15)).block, (ad.add (i.toNat * 15)).off + 6, none⟩ = some (.int .u32 (rd_T31 xs i).f4) ∧ w.cell? ⟨(ad.add (i.toNat * 15)).block, (ad.add (i.toNat * 15)).off + 7, none⟩ = some (.int .u32 (rd_T31 xs i).f5) ∧ w.cell? ⟨(ad.add (i.toNat * 15)).block, (ad.add (i.toNat * 15)).off + 8, none⟩ = some (.int .u32 (rd_T31 xs i).f6) ∧ w.cell? ⟨(ad.add (i.toNat * 15)).block, (ad.add (i.toNat * 15)).off + 9, none⟩ = some (.int .u32 (rd_T31 xs i).f7) ∧ w.cell? ⟨(ad.add (i.toNat * 15)).block, (ad.add (i.toNat * 15)).off + 10, none⟩ = some (.string (rd_T31 xs i).f8) ∧ w.cell? ⟨(ad.add (i.toNat * 15)).block, (ad.add (i.toNat * 15)).off + 11, none⟩ = some (.string (rd_T31 xs i).f9) ∧ w.cell? ⟨(ad.add (i.toNat * 15)).block, (ad.add (i.toNat * 15)).off + 12, none⟩ = some (.int .i64 (rd_T31 xs i).f10) ∧ w.cell? ⟨(ad.add (i.toNat * 15)).block, (ad.add (i.toNat * 15)).off + 13, none⟩ = some (.bool (rd_T31 xs i).f11) ∧ w.cell? ⟨(ad.add (i.toNat * 15)).block, (ad.add (i.toNat * 15)).off + 14, none⟩ = some (.bool (rd_T31 xs i).f12) := by
  obtain ⟨ad, c, e, _, hK, hc0⟩ := Kd.C_get h z31 i h0 h1
  have hc : ∀ j u, c[j]? = some u → w.cell? (ad.add (i.toNat * 15 + j)) = some u := hc0
  obtain rfl := k31_open hK
  exact ⟨ad, e, hc 0 _ rfl, by rw [← add_field _ _ 1 (by omega)]; exact hc 1 _ rfl, by rw [← add_field _ _ 2 (by omega)]; exact hc 2 _ rfl, by rw [← add_field _ _ 3 (by omega)]; exact hc 3 _ rfl, by rw [← add_field _ _ 4 (by omega)]; exact hc 4 _ rfl, by rw [← add_field _ _ 5 (by omega)]; exact hc 5 _ rfl, by rw [← add_field _ _ 6 (by omega)]; exact hc 6 _ rfl, by rw [← add_field _ _ 7 (by omega)]; exact hc 7 _ rfl, by rw [← add_field _ _ 8 (by omega)]; exact hc 8 _ rfl, by rw [← add_field _ _ 9 (by omega)]; exact hc 9 _ rfl, by rw [← add_field _ _ 10 (by omega)]; exact hc 10 _ rfl, by rw [← add_field _ _ 11 (by omega)]; exact hc 11 _ rfl, by rw [← add_field _ _ 12 (by omega)]; exact hc 12 _ rfl, by rw [← add_field _ _ 13 (by omega)]; exact hc 13 _ rfl, by rw [← add_field _ _ 14 (by omega)]; exact hc 14 _ rfl⟩

end Go.Proofs.YtcokggnbgakonaaDoor.QAll
