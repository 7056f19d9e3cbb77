-- WRITTEN BY A PROGRAM OF THIS SESSION, out of the loaded program, with words of the kit
import Derived.Test.YtacndeejapfkiaaDoorProg
import Derived.Below
import Derived.Deep.Draws
import Derived.Deep.AppendLies
import Derived.Maps.AppendAt
import Derived.OwnWalk
import Derived.Laws.BytesArg
import Derived.Laws.MakeOwn
import Derived.Laws.OwnMore
import Derived.Deep.OwnRows
import Derived.Tactics
import Derived.Lib.ConvBytes
import Derived.Laws.Slices
import Derived.WalkKit
import Derived.KernelRfl
import Derived.RowKit3
import Derived.Deep.LoopGhost
import Derived.Deep.QuietTactic
import Derived.BigQuiet
import Derived.WideLaws
import Derived.Deep.DeepCutAuto
import Derived.Deep.CutBlock
import Derived.Deep.RegionHeld3
import Derived.Laws.Rows
import Derived.Lib.AppendStr
import Derived.ArgAppend
import Derived.Laws.IdiomCopy
import Derived.OrdersHeld
import Derived.Laws.BitsLemmas
import Derived.RowKit
import Derived.Test.YtacndeejapfkiaaDoorWWords
import Derived.Test.YtacndeejapfkiaaDoorWLast
import Derived.Test.YtacndeejapfkiaaDoorWTab
import Derived.Test.YtacndeejapfkiaaDoorWFour
import Derived.Test.YtacndeejapfkiaaDoorWQPut
import Derived.Test.YtacndeejapfkiaaDoorWApart
import Derived.Test.YtacndeejapfkiaaDoorWArr
import Derived.Test.YtacndeejapfkiaaDoorWZeros
import Derived.Test.YtacndeejapfkiaaDoorWFoot
import Derived.Test.YtacndeejapfkiaaDoorWKept
import Derived.Test.YtacndeejapfkiaaDoorWShare
import Derived.Test.YtacndeejapfkiaaDoorWN
import Derived.Test.YtacndeejapfkiaaDoorWFootNe
import Derived.Test.YtacndeejapfkiaaDoorWAt
import Derived.Test.YtacndeejapfkiaaDoorWEqStruct
import Derived.Test.YtacndeejapfkiaaDoorWRepsOne
import Derived.Test.YtacndeejapfkiaaDoorWInv
import Derived.Test.YtacndeejapfkiaaDoorWInvWords
import Derived.Test.YtacndeejapfkiaaDoorWGuard
import Derived.Test.YtacndeejapfkiaaDoorWNEv
import Derived.Test.YtacndeejapfkiaaDoorWMore
namespace Go.Proofs.YtacndeejapfkiaaDoor.QAll
open Go.RowKit Go.Proofs.YtacndeejapfkiaaDoorW.PrintWords Go.Proofs.YtacndeejapfkiaaDoorW.PrintLast Go.Proofs.YtacndeejapfkiaaDoorW.PrintMore
attribute [local go_sem] max2_int min2_int max_two min_two max_three min_three max_four min_four   -- for this text's walks alone
set_option linter.unusedVariables false
set_option linter.unusedSimpArgs false



def errW : Option Int → Value
  | none => .nilIface
  | some c => .iface 0 (.int .i64 c)
theorem errW_none : errW none = .nilIface := rfl
theorem errW_some (c : Int) : errW (some c) = .iface 0 (.int .i64 c) := rfl

theorem info9 : (Tryd.prog.info? 9).map (fun i => (i.zero, i.size, i.bytes)) = some (some (.string ⟨#[]⟩), 1, 16) := by kernel_rfl
theorem info36 : (Tryd.prog.info? 36).map (fun i => (i.zero, i.size, i.bytes)) = some (some (.agg #[(.string ⟨#[]⟩), (.slice none 0 0), (.slice none 0 0)]), 3, 64) := by kernel_rfl
theorem info46 : (Tryd.prog.info? 46).map (fun i => (i.zero, i.size, i.bytes)) = some (some (.agg #[(.string ⟨#[]⟩), (.slice none 0 0)]), 2, 40) := by kernel_rfl
-- the values' own types
/-! #### struct type 42 -/
structure S42 where
  f0 : ByteArray
  f1 : ByteArray
def z42 : S42 := ⟨(⟨#[]⟩ : ByteArray), (⟨#[]⟩ : ByteArray)⟩
def k42 : Kd S42 := Kd.iso (Kd.pair Kd.string Kd.string) (fun x : S42 => (x.f0, x.f1))
theorem k42_open {w : World} {x : S42} {cs : List Value} (h : k42.K w x cs) : cs = [.string x.f0, .string x.f1] := by
  obtain ⟨_, _, rfl, rfl, rfl⟩ := h
  exact rfl
theorem k42_openM {w : World} {base : Nat} {ok : Nat → Prop} {x : S42} {cs : List Value} (h : k42.M w base ok x cs) : cs = [.string x.f0, .string x.f1] := by
  obtain ⟨_, _, rfl, rfl, rfl⟩ := h
  exact rfl
theorem k42_mk (w : World) (x : S42)  : k42.K w x [.string x.f0, .string x.f1] := ⟨[.string x.f0], [.string x.f1], rfl, rfl, rfl⟩
theorem k42_mkM (w : World) (base : Nat) (ok : Nat → Prop) (x : S42)  : k42.M w base ok x [.string x.f0, .string x.f1] := ⟨[.string x.f0], [.string x.f1], rfl, rfl, rfl⟩
def rd_T42 (xs : List S42) (i : Int) : S42 := xs.getD i.toNat z42
theorem at_T42 {w : World} {A : Option Addr} {n : Nat} {xs : List S42} (h : Kd.C k42 w A n xs) (i : Int) (h0 : 0 ≤ i) (h1 : i < n) : ∃ ad , A = some ad ∧ w.cell? (ad.add (i.toNat * 2)) = some (.string (rd_T42 xs i).f0) ∧ w.cell? ⟨(ad.add (i.toNat * 2)).block, (ad.add (i.toNat * 2)).off + 1, none⟩ = some (.string (rd_T42 xs i).f1) := by
  obtain ⟨ad, c, e, _, hK, hc0⟩ := Kd.C_get h z42 i h0 h1
  have hc : ∀ j u, c[j]? = some u → w.cell? (ad.add (i.toNat * 2 + j)) = some u := hc0
  obtain rfl := k42_open hK
  exact ⟨ad, e, hc 0 _ rfl, by rw [← add_field _ _ 1 (by omega)]; exact hc 1 _ rfl⟩

def rd_L2 (xs : List (List S42)) (i : Int) : (List S42) := xs.getD i.toNat ([] : List S42)
theorem at_L2 {w : World} {A : Option Addr} {n : Nat} {xs : List (List S42)} (h : Kd.C (Kd.slice 42 k42) w A n xs) (i : Int) (h0 : 0 ≤ i) (h1 : i < n) : ∃ ad A0 c0, A = some ad ∧ w.cell? (ad.add i.toNat) = some (.slice A0 (rd_L2 xs i).length c0) ∧ (rd_L2 xs i).length ≤ c0 ∧ k42.C w A0 (rd_L2 xs i).length (rd_L2 xs i) := by
  obtain ⟨ad, c, e, _, hK, hc0⟩ := Kd.C_get h ([] : List S42) i h0 h1
  have hc : ∀ j u, c[j]? = some u → w.cell? (ad.add (i.toNat * 1 + j)) = some u := hc0
  obtain ⟨A0, c0, rfl, l0, g0⟩ := hK
  exact ⟨ad, A0, c0, e, by have hq := hc 0 _ rfl; rwa [Nat.mul_one, Nat.add_zero] at hq, l0, g0⟩

/-! #### struct type 46 -/
structure S46 where
  f0 : ByteArray
  f1 : (List S42)
def z46 : S46 := ⟨(⟨#[]⟩ : ByteArray), ([] : List S42)⟩
def k46 : Kd S46 := Kd.iso (Kd.pair Kd.string (Kd.slice 42 k42)) (fun x : S46 => (x.f0, x.f1))
theorem k46_open {w : World} {x : S46} {cs : List Value} (h : k46.K w x cs) : ∃ A1 c1, cs = [.string x.f0, .slice A1 x.f1.length c1] ∧ x.f1.length ≤ c1 ∧ k42.C w A1 x.f1.length x.f1 := by
  obtain ⟨_, _, rfl, rfl, ⟨A1, c1, rfl, l1, g1⟩⟩ := h
  exact ⟨A1, c1, rfl, l1, g1⟩
theorem k46_openM {w : World} {base : Nat} {ok : Nat → Prop} {x : S46} {cs : List Value} (h : k46.M w base ok x cs) : ∃ v1, cs = [.string x.f0, v1] ∧ k42.R 42 w base ok v1 x.f1 := by
  obtain ⟨_, _, rfl, rfl, ⟨v1, rfl, g1⟩⟩ := h
  exact ⟨v1, rfl, g1⟩
theorem k46_mk (w : World) (x : S46) {A1 : Option Addr} {c1 : Nat} (l1 : x.f1.length ≤ c1) (g1 : k42.C w A1 x.f1.length x.f1) : k46.K w x [.string x.f0, .slice A1 x.f1.length c1] := ⟨[.string x.f0], [.slice A1 x.f1.length c1], rfl, rfl, ⟨A1, c1, rfl, l1, g1⟩⟩
theorem k46_mkM (w : World) (base : Nat) (ok : Nat → Prop) (x : S46) {v1 : Value} (g1 : k42.R 42 w base ok v1 x.f1) : k46.M w base ok x [.string x.f0, v1] := ⟨[.string x.f0], [v1], rfl, rfl, ⟨v1, rfl, g1⟩⟩
def rd_T46 (xs : List S46) (i : Int) : S46 := xs.getD i.toNat z46
theorem at_T46 {w : World} {A : Option Addr} {n : Nat} {xs : List S46} (h : Kd.C k46 w A n xs) (i : Int) (h0 : 0 ≤ i) (h1 : i < n) : ∃ ad A1 c1, A = some ad ∧ w.cell? (ad.add (i.toNat * 2)) = some (.string (rd_T46 xs i).f0) ∧ w.cell? ⟨(ad.add (i.toNat * 2)).block, (ad.add (i.toNat * 2)).off + 1, none⟩ = some (.slice A1 (rd_T46 xs i).f1.length c1) ∧ (rd_T46 xs i).f1.length ≤ c1 ∧ k42.C w A1 (rd_T46 xs i).f1.length (rd_T46 xs i).f1 := by
  obtain ⟨ad, c, e, _, hK, hc0⟩ := Kd.C_get h z46 i h0 h1
  have hc : ∀ j u, c[j]? = some u → w.cell? (ad.add (i.toNat * 2 + j)) = some u := hc0
  obtain ⟨A1, c1, rfl, l1, g1⟩ := k46_open hK
  exact ⟨ad, A1, c1, e, hc 0 _ rfl, by rw [← add_field _ _ 1 (by omega)]; exact hc 1 _ rfl, l1, g1⟩

def rd_L4 (xs : List (List S46)) (i : Int) : (List S46) := xs.getD i.toNat ([] : List S46)
theorem at_L4 {w : World} {A : Option Addr} {n : Nat} {xs : List (List S46)} (h : Kd.C (Kd.slice 46 k46) w A n xs) (i : Int) (h0 : 0 ≤ i) (h1 : i < n) : ∃ ad A0 c0, A = some ad ∧ w.cell? (ad.add i.toNat) = some (.slice A0 (rd_L4 xs i).length c0) ∧ (rd_L4 xs i).length ≤ c0 ∧ k46.C w A0 (rd_L4 xs i).length (rd_L4 xs i) := by
  obtain ⟨ad, c, e, _, hK, hc0⟩ := Kd.C_get h ([] : List S46) i h0 h1
  have hc : ∀ j u, c[j]? = some u → w.cell? (ad.add (i.toNat * 1 + j)) = some u := hc0
  obtain ⟨A0, c0, rfl, l0, g0⟩ := hK
  exact ⟨ad, A0, c0, e, by have hq := hc 0 _ rfl; rwa [Nat.mul_one, Nat.add_zero] at hq, l0, g0⟩

/-! #### struct type 36 -/
structure S36 where
  f0 : ByteArray
  f1 : (List S42)
  f2 : (List S46)
def z36 : S36 := ⟨(⟨#[]⟩ : ByteArray), ([] : List S42), ([] : List S46)⟩
def k36 : Kd S36 := Kd.iso (Kd.pair Kd.string (Kd.pair (Kd.slice 42 k42) (Kd.slice 46 k46))) (fun x : S36 => (x.f0, x.f1, x.f2))
theorem k36_open {w : World} {x : S36} {cs : List Value} (h : k36.K w x cs) : ∃ A1 c1 A2 c2, cs = [.string x.f0, .slice A1 x.f1.length c1, .slice A2 x.f2.length c2] ∧ x.f1.length ≤ c1 ∧ k42.C w A1 x.f1.length x.f1 ∧ x.f2.length ≤ c2 ∧ k46.C w A2 x.f2.length x.f2 := by
  obtain ⟨_, _, rfl, rfl, ⟨_, _, rfl, ⟨A1, c1, rfl, l1, g1⟩, ⟨A2, c2, rfl, l2, g2⟩⟩⟩ := h
  exact ⟨A1, c1, A2, c2, rfl, l1, g1, l2, g2⟩
theorem k36_openM {w : World} {base : Nat} {ok : Nat → Prop} {x : S36} {cs : List Value} (h : k36.M w base ok x cs) : ∃ v1 v2, cs = [.string x.f0, v1, v2] ∧ k42.R 42 w base ok v1 x.f1 ∧ k46.R 46 w base ok v2 x.f2 := by
  obtain ⟨_, _, rfl, rfl, ⟨_, _, rfl, ⟨v1, rfl, g1⟩, ⟨v2, rfl, g2⟩⟩⟩ := h
  exact ⟨v1, v2, rfl, g1, g2⟩
theorem k36_mk (w : World) (x : S36) {A1 : Option Addr} {c1 : Nat} (l1 : x.f1.length ≤ c1) (g1 : k42.C w A1 x.f1.length x.f1) {A2 : Option Addr} {c2 : Nat} (l2 : x.f2.length ≤ c2) (g2 : k46.C w A2 x.f2.length x.f2) : k36.K w x [.string x.f0, .slice A1 x.f1.length c1, .slice A2 x.f2.length c2] := ⟨[.string x.f0], [.slice A1 x.f1.length c1, .slice A2 x.f2.length c2], rfl, rfl, ⟨[.slice A1 x.f1.length c1], [.slice A2 x.f2.length c2], rfl, ⟨A1, c1, rfl, l1, g1⟩, ⟨A2, c2, rfl, l2, g2⟩⟩⟩
theorem k36_mkM (w : World) (base : Nat) (ok : Nat → Prop) (x : S36) {v1 : Value} (g1 : k42.R 42 w base ok v1 x.f1) {v2 : Value} (g2 : k46.R 46 w base ok v2 x.f2) : k36.M w base ok x [.string x.f0, v1, v2] := ⟨[.string x.f0], [v1, v2], rfl, rfl, ⟨[v1], [v2], rfl, ⟨v1, rfl, g1⟩, ⟨v2, rfl, g2⟩⟩⟩
def rd_T36 (xs : List S36) (i : Int) : S36 := xs.getD i.toNat z36
theorem at_T36 {w : World} {A : Option Addr} {n : Nat} {xs : List S36} (h : Kd.C k36 w A n xs) (i : Int) (h0 : 0 ≤ i) (h1 : i < n) : ∃ ad A1 c1 A2 c2, A = some ad ∧ w.cell? (ad.add (i.toNat * 3)) = some (.string (rd_T36 xs i).f0) ∧ w.cell? ⟨(ad.add (i.toNat * 3)).block, (ad.add (i.toNat * 3)).off + 1, none⟩ = some (.slice A1 (rd_T36 xs i).f1.length c1) ∧ w.cell? ⟨(ad.add (i.toNat * 3)).block, (ad.add (i.toNat * 3)).off + 2, none⟩ = some (.slice A2 (rd_T36 xs i).f2.length c2) ∧ (rd_T36 xs i).f1.length ≤ c1 ∧ k42.C w A1 (rd_T36 xs i).f1.length (rd_T36 xs i).f1 ∧ (rd_T36 xs i).f2.length ≤ c2 ∧ k46.C w A2 (rd_T36 xs i).f2.length (rd_T36 xs i).f2 := by
  obtain ⟨ad, c, e, _, hK, hc0⟩ := Kd.C_get h z36 i h0 h1
  have hc : ∀ j u, c[j]? = some u → w.cell? (ad.add (i.toNat * 3 + j)) = some u := hc0
  obtain ⟨A1, c1, A2, c2, rfl, l1, g1, l2, g2⟩ := k36_open hK
  exact ⟨ad, A1, c1, A2, c2, e, hc 0 _ rfl, by rw [← add_field _ _ 1 (by omega)]; exact hc 1 _ rfl, by rw [← add_field _ _ 2 (by omega)]; exact hc 2 _ rfl, l1, g1, l2, g2⟩

end Go.Proofs.YtacndeejapfkiaaDoor.QAll
